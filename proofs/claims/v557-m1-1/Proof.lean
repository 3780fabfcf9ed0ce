import JvmDerived
import JvmDerived.Pilot.@@N@@Statement
import JvmDerived.Pilot.@@N@@Code
set_option linter.unusedVariables false
set_option linter.unusedSimpArgs false
namespace Jvm.Own
open Jvm Sem ClassFile Op Lib Jvm.Stand Jvm.Free Jvm.LawKit Jvm.RoadKit
/-- from this state and frame the run comes to an end that E says -/
def Goes (p : Program) (e : Env) (below : List Frame) (E : Outcome → State → Prop) (T : State) (f : JFrame) : Prop :=
  ∃ s₂ o, Steps p.tables e below (T.setTop f) s₂ ∧ s₂.status = .running ∧ Ended s₂ below o ∧ E o s₂
/-- the end of a walk that interns nothing -/
def EndN (s : State) (Q : Option Value → Heap → List Loc → Prop) (K N : Nat) (o : Outcome) (U : State) : Prop :=
  ∃ v L, o = .returned v ∧ Q v U.heap L ∧ FrameEnd s o U L K N
/-- a body's contract -/
def Rm (l : Launch) (y : MethodName) (bytes : ByteArray) (maxL : Nat) (ret : Option FieldType) (rm : Room) (ws : List Jvm.Cond) (Z : State) (as' : Array Value) (h : Heap) (Q : Option Value → Heap → List Loc → Prop) : Prop :=
  MetFree l y (head1 (Jvm.Cond.code y bytes maxL ret :: ws) rm) (fun a U => a = as' ∧ Z.Warmed39 U.vm ∧ U.heap = h) (fun _ _ _ _ _ => True) (fun _ U o U' => ∃ v L, o = .returned v ∧ Q v U'.heap L ∧ FrameEnd U o U' L rm.cells rm.slots)
section Own1
variable {p : Program} {l : Launch} {e : Env} {R : Room} {s : State} {m : MethodId} {args : Array Value} {below : List Frame} {meth : Method} {c : Code} {T : State} {locs : List Loc} {cells slots : Nat} {Z : State} {a0 : Array Value} {h : Heap} {E : Outcome → State → Prop}
theorem Goes.of {T T' : State} {f f' : JFrame} (st : ∀ t, Steps p.tables e below (T'.setTop f') t → Steps p.tables e below (T.setTop f) t) (k : Goes p e below E T' f') : Goes p e below E T f := by
  obtain ⟨s₂, o, h1, h2⟩ := k
  exact ⟨s₂, o, st _ h1, h2⟩
theorem Goes.cast {T : State} {f f' : JFrame} (q : f = f') (k : Goes p e below E T f') : Goes p e below E T f := q ▸ k
theorem oldLe {n0 : Nat} (O : Old Z n0 h) : n0 ≤ h.size := O.1 ▸ O.2.1
theorem goRet {Q : Option Value → Heap → List Loc → Prop} {K N : Nat} {g : JFrame} {v : Option Value} (X : Stand p l e R s m args below meth c T locs cells slots) (hv : meth.sig.returnType = none → v = none) (hlocks : meth.locks = false) (eT : T.heap = h) (hQ : Q v h locs) (hK : cells ≤ K) (hN : slots ≤ N)
    (st : ∀ fs, (∀ (f : JFrame) (acts : List Action), f.method = m → f.locked = none → f.entered = [] → (doReturn e (T.setTop f) acts v).1 = T.setFrames fs) → Steps p.tables e below (T.setTop g) (T.setFrames fs)) : Goes p e below (EndN s Q K N) T g := by
  obtain ⟨fs, hr, hrun, hended, hW, hsame⟩ := X.leave (v := v) hv hlocks
  subst eT
  exact ⟨_, _, st fs hr, hrun, hended, _, _, rfl, hQ, ⟨_, rfl⟩, hW, hsame.mono hK hN⟩
theorem retZ {Q : Option Value → Heap → List Loc → Prop} {K N pc : Nat} {Ls : Array Slot} {z : Int32} {t : FieldType} {rest : List Value} (X : Stand p l e R s m args below meth c T locs cells slots) (hx : p.tables.exec = Jvm.exec) (hret : meth.sig.returnType = some t) (hlocks : meth.locks = false) (ht : t = .boolean ∨ t = .byte ∨ t = .char ∨ t = .short)
    (hd : decode c.code pc = .ok (.ireturn, 1)) (eT : T.heap = h) (hK : cells ≤ K) (hN : slots ≤ N) (hQ : Q (some (.int (nar t z))) h locs) : Goes p e below (EndN s Q K N) T (mkF m pc Ls (.int z :: rest)) :=
  goRet X (fun q => by rw [hret] at q; cases q) hlocks eT hQ hK hN fun fs hr => retN X hx hret ht hd hr
theorem retInt {Q : Option Value → Heap → List Loc → Prop} {K N pc : Nat} {Ls : Array Slot} {z : Int32} {rest : List Value} (X : Stand p l e R s m args below meth c T locs cells slots) (hx : p.tables.exec = Jvm.exec) (hret : meth.sig.returnType = some .int) (hlocks : meth.locks = false)
    (hd : decode c.code pc = .ok (.ireturn, 1)) (eT : T.heap = h) (hK : cells ≤ K) (hN : slots ≤ N) (hQ : Q (some (.int z)) h locs) : Goes p e below (EndN s Q K N) T (mkF m pc Ls (.int z :: rest)) :=
  goRet X (fun q => by rw [hret] at q; cases q) hlocks eT hQ hK hN fun fs hr => by
    have hm' : T.vm.method? m = some meth := X.method'
    have hn : narrow .int (.int z) = .int z := rfl
    show Steps p.tables e below (T.setTop { method := m, pc := pc, locals := Ls, stack := _ :: rest, locked := none }) _
    jvm_step X.here [X.here.top, hx, hd, hm', hret, hn]
    first | (intro acts; rw [hr _ acts rfl rfl rfl]) | rw [hr _ _ rfl rfl rfl]
    exact Steps.refl _
theorem retLong {Q : Option Value → Heap → List Loc → Prop} {K N pc : Nat} {Ls : Array Slot} {z : Int64} {rest : List Value} (X : Stand p l e R s m args below meth c T locs cells slots) (hx : p.tables.exec = Jvm.exec) (hret : meth.sig.returnType = some .long) (hlocks : meth.locks = false)
    (hd : decode c.code pc = .ok (.lreturn, 1)) (eT : T.heap = h) (hK : cells ≤ K) (hN : slots ≤ N) (hQ : Q (some (.long z)) h locs) : Goes p e below (EndN s Q K N) T (mkF m pc Ls (.long z :: rest)) :=
  goRet X (fun q => by rw [hret] at q; cases q) hlocks eT hQ hK hN fun fs hr => by
    have hm' : T.vm.method? m = some meth := X.method'
    show Steps p.tables e below (T.setTop { method := m, pc := pc, locals := Ls, stack := _ :: rest, locked := none }) _
    jvm_step X.here [X.here.top, hx, hd, hm', hret, narrow]
    first | (intro acts; rw [hr _ acts rfl rfl rfl]) | rw [hr _ _ rfl rfl rfl]
    exact Steps.refl _
theorem retRef {Q : Option Value → Heap → List Loc → Prop} {K N pc : Nat} {Ls : Array Slot} {z : Value} {t : FieldType} {rest : List Value} (X : Stand p l e R s m args below meth c T locs cells slots) (hx : p.tables.exec = Jvm.exec) (hret : meth.sig.returnType = some t) (hlocks : meth.locks = false) (ht : t.isReference = true) (hz : z.isRef = true)
    (hd : decode c.code pc = .ok (.areturn, 1)) (eT : T.heap = h) (hK : cells ≤ K) (hN : slots ≤ N) (hQ : Q (some z) h locs) : Goes p e below (EndN s Q K N) T (mkF m pc Ls (z :: rest)) :=
  goRet X (fun q => by rw [hret] at q; cases q) hlocks eT hQ hK hN fun fs hr => by
    have hm' : T.vm.method? m = some meth := X.method'
    show Steps p.tables e below (T.setTop { method := m, pc := pc, locals := Ls, stack := _ :: rest, locked := none }) _
    rcases ref_cases hz with rfl | ⟨_, rfl⟩
    all_goals
      jvm_step X.here [X.here.top, hx, hd, hm', hret, ht, Value.isRef]
      first | (intro acts; rw [hr _ acts rfl rfl rfl]) | rw [hr _ _ rfl rfl rfl]
      exact Steps.refl _
theorem retVoid {Q : Option Value → Heap → List Loc → Prop} {K N pc : Nat} {Ls : Array Slot} {rest : List Value} (X : Stand p l e R s m args below meth c T locs cells slots) (hx : p.tables.exec = Jvm.exec) (hret : meth.sig.returnType = none) (hlocks : meth.locks = false)
    (hd : decode c.code pc = .ok (.return_, 1)) (eT : T.heap = h) (hK : cells ≤ K) (hN : slots ≤ N) (hQ : Q none h locs) : Goes p e below (EndN s Q K N) T (mkF m pc Ls rest) :=
  goRet X (fun _ => rfl) hlocks eT hQ hK hN fun fs hr => by
    have hm' : T.vm.method? m = some meth := X.method'
    show Steps p.tables e below (T.setTop { method := m, pc := pc, locals := Ls, stack := rest, locked := none }) _
    jvm_step X.here [X.here.top, hx, hd, hm', hret]
    first | (intro acts; rw [hr _ acts rfl rfl rfl]) | rw [hr _ _ rfl rfl rfl]
    exact Steps.refl _
/-- a body's contract out of its walk -/
theorem Rm.of {ws : List Jvm.Cond} {y : MethodName} {bytes : ByteArray} {maxL : Nat} {ret : Option FieldType} {rm : Room} {as' : Array Value} {h : Heap} {Q : Option Value → Heap → List Loc → Prop} (hp : plainFor y = true)
    (body : ∀ (p : Program) (e : Env) (s : State) (m : MethodId) (below : List Frame) (meth : Method) (c : Code) (T : State), Stand p l e rm s m as' below meth c T [] 0 0 → p.tables.exec = Jvm.exec → Z.Warmed39 s.vm → c.code = bytes → c.maxLocals = maxL → s.vm.findClass y.cls = some m.cls → meth.name = y.name → meth.sig.returnType = ret → meth.locks = false → T.heap = h →
      Goes p e below (EndN s Q rm.cells rm.slots) T (entryFrame m as' maxL)) : Rm l y bytes maxL ret rm ws Z as' h Q := by
  refine MetFree.of_bodySF hp hisR ?_
  intro p e s m args below meth c s₁ Bd hml0 hP hK
  obtain ⟨rfl, hZ, hh⟩ := hP
  exact body p e s m below meth c s₁ (Stand.of_body Bd) Bd.exec hZ Bd.bytes hml0 (findClass_of_methodNamed Bd.named) (name_of_methodNamed Bd.named Bd.method).1 Bd.returns Bd.notSynchronized (by rw [← hh, Bd.state]; rfl)
theorem goStatic {own : String} {index : Nat} {y : MethodName} {bytes : ByteArray} {maxL : Nat} {ret : Option FieldType} {rm : Room} {as' : Array Value} {Q : Option Value → Heap → List Loc → Prop} (W : Nat)
    (X : Stand p l e R s m args below meth c T locs cells slots) (hx : p.tables.exec = Jvm.exec) (hZ : Z.Warmed39 s.vm) (hown : s.vm.findClass own = some m.cls) (w1 : (Jvm.Cond.methodLink own index y).before a0 Z = true) (w2 : (Jvm.Cond.static y).before a0 Z = true) (w3 : (Jvm.Cond.initialized y.cls).before a0 Z = true) (w4 : (Jvm.Cond.code y bytes maxL ret).before a0 Z = true)
    (hy : y.cls ≠ "java/lang/invoke/MethodHandle" ∧ y.cls ≠ "java/lang/invoke/VarHandle") (r : Rm l y bytes maxL ret rm [] Z as' h Q) (eT : T.heap = h) {g : JFrame} (hg : g.method = m) (hsize : g.locals.size = c.maxLocals) (argsL rest : List Value) (hlen : ∀ sig, parseMethodDescriptor y.desc = some sig → argsL.length = sig.parameters.length)
    (hstack : g.stack = argsL.reverse ++ rest) (has : argsL.toArray = as') (hW : 2 * g.monitorRoom + (rest.map fun v => v.category).sum ≤ W) (hd : decode c.code g.pc = .ok (.invokestatic index, 3)) (hf : rm.frames + 1 ≤ R.frames) (hl : W + (maxL + 11) + rm.locals ≤ R.locals) (hc : cells + rm.cells ≤ R.cells) (hs : slots + rm.slots ≤ R.slots)
    (k : ∀ v T' L, Stand p l e R s m args below meth c T' (locs ++ L) (cells + rm.cells) (slots + rm.slots) → Q v T'.heap L → Goes p e below E T' { g with pc := g.pc + 3, stack := v.toList ++ rest }) : Goes p e below E T g := by
  obtain ⟨v, vm₁, ⟨T', L', k', n'⟩, -, X', ⟨L, hQ, q1, q2, q3⟩, st⟩ := Jvm.LawKit.callS X hx (y := y) hown (mvT hZ w1) (mvT hZ w2) (mvT hZ w3) (mvT hZ w4) hy (backOf (W := W) r hZ w4 w3 hf hl) hg hsize hlen hstack hW hd (fun _ _ => ⟨has, eT, hc, hs⟩)
  dsimp only [Pt.U, Pt.locs, Pt.cells, Pt.slots] at X' q1 q2 q3 st hQ
  subst q1 q2 q3
  exact Goes.of st (k v T' L X' hQ)
theorem goSpecial {own : String} {index : Nat} {y : MethodName} {bytes : ByteArray} {maxL : Nat} {rm : Room} {as' : Array Value} {Q : Option Value → Heap → List Loc → Prop} (W : Nat)
    (X : Stand p l e R s m args below meth c T locs cells slots) (hx : p.tables.exec = Jvm.exec) (hZ : Z.Warmed39 s.vm) (hy1 : y.name = "<init>") (hown : s.vm.findClass own = some m.cls) (w1 : (Jvm.Cond.methodLink own index y).before a0 Z = true) (w2 : (Jvm.Cond.instanceMethod y).before a0 Z = true) (w3 : (Jvm.Cond.initialized y.cls).before a0 Z = true) (w4 : (Jvm.Cond.code y bytes maxL none).before a0 Z = true)
    (hy : y.cls ≠ "java/lang/invoke/MethodHandle" ∧ y.cls ≠ "java/lang/invoke/VarHandle") (r : Rm l y bytes maxL none rm [] Z as' h Q) (eT : T.heap = h) {g : JFrame} (hg : g.method = m) (hsize : g.locals.size = c.maxLocals) (a : Addr) (argsL rest : List Value) (hlen : ∀ sig, parseMethodDescriptor y.desc = some sig → argsL.length = sig.parameters.length)
    (hstack : g.stack = argsL.reverse ++ .ref a :: rest) (has : (.ref a :: argsL).toArray = as') (hW : 2 * g.monitorRoom + (rest.map fun v => v.category).sum ≤ W) (hd : decode c.code g.pc = .ok (.invokespecial index, 3)) (hf : rm.frames + 1 ≤ R.frames) (hl : W + (maxL + 11) + rm.locals ≤ R.locals) (hc : cells + rm.cells ≤ R.cells) (hs : slots + rm.slots ≤ R.slots)
    (k : ∀ v T' L, Stand p l e R s m args below meth c T' (locs ++ L) (cells + rm.cells) (slots + rm.slots) → Q v T'.heap L → Goes p e below E T' { g with pc := g.pc + 3, stack := v.toList ++ rest }) : Goes p e below E T g := by
  obtain ⟨v, vm₁, ⟨T', L', k', n'⟩, -, X', ⟨L, hQ, q1, q2, q3⟩, st⟩ := X.specialBack hx (y := y) hy1 hown (mvT hZ w1) (mvT hZ w2) (mvT hZ w4) hy (backOf (W := W) r hZ w4 w3 hf hl) hg hsize (Steps.refl _) (a := a) hlen hstack hW hd (fun _ _ => ⟨has, eT, hc, hs⟩)
  dsimp only [Pt.U, Pt.locs, Pt.cells, Pt.slots] at X' q1 q2 q3 st hQ
  subst q1 q2 q3
  exact Goes.of (fun _ => st.trans) (k v T' L X' hQ)
theorem goVirtual {own C : String} {index : Nat} {y z : MethodName} {bytes : ByteArray} {maxL : Nat} {ret : Option FieldType} {rm : Room} {as' : Array Value} {Q : Option Value → Heap → List Loc → Prop} (W : Nat)
    (X : Stand p l e R s m args below meth c T locs cells slots) (hx : p.tables.exec = Jvm.exec) (hZ : Z.Warmed39 s.vm) (hown : s.vm.findClass own = some m.cls) (w1 : (Jvm.Cond.methodLink own index y).before a0 Z = true) (w2 : (Jvm.Cond.declares y).before a0 Z = true) (hnf : NotFace s y) (w3 : (Jvm.Cond.selects C y z).before a0 Z = true) (w4 : (Jvm.Cond.instanceMethod z).before a0 Z = true) (w5 : (Jvm.Cond.initialized z.cls).before a0 Z = true) (w6 : (Jvm.Cond.code z bytes maxL ret).before a0 Z = true)
    (hy : y.cls ≠ "java/lang/invoke/MethodHandle" ∧ y.cls ≠ "java/lang/invoke/VarHandle") (r : Rm l z bytes maxL ret rm [] Z as' h Q) (eT : T.heap = h) {a : Addr} (F : Exa Z h a C) {g : JFrame} (hg : g.method = m) (hsize : g.locals.size = c.maxLocals) (argsL rest : List Value) (hlen : ∀ sig, parseMethodDescriptor y.desc = some sig → argsL.length = sig.parameters.length)
    (hstack : g.stack = argsL.reverse ++ .ref a :: rest) (has : (.ref a :: argsL).toArray = as') (hW : 2 * g.monitorRoom + (rest.map fun v => v.category).sum ≤ W) (hd : decode c.code g.pc = .ok (.invokevirtual index, 3)) (hf : rm.frames + 1 ≤ R.frames) (hl : W + (maxL + 11) + rm.locals ≤ R.locals) (hc : cells + rm.cells ≤ R.cells) (hs : slots + rm.slots ≤ R.slots)
    (k : ∀ v T' L, Stand p l e R s m args below meth c T' (locs ++ L) (cells + rm.cells) (slots + rm.slots) → Q v T'.heap L → Goes p e below E T' { g with pc := g.pc + 3, stack := v.toList ++ rest }) : Goes p e below E T g := by
  obtain ⟨cq, kq, qa, qb, qc⟩ := isOf hZ eT F
  obtain ⟨v, vm₁, ⟨T', L', k', n'⟩, -, X', ⟨L, hQ, q1, q2, q3⟩, st⟩ := X.virtualBack hx (y := y) (z := z) hown (mvT hZ w1) (mvT hZ w2) hnf (mvT hZ w3) (mvT hZ w4) hy (backOf (W := W) r hZ w6 w5 hf hl) qa qc hg hsize (Steps.refl _) hlen hstack hW hd (fun _ _ => ⟨has, eT, hc, hs⟩)
  dsimp only [Pt.U, Pt.locs, Pt.cells, Pt.slots] at X' q1 q2 q3 st hQ
  subst q1 q2 q3
  exact Goes.of (fun _ => st.trans) (k v T' L X' hQ)
theorem goNew {own C : String} {index n : Nat} (X : Stand p l e R s m args below meth c T locs cells slots) (hx : p.tables.exec = Jvm.exec) (hZ : Z.Warmed39 s.vm) (hown : s.vm.findClass own = some m.cls) (w : (Jvm.Cond.classLink own index C).before a0 Z = true) (wi : (Jvm.Cond.instantiable C n).before a0 Z = true) (wz : (Jvm.Cond.initialized C).before a0 Z = true) (eT : T.heap = h)
    {g : JFrame} (hg : g.method = m) (hd : decode c.code g.pc = .ok (.new index, 3)) (hc : cells + 1 ≤ R.cells) (hl : slots + n ≤ R.slots)
    (k : ∀ T' h' b, Stand p l e R s m args below meth c T' locs (cells + 1) (slots + n) → T'.heap = h' → Ext h h' → h.size ≤ b → Exa Z h' b C → (∀ {O nm d : String} {ty : FieldType}, Laid Z a0 C O nm d → parseFieldDescriptor d = some ty → Fld Z h' b O nm d (defaultValue ty)) → Goes p e below E T' { g with pc := g.pc + 3, stack := .ref b :: g.stack }) : Goes p e below E T g := by
  obtain ⟨T', h', X', e', E', A', D', -, st⟩ := newO X hx hZ hown w wi wz eT hg hd hc hl
  exact Goes.of st (k T' h' _ X' e' E' (Nat.le_refl _) A' D')
theorem goInitO {own : String} {idx : Nat} (W : Nat) (X : Stand p l e R s m args below meth c T locs cells slots) (hx : p.tables.exec = Jvm.exec) (hZ : Z.Warmed39 s.vm) (hown : s.vm.findClass own = some m.cls) (w1 : (Jvm.Cond.methodLink own idx Lib.objectInit).before a0 Z = true) (w2 : (Jvm.Cond.instanceMethod Lib.objectInit).before a0 Z = true)
    (w3 : (Jvm.Cond.code Lib.objectInit ⟨#[0xb1]⟩ 1 none).before a0 Z = true) (eT : T.heap = h) {g : JFrame} (hg : g.method = m) (hsize : g.locals.size = c.maxLocals) {a : Addr} {rest : List Value} (hs : g.stack = .ref a :: rest) (hd : decode c.code g.pc = .ok (.invokespecial idx, 3))
    (hf : 1 ≤ R.frames) (hW : 2 * g.monitorRoom + (rest.map fun v => v.category).sum ≤ W) (hl : W + 12 ≤ R.locals) (k : ∀ T', Stand p l e R s m args below meth c T' locs cells slots → T'.heap = h → Goes p e below E T' { g with pc := g.pc + 3, stack := rest }) : Goes p e below E T g := by
  obtain ⟨T', X', e', st⟩ := initO X hx hZ hown w1 w2 w3 eT hg hsize hs hd hf hW hl
  exact Goes.of st (k T' X' e')
theorem goGet {own R0 O n d host : String} {index : Nat} (X : Stand p l e R s m args below meth c T locs cells slots) (hx : p.tables.exec = Jvm.exec) (hZ : Z.Warmed39 s.vm) (hown : s.vm.findClass own = some m.cls) (w : (Jvm.Cond.fieldLink own index R0 n d).before a0 Z = true ∨ (Jvm.Cond.fieldLinkNest own index R0 n d host).before a0 Z = true) (via : Via Z R0 O n d)
    (eT : T.heap = h) {a : Addr} {v : Value} (F : Fld Z h a O n d v) {g : JFrame} (hg : g.method = m) {rest : List Value} (hs : g.stack = .ref a :: rest) (hd : decode c.code g.pc = .ok (.getfield index, 3))
    (k : ∀ T', Stand p l e R s m args below meth c T' locs cells slots → T'.heap = h → Goes p e below E T' { g with pc := g.pc + 3, stack := v :: rest }) : Goes p e below E T g := by
  obtain ⟨T', X', e', st⟩ := getF X hx hZ hown w via eT F hg hs hd
  exact Goes.of st (k T' X' e')
theorem goGetS {own R0 O n d host : String} {index : Nat} (X : Stand p l e R s m args below meth c T locs cells slots) (hx : p.tables.exec = Jvm.exec) (hZ : Z.Warmed39 s.vm) (hown : s.vm.findClass own = some m.cls) (w : (Jvm.Cond.fieldLink own index R0 n d).before a0 Z = true ∨ (Jvm.Cond.fieldLinkNest own index R0 n d host).before a0 Z = true) (via : Via Z R0 O n d)
    (eT : T.heap = h) {v : Value} (F : Sta Z h O n d v) {g : JFrame} (hg : g.method = m) (hd : decode c.code g.pc = .ok (.getstatic index, 3))
    (k : ∀ T', Stand p l e R s m args below meth c T' locs cells slots → T'.heap = h → Goes p e below E T' { g with pc := g.pc + 3, stack := v :: g.stack }) : Goes p e below E T g := by
  obtain ⟨T', X', e', st⟩ := getS2 X hx hZ hown w via eT F hg hd
  exact Goes.of st (k T' X' e')
theorem goPut {own R0 O n d host C : String} {index kk : Nat} {ty : FieldType} (X : Stand p l e R s m args below meth c T locs cells slots) (hx : p.tables.exec = Jvm.exec) (hZ : Z.Warmed39 s.vm) (hown : s.vm.findClass own = some m.cls) (w : (Jvm.Cond.fieldLink own index R0 n d).before a0 Z = true ∨ (Jvm.Cond.fieldLinkNest own index R0 n d host).before a0 Z = true) (via : Via Z R0 O n d)
    (eT : T.heap = h) {a : Addr} {v old : Value} (F : Fld Z h a O n d old) (Ex : Exa Z h a C) (L : (Jvm.Cond.lays C O n d).before a0 Z = true ∨ ((Jvm.Cond.laysFinal C O n d).before a0 Z = true ∧ own = O ∧ meth.name = "<init>")) (wi : (Jvm.Cond.instantiable C kk).before a0 Z = true)
    (hty : parseFieldDescriptor d = some ty) (hn : narrow ty v = v) (hf : fits ty v = true) {g : JFrame} (hg : g.method = m) {rest : List Value} (hs : g.stack = v :: .ref a :: rest) (hd : decode c.code g.pc = .ok (.putfield index, 3))
    (k : ∀ T' h', Stand p l e R s m args below meth c T' (locs ++ [⟨a, Jvm.RoadKit.slotOf Z O n d⟩]) cells slots → T'.heap = h' → Wr h h' a (Jvm.RoadKit.slotOf Z O n d) v → Goes p e below E T' { g with pc := g.pc + 3, stack := rest }) : Goes p e below E T g := by
  obtain ⟨T', h', X', e', W', st⟩ := putF X hx hZ hown w via eT F Ex L wi hty hn hf hg hs hd
  exact Goes.of st (k T' h' X' e' W')
theorem goCast {own K : String} {index : Nat} (X : Stand p l e R s m args below meth c T locs cells slots) (hx : p.tables.exec = Jvm.exec) (hZ : Z.Warmed39 s.vm) (hown : s.vm.findClass own = some m.cls) (w : (Jvm.Cond.classLink own index K).before a0 Z = true) (eT : T.heap = h) {a : Addr} (F : Ins Z h a K true)
    {g : JFrame} (hg : g.method = m) {rest : List Value} (hs : g.stack = .ref a :: rest) (hd : decode c.code g.pc = .ok (.checkcast index, 3))
    (k : ∀ T', Stand p l e R s m args below meth c T' locs cells slots → T'.heap = h → Goes p e below E T' { g with pc := g.pc + 3 }) : Goes p e below E T g := by
  obtain ⟨T', X', e', st⟩ := castY X hx hZ hown w eT F hg hs hd
  exact Goes.of st (k T' X' e')
theorem goInstY {own K : String} {index : Nat} (X : Stand p l e R s m args below meth c T locs cells slots) (hx : p.tables.exec = Jvm.exec) (hZ : Z.Warmed39 s.vm) (hown : s.vm.findClass own = some m.cls) (w : (Jvm.Cond.classLink own index K).before a0 Z = true) (eT : T.heap = h) {a : Addr} (F : Ins Z h a K true)
    {g : JFrame} (hg : g.method = m) {rest : List Value} (hs : g.stack = .ref a :: rest) (hd : decode c.code g.pc = .ok (.instanceof index, 3))
    (k : ∀ T', Stand p l e R s m args below meth c T' locs cells slots → T'.heap = h → Goes p e below E T' { g with pc := g.pc + 3, stack := .int 1 :: rest }) : Goes p e below E T g := by
  obtain ⟨T', X', e', st⟩ := instY X hx hZ hown w eT F hg hs hd
  exact Goes.of st (k T' X' e')
theorem goInstN {own K C : String} {index : Nat} (X : Stand p l e R s m args below meth c T locs cells slots) (hx : p.tables.exec = Jvm.exec) (hZ : Z.Warmed39 s.vm) (hown : s.vm.findClass own = some m.cls) (w : (Jvm.Cond.classLink own index K).before a0 Z = true) (eT : T.heap = h) {a : Addr} (Ex : Exa Z h a C) (F : ∃ c t, Z.vm.findClass C = some c ∧ Z.vm.findClass K = some t ∧ Z.vm.assignable c t = false)
    {g : JFrame} (hg : g.method = m) {rest : List Value} (hs : g.stack = .ref a :: rest) (hd : decode c.code g.pc = .ok (.instanceof index, 3))
    (k : ∀ T', Stand p l e R s m args below meth c T' locs cells slots → T'.heap = h → Goes p e below E T' { g with pc := g.pc + 3, stack := .int 0 :: rest }) : Goes p e below E T g := by
  obtain ⟨T', X', e', st⟩ := Jvm.RoadKit.instNo X hx hZ hown w eT Ex F hg hs hd
  exact Goes.of st (k T' X' e')
theorem goNewP {aty : ArrayType} (cap : Nat) (X : Stand p l e R s m args below meth c T locs cells slots) (hx : p.tables.exec = Jvm.exec) (hZ : Z.Warmed39 s.vm) (w : (Jvm.Cond.arrayClass (newarray.typeOf aty)).before a0 Z = true) (eT : T.heap = h) {g : JFrame} (hg : g.method = m) (hd : decode c.code g.pc = .ok (.newarray aty, 2)) {n : Int32} {rest : List Value} (hs : g.stack = .int n :: rest)
    (hn : ¬ n < 0) (hcap : n.toNatClampNeg ≤ cap) (hb : cap * 8 ≤ 536870912) (hc : cells + 1 ≤ R.cells) (hl : slots + cap ≤ R.slots) {ad : String} (had : "[" ++ (newarray.typeOf aty).toString = ad) 
    (k : ∀ T' h' b cA, Stand p l e R s m args below meth c T' locs (cells + 1) (slots + cap) → T'.heap = h' → Ext h h' → h.size ≤ b → Arv Z h' b cA (newarray.typeOf aty) n (List.replicate cap (defaultValue (newarray.typeOf aty))) (defaultValue (newarray.typeOf aty)) → Exa Z h' b ad → Goes p e below E T' { g with pc := g.pc + 2, stack := .ref b :: rest }) : Goes p e below E T g := by
  obtain ⟨T', h', cA, X', e', E', A', Ex', st⟩ := newPE X hx hZ w eT hg hd hs hn hcap hb hc hl had
  exact Goes.of st (k T' h' _ cA X' e' E' (Nat.le_refl _) ((Arv.new A' hn).pad (pad_rep [] _ cap)) Ex')
theorem goNewR {own C : String} {index : Nat} (cap : Nat) (X : Stand p l e R s m args below meth c T locs cells slots) (hx : p.tables.exec = Jvm.exec) (hZ : Z.Warmed39 s.vm) (hown : s.vm.findClass own = some m.cls) (w1 : (Jvm.Cond.classLink own index C).before a0 Z = true) (w2 : (Jvm.Cond.arrayOver (.object C)).before a0 Z = true) (eT : T.heap = h) {g : JFrame} (hg : g.method = m) (hd : decode c.code g.pc = .ok (.anewarray index, 3)) {n : Int32} {rest : List Value} (hs : g.stack = .int n :: rest)
    (hn : ¬ n < 0) (hcap : n.toNatClampNeg ≤ cap) (hb : cap * 8 ≤ 536870912) (hc : cells + 1 ≤ R.cells) (hl : slots + cap ≤ R.slots)
    (k : ∀ T' h' b cA, Stand p l e R s m args below meth c T' locs (cells + 1) (slots + cap) → T'.heap = h' → Ext h h' → h.size ≤ b → Arv Z h' b cA (.object C) n (List.replicate cap .null) .null → Ovr Z cA C → Goes p e below E T' { g with pc := g.pc + 3, stack := .ref b :: rest }) : Goes p e below E T g := by
  obtain ⟨T', h', cA, X', e', E', A', O', st⟩ := newR X hx hZ hown w1 w2 eT hg hd hs hn hcap hb hc hl
  exact Goes.of st (k T' h' _ cA X' e' E' (Nat.le_refl _) ((Arv.new A' hn).pad (pad_rep [] _ cap)) O')
theorem inbV {cl : Cell} {z j : Int32} (S : cl.slots.size = z.toNatClampNeg) (hj : ¬ j < 0) (hj' : j < z) : ¬ (j < 0 ∨ cl.slots.size ≤ j.toNatClampNeg) := inb_of S ⟨hj, hj'⟩
theorem goStI {a : Addr} {kc : ClassId} {z j x : Int32} {vs : List Value} {dv : Value} (i : Nat) (X : Stand p l e R s m args below meth c T locs cells slots) (hx : p.tables.exec = Jvm.exec) (hZ : Z.Warmed39 s.vm) (eT : T.heap = h) (V : Arv Z h a kc .int z vs dv) (hj : ¬ j < 0) (hj' : j < z) (hi : j.toNatClampNeg = i) (hl : i < vs.length)
    {g : JFrame} (hg : g.method = m) {rest : List Value} (hs : g.stack = .int x :: .int j :: .ref a :: rest) (hd : decode c.code g.pc = .ok (.iastore, 1))
    (k : ∀ T' h', Stand p l e R s m args below meth c T' (locs ++ [⟨a, j.toNatClampNeg⟩]) cells slots → T'.heap = h' → Wr h h' a j.toNatClampNeg (.int x) → Arv Z h' a kc .int z (vs.set i (.int x)) dv → Goes p e below E T' { g with pc := g.pc + 1, stack := rest }) : Goes p e below E T g := by
  obtain ⟨cl, A, q1, S, q3, H, G⟩ := V
  obtain ⟨T', h', X', e', W', st⟩ := stI X hx hZ eT A (inbV S hj hj') hg hs hd
  exact Goes.of st (k T' h' X' e' W' (Arv.set A q1 S q3 H G rfl W' i hi hl))
theorem goStJ {a : Addr} {kc : ClassId} {z j : Int32} {x : Int64} {vs : List Value} {dv : Value} (i : Nat) (X : Stand p l e R s m args below meth c T locs cells slots) (hx : p.tables.exec = Jvm.exec) (hZ : Z.Warmed39 s.vm) (eT : T.heap = h) (V : Arv Z h a kc .long z vs dv) (hj : ¬ j < 0) (hj' : j < z) (hi : j.toNatClampNeg = i) (hl : i < vs.length)
    {g : JFrame} (hg : g.method = m) {rest : List Value} (hs : g.stack = .long x :: .int j :: .ref a :: rest) (hd : decode c.code g.pc = .ok (.lastore, 1))
    (k : ∀ T' h', Stand p l e R s m args below meth c T' (locs ++ [⟨a, j.toNatClampNeg⟩]) cells slots → T'.heap = h' → Wr h h' a j.toNatClampNeg (.long x) → Arv Z h' a kc .long z (vs.set i (.long x)) dv → Goes p e below E T' { g with pc := g.pc + 1, stack := rest }) : Goes p e below E T g := by
  obtain ⟨cl, A, q1, S, q3, H, G⟩ := V
  obtain ⟨T', h', X', e', W', st⟩ := stJ X hx hZ eT A (inbV S hj hj') hg hs hd
  exact Goes.of st (k T' h' X' e' W' (Arv.set A q1 S q3 H G rfl W' i hi hl))
theorem goStC {a : Addr} {kc : ClassId} {z j x : Int32} {vs : List Value} {dv : Value} (i : Nat) (X : Stand p l e R s m args below meth c T locs cells slots) (hx : p.tables.exec = Jvm.exec) (hZ : Z.Warmed39 s.vm) (eT : T.heap = h) (V : Arv Z h a kc .char z vs dv) (hj : ¬ j < 0) (hj' : j < z) (hi : j.toNatClampNeg = i) (hl : i < vs.length)
    {g : JFrame} (hg : g.method = m) {rest : List Value} (hs : g.stack = .int x :: .int j :: .ref a :: rest) (hd : decode c.code g.pc = .ok (.castore, 1))
    (k : ∀ T' h', Stand p l e R s m args below meth c T' (locs ++ [⟨a, j.toNatClampNeg⟩]) cells slots → T'.heap = h' → Wr h h' a j.toNatClampNeg (.int (nar .char x)) → Arv Z h' a kc .char z (vs.set i (.int (nar .char x))) dv → Goes p e below E T' { g with pc := g.pc + 1, stack := rest }) : Goes p e below E T g := by
  obtain ⟨cl, A, q1, S, q3, H, G⟩ := V
  obtain ⟨T', h', X', e', W', st⟩ := stC X hx hZ eT A (inbV S hj hj') hg hs hd
  exact Goes.of st (k T' h' X' e' W' (Arv.set A q1 S q3 H G (fits_nar_char _) W' i hi hl))
theorem goStB {a : Addr} {kc : ClassId} {z j x : Int32} {vs : List Value} {dv : Value} (i : Nat) (X : Stand p l e R s m args below meth c T locs cells slots) (hx : p.tables.exec = Jvm.exec) (hZ : Z.Warmed39 s.vm) (eT : T.heap = h) (V : Arv Z h a kc .byte z vs dv) (hj : ¬ j < 0) (hj' : j < z) (hi : j.toNatClampNeg = i) (hl : i < vs.length)
    {g : JFrame} (hg : g.method = m) {rest : List Value} (hs : g.stack = .int x :: .int j :: .ref a :: rest) (hd : decode c.code g.pc = .ok (.bastore, 1))
    (k : ∀ T' h', Stand p l e R s m args below meth c T' (locs ++ [⟨a, j.toNatClampNeg⟩]) cells slots → T'.heap = h' → Wr h h' a j.toNatClampNeg (.int (nar .byte x)) → Arv Z h' a kc .byte z (vs.set i (.int (nar .byte x))) dv → Goes p e below E T' { g with pc := g.pc + 1, stack := rest }) : Goes p e below E T g := by
  obtain ⟨cl, A, q1, S, q3, H, G⟩ := V
  obtain ⟨T', h', X', e', W', st⟩ := stB X hx hZ eT A (inbV S hj hj') hg hs hd
  exact Goes.of st (k T' h' X' e' W' (Arv.set A q1 S q3 H G (fits_nar_byte _) W' i hi hl))
theorem goStZ {a : Addr} {kc : ClassId} {z j x : Int32} {vs : List Value} {dv : Value} (i : Nat) (X : Stand p l e R s m args below meth c T locs cells slots) (hx : p.tables.exec = Jvm.exec) (hZ : Z.Warmed39 s.vm) (eT : T.heap = h) (V : Arv Z h a kc .boolean z vs dv) (hj : ¬ j < 0) (hj' : j < z) (hi : j.toNatClampNeg = i) (hl : i < vs.length)
    {g : JFrame} (hg : g.method = m) {rest : List Value} (hs : g.stack = .int x :: .int j :: .ref a :: rest) (hd : decode c.code g.pc = .ok (.bastore, 1))
    (k : ∀ T' h', Stand p l e R s m args below meth c T' (locs ++ [⟨a, j.toNatClampNeg⟩]) cells slots → T'.heap = h' → Wr h h' a j.toNatClampNeg (.int (nar .boolean x)) → Arv Z h' a kc .boolean z (vs.set i (.int (nar .boolean x))) dv → Goes p e below E T' { g with pc := g.pc + 1, stack := rest }) : Goes p e below E T g := by
  obtain ⟨cl, A, q1, S, q3, H, G⟩ := V
  obtain ⟨T', h', X', e', W', st⟩ := stZ X hx hZ eT A (inbV S hj hj') hg hs hd
  exact Goes.of st (k T' h' X' e' W' (Arv.set A q1 S q3 H G (fits_nar_bool _) W' i hi hl))
theorem goStR {a y : Addr} {C : String} {kc : ClassId} {z j : Int32} {vs : List Value} {dv : Value} (i : Nat) (X : Stand p l e R s m args below meth c T locs cells slots) (hx : p.tables.exec = Jvm.exec) (hZ : Z.Warmed39 s.vm) (eT : T.heap = h) (V : Arv Z h a kc (.object C) z vs dv) (O : Ovr Z kc C) (I : Ins Z h y C true) (hj : ¬ j < 0) (hj' : j < z) (hi : j.toNatClampNeg = i) (hl : i < vs.length)
    {g : JFrame} (hg : g.method = m) {rest : List Value} (hs : g.stack = .ref y :: .int j :: .ref a :: rest) (hd : decode c.code g.pc = .ok (.aastore, 1))
    (k : ∀ T' h', Stand p l e R s m args below meth c T' (locs ++ [⟨a, j.toNatClampNeg⟩]) cells slots → T'.heap = h' → Wr h h' a j.toNatClampNeg (.ref y) → Arv Z h' a kc (.object C) z (vs.set i (.ref y)) dv → Goes p e below E T' { g with pc := g.pc + 1, stack := rest }) : Goes p e below E T g := by
  obtain ⟨cl, A, q1, S, q3, H, G⟩ := V
  obtain ⟨T', h', X', e', W', st⟩ := stR X hx hZ eT A (inbV S hj hj') rfl (Sto.ofV A q1 O I) hg hs hd
  exact Goes.of st (k T' h' X' e' W' (Arv.set A q1 S q3 H G rfl W' i hi hl))
theorem goLdI {a : Addr} {kc : ClassId} {z j : Int32} {vs : List Value} {dv : Value} (v : Value) (X : Stand p l e R s m args below meth c T locs cells slots) (hx : p.tables.exec = Jvm.exec) (hZ : Z.Warmed39 s.vm) (eT : T.heap = h) (V : Arv Z h a kc .int z vs dv) (hj : ¬ j < 0) (hj' : j < z) (hv : vs.getD j.toNatClampNeg dv = v)
    {g : JFrame} (hg : g.method = m) {rest : List Value} (hs : g.stack = .int j :: .ref a :: rest) (hd : decode c.code g.pc = .ok (.iaload, 1)) (k : Goes p e below E T { g with pc := g.pc + 1, stack := v :: rest }) : Goes p e below E T g := by
  obtain ⟨cl, A, q1, S, q3, H, G⟩ := V
  exact Goes.of (fun t q => X.iaload hx (by rw [eT]; exact A.1) (State.isArrayOf_alike hZ.alike A.2.1) A.2.2 (inbV S hj hj') (H.at (inbV S hj hj') hv) hg hs hd t q) k
theorem goLdJ {a : Addr} {kc : ClassId} {z j : Int32} {vs : List Value} {dv : Value} (v : Value) (X : Stand p l e R s m args below meth c T locs cells slots) (hx : p.tables.exec = Jvm.exec) (hZ : Z.Warmed39 s.vm) (eT : T.heap = h) (V : Arv Z h a kc .long z vs dv) (hj : ¬ j < 0) (hj' : j < z) (hv : vs.getD j.toNatClampNeg dv = v)
    {g : JFrame} (hg : g.method = m) {rest : List Value} (hs : g.stack = .int j :: .ref a :: rest) (hd : decode c.code g.pc = .ok (.laload, 1)) (k : Goes p e below E T { g with pc := g.pc + 1, stack := v :: rest }) : Goes p e below E T g := by
  obtain ⟨cl, A, q1, S, q3, H, G⟩ := V
  exact Goes.of (fun t q => X.laload hx (by rw [eT]; exact A.1) (State.isArrayOf_alike hZ.alike A.2.1) A.2.2 (inbV S hj hj') (H.at (inbV S hj hj') hv) hg hs hd t q) k
theorem goLdC {a : Addr} {kc : ClassId} {z j : Int32} {vs : List Value} {dv : Value} (v : Value) (X : Stand p l e R s m args below meth c T locs cells slots) (hx : p.tables.exec = Jvm.exec) (hZ : Z.Warmed39 s.vm) (eT : T.heap = h) (V : Arv Z h a kc .char z vs dv) (hj : ¬ j < 0) (hj' : j < z) (hv : vs.getD j.toNatClampNeg dv = v)
    {g : JFrame} (hg : g.method = m) {rest : List Value} (hs : g.stack = .int j :: .ref a :: rest) (hd : decode c.code g.pc = .ok (.caload, 1)) (k : Goes p e below E T { g with pc := g.pc + 1, stack := v :: rest }) : Goes p e below E T g := by
  obtain ⟨cl, A, q1, S, q3, H, G⟩ := V
  exact Goes.of (fun t q => X.caload hx (by rw [eT]; exact A.1) (State.isArrayOf_alike hZ.alike A.2.1) A.2.2 (inbV S hj hj') (H.at (inbV S hj hj') hv) hg hs hd t q) k
theorem goLdB {a : Addr} {kc : ClassId} {z j : Int32} {vs : List Value} {dv : Value} (v : Value) (X : Stand p l e R s m args below meth c T locs cells slots) (hx : p.tables.exec = Jvm.exec) (hZ : Z.Warmed39 s.vm) (eT : T.heap = h) (V : Arv Z h a kc .byte z vs dv) (hj : ¬ j < 0) (hj' : j < z) (hv : vs.getD j.toNatClampNeg dv = v)
    {g : JFrame} (hg : g.method = m) {rest : List Value} (hs : g.stack = .int j :: .ref a :: rest) (hd : decode c.code g.pc = .ok (.baload, 1)) (k : Goes p e below E T { g with pc := g.pc + 1, stack := v :: rest }) : Goes p e below E T g := by
  obtain ⟨cl, A, q1, S, q3, H, G⟩ := V
  exact Goes.of (fun t q => X.baloadBytes hx (by rw [eT]; exact A.1) (State.isArrayOf_alike hZ.alike A.2.1) A.2.2 (inbV S hj hj') (H.at (inbV S hj hj') hv) hg hs hd t q) k
theorem goLdZ {a : Addr} {kc : ClassId} {z j : Int32} {vs : List Value} {dv : Value} (v : Value) (X : Stand p l e R s m args below meth c T locs cells slots) (hx : p.tables.exec = Jvm.exec) (hZ : Z.Warmed39 s.vm) (eT : T.heap = h) (V : Arv Z h a kc .boolean z vs dv) (hj : ¬ j < 0) (hj' : j < z) (hv : vs.getD j.toNatClampNeg dv = v)
    {g : JFrame} (hg : g.method = m) {rest : List Value} (hs : g.stack = .int j :: .ref a :: rest) (hd : decode c.code g.pc = .ok (.baload, 1)) (k : Goes p e below E T { g with pc := g.pc + 1, stack := v :: rest }) : Goes p e below E T g := by
  obtain ⟨cl, A, q1, S, q3, H, G⟩ := V
  exact Goes.of (fun t q => X.baloadBooleans hx (by rw [eT]; exact A.1) (State.isArrayOf_alike hZ.alike A.2.1) A.2.2 (inbV S hj hj') (H.at (inbV S hj hj') hv) hg hs hd t q) k
theorem goLdR {a : Addr} {C : String} {kc : ClassId} {z j : Int32} {vs : List Value} {dv : Value} (v : Value) (X : Stand p l e R s m args below meth c T locs cells slots) (hx : p.tables.exec = Jvm.exec) (hZ : Z.Warmed39 s.vm) (eT : T.heap = h) (V : Arv Z h a kc (.object C) z vs dv) (hj : ¬ j < 0) (hj' : j < z) (hv : vs.getD j.toNatClampNeg dv = v)
    {g : JFrame} (hg : g.method = m) {rest : List Value} (hs : g.stack = .int j :: .ref a :: rest) (hd : decode c.code g.pc = .ok (.aaload, 1)) (k : Goes p e below E T { g with pc := g.pc + 1, stack := v :: rest }) : Goes p e below E T g := by
  obtain ⟨cl, A, q1, S, q3, H, G⟩ := V
  exact Goes.of (fun t q => X.aaload hx (by rw [eT]; exact A.1) (State.isArrayOf_alike hZ.alike A.2.1) rfl A.2.2 (inbV S hj hj') (H.at (inbV S hj hj') hv) hg hs hd t q) k
theorem goLen {a : Addr} {kc : ClassId} {ty : FieldType} {z : Int32} {vs : List Value} {dv : Value} (X : Stand p l e R s m args below meth c T locs cells slots) (hx : p.tables.exec = Jvm.exec) (hZ : Z.Warmed39 s.vm) (eT : T.heap = h) (V : Arv Z h a kc ty z vs dv)
    {g : JFrame} (hg : g.method = m) {rest : List Value} (hs : g.stack = .ref a :: rest) (hd : decode c.code g.pc = .ok (.arraylength, 1)) (k : Goes p e below E T { g with pc := g.pc + 1, stack := .int z :: rest }) : Goes p e below E T g := by
  obtain ⟨cl, A, q1, S, q3, H, G⟩ := V
  exact Goes.of (fun t q => X.arraylength hx (by rw [eT]; exact A.1) (State.isArrayOf_alike hZ.alike A.2.1) hg hs hd t (by rw [len_of S q3]; exact q)) k
/-- a start fact out of a case's word -/
theorem fld_of_eq {args : Array Value} {t u : Term} {C n d : String} {a : Addr} {v : Value} (ev : t.eval args s none [] s = some (.ref a)) (hu : u.eval args s none [] s = some v) (h : (Jvm.Cond.eq (.field t C n d) u).value args s none s [] = some true) : Fld s s.heap a C n d v := by
  refine Fld.start ?_
  simp only [Jvm.Cond.value, fld_at ev, hu] at h
  cases hf : s.fieldOf? a C n d with
  | none => simp [hf] at h
  | some x => cases x <;> cases v <;> simp [hf] at h ⊢ <;> exact h
theorem sta_at {args : Array Value} {C n d : String} {v : Value} (ev : (Term.static C n d).eval args s none [] s = some v) (w1 : (Jvm.Cond.initialized C).before args s = true) (w2 : (Jvm.Cond.laysStatic C n d).before args s = true) : Sta s s.heap C n d v := Sta.start ev (Or.inr ⟨w1, w2⟩)
/-- an enum constant: the static, the object's class, its ordinal -/
def Con (Z : State) (C f : String) (d : String) (k : Int32) (a : Addr) : Prop := Sta Z Z.heap C f d (.ref a) ∧ Exa Z Z.heap a C ∧ Fld Z Z.heap a "java/lang/Enum" "ordinal" "I" (.int k)
theorem con_of {args : Array Value} {C f d : String} {k : Int32} (h1 : (Jvm.Cond.exactly (.static C f d) C).value args s none s [] = some true) (h2 : (Jvm.Cond.eq (.field (.static C f d) "java/lang/Enum" "ordinal" "I") (.int k)).value args s none s [] = some true)
    (w1 : (Jvm.Cond.initialized C).before args s = true) (w2 : (Jvm.Cond.laysStatic C f d).before args s = true) : ∃ a, Con s C f d k a ∧ (Term.static C f d).eval args s none [] s = some (.ref a) := by
  obtain ⟨a, ev⟩ := exa_v h1
  exact ⟨a, ⟨sta_at ev w1 w2, Exa.start ev h1, fld_of_eq ev (Term.int_eval k) h2⟩, ev⟩
theorem Con.ne {C f d C' f' d' : String} {k k' : Int32} {a b : Addr} (F : Con Z C f d k a) (G : Con Z C' f' d' k' b) (q : k ≠ k') : a ≠ b := Fld.ne F.2.2 G.2.2 (fun h => q (Value.int.inj h))
theorem mask31 (x : Int32) : (x &&& (2147483647 : Int32)).toInt = x.toInt % 2147483648 := c_mask x _ 31 (by decide) (by decide)
theorem div_pos (x y : Int32) {k : Int} (hx : ¬ x < 0) (hy : y.toInt = k) (h1 : y ≠ -1) : (x / y).toInt = x.toInt / k := (c_idiv x y k hy h1).1 (by rw [Int32.lt_iff_toInt_lt] at hx; have : (0 : Int32).toInt = 0 := rfl; omega)
theorem rem_pos {x y : Int32} {k : Int} (h : 0 ≤ x.toInt) (hy : y.toInt = k) : (x - (x / y) * y).toInt = x.toInt % k := by
  rw [irem_eq_mod]; exact (c_irem x y k hy).1 h
theorem rem31 (x y : Int32) {k : Int} (hy : y.toInt = k) : ((x &&& (2147483647 : Int32)) - ((x &&& (2147483647 : Int32)) / y) * y).toInt = (x.toInt % 2147483648) % k := by
  have e := mask31 x
  rw [rem_pos (by omega) hy, e]
def Cst (Z : State) (C f : String) (d : String) (a : Addr) : Prop := Sta Z Z.heap C f d (.ref a) ∧ Exa Z Z.heap a C
theorem cst_of {args : Array Value} {C f d : String} (h1 : (Jvm.Cond.exactly (.static C f d) C).value args s none s [] = some true)
    (w1 : (Jvm.Cond.initialized C).before args s = true) (w2 : (Jvm.Cond.laysStatic C f d).before args s = true) : ∃ a, Cst s C f d a ∧ (Term.static C f d).eval args s none [] s = some (.ref a) := by
  obtain ⟨a, ev⟩ := exa_v h1
  exact ⟨a, ⟨sta_at ev w1 w2, Exa.start ev h1⟩, ev⟩
theorem goClone {own ad : String} {index : Nat} {ty : FieldType} {a : Addr} {kc : ClassId} {z : Int32} {vs : List Value} {dv : Value} (W cap : Nat) (X : Stand p l e R s m args below meth c T locs cells slots) (hx : p.tables.exec = Jvm.exec) (hZ : Z.Warmed39 s.vm) (hown : s.vm.findClass own = some m.cls)
    (w1 : (Jvm.Cond.methodLink own index ⟨ad, "clone", "()Ljava/lang/Object;"⟩).before a0 Z = true) (w2 : (Jvm.Cond.sameMethod ad "java/lang/Object" "clone" "()Ljava/lang/Object;").before a0 Z = true) (w3 : (Jvm.Cond.native ⟨"java/lang/Object", "clone", "()Ljava/lang/Object;"⟩).before a0 Z = true)
    (w4 : (Jvm.Cond.instanceMethod ⟨"java/lang/Object", "clone", "()Ljava/lang/Object;"⟩).before a0 Z = true) (w5 : (Jvm.Cond.selects ad ⟨ad, "clone", "()Ljava/lang/Object;"⟩ ⟨"java/lang/Object", "clone", "()Ljava/lang/Object;"⟩).before a0 Z = true) (w6 : (Jvm.Cond.castable ad "java/lang/Cloneable").before a0 Z = true)
    (eT : T.heap = h) (V : Arv Z h a kc ty z vs dv) (Ex : Exa Z h a ad) {g : JFrame} (hg : g.method = m) (hsize : g.locals.size = c.maxLocals) {rest : List Value} (hst : g.stack = .ref a :: rest) (hd : decode c.code g.pc = .ok (.invokevirtual index, 3))
    (hf : 1 ≤ R.frames) (hW : 2 * g.monitorRoom + (rest.map fun v => v.category).sum ≤ W) (hl : W + 14 ≤ R.locals) (hcap : z.toNatClampNeg ≤ cap) (hc : cells + 1 ≤ R.cells) (hsl : slots + cap ≤ R.slots)
    (k : ∀ T' h' b, Stand p l e R s m args below meth c T' locs (cells + 1) (slots + cap) → T'.heap = h' → Ext h h' → h.size ≤ b → Arv Z h' b kc ty z vs dv → Exa Z h' b ad → Goes p e below E T' { g with pc := g.pc + 3, stack := .ref b :: rest }) : Goes p e below E T g := by
  obtain ⟨T', h', X', e', E', A', Ex', st⟩ := cloneH X hx hZ hown w1 w2 w3 w4 w5 w6 eT V.arh Ex hg hsize hst hd hf hW hl hcap hc hsl
  exact Goes.of st (k T' h' _ X' e' E' (Nat.le_refl _) A' Ex')
theorem nsRoot {O K : String} {n : Nat} (w : (Jvm.Cond.noSuperclass O).before a0 Z = true) (wk : (Jvm.Cond.instantiable K n).before a0 Z = true) (hn : O ≠ K) : NS Z O K := by
  obtain ⟨c, k, h1, h2, h3, -, -⟩ := Cond.noSuperclass_spec w
  obtain ⟨t, kt, g1, -⟩ := Cond.instantiable_spec wk
  have ne := ids_ne h1 g1 hn
  refine ⟨c, t, h1, g1, fun fuel => ?_⟩
  cases fuel with
  | zero => rfl
  | succ f => simp [Vm.isSubclassAux, ne, h2, h3]
theorem nsNo {C S K : String} {n : Nat} (w : (Jvm.Cond.superclass C S).before a0 Z = true) (wk : (Jvm.Cond.instantiable K n).before a0 Z = true) (q : NS Z C K) (hn : C ≠ K) : ∃ c t, Z.vm.findClass C = some c ∧ Z.vm.findClass K = some t ∧ Z.vm.assignable c t = false := by
  obtain ⟨c, t, h0, g0, n3⟩ := q
  obtain ⟨p, k, kp, h1, h2, h3, h4, h5, -, h7⟩ := Cond.superclass_spec h0 w
  obtain ⟨t', kt, g1, g2, g5, g7, -⟩ := Cond.instantiable_spec wk
  cases g0.symm.trans g1
  have g8 : kt.isInterface = false := by simp only [Bool.or_eq_false_iff] at g7; exact g7.1
  have ne := ids_ne h0 g0 hn
  refine ⟨c, t, h0, g0, ?_⟩
  show Z.vm.assignableAux (255 + 1) c t = false
  simp [Vm.assignableAux, ne, h2, g2, h5, g5, g8, Vm.isSubclass, n3]
/-- what is known of Integer's cache at the start -/
def IntC (Z : State) (ca : Addr) (cl : Cell) : Prop := Sta Z Z.heap "java/lang/Integer$IntegerCache" "high" "I" (.int 127) ∧ Sta Z Z.heap "java/lang/Integer$IntegerCache" "cache" "[Ljava/lang/Integer;" (.ref ca) ∧ Arr Z Z.heap ca cl (.object "java/lang/Integer") ∧ cl.slots.size = 256 ∧ ∀ j, j < 256 → ∃ b, cl.slots[j]? = some (.ref b) ∧ Exa Z Z.heap b "java/lang/Integer"
theorem ne_of_not {args : Array Value} {t : Term} {x : Int32} (ev : t.eval args s none [] s = some (.int x)) (h : (Jvm.Cond.not (.eq t (.int 0))).before args s = true) : ¬ x = 0 := by
  intro q
  subst q
  have e := Cond.before_iff.mp h
  simp [Jvm.Cond.value, ev, Term.eval] at e
end Own1
end Jvm.Own
namespace Jvm.Pilot.@@N@@
open Jvm Jvm.ClassFile Sem Op Lib Jvm.Free Jvm.Stand Jvm.LawKit Jvm.RoadKit Jvm.Own Bundle Jvm.Pilot.@@N@@.Jvm.D
theorem ef_6 (m : MethodId) (x0 : Addr) : entryFrame m #[(.ref x0)] 1 = mkF m 0 #[.val (.ref x0)] [] := by first | (simp [entryFrame, mkF, argsToLocals, Value.category]; done) | rfl
theorem d6_0 : decode jdk_18_method_1_code 0 = .ok (.aload_n 0, 1) := by decide +kernel
theorem d6_1 : decode jdk_18_method_1_code 1 = .ok (.invokespecial 1, 3) := by decide +kernel
theorem d6_4 : decode jdk_18_method_1_code 4 = .ok (.return_, 1) := by decide +kernel
theorem pn_java_lang_Number : plainName "java/lang/Number" = true := by first | (simp [plainName, overriddenIn]; done) | decide +kernel
theorem ef_5 (m : MethodId) (x0 : Addr) (x1 : Int32) : entryFrame m #[(.ref x0), (.int x1)] 2 = mkF m 0 #[.val (.ref x0), .val (.int x1)] [] := by first | (simp [entryFrame, mkF, argsToLocals, Value.category]; done) | rfl
theorem d5_0 : decode jdk_33_method_23_code 0 = .ok (.aload_n 0, 1) := by decide +kernel
theorem d5_1 : decode jdk_33_method_23_code 1 = .ok (.invokespecial 202, 3) := by decide +kernel
theorem pd___V : parseMethodDescriptor "()V" = some ⟨[], none⟩ := by decide +kernel
theorem d5_4 : decode jdk_33_method_23_code 4 = .ok (.aload_n 0, 1) := by decide +kernel
theorem d5_5 : decode jdk_33_method_23_code 5 = .ok (.iload_n 1, 1) := by decide +kernel
theorem d5_6 : decode jdk_33_method_23_code 6 = .ok (.putfield 205, 3) := by decide +kernel
theorem d5_9 : decode jdk_33_method_23_code 9 = .ok (.return_, 1) := by decide +kernel
theorem pn_java_lang_Integer : plainName "java/lang/Integer" = true := by first | (simp [plainName, overriddenIn]; done) | decide +kernel
theorem ef_4 (m : MethodId) (x0 : Int32) : entryFrame m #[(.int x0)] 1 = mkF m 0 #[.val (.int x0)] [] := by first | (simp [entryFrame, mkF, argsToLocals, Value.category]; done) | rfl
theorem d4_0 : decode jdk_33_method_22_code 0 = .ok (.iload_n 0, 1) := by decide +kernel
theorem d4_1 : decode jdk_33_method_22_code 1 = .ok (.bipush (-128), 2) := by decide +kernel
theorem d4_3 : decode jdk_33_method_22_code 3 = .ok (.if_icmp .lt 20, 3) := by decide +kernel
theorem d4_23 : decode jdk_33_method_22_code 23 = .ok (.new 1, 3) := by decide +kernel
theorem d4_26 : decode jdk_33_method_22_code 26 = .ok (.dup, 1) := by decide +kernel
theorem d4_27 : decode jdk_33_method_22_code 27 = .ok (.iload_n 0, 1) := by decide +kernel
theorem d4_28 : decode jdk_33_method_22_code 28 = .ok (.invokespecial 199, 3) := by decide +kernel
theorem pd__I_V : parseMethodDescriptor "(I)V" = some ⟨[.int], none⟩ := by decide +kernel
theorem d4_31 : decode jdk_33_method_22_code 31 = .ok (.areturn, 1) := by decide +kernel
theorem d4_6 : decode jdk_33_method_22_code 6 = .ok (.iload_n 0, 1) := by decide +kernel
theorem d4_7 : decode jdk_33_method_22_code 7 = .ok (.getstatic 191, 3) := by decide +kernel
theorem d4_10 : decode jdk_33_method_22_code 10 = .ok (.if_icmp .gt 13, 3) := by decide +kernel
theorem d4_13 : decode jdk_33_method_22_code 13 = .ok (.getstatic 195, 3) := by decide +kernel
theorem d4_16 : decode jdk_33_method_22_code 16 = .ok (.iload_n 0, 1) := by decide +kernel
theorem d4_17 : decode jdk_33_method_22_code 17 = .ok (.sipush 128, 3) := by decide +kernel
theorem d4_20 : decode jdk_33_method_22_code 20 = .ok (.iadd, 1) := by decide +kernel
theorem d4_21 : decode jdk_33_method_22_code 21 = .ok (.aaload, 1) := by decide +kernel
theorem d4_22 : decode jdk_33_method_22_code 22 = .ok (.areturn, 1) := by decide +kernel
theorem ef_1 (m : MethodId) (x0 : Addr) (x1 : Int32) (x2 : Int32) (x3 : Int32) (x4 : Int32) (x5 : Int32) (x6 : Int32) : entryFrame m #[(.ref x0), (.int x1), (.int x2), (.int x3), (.int x4), (.int x5), (.int x6)] 7 = mkF m 0 #[.val (.ref x0), .val (.int x1), .val (.int x2), .val (.int x3), .val (.int x4), .val (.int x5), .val (.int x6)] [] := by first | (simp [entryFrame, mkF, argsToLocals, Value.category]; done) | rfl
theorem d1_0 : decode prog_7_method_1_code 0 = .ok (.aload_n 0, 1) := by decide +kernel
theorem d1_1 : decode prog_7_method_1_code 1 = .ok (.invokespecial 1, 3) := by decide +kernel
theorem d1_4 : decode prog_7_method_1_code 4 = .ok (.aload_n 0, 1) := by decide +kernel
theorem d1_5 : decode prog_7_method_1_code 5 = .ok (.iload_n 1, 1) := by decide +kernel
theorem d1_6 : decode prog_7_method_1_code 6 = .ok (.putfield 7, 3) := by decide +kernel
theorem d1_9 : decode prog_7_method_1_code 9 = .ok (.aload_n 0, 1) := by decide +kernel
theorem d1_10 : decode prog_7_method_1_code 10 = .ok (.iload_n 2, 1) := by decide +kernel
theorem d1_11 : decode prog_7_method_1_code 11 = .ok (.putfield 13, 3) := by decide +kernel
theorem d1_14 : decode prog_7_method_1_code 14 = .ok (.aload_n 0, 1) := by decide +kernel
theorem d1_15 : decode prog_7_method_1_code 15 = .ok (.iload_n 3, 1) := by decide +kernel
theorem d1_16 : decode prog_7_method_1_code 16 = .ok (.putfield 16, 3) := by decide +kernel
theorem d1_19 : decode prog_7_method_1_code 19 = .ok (.aload_n 0, 1) := by decide +kernel
theorem d1_20 : decode prog_7_method_1_code 20 = .ok (.iload 4, 2) := by decide +kernel
theorem d1_22 : decode prog_7_method_1_code 22 = .ok (.putfield 19, 3) := by decide +kernel
theorem d1_25 : decode prog_7_method_1_code 25 = .ok (.aload_n 0, 1) := by decide +kernel
theorem d1_26 : decode prog_7_method_1_code 26 = .ok (.iload 5, 2) := by decide +kernel
theorem d1_28 : decode prog_7_method_1_code 28 = .ok (.putfield 22, 3) := by decide +kernel
theorem d1_31 : decode prog_7_method_1_code 31 = .ok (.aload_n 0, 1) := by decide +kernel
theorem d1_32 : decode prog_7_method_1_code 32 = .ok (.iload 6, 2) := by decide +kernel
theorem d1_34 : decode prog_7_method_1_code 34 = .ok (.putfield 25, 3) := by decide +kernel
theorem d1_37 : decode prog_7_method_1_code 37 = .ok (.return_, 1) := by decide +kernel
theorem pn_com_example_casement_casement_graphics_CharMetrics : plainName "com/example/casement/casement/graphics/CharMetrics" = true := by first | (simp [plainName, overriddenIn]; done) | decide +kernel
theorem ef_3 (m : MethodId) (x0 : Addr) (x1 : Addr) : entryFrame m #[(.ref x0), (.ref x1)] 3 = mkF m 0 #[.val (.ref x0), .val (.ref x1), .unset] [] := by first | (simp [entryFrame, mkF, argsToLocals, Value.category]; done) | rfl
theorem d3_0 : decode prog_7_method_9_code 0 = .ok (.aload_n 1, 1) := by decide +kernel
theorem d3_1 : decode prog_7_method_9_code 1 = .ok (.instanceof 8, 3) := by decide +kernel
theorem d3_4 : decode prog_7_method_9_code 4 = .ok (.ifCond .eq 78, 3) := by decide +kernel
theorem d3_7 : decode prog_7_method_9_code 7 = .ok (.aload_n 1, 1) := by decide +kernel
theorem d3_8 : decode prog_7_method_9_code 8 = .ok (.checkcast 8, 3) := by decide +kernel
theorem d3_11 : decode prog_7_method_9_code 11 = .ok (.astore_n 2, 1) := by decide +kernel
theorem d3_12 : decode prog_7_method_9_code 12 = .ok (.aload_n 0, 1) := by decide +kernel
theorem d3_13 : decode prog_7_method_9_code 13 = .ok (.getfield 7, 3) := by decide +kernel
theorem d3_16 : decode prog_7_method_9_code 16 = .ok (.aload_n 2, 1) := by decide +kernel
theorem d3_17 : decode prog_7_method_9_code 17 = .ok (.getfield 7, 3) := by decide +kernel
theorem d3_20 : decode prog_7_method_9_code 20 = .ok (.if_icmp .ne 62, 3) := by decide +kernel
theorem d3_23 : decode prog_7_method_9_code 23 = .ok (.aload_n 0, 1) := by decide +kernel
theorem d3_24 : decode prog_7_method_9_code 24 = .ok (.getfield 13, 3) := by decide +kernel
theorem d3_27 : decode prog_7_method_9_code 27 = .ok (.aload_n 2, 1) := by decide +kernel
theorem d3_28 : decode prog_7_method_9_code 28 = .ok (.getfield 13, 3) := by decide +kernel
theorem d3_31 : decode prog_7_method_9_code 31 = .ok (.if_icmp .ne 51, 3) := by decide +kernel
theorem d3_34 : decode prog_7_method_9_code 34 = .ok (.aload_n 0, 1) := by decide +kernel
theorem d3_35 : decode prog_7_method_9_code 35 = .ok (.getfield 16, 3) := by decide +kernel
theorem d3_38 : decode prog_7_method_9_code 38 = .ok (.aload_n 2, 1) := by decide +kernel
theorem d3_39 : decode prog_7_method_9_code 39 = .ok (.getfield 16, 3) := by decide +kernel
theorem d3_42 : decode prog_7_method_9_code 42 = .ok (.if_icmp .ne 40, 3) := by decide +kernel
theorem d3_45 : decode prog_7_method_9_code 45 = .ok (.aload_n 0, 1) := by decide +kernel
theorem d3_46 : decode prog_7_method_9_code 46 = .ok (.getfield 19, 3) := by decide +kernel
theorem d3_49 : decode prog_7_method_9_code 49 = .ok (.aload_n 2, 1) := by decide +kernel
theorem d3_50 : decode prog_7_method_9_code 50 = .ok (.getfield 19, 3) := by decide +kernel
theorem d3_53 : decode prog_7_method_9_code 53 = .ok (.if_icmp .ne 29, 3) := by decide +kernel
theorem d3_56 : decode prog_7_method_9_code 56 = .ok (.aload_n 0, 1) := by decide +kernel
theorem d3_57 : decode prog_7_method_9_code 57 = .ok (.getfield 22, 3) := by decide +kernel
theorem d3_60 : decode prog_7_method_9_code 60 = .ok (.aload_n 2, 1) := by decide +kernel
theorem d3_61 : decode prog_7_method_9_code 61 = .ok (.getfield 22, 3) := by decide +kernel
theorem d3_64 : decode prog_7_method_9_code 64 = .ok (.if_icmp .ne 18, 3) := by decide +kernel
theorem d3_67 : decode prog_7_method_9_code 67 = .ok (.aload_n 0, 1) := by decide +kernel
theorem d3_68 : decode prog_7_method_9_code 68 = .ok (.getfield 25, 3) := by decide +kernel
theorem d3_71 : decode prog_7_method_9_code 71 = .ok (.aload_n 2, 1) := by decide +kernel
theorem d3_72 : decode prog_7_method_9_code 72 = .ok (.getfield 25, 3) := by decide +kernel
theorem d3_78 : decode prog_7_method_9_code 78 = .ok (.iconst 1, 1) := by decide +kernel
theorem d3_79 : decode prog_7_method_9_code 79 = .ok (.goto 4, 3) := by decide +kernel
theorem d3_82 : decode prog_7_method_9_code 82 = .ok (.iconst 0, 1) := by decide +kernel
theorem d3_75 : decode prog_7_method_9_code 75 = .ok (.if_icmp .ne 7, 3) := by decide +kernel
theorem d3_83 : decode prog_7_method_9_code 83 = .ok (.ireturn, 1) := by decide +kernel
theorem ef_3n1 (m : MethodId) (x0 : Addr) : entryFrame m #[(.ref x0), .null] 3 = mkF m 0 #[.val (.ref x0), .val .null, .unset] [] := by first | (simp [entryFrame, mkF, argsToLocals, Value.category]; done) | rfl
theorem ef_0 (m : MethodId) (x0 : Int32) (x1 : Int32) (x2 : Int32) (x3 : Int32) (x4 : Int32) (x5 : Int64) : entryFrame m #[(.int x0), (.int x1), (.int x2), (.int x3), (.int x4), (.long x5)] maxLocals = mkF m 0 #[.val (.int x0), .val (.int x1), .val (.int x2), .val (.int x3), .val (.int x4), .val (.long x5), .second, .unset, .unset, .unset, .unset, .unset, .unset, .unset] [] := by first | (simp [entryFrame, mkF, argsToLocals, Value.category, maxLocals]; done) | rfl
theorem pd__IIIIII_V : parseMethodDescriptor "(IIIIII)V" = some ⟨[.int, .int, .int, .int, .int, .int], none⟩ := by decide +kernel
theorem pd__Ljava_lang_Object__Z : parseMethodDescriptor "(Ljava/lang/Object;)Z" = some ⟨[(.object "java/lang/Object")], some .boolean⟩ := by decide +kernel
theorem pd__I_Ljava_lang_Integer_ : parseMethodDescriptor "(I)Ljava/lang/Integer;" = some ⟨[.int], some (.object "java/lang/Integer")⟩ := by decide +kernel
theorem pn_com_example_casement_casement_graphics_CharMetricsEqualsPinLaw : plainName "com/example/casement/casement/graphics/CharMetricsEqualsPinLaw" = true := by first | (simp [plainName, overriddenIn]; done) | decide +kernel
theorem len_lt {args : Array Value} {s : State} {t : Term} {v : Value} {x : Addr} {cl : Cell} (h : (Term.length t).eval args s none [] s = some v) (ht : t.eval args s none [] s = some (.ref x)) (ha : s.arrayAt? x = some cl) : cl.slots.size < 2 ^ 31 := by
  simp only [Term.eval, Option.bind_eq_bind, ht, Option.bind_some, ha] at h
  split at h
  · assumption
  · cases h
theorem intC_of {s : State} {args : Array Value} {ca : Addr} {cl : Cell} (w0 : (Jvm.Cond.initialized "java/lang/Integer$IntegerCache").before args s = true) (w1 : (Jvm.Cond.laysStatic "java/lang/Integer$IntegerCache" "high" "I").before args s = true) (w2 : (Jvm.Cond.laysStatic "java/lang/Integer$IntegerCache" "cache" "[Ljava/lang/Integer;").before args s = true)
    (w3 : (Jvm.Cond.eq (.static "java/lang/Integer$IntegerCache" "high" "I") (.int 127)).before args s = true) (w6 : (Jvm.Cond.eq (.length (.static "java/lang/Integer$IntegerCache" "cache" "[Ljava/lang/Integer;")) (.int 256)).before args s = true)
    {c : Jvm.Cond} (w7 : (Jvm.Cond.all (.static "java/lang/Integer$IntegerCache" "cache" "[Ljava/lang/Integer;") (.and (.exactly (.elem (.static "java/lang/Integer$IntegerCache" "cache" "[Ljava/lang/Integer;") (.index 0)) "java/lang/Integer") c)).before args s = true) (_ : True = True)
    (evc : (Term.static "java/lang/Integer$IntegerCache" "cache" "[Ljava/lang/Integer;").eval args s none [] s = some (.ref ca)) (A : Arr s s.heap ca cl (.object "java/lang/Integer")) : IntC s ca cl := by
  have hat : s.arrayAt? ca = some cl := IntBox.arrayAt_of A.1 A.2.1 A.2.2
  have hsz : cl.slots.size = 256 := by
    have hl := Cond.eq_int (n := 256) w6 (Term.int_eval _)
    have hlt := len_lt hl evc hat
    have h1 := len_toInt hlt
    have h0 := (len_f evc hat hlt).symm.trans hl
    rw [Value.int.inj (Option.some.inj h0)] at h1
    have h2 : (256 : Int32).toInt = 256 := rfl
    omega
  refine ⟨Sta.start (v := .int 127) ?_ (Or.inr ⟨w0, w1⟩), Sta.start evc (Or.inr ⟨w0, w2⟩), A, hsz, fun j hj => ?_⟩
  · exact Cond.eq_int w3 (Term.int_eval _)
  · have hj' : j < cl.slots.size := by rw [hsz]; exact hj
    have ha := Cond.all_elim evc hat (by simpa [Jvm.Cond.before, Jvm.Cond.holds] using w7) j hj'
    have ha2 := (and_e ha).1
    obtain ⟨b, eb⟩ := exa_v ha2
    have evi : (Term.static "java/lang/Integer$IntegerCache" "cache" "[Ljava/lang/Integer;").eval args s none [j] s = some (.ref ca) := evc
    obtain ⟨hnn, hback⟩ := Jvm.Free.IntBox.place_nonneg j hj
    have ee : (Term.elem (.static "java/lang/Integer$IntegerCache" "cache" "[Ljava/lang/Integer;") (.index 0)).eval args s none [j] s = cl.slots[j]? := by
      rw [elem_f evi (j := j.toInt32) rfl hat hnn, hback]
    exact ⟨b, ee.symm.trans eb, exa_at eb ha2⟩
theorem c8 (i : Int32) (h0 : 0 ≤ i.toInt) (h1 : i.toInt < 8) : i = (0 : Int32) ∨ i = (1 : Int32) ∨ i = (2 : Int32) ∨ i = (3 : Int32) ∨ i = (4 : Int32) ∨ i = (5 : Int32) ∨ i = (6 : Int32) ∨ i = (7 : Int32) := by
  have e0 : (0 : Int32).toInt = 0 := rfl
  have e1 : (1 : Int32).toInt = 1 := rfl
  have e2 : (2 : Int32).toInt = 2 := rfl
  have e3 : (3 : Int32).toInt = 3 := rfl
  have e4 : (4 : Int32).toInt = 4 := rfl
  have e5 : (5 : Int32).toInt = 5 := rfl
  have e6 : (6 : Int32).toInt = 6 := rfl
  have e7 : (7 : Int32).toInt = 7 := rfl
  simp only [← Int32.toInt_inj]
  omega
def eq6 (x0 x1 x2 x3 x4 x5 y0 y1 y2 y3 y4 y5 : Int32) : Int32 := if x0 = y0 then if x1 = y1 then if x2 = y2 then if x3 = y3 then if x4 = y4 then if x5 = y5 then (1 : Int32) else (0 : Int32) else (0 : Int32) else (0 : Int32) else (0 : Int32) else (0 : Int32) else (0 : Int32)
theorem n8 (x : Int32) : 0 ≤ (x &&& (7 : Int32)).toInt ∧ (x &&& (7 : Int32)).toInt < 8 := by
  have e := c_mask x 7 3 (by decide) (by decide)
  omega
set_option maxRecDepth 65536 in
set_option maxHeartbeats 40000000 in
theorem rm_number (l : Launch) (Z : State) (a0 : Array Value) (hw : ∀ d ∈ tables_1, d.before a0 Z = true) (a : Addr) (h0 : Heap) (n0 : Nat) (O0 : Old Z n0 h0)  :
    Rm l (⟨"java/lang/Number", "<init>", "()V"⟩ : MethodName) jdk_18_method_1_code 1 none ({ frames := 1, cells := 0, slots := 0, locals := 12 } : Room) [] Z #[(.ref a)] h0 (fun v h L => v = none ∧ Fr n0 L ∧ h = h0) := by
  refine Rm.of (plainFor_of_name pn_java_lang_Number) ?_
  intro p e s m below meth cod T X hx hZ hby hml hown hnm hret hlk eT0
  have hown : s.vm.findClass "java/lang/Number" = some m.cls := hown
  have hnm : meth.name = "<init>" := hnm
  have N0 := Fr.nil n0
  refine Goes.cast (ef_6 m a) ?_
  show Goes p e below _ T (mkF m 0 #[.val (.ref a)] [])
  refine Goes.of (fun _ => XS.aloadN X.here hx rfl (hb hby d6_0) rfl rfl) ?_
  show Goes p e below _ T (mkF m 1 #[.val (.ref a)] [(.ref a)])
  refine goInitO 0 X hx hZ hown (hw _ (List.mem_of_getElem? (i := 45) rfl)) (hw _ (List.mem_of_getElem? (i := 8) rfl)) (hw _ (List.mem_of_getElem? (i := 9) rfl)) eT0 (g := (mkF m 1 #[.val (.ref a)] [(.ref a)])) rfl (by rw [hml]; rfl) rfl (hb hby d6_1) (by decide) (by show 2 * 0 + _ ≤ _; exact Nat.le_of_eq rfl) (by decide) ?_
  intro T1 X1 eT1
  show Goes p e below _ T1 (mkF m 4 #[.val (.ref a)] [])
  exact retVoid X1 hx hret hlk (hb hby d6_4) eT1 (by decide) (by decide) ⟨rfl, N0, rfl⟩
set_option maxRecDepth 65536 in
set_option maxHeartbeats 40000000 in
theorem rm_intinit (l : Launch) (Z : State) (a0 : Array Value) (hw : ∀ d ∈ tables_1, d.before a0 Z = true) (a : Addr) (i : Int32) (h0 : Heap) (n0 : Nat) (O0 : Old Z n0 h0) (g_a : n0 ≤ a) (Ex : Exa Z h0 a "java/lang/Integer") (F0 : Fld Z h0 a "java/lang/Integer" "value" "I" (.int (0 : Int32))) :
    Rm l (⟨"java/lang/Integer", "<init>", "(I)V"⟩ : MethodName) jdk_33_method_23_code 2 none ({ frames := 2, cells := 0, slots := 0, locals := 24 } : Room) [] Z #[(.ref a), (.int i)] h0 (fun v h L => v = none ∧ Fr n0 L ∧ Keep h0 h [a]) := by
  refine Rm.of (plainFor_of_name pn_java_lang_Integer) ?_
  intro p e s m below meth cod T X hx hZ hby hml hown hnm hret hlk eT0
  have hown : s.vm.findClass "java/lang/Integer" = some m.cls := hown
  have hnm : meth.name = "<init>" := hnm
  have N0 := Fr.nil n0
  have Kp := Keep.refl h0 [a]
  refine Goes.cast (ef_5 m a i) ?_
  show Goes p e below _ T (mkF m 0 #[.val (.ref a), .val (.int i)] [])
  refine Goes.of (fun _ => XS.aloadN X.here hx rfl (hb hby d5_0) rfl rfl) ?_
  show Goes p e below _ T (mkF m 1 #[.val (.ref a), .val (.int i)] [(.ref a)])
  refine goSpecial 0 X hx hZ rfl hown (hw _ (List.mem_of_getElem? (i := 39) rfl)) (hw _ (List.mem_of_getElem? (i := 40) rfl)) (hw _ (List.mem_of_getElem? (i := 43) rfl)) (hw _ (List.mem_of_getElem? (i := 44) rfl)) (by decide) (rm_number l Z a0 hw a h0 n0 O0) eT0 (g := (mkF m 1 #[.val (.ref a), .val (.int i)] [(.ref a)])) rfl (by rw [hml]; rfl) a [] [] (lenOf pd___V rfl) rfl rfl (by show 2 * 0 + _ ≤ _; exact Nat.le_of_eq rfl) (hb hby d5_1) (by decide) (by decide) (by decide) (by decide) ?_
  intro v1 T1 L1 X1 q1
  obtain ⟨rfl, Nq1, eT1⟩ := q1
  have N1 := Fr.app N0 Nq1
  show Goes p e below _ T1 (mkF m 4 #[.val (.ref a), .val (.int i)] [])
  refine Goes.of (fun _ => XS.aloadN X1.here hx rfl (hb hby d5_4) rfl rfl) ?_
  show Goes p e below _ T1 (mkF m 5 #[.val (.ref a), .val (.int i)] [(.ref a)])
  refine Goes.of (fun _ => XS.iloadN X1.here hx rfl (hb hby d5_5) rfl) ?_
  show Goes p e below _ T1 (mkF m 6 #[.val (.ref a), .val (.int i)] [(.int i), (.ref a)])
  refine goPut (ty := .int) X1 hx hZ hown (host := "") (Or.inl (hw _ (List.mem_of_getElem? (i := 46) rfl))) Via.refl eT1 F0 Ex (Or.inr ⟨(hw _ (List.mem_of_getElem? (i := 47) rfl)), rfl, hnm⟩) (hw _ (List.mem_of_getElem? (i := 34) rfl)) (by decide) rfl rfl (g := (mkF m 6 #[.val (.ref a), .val (.int i)] [(.int i), (.ref a)])) rfl rfl (hb hby d5_6) ?_
  intro T2 h2 X2 eT2 W2
  have F0 := Fld.same W2 F0
  have N2 := Fr.snoc X2 N1 g_a
  have Ex := Ex.wr W2
  have Kp := Kp.wr W2 (Or.inl (List.mem_of_getElem? (i := 0) rfl))
  have O0 := O0.wr W2 g_a
  show Goes p e below _ T2 (mkF m 9 #[.val (.ref a), .val (.int i)] [])
  exact retVoid X2 hx hret hlk (hb hby d5_9) eT2 (by decide) (by decide) ⟨rfl, N2, Kp⟩
set_option maxRecDepth 65536 in
set_option maxHeartbeats 40000000 in
theorem rm_valueOf (l : Launch) (Z : State) (a0 : Array Value) (hw : ∀ d ∈ tables_1, d.before a0 Z = true) (i : Int32) (ca : Addr) (cl : Cell) (h0 : Heap) (n0 : Nat) (O0 : Old Z n0 h0) (IC0 : IntC Z ca cl) :
    Rm l (⟨"java/lang/Integer", "valueOf", "(I)Ljava/lang/Integer;"⟩ : MethodName) jdk_33_method_22_code 1 (some (.object "java/lang/Integer")) ({ frames := 3, cells := 1, slots := 1, locals := 38 } : Room) [] Z #[(.int i)] h0 (fun v h L => ∃ b, v = some (.ref b) ∧ Fr n0 L ∧ Keep h0 h [] ∧ Exa Z h b "java/lang/Integer") := by
  refine Rm.of (plainFor_of_name pn_java_lang_Integer) ?_
  intro p e s m below meth cod T X hx hZ hby hml hown hnm hret hlk eT0
  have hown : s.vm.findClass "java/lang/Integer" = some m.cls := hown
  have hnm : meth.name = "valueOf" := hnm
  have N0 := Fr.nil n0
  have Kp := Keep.refl h0 []
  refine Goes.cast (ef_4 m i) ?_
  show Goes p e below _ T (mkF m 0 #[.val (.int i)] [])
  refine Goes.of (fun _ => XS.iloadN X.here hx rfl (hb hby d4_0) rfl) ?_
  show Goes p e below _ T (mkF m 1 #[.val (.int i)] [(.int i)])
  refine Goes.of (fun _ => XS.bipush X.here hx rfl (hb hby d4_1)) ?_
  show Goes p e below _ T (mkF m 3 #[.val (.int i)] [(.int (-128 : Int32)), (.int i)])
  by_cases hpc3 : i < (-128 : Int32)
  · refine Goes.of (fun _ => XS.icmpYes X.here hx rfl (pc0 := 3) (pc' := 23) rfl (hb hby d4_3) rfl (tlt hpc3).1 (by decide) (by decide)) ?_
    show Goes p e below _ T (mkF m 23 #[.val (.int i)] [])
    refine goNew X hx hZ hown (hw _ (List.mem_of_getElem? (i := 33) rfl)) (hw _ (List.mem_of_getElem? (i := 34) rfl)) (hw _ (List.mem_of_getElem? (i := 31) rfl)) eT0 (g := (mkF m 23 #[.val (.int i)] [])) rfl (hb hby d4_23) (by decide) (by decide) ?_
    intro T1 h1 b1 X1 eT1 E1 hb1 A1 D1
    have g_b1 : n0 ≤ b1 := Nat.le_trans (oldLe O0) hb1
    have sz_b1 : h0.size ≤ b1 := Nat.le_trans Kp.1 hb1
    have Kp := Kp.ext E1
    have O0 := O0.ext E1
    have F1_value : Fld Z h1 b1 "java/lang/Integer" "value" "I" (.int (0 : Int32)) := D1 (Or.inr (hw _ (List.mem_of_getElem? (i := 47) rfl))) (ty := .int) (by decide)
    show Goes p e below _ T1 (mkF m 26 #[.val (.int i)] [(.ref b1)])
    refine Goes.of (fun _ => XS.dup X1.here hx rfl (hb hby d4_26) rfl rfl) ?_
    show Goes p e below _ T1 (mkF m 27 #[.val (.int i)] [(.ref b1), (.ref b1)])
    refine Goes.of (fun _ => XS.iloadN X1.here hx rfl (hb hby d4_27) rfl) ?_
    show Goes p e below _ T1 (mkF m 28 #[.val (.int i)] [(.int i), (.ref b1), (.ref b1)])
    refine goSpecial 1 X1 hx hZ rfl hown (hw _ (List.mem_of_getElem? (i := 35) rfl)) (hw _ (List.mem_of_getElem? (i := 36) rfl)) (hw _ (List.mem_of_getElem? (i := 31) rfl)) (hw _ (List.mem_of_getElem? (i := 38) rfl)) (by decide) (rm_intinit l Z a0 hw b1 i h1 n0 O0 g_b1 A1 F1_value) eT1 (g := (mkF m 28 #[.val (.int i)] [(.int i), (.ref b1), (.ref b1)])) rfl (by rw [hml]; rfl) b1 [(.int i)] [(.ref b1)] (lenOf pd__I_V rfl) rfl rfl (by show 2 * 0 + _ ≤ _; exact Nat.le_of_eq rfl) (hb hby d4_28) (by decide) (by decide) (by decide) (by decide) ?_
    intro v2 T2 L2 X2 q2
    obtain ⟨rfl, Nq2, Kq2⟩ := q2
    have N2 := Fr.app N0 Nq2
    have A1 := A1.keep Kq2
    have Kp := Kp.trans Kq2 (allS (Or.inr sz_b1) all0)
    have O0 := O0.keep Kq2 (allS g_b1 all0)
    show Goes p e below _ T2 (mkF m 31 #[.val (.int i)] [(.ref b1)])
    exact retRef X2 hx hret hlk rfl rfl (hb hby d4_31) (rfl : T2.heap = _) (by decide) (by decide) ⟨b1, rfl, N2, Kp, A1⟩
  · refine Goes.of (fun _ => XS.icmpNo X.here hx rfl (hb hby d4_3) rfl (flt hpc3).1) ?_
    show Goes p e below _ T (mkF m 6 #[.val (.int i)] [])
    refine Goes.of (fun _ => XS.iloadN X.here hx rfl (hb hby d4_6) rfl) ?_
    show Goes p e below _ T (mkF m 7 #[.val (.int i)] [(.int i)])
    refine goGetS X hx hZ hown (host := "") (Or.inl (hw _ (List.mem_of_getElem? (i := 51) rfl))) Via.refl eT0 (IC0.1.ext O0.2) (g := (mkF m 7 #[.val (.int i)] [(.int i)])) rfl (hb hby d4_7) ?_
    intro T3 X3 eT3
    show Goes p e below _ T3 (mkF m 10 #[.val (.int i)] [(.int (127 : Int32)), (.int i)])
    by_cases hpc10 : (127 : Int32) < i
    · refine Goes.of (fun _ => XS.icmpYes X3.here hx rfl (pc0 := 10) (pc' := 23) rfl (hb hby d4_10) rfl (tlt hpc10).2.2.1 (by decide) (by decide)) ?_
      show Goes p e below _ T3 (mkF m 23 #[.val (.int i)] [])
      refine goNew X3 hx hZ hown (hw _ (List.mem_of_getElem? (i := 33) rfl)) (hw _ (List.mem_of_getElem? (i := 34) rfl)) (hw _ (List.mem_of_getElem? (i := 31) rfl)) eT3 (g := (mkF m 23 #[.val (.int i)] [])) rfl (hb hby d4_23) (by decide) (by decide) ?_
      intro T4 h4 b4 X4 eT4 E4 hb4 A4 D4
      have g_b4 : n0 ≤ b4 := Nat.le_trans (oldLe O0) hb4
      have sz_b4 : h0.size ≤ b4 := Nat.le_trans Kp.1 hb4
      have Kp := Kp.ext E4
      have O0 := O0.ext E4
      have F4_value : Fld Z h4 b4 "java/lang/Integer" "value" "I" (.int (0 : Int32)) := D4 (Or.inr (hw _ (List.mem_of_getElem? (i := 47) rfl))) (ty := .int) (by decide)
      show Goes p e below _ T4 (mkF m 26 #[.val (.int i)] [(.ref b4)])
      refine Goes.of (fun _ => XS.dup X4.here hx rfl (hb hby d4_26) rfl rfl) ?_
      show Goes p e below _ T4 (mkF m 27 #[.val (.int i)] [(.ref b4), (.ref b4)])
      refine Goes.of (fun _ => XS.iloadN X4.here hx rfl (hb hby d4_27) rfl) ?_
      show Goes p e below _ T4 (mkF m 28 #[.val (.int i)] [(.int i), (.ref b4), (.ref b4)])
      refine goSpecial 1 X4 hx hZ rfl hown (hw _ (List.mem_of_getElem? (i := 35) rfl)) (hw _ (List.mem_of_getElem? (i := 36) rfl)) (hw _ (List.mem_of_getElem? (i := 31) rfl)) (hw _ (List.mem_of_getElem? (i := 38) rfl)) (by decide) (rm_intinit l Z a0 hw b4 i h4 n0 O0 g_b4 A4 F4_value) eT4 (g := (mkF m 28 #[.val (.int i)] [(.int i), (.ref b4), (.ref b4)])) rfl (by rw [hml]; rfl) b4 [(.int i)] [(.ref b4)] (lenOf pd__I_V rfl) rfl rfl (by show 2 * 0 + _ ≤ _; exact Nat.le_of_eq rfl) (hb hby d4_28) (by decide) (by decide) (by decide) (by decide) ?_
      intro v5 T5 L5 X5 q5
      obtain ⟨rfl, Nq5, Kq5⟩ := q5
      have N5 := Fr.app N0 Nq5
      have A4 := A4.keep Kq5
      have Kp := Kp.trans Kq5 (allS (Or.inr sz_b4) all0)
      have O0 := O0.keep Kq5 (allS g_b4 all0)
      show Goes p e below _ T5 (mkF m 31 #[.val (.int i)] [(.ref b4)])
      exact retRef X5 hx hret hlk rfl rfl (hb hby d4_31) (rfl : T5.heap = _) (by decide) (by decide) ⟨b4, rfl, N5, Kp, A4⟩
    · refine Goes.of (fun _ => XS.icmpNo X3.here hx rfl (hb hby d4_10) rfl (flt hpc10).2.2.1) ?_
      show Goes p e below _ T3 (mkF m 13 #[.val (.int i)] [])
      refine goGetS X3 hx hZ hown (host := "") (Or.inl (hw _ (List.mem_of_getElem? (i := 53) rfl))) Via.refl eT3 (IC0.2.1.ext O0.2) (g := (mkF m 13 #[.val (.int i)] [])) rfl (hb hby d4_13) ?_
      intro T6 X6 eT6
      show Goes p e below _ T6 (mkF m 16 #[.val (.int i)] [(.ref ca)])
      refine Goes.of (fun _ => XS.iloadN X6.here hx rfl (hb hby d4_16) rfl) ?_
      show Goes p e below _ T6 (mkF m 17 #[.val (.int i)] [(.int i), (.ref ca)])
      refine Goes.of (fun _ => XS.sipush X6.here hx rfl (hb hby d4_17)) ?_
      show Goes p e below _ T6 (mkF m 20 #[.val (.int i)] [(.int (128 : Int32)), (.int i), (.ref ca)])
      refine Goes.of (fun _ => XS.iadd X6.here hx rfl (hb hby d4_20) rfl) ?_
      show Goes p e below _ T6 (mkF m 21 #[.val (.int i)] [(.int (i + (128 : Int32))), (.ref ca)])
      obtain ⟨hin, hlt⟩ := Jvm.Free.IntBox.place_ok i hpc3 hpc10
      obtain ⟨bc, hbc, Ebc⟩ := IC0.2.2.2.2 _ hlt
      refine Goes.of (X6.aaload hx (v := .ref bc) (by rw [eT6]; exact (IC0.2.2.1.ext O0.2).1) (State.isArrayOf_alike hZ.alike IC0.2.2.1.2.1) rfl IC0.2.2.1.2.2 (by rw [IC0.2.2.2.1]; exact hin) hbc (g := (mkF m 21 #[.val (.int i)] [(.int (i + (128 : Int32))), (.ref ca)])) rfl rfl (hb hby d4_21)) ?_
      show Goes p e below _ T6 (mkF m 22 #[.val (.int i)] [(.ref bc)])
      exact retRef X6 hx hret hlk rfl rfl (hb hby d4_22) eT6 (by decide) (by decide) ⟨bc, rfl, N0, Kp, (Ebc.ext O0.2)⟩
set_option maxRecDepth 65536 in
set_option maxHeartbeats 40000000 in
theorem rm_init (l : Launch) (Z : State) (a0 : Array Value) (hw : ∀ d ∈ tables_1, d.before a0 Z = true) (a : Addr) (x0 x1 x2 x3 x4 x5 : Int32) (h0 : Heap) (n0 : Nat) (O0 : Old Z n0 h0) (g_a : n0 ≤ a) (Ex : Exa Z h0 a "com/example/casement/casement/graphics/CharMetrics") (F0 : Fld Z h0 a "com/example/casement/casement/graphics/CharMetrics" "leftSideBearing" "I" (.int (0 : Int32))) (F1 : Fld Z h0 a "com/example/casement/casement/graphics/CharMetrics" "rightSideBearing" "I" (.int (0 : Int32))) (F2 : Fld Z h0 a "com/example/casement/casement/graphics/CharMetrics" "characterWidth" "I" (.int (0 : Int32))) (F3 : Fld Z h0 a "com/example/casement/casement/graphics/CharMetrics" "ascent" "I" (.int (0 : Int32))) (F4 : Fld Z h0 a "com/example/casement/casement/graphics/CharMetrics" "descent" "I" (.int (0 : Int32))) (F5 : Fld Z h0 a "com/example/casement/casement/graphics/CharMetrics" "attributes" "I" (.int (0 : Int32))) :
    Rm l (⟨"com/example/casement/casement/graphics/CharMetrics", "<init>", "(IIIIII)V"⟩ : MethodName) prog_7_method_1_code 7 none ({ frames := 1, cells := 0, slots := 0, locals := 12 } : Room) [] Z #[(.ref a), (.int x0), (.int x1), (.int x2), (.int x3), (.int x4), (.int x5)] h0 (fun v h L => v = none ∧ Fr n0 L ∧ Keep h0 h [a] ∧ Fld Z h a "com/example/casement/casement/graphics/CharMetrics" "leftSideBearing" "I" (.int x0) ∧ Fld Z h a "com/example/casement/casement/graphics/CharMetrics" "rightSideBearing" "I" (.int x1) ∧ Fld Z h a "com/example/casement/casement/graphics/CharMetrics" "characterWidth" "I" (.int x2) ∧ Fld Z h a "com/example/casement/casement/graphics/CharMetrics" "ascent" "I" (.int x3) ∧ Fld Z h a "com/example/casement/casement/graphics/CharMetrics" "descent" "I" (.int x4) ∧ Fld Z h a "com/example/casement/casement/graphics/CharMetrics" "attributes" "I" (.int x5)) := by
  refine Rm.of (plainFor_of_name pn_com_example_casement_casement_graphics_CharMetrics) ?_
  intro p e s m below meth cod T X hx hZ hby hml hown hnm hret hlk eT0
  have hown : s.vm.findClass "com/example/casement/casement/graphics/CharMetrics" = some m.cls := hown
  have hnm : meth.name = "<init>" := hnm
  have N0 := Fr.nil n0
  have Kp := Keep.refl h0 [a]
  refine Goes.cast (ef_1 m a x0 x1 x2 x3 x4 x5) ?_
  show Goes p e below _ T (mkF m 0 #[.val (.ref a), .val (.int x0), .val (.int x1), .val (.int x2), .val (.int x3), .val (.int x4), .val (.int x5)] [])
  refine Goes.of (fun _ => XS.aloadN X.here hx rfl (hb hby d1_0) rfl rfl) ?_
  show Goes p e below _ T (mkF m 1 #[.val (.ref a), .val (.int x0), .val (.int x1), .val (.int x2), .val (.int x3), .val (.int x4), .val (.int x5)] [(.ref a)])
  refine goInitO 0 X hx hZ hown (hw _ (List.mem_of_getElem? (i := 7) rfl)) (hw _ (List.mem_of_getElem? (i := 8) rfl)) (hw _ (List.mem_of_getElem? (i := 9) rfl)) eT0 (g := (mkF m 1 #[.val (.ref a), .val (.int x0), .val (.int x1), .val (.int x2), .val (.int x3), .val (.int x4), .val (.int x5)] [(.ref a)])) rfl (by rw [hml]; rfl) rfl (hb hby d1_1) (by decide) (by show 2 * 0 + _ ≤ _; exact Nat.le_of_eq rfl) (by decide) ?_
  intro T1 X1 eT1
  show Goes p e below _ T1 (mkF m 4 #[.val (.ref a), .val (.int x0), .val (.int x1), .val (.int x2), .val (.int x3), .val (.int x4), .val (.int x5)] [])
  refine Goes.of (fun _ => XS.aloadN X1.here hx rfl (hb hby d1_4) rfl rfl) ?_
  show Goes p e below _ T1 (mkF m 5 #[.val (.ref a), .val (.int x0), .val (.int x1), .val (.int x2), .val (.int x3), .val (.int x4), .val (.int x5)] [(.ref a)])
  refine Goes.of (fun _ => XS.iloadN X1.here hx rfl (hb hby d1_5) rfl) ?_
  show Goes p e below _ T1 (mkF m 6 #[.val (.ref a), .val (.int x0), .val (.int x1), .val (.int x2), .val (.int x3), .val (.int x4), .val (.int x5)] [(.int x0), (.ref a)])
  refine goPut (ty := .int) X1 hx hZ hown (host := "") (Or.inl (hw _ (List.mem_of_getElem? (i := 10) rfl))) Via.refl eT1 F0 Ex (Or.inr ⟨(hw _ (List.mem_of_getElem? (i := 11) rfl)), rfl, hnm⟩) (hw _ (List.mem_of_getElem? (i := 2) rfl)) (by decide) rfl rfl (g := (mkF m 6 #[.val (.ref a), .val (.int x0), .val (.int x1), .val (.int x2), .val (.int x3), .val (.int x4), .val (.int x5)] [(.int x0), (.ref a)])) rfl rfl (hb hby d1_6) ?_
  intro T2 h2 X2 eT2 W2
  have F0 := Fld.same W2 F0
  have N2 := Fr.snoc X2 N0 g_a
  have Ex := Ex.wr W2
  have F1 := F1.other W2 (Or.inr (slot_ne (Or.inr (hw _ (List.mem_of_getElem? (i := 13) rfl))) (Or.inr (hw _ (List.mem_of_getElem? (i := 11) rfl))) (by decide) (t := .int) (t' := .int) (by decide) (by decide)))
  have F2 := F2.other W2 (Or.inr (slot_ne (Or.inr (hw _ (List.mem_of_getElem? (i := 15) rfl))) (Or.inr (hw _ (List.mem_of_getElem? (i := 11) rfl))) (by decide) (t := .int) (t' := .int) (by decide) (by decide)))
  have F3 := F3.other W2 (Or.inr (slot_ne (Or.inr (hw _ (List.mem_of_getElem? (i := 17) rfl))) (Or.inr (hw _ (List.mem_of_getElem? (i := 11) rfl))) (by decide) (t := .int) (t' := .int) (by decide) (by decide)))
  have F4 := F4.other W2 (Or.inr (slot_ne (Or.inr (hw _ (List.mem_of_getElem? (i := 19) rfl))) (Or.inr (hw _ (List.mem_of_getElem? (i := 11) rfl))) (by decide) (t := .int) (t' := .int) (by decide) (by decide)))
  have F5 := F5.other W2 (Or.inr (slot_ne (Or.inr (hw _ (List.mem_of_getElem? (i := 21) rfl))) (Or.inr (hw _ (List.mem_of_getElem? (i := 11) rfl))) (by decide) (t := .int) (t' := .int) (by decide) (by decide)))
  have Kp := Kp.wr W2 (Or.inl (List.mem_of_getElem? (i := 0) rfl))
  have O0 := O0.wr W2 g_a
  show Goes p e below _ T2 (mkF m 9 #[.val (.ref a), .val (.int x0), .val (.int x1), .val (.int x2), .val (.int x3), .val (.int x4), .val (.int x5)] [])
  refine Goes.of (fun _ => XS.aloadN X2.here hx rfl (hb hby d1_9) rfl rfl) ?_
  show Goes p e below _ T2 (mkF m 10 #[.val (.ref a), .val (.int x0), .val (.int x1), .val (.int x2), .val (.int x3), .val (.int x4), .val (.int x5)] [(.ref a)])
  refine Goes.of (fun _ => XS.iloadN X2.here hx rfl (hb hby d1_10) rfl) ?_
  show Goes p e below _ T2 (mkF m 11 #[.val (.ref a), .val (.int x0), .val (.int x1), .val (.int x2), .val (.int x3), .val (.int x4), .val (.int x5)] [(.int x1), (.ref a)])
  refine goPut (ty := .int) X2 hx hZ hown (host := "") (Or.inl (hw _ (List.mem_of_getElem? (i := 12) rfl))) Via.refl eT2 F1 Ex (Or.inr ⟨(hw _ (List.mem_of_getElem? (i := 13) rfl)), rfl, hnm⟩) (hw _ (List.mem_of_getElem? (i := 2) rfl)) (by decide) rfl rfl (g := (mkF m 11 #[.val (.ref a), .val (.int x0), .val (.int x1), .val (.int x2), .val (.int x3), .val (.int x4), .val (.int x5)] [(.int x1), (.ref a)])) rfl rfl (hb hby d1_11) ?_
  intro T3 h3 X3 eT3 W3
  have F1 := Fld.same W3 F1
  have N3 := Fr.snoc X3 N2 g_a
  have Ex := Ex.wr W3
  have F0 := F0.other W3 (Or.inr (slot_ne (Or.inr (hw _ (List.mem_of_getElem? (i := 11) rfl))) (Or.inr (hw _ (List.mem_of_getElem? (i := 13) rfl))) (by decide) (t := .int) (t' := .int) (by decide) (by decide)))
  have F2 := F2.other W3 (Or.inr (slot_ne (Or.inr (hw _ (List.mem_of_getElem? (i := 15) rfl))) (Or.inr (hw _ (List.mem_of_getElem? (i := 13) rfl))) (by decide) (t := .int) (t' := .int) (by decide) (by decide)))
  have F3 := F3.other W3 (Or.inr (slot_ne (Or.inr (hw _ (List.mem_of_getElem? (i := 17) rfl))) (Or.inr (hw _ (List.mem_of_getElem? (i := 13) rfl))) (by decide) (t := .int) (t' := .int) (by decide) (by decide)))
  have F4 := F4.other W3 (Or.inr (slot_ne (Or.inr (hw _ (List.mem_of_getElem? (i := 19) rfl))) (Or.inr (hw _ (List.mem_of_getElem? (i := 13) rfl))) (by decide) (t := .int) (t' := .int) (by decide) (by decide)))
  have F5 := F5.other W3 (Or.inr (slot_ne (Or.inr (hw _ (List.mem_of_getElem? (i := 21) rfl))) (Or.inr (hw _ (List.mem_of_getElem? (i := 13) rfl))) (by decide) (t := .int) (t' := .int) (by decide) (by decide)))
  have Kp := Kp.wr W3 (Or.inl (List.mem_of_getElem? (i := 0) rfl))
  have O0 := O0.wr W3 g_a
  show Goes p e below _ T3 (mkF m 14 #[.val (.ref a), .val (.int x0), .val (.int x1), .val (.int x2), .val (.int x3), .val (.int x4), .val (.int x5)] [])
  refine Goes.of (fun _ => XS.aloadN X3.here hx rfl (hb hby d1_14) rfl rfl) ?_
  show Goes p e below _ T3 (mkF m 15 #[.val (.ref a), .val (.int x0), .val (.int x1), .val (.int x2), .val (.int x3), .val (.int x4), .val (.int x5)] [(.ref a)])
  refine Goes.of (fun _ => XS.iloadN X3.here hx rfl (hb hby d1_15) rfl) ?_
  show Goes p e below _ T3 (mkF m 16 #[.val (.ref a), .val (.int x0), .val (.int x1), .val (.int x2), .val (.int x3), .val (.int x4), .val (.int x5)] [(.int x2), (.ref a)])
  refine goPut (ty := .int) X3 hx hZ hown (host := "") (Or.inl (hw _ (List.mem_of_getElem? (i := 14) rfl))) Via.refl eT3 F2 Ex (Or.inr ⟨(hw _ (List.mem_of_getElem? (i := 15) rfl)), rfl, hnm⟩) (hw _ (List.mem_of_getElem? (i := 2) rfl)) (by decide) rfl rfl (g := (mkF m 16 #[.val (.ref a), .val (.int x0), .val (.int x1), .val (.int x2), .val (.int x3), .val (.int x4), .val (.int x5)] [(.int x2), (.ref a)])) rfl rfl (hb hby d1_16) ?_
  intro T4 h4 X4 eT4 W4
  have F2 := Fld.same W4 F2
  have N4 := Fr.snoc X4 N3 g_a
  have Ex := Ex.wr W4
  have F0 := F0.other W4 (Or.inr (slot_ne (Or.inr (hw _ (List.mem_of_getElem? (i := 11) rfl))) (Or.inr (hw _ (List.mem_of_getElem? (i := 15) rfl))) (by decide) (t := .int) (t' := .int) (by decide) (by decide)))
  have F1 := F1.other W4 (Or.inr (slot_ne (Or.inr (hw _ (List.mem_of_getElem? (i := 13) rfl))) (Or.inr (hw _ (List.mem_of_getElem? (i := 15) rfl))) (by decide) (t := .int) (t' := .int) (by decide) (by decide)))
  have F3 := F3.other W4 (Or.inr (slot_ne (Or.inr (hw _ (List.mem_of_getElem? (i := 17) rfl))) (Or.inr (hw _ (List.mem_of_getElem? (i := 15) rfl))) (by decide) (t := .int) (t' := .int) (by decide) (by decide)))
  have F4 := F4.other W4 (Or.inr (slot_ne (Or.inr (hw _ (List.mem_of_getElem? (i := 19) rfl))) (Or.inr (hw _ (List.mem_of_getElem? (i := 15) rfl))) (by decide) (t := .int) (t' := .int) (by decide) (by decide)))
  have F5 := F5.other W4 (Or.inr (slot_ne (Or.inr (hw _ (List.mem_of_getElem? (i := 21) rfl))) (Or.inr (hw _ (List.mem_of_getElem? (i := 15) rfl))) (by decide) (t := .int) (t' := .int) (by decide) (by decide)))
  have Kp := Kp.wr W4 (Or.inl (List.mem_of_getElem? (i := 0) rfl))
  have O0 := O0.wr W4 g_a
  show Goes p e below _ T4 (mkF m 19 #[.val (.ref a), .val (.int x0), .val (.int x1), .val (.int x2), .val (.int x3), .val (.int x4), .val (.int x5)] [])
  refine Goes.of (fun _ => XS.aloadN X4.here hx rfl (hb hby d1_19) rfl rfl) ?_
  show Goes p e below _ T4 (mkF m 20 #[.val (.ref a), .val (.int x0), .val (.int x1), .val (.int x2), .val (.int x3), .val (.int x4), .val (.int x5)] [(.ref a)])
  refine Goes.of (fun _ => XS.iload X4.here hx rfl (hb hby d1_20) rfl) ?_
  show Goes p e below _ T4 (mkF m 22 #[.val (.ref a), .val (.int x0), .val (.int x1), .val (.int x2), .val (.int x3), .val (.int x4), .val (.int x5)] [(.int x3), (.ref a)])
  refine goPut (ty := .int) X4 hx hZ hown (host := "") (Or.inl (hw _ (List.mem_of_getElem? (i := 16) rfl))) Via.refl eT4 F3 Ex (Or.inr ⟨(hw _ (List.mem_of_getElem? (i := 17) rfl)), rfl, hnm⟩) (hw _ (List.mem_of_getElem? (i := 2) rfl)) (by decide) rfl rfl (g := (mkF m 22 #[.val (.ref a), .val (.int x0), .val (.int x1), .val (.int x2), .val (.int x3), .val (.int x4), .val (.int x5)] [(.int x3), (.ref a)])) rfl rfl (hb hby d1_22) ?_
  intro T5 h5 X5 eT5 W5
  have F3 := Fld.same W5 F3
  have N5 := Fr.snoc X5 N4 g_a
  have Ex := Ex.wr W5
  have F0 := F0.other W5 (Or.inr (slot_ne (Or.inr (hw _ (List.mem_of_getElem? (i := 11) rfl))) (Or.inr (hw _ (List.mem_of_getElem? (i := 17) rfl))) (by decide) (t := .int) (t' := .int) (by decide) (by decide)))
  have F1 := F1.other W5 (Or.inr (slot_ne (Or.inr (hw _ (List.mem_of_getElem? (i := 13) rfl))) (Or.inr (hw _ (List.mem_of_getElem? (i := 17) rfl))) (by decide) (t := .int) (t' := .int) (by decide) (by decide)))
  have F2 := F2.other W5 (Or.inr (slot_ne (Or.inr (hw _ (List.mem_of_getElem? (i := 15) rfl))) (Or.inr (hw _ (List.mem_of_getElem? (i := 17) rfl))) (by decide) (t := .int) (t' := .int) (by decide) (by decide)))
  have F4 := F4.other W5 (Or.inr (slot_ne (Or.inr (hw _ (List.mem_of_getElem? (i := 19) rfl))) (Or.inr (hw _ (List.mem_of_getElem? (i := 17) rfl))) (by decide) (t := .int) (t' := .int) (by decide) (by decide)))
  have F5 := F5.other W5 (Or.inr (slot_ne (Or.inr (hw _ (List.mem_of_getElem? (i := 21) rfl))) (Or.inr (hw _ (List.mem_of_getElem? (i := 17) rfl))) (by decide) (t := .int) (t' := .int) (by decide) (by decide)))
  have Kp := Kp.wr W5 (Or.inl (List.mem_of_getElem? (i := 0) rfl))
  have O0 := O0.wr W5 g_a
  show Goes p e below _ T5 (mkF m 25 #[.val (.ref a), .val (.int x0), .val (.int x1), .val (.int x2), .val (.int x3), .val (.int x4), .val (.int x5)] [])
  refine Goes.of (fun _ => XS.aloadN X5.here hx rfl (hb hby d1_25) rfl rfl) ?_
  show Goes p e below _ T5 (mkF m 26 #[.val (.ref a), .val (.int x0), .val (.int x1), .val (.int x2), .val (.int x3), .val (.int x4), .val (.int x5)] [(.ref a)])
  refine Goes.of (fun _ => XS.iload X5.here hx rfl (hb hby d1_26) rfl) ?_
  show Goes p e below _ T5 (mkF m 28 #[.val (.ref a), .val (.int x0), .val (.int x1), .val (.int x2), .val (.int x3), .val (.int x4), .val (.int x5)] [(.int x4), (.ref a)])
  refine goPut (ty := .int) X5 hx hZ hown (host := "") (Or.inl (hw _ (List.mem_of_getElem? (i := 18) rfl))) Via.refl eT5 F4 Ex (Or.inr ⟨(hw _ (List.mem_of_getElem? (i := 19) rfl)), rfl, hnm⟩) (hw _ (List.mem_of_getElem? (i := 2) rfl)) (by decide) rfl rfl (g := (mkF m 28 #[.val (.ref a), .val (.int x0), .val (.int x1), .val (.int x2), .val (.int x3), .val (.int x4), .val (.int x5)] [(.int x4), (.ref a)])) rfl rfl (hb hby d1_28) ?_
  intro T6 h6 X6 eT6 W6
  have F4 := Fld.same W6 F4
  have N6 := Fr.snoc X6 N5 g_a
  have Ex := Ex.wr W6
  have F0 := F0.other W6 (Or.inr (slot_ne (Or.inr (hw _ (List.mem_of_getElem? (i := 11) rfl))) (Or.inr (hw _ (List.mem_of_getElem? (i := 19) rfl))) (by decide) (t := .int) (t' := .int) (by decide) (by decide)))
  have F1 := F1.other W6 (Or.inr (slot_ne (Or.inr (hw _ (List.mem_of_getElem? (i := 13) rfl))) (Or.inr (hw _ (List.mem_of_getElem? (i := 19) rfl))) (by decide) (t := .int) (t' := .int) (by decide) (by decide)))
  have F2 := F2.other W6 (Or.inr (slot_ne (Or.inr (hw _ (List.mem_of_getElem? (i := 15) rfl))) (Or.inr (hw _ (List.mem_of_getElem? (i := 19) rfl))) (by decide) (t := .int) (t' := .int) (by decide) (by decide)))
  have F3 := F3.other W6 (Or.inr (slot_ne (Or.inr (hw _ (List.mem_of_getElem? (i := 17) rfl))) (Or.inr (hw _ (List.mem_of_getElem? (i := 19) rfl))) (by decide) (t := .int) (t' := .int) (by decide) (by decide)))
  have F5 := F5.other W6 (Or.inr (slot_ne (Or.inr (hw _ (List.mem_of_getElem? (i := 21) rfl))) (Or.inr (hw _ (List.mem_of_getElem? (i := 19) rfl))) (by decide) (t := .int) (t' := .int) (by decide) (by decide)))
  have Kp := Kp.wr W6 (Or.inl (List.mem_of_getElem? (i := 0) rfl))
  have O0 := O0.wr W6 g_a
  show Goes p e below _ T6 (mkF m 31 #[.val (.ref a), .val (.int x0), .val (.int x1), .val (.int x2), .val (.int x3), .val (.int x4), .val (.int x5)] [])
  refine Goes.of (fun _ => XS.aloadN X6.here hx rfl (hb hby d1_31) rfl rfl) ?_
  show Goes p e below _ T6 (mkF m 32 #[.val (.ref a), .val (.int x0), .val (.int x1), .val (.int x2), .val (.int x3), .val (.int x4), .val (.int x5)] [(.ref a)])
  refine Goes.of (fun _ => XS.iload X6.here hx rfl (hb hby d1_32) rfl) ?_
  show Goes p e below _ T6 (mkF m 34 #[.val (.ref a), .val (.int x0), .val (.int x1), .val (.int x2), .val (.int x3), .val (.int x4), .val (.int x5)] [(.int x5), (.ref a)])
  refine goPut (ty := .int) X6 hx hZ hown (host := "") (Or.inl (hw _ (List.mem_of_getElem? (i := 20) rfl))) Via.refl eT6 F5 Ex (Or.inr ⟨(hw _ (List.mem_of_getElem? (i := 21) rfl)), rfl, hnm⟩) (hw _ (List.mem_of_getElem? (i := 2) rfl)) (by decide) rfl rfl (g := (mkF m 34 #[.val (.ref a), .val (.int x0), .val (.int x1), .val (.int x2), .val (.int x3), .val (.int x4), .val (.int x5)] [(.int x5), (.ref a)])) rfl rfl (hb hby d1_34) ?_
  intro T7 h7 X7 eT7 W7
  have F5 := Fld.same W7 F5
  have N7 := Fr.snoc X7 N6 g_a
  have Ex := Ex.wr W7
  have F0 := F0.other W7 (Or.inr (slot_ne (Or.inr (hw _ (List.mem_of_getElem? (i := 11) rfl))) (Or.inr (hw _ (List.mem_of_getElem? (i := 21) rfl))) (by decide) (t := .int) (t' := .int) (by decide) (by decide)))
  have F1 := F1.other W7 (Or.inr (slot_ne (Or.inr (hw _ (List.mem_of_getElem? (i := 13) rfl))) (Or.inr (hw _ (List.mem_of_getElem? (i := 21) rfl))) (by decide) (t := .int) (t' := .int) (by decide) (by decide)))
  have F2 := F2.other W7 (Or.inr (slot_ne (Or.inr (hw _ (List.mem_of_getElem? (i := 15) rfl))) (Or.inr (hw _ (List.mem_of_getElem? (i := 21) rfl))) (by decide) (t := .int) (t' := .int) (by decide) (by decide)))
  have F3 := F3.other W7 (Or.inr (slot_ne (Or.inr (hw _ (List.mem_of_getElem? (i := 17) rfl))) (Or.inr (hw _ (List.mem_of_getElem? (i := 21) rfl))) (by decide) (t := .int) (t' := .int) (by decide) (by decide)))
  have F4 := F4.other W7 (Or.inr (slot_ne (Or.inr (hw _ (List.mem_of_getElem? (i := 19) rfl))) (Or.inr (hw _ (List.mem_of_getElem? (i := 21) rfl))) (by decide) (t := .int) (t' := .int) (by decide) (by decide)))
  have Kp := Kp.wr W7 (Or.inl (List.mem_of_getElem? (i := 0) rfl))
  have O0 := O0.wr W7 g_a
  show Goes p e below _ T7 (mkF m 37 #[.val (.ref a), .val (.int x0), .val (.int x1), .val (.int x2), .val (.int x3), .val (.int x4), .val (.int x5)] [])
  exact retVoid X7 hx hret hlk (hb hby d1_37) eT7 (by decide) (by decide) ⟨rfl, N7, Kp, F0, F1, F2, F3, F4, F5⟩
set_option maxRecDepth 65536 in
set_option maxHeartbeats 40000000 in
theorem rm_eq (l : Launch) (Z : State) (a0 : Array Value) (hw : ∀ d ∈ tables_1, d.before a0 Z = true) (a b : Addr) (x0 x1 x2 x3 x4 x5 y0 y1 y2 y3 y4 y5 : Int32) (h0 : Heap) (n0 : Nat) (O0 : Old Z n0 h0) (Eb : Exa Z h0 b "com/example/casement/casement/graphics/CharMetrics") (F0 : Fld Z h0 a "com/example/casement/casement/graphics/CharMetrics" "leftSideBearing" "I" (.int x0)) (F1 : Fld Z h0 a "com/example/casement/casement/graphics/CharMetrics" "rightSideBearing" "I" (.int x1)) (F2 : Fld Z h0 a "com/example/casement/casement/graphics/CharMetrics" "characterWidth" "I" (.int x2)) (F3 : Fld Z h0 a "com/example/casement/casement/graphics/CharMetrics" "ascent" "I" (.int x3)) (F4 : Fld Z h0 a "com/example/casement/casement/graphics/CharMetrics" "descent" "I" (.int x4)) (F5 : Fld Z h0 a "com/example/casement/casement/graphics/CharMetrics" "attributes" "I" (.int x5)) (G0 : Fld Z h0 b "com/example/casement/casement/graphics/CharMetrics" "leftSideBearing" "I" (.int y0)) (G1 : Fld Z h0 b "com/example/casement/casement/graphics/CharMetrics" "rightSideBearing" "I" (.int y1)) (G2 : Fld Z h0 b "com/example/casement/casement/graphics/CharMetrics" "characterWidth" "I" (.int y2)) (G3 : Fld Z h0 b "com/example/casement/casement/graphics/CharMetrics" "ascent" "I" (.int y3)) (G4 : Fld Z h0 b "com/example/casement/casement/graphics/CharMetrics" "descent" "I" (.int y4)) (G5 : Fld Z h0 b "com/example/casement/casement/graphics/CharMetrics" "attributes" "I" (.int y5)) :
    Rm l (⟨"com/example/casement/casement/graphics/CharMetrics", "equals", "(Ljava/lang/Object;)Z"⟩ : MethodName) prog_7_method_9_code 3 (some .boolean) ({ frames := 0, cells := 0, slots := 0, locals := 0 } : Room) [] Z #[(.ref a), (.ref b)] h0 (fun v h L => v = some (.int (eq6 x0 x1 x2 x3 x4 x5 y0 y1 y2 y3 y4 y5)) ∧ Fr n0 L ∧ h = h0) := by
  refine Rm.of (plainFor_of_name pn_com_example_casement_casement_graphics_CharMetrics) ?_
  intro p e s m below meth cod T X hx hZ hby hml hown hnm hret hlk eT0
  have hown : s.vm.findClass "com/example/casement/casement/graphics/CharMetrics" = some m.cls := hown
  have hnm : meth.name = "equals" := hnm
  have N0 := Fr.nil n0
  refine Goes.cast (ef_3 m a b) ?_
  show Goes p e below _ T (mkF m 0 #[.val (.ref a), .val (.ref b), .unset] [])
  refine Goes.of (fun _ => XS.aloadN X.here hx rfl (hb hby d3_0) rfl rfl) ?_
  show Goes p e below _ T (mkF m 1 #[.val (.ref a), .val (.ref b), .unset] [(.ref b)])
  refine goInstY X hx hZ hown (hw _ (List.mem_of_getElem? (i := 27) rfl)) eT0 (Ins.self Eb) (g := (mkF m 1 #[.val (.ref a), .val (.ref b), .unset] [(.ref b)])) rfl rfl (hb hby d3_1) ?_
  intro T1 X1 eT1
  show Goes p e below _ T1 (mkF m 4 #[.val (.ref a), .val (.ref b), .unset] [(.int (1 : Int32))])
  refine Goes.of (fun _ => XS.ifNo X1.here hx rfl (hb hby d3_4) rfl ((if0 _ _).trans (feq (by decide)).1)) ?_
  show Goes p e below _ T1 (mkF m 7 #[.val (.ref a), .val (.ref b), .unset] [])
  refine Goes.of (fun _ => XS.aloadN X1.here hx rfl (hb hby d3_7) rfl rfl) ?_
  show Goes p e below _ T1 (mkF m 8 #[.val (.ref a), .val (.ref b), .unset] [(.ref b)])
  refine goCast X1 hx hZ hown (hw _ (List.mem_of_getElem? (i := 27) rfl)) eT1 (Ins.self Eb) (g := (mkF m 8 #[.val (.ref a), .val (.ref b), .unset] [(.ref b)])) rfl rfl (hb hby d3_8) ?_
  intro T2 X2 eT2
  show Goes p e below _ T2 (mkF m 11 #[.val (.ref a), .val (.ref b), .unset] [(.ref b)])
  refine Goes.of (fun _ => XS.astoreN X2.here hx rfl (hb hby d3_11) rfl rfl (l' := #[.val (.ref a), .val (.ref b), .val (.ref b)]) rfl) ?_
  show Goes p e below _ T2 (mkF m 12 #[.val (.ref a), .val (.ref b), .val (.ref b)] [])
  refine Goes.of (fun _ => XS.aloadN X2.here hx rfl (hb hby d3_12) rfl rfl) ?_
  show Goes p e below _ T2 (mkF m 13 #[.val (.ref a), .val (.ref b), .val (.ref b)] [(.ref a)])
  refine goGet X2 hx hZ hown (host := "") (Or.inl (hw _ (List.mem_of_getElem? (i := 10) rfl))) Via.refl eT2 F0 (g := (mkF m 13 #[.val (.ref a), .val (.ref b), .val (.ref b)] [(.ref a)])) rfl rfl (hb hby d3_13) ?_
  intro T3 X3 eT3
  show Goes p e below _ T3 (mkF m 16 #[.val (.ref a), .val (.ref b), .val (.ref b)] [(.int x0)])
  refine Goes.of (fun _ => XS.aloadN X3.here hx rfl (hb hby d3_16) rfl rfl) ?_
  show Goes p e below _ T3 (mkF m 17 #[.val (.ref a), .val (.ref b), .val (.ref b)] [(.ref b), (.int x0)])
  refine goGet X3 hx hZ hown (host := "") (Or.inl (hw _ (List.mem_of_getElem? (i := 10) rfl))) Via.refl eT3 G0 (g := (mkF m 17 #[.val (.ref a), .val (.ref b), .val (.ref b)] [(.ref b), (.int x0)])) rfl rfl (hb hby d3_17) ?_
  intro T4 X4 eT4
  show Goes p e below _ T4 (mkF m 20 #[.val (.ref a), .val (.ref b), .val (.ref b)] [(.int y0), (.int x0)])
  by_cases hpc20 : x0 = y0
  · refine Goes.of (fun _ => XS.icmpNo X4.here hx rfl (hb hby d3_20) rfl (teq hpc20).2) ?_
    show Goes p e below _ T4 (mkF m 23 #[.val (.ref a), .val (.ref b), .val (.ref b)] [])
    refine Goes.of (fun _ => XS.aloadN X4.here hx rfl (hb hby d3_23) rfl rfl) ?_
    show Goes p e below _ T4 (mkF m 24 #[.val (.ref a), .val (.ref b), .val (.ref b)] [(.ref a)])
    refine goGet X4 hx hZ hown (host := "") (Or.inl (hw _ (List.mem_of_getElem? (i := 12) rfl))) Via.refl eT4 F1 (g := (mkF m 24 #[.val (.ref a), .val (.ref b), .val (.ref b)] [(.ref a)])) rfl rfl (hb hby d3_24) ?_
    intro T5 X5 eT5
    show Goes p e below _ T5 (mkF m 27 #[.val (.ref a), .val (.ref b), .val (.ref b)] [(.int x1)])
    refine Goes.of (fun _ => XS.aloadN X5.here hx rfl (hb hby d3_27) rfl rfl) ?_
    show Goes p e below _ T5 (mkF m 28 #[.val (.ref a), .val (.ref b), .val (.ref b)] [(.ref b), (.int x1)])
    refine goGet X5 hx hZ hown (host := "") (Or.inl (hw _ (List.mem_of_getElem? (i := 12) rfl))) Via.refl eT5 G1 (g := (mkF m 28 #[.val (.ref a), .val (.ref b), .val (.ref b)] [(.ref b), (.int x1)])) rfl rfl (hb hby d3_28) ?_
    intro T6 X6 eT6
    show Goes p e below _ T6 (mkF m 31 #[.val (.ref a), .val (.ref b), .val (.ref b)] [(.int y1), (.int x1)])
    by_cases hpc31 : x1 = y1
    · refine Goes.of (fun _ => XS.icmpNo X6.here hx rfl (hb hby d3_31) rfl (teq hpc31).2) ?_
      show Goes p e below _ T6 (mkF m 34 #[.val (.ref a), .val (.ref b), .val (.ref b)] [])
      refine Goes.of (fun _ => XS.aloadN X6.here hx rfl (hb hby d3_34) rfl rfl) ?_
      show Goes p e below _ T6 (mkF m 35 #[.val (.ref a), .val (.ref b), .val (.ref b)] [(.ref a)])
      refine goGet X6 hx hZ hown (host := "") (Or.inl (hw _ (List.mem_of_getElem? (i := 14) rfl))) Via.refl eT6 F2 (g := (mkF m 35 #[.val (.ref a), .val (.ref b), .val (.ref b)] [(.ref a)])) rfl rfl (hb hby d3_35) ?_
      intro T7 X7 eT7
      show Goes p e below _ T7 (mkF m 38 #[.val (.ref a), .val (.ref b), .val (.ref b)] [(.int x2)])
      refine Goes.of (fun _ => XS.aloadN X7.here hx rfl (hb hby d3_38) rfl rfl) ?_
      show Goes p e below _ T7 (mkF m 39 #[.val (.ref a), .val (.ref b), .val (.ref b)] [(.ref b), (.int x2)])
      refine goGet X7 hx hZ hown (host := "") (Or.inl (hw _ (List.mem_of_getElem? (i := 14) rfl))) Via.refl eT7 G2 (g := (mkF m 39 #[.val (.ref a), .val (.ref b), .val (.ref b)] [(.ref b), (.int x2)])) rfl rfl (hb hby d3_39) ?_
      intro T8 X8 eT8
      show Goes p e below _ T8 (mkF m 42 #[.val (.ref a), .val (.ref b), .val (.ref b)] [(.int y2), (.int x2)])
      by_cases hpc42 : x2 = y2
      · refine Goes.of (fun _ => XS.icmpNo X8.here hx rfl (hb hby d3_42) rfl (teq hpc42).2) ?_
        show Goes p e below _ T8 (mkF m 45 #[.val (.ref a), .val (.ref b), .val (.ref b)] [])
        refine Goes.of (fun _ => XS.aloadN X8.here hx rfl (hb hby d3_45) rfl rfl) ?_
        show Goes p e below _ T8 (mkF m 46 #[.val (.ref a), .val (.ref b), .val (.ref b)] [(.ref a)])
        refine goGet X8 hx hZ hown (host := "") (Or.inl (hw _ (List.mem_of_getElem? (i := 16) rfl))) Via.refl eT8 F3 (g := (mkF m 46 #[.val (.ref a), .val (.ref b), .val (.ref b)] [(.ref a)])) rfl rfl (hb hby d3_46) ?_
        intro T9 X9 eT9
        show Goes p e below _ T9 (mkF m 49 #[.val (.ref a), .val (.ref b), .val (.ref b)] [(.int x3)])
        refine Goes.of (fun _ => XS.aloadN X9.here hx rfl (hb hby d3_49) rfl rfl) ?_
        show Goes p e below _ T9 (mkF m 50 #[.val (.ref a), .val (.ref b), .val (.ref b)] [(.ref b), (.int x3)])
        refine goGet X9 hx hZ hown (host := "") (Or.inl (hw _ (List.mem_of_getElem? (i := 16) rfl))) Via.refl eT9 G3 (g := (mkF m 50 #[.val (.ref a), .val (.ref b), .val (.ref b)] [(.ref b), (.int x3)])) rfl rfl (hb hby d3_50) ?_
        intro T10 X10 eT10
        show Goes p e below _ T10 (mkF m 53 #[.val (.ref a), .val (.ref b), .val (.ref b)] [(.int y3), (.int x3)])
        by_cases hpc53 : x3 = y3
        · refine Goes.of (fun _ => XS.icmpNo X10.here hx rfl (hb hby d3_53) rfl (teq hpc53).2) ?_
          show Goes p e below _ T10 (mkF m 56 #[.val (.ref a), .val (.ref b), .val (.ref b)] [])
          refine Goes.of (fun _ => XS.aloadN X10.here hx rfl (hb hby d3_56) rfl rfl) ?_
          show Goes p e below _ T10 (mkF m 57 #[.val (.ref a), .val (.ref b), .val (.ref b)] [(.ref a)])
          refine goGet X10 hx hZ hown (host := "") (Or.inl (hw _ (List.mem_of_getElem? (i := 18) rfl))) Via.refl eT10 F4 (g := (mkF m 57 #[.val (.ref a), .val (.ref b), .val (.ref b)] [(.ref a)])) rfl rfl (hb hby d3_57) ?_
          intro T11 X11 eT11
          show Goes p e below _ T11 (mkF m 60 #[.val (.ref a), .val (.ref b), .val (.ref b)] [(.int x4)])
          refine Goes.of (fun _ => XS.aloadN X11.here hx rfl (hb hby d3_60) rfl rfl) ?_
          show Goes p e below _ T11 (mkF m 61 #[.val (.ref a), .val (.ref b), .val (.ref b)] [(.ref b), (.int x4)])
          refine goGet X11 hx hZ hown (host := "") (Or.inl (hw _ (List.mem_of_getElem? (i := 18) rfl))) Via.refl eT11 G4 (g := (mkF m 61 #[.val (.ref a), .val (.ref b), .val (.ref b)] [(.ref b), (.int x4)])) rfl rfl (hb hby d3_61) ?_
          intro T12 X12 eT12
          show Goes p e below _ T12 (mkF m 64 #[.val (.ref a), .val (.ref b), .val (.ref b)] [(.int y4), (.int x4)])
          by_cases hpc64 : x4 = y4
          · refine Goes.of (fun _ => XS.icmpNo X12.here hx rfl (hb hby d3_64) rfl (teq hpc64).2) ?_
            show Goes p e below _ T12 (mkF m 67 #[.val (.ref a), .val (.ref b), .val (.ref b)] [])
            refine Goes.of (fun _ => XS.aloadN X12.here hx rfl (hb hby d3_67) rfl rfl) ?_
            show Goes p e below _ T12 (mkF m 68 #[.val (.ref a), .val (.ref b), .val (.ref b)] [(.ref a)])
            refine goGet X12 hx hZ hown (host := "") (Or.inl (hw _ (List.mem_of_getElem? (i := 20) rfl))) Via.refl eT12 F5 (g := (mkF m 68 #[.val (.ref a), .val (.ref b), .val (.ref b)] [(.ref a)])) rfl rfl (hb hby d3_68) ?_
            intro T13 X13 eT13
            show Goes p e below _ T13 (mkF m 71 #[.val (.ref a), .val (.ref b), .val (.ref b)] [(.int x5)])
            refine Goes.of (fun _ => XS.aloadN X13.here hx rfl (hb hby d3_71) rfl rfl) ?_
            show Goes p e below _ T13 (mkF m 72 #[.val (.ref a), .val (.ref b), .val (.ref b)] [(.ref b), (.int x5)])
            refine goGet X13 hx hZ hown (host := "") (Or.inl (hw _ (List.mem_of_getElem? (i := 20) rfl))) Via.refl eT13 G5 (g := (mkF m 72 #[.val (.ref a), .val (.ref b), .val (.ref b)] [(.ref b), (.int x5)])) rfl rfl (hb hby d3_72) ?_
            intro T14 X14 eT14
            show Goes p e below _ T14 (mkF m 75 #[.val (.ref a), .val (.ref b), .val (.ref b)] [(.int y5), (.int x5)])
            refine Goes.of (T' := T14) (f' := (mkF m 83 #[.val (.ref a), .val (.ref b), .val (.ref b)] [(.int (if x5 = y5 then (1 : Int32) else (0 : Int32)))])) (fun t kt => ?_) ?_
            · show Steps p.tables e below (T14.setTop (mkF m 75 #[.val (.ref a), .val (.ref b), .val (.ref b)] [(.int y5), (.int x5)])) _
              by_cases hq75 : x5 = y5
              · simp only [if_pos hq75] at kt
                refine XS.icmpNo X14.here hx rfl (hb hby d3_75) rfl (teq hq75).2 ?_
                show Steps p.tables e below (T14.setTop (mkF m 78 #[.val (.ref a), .val (.ref b), .val (.ref b)] [])) _
                refine XS.iconst X14.here hx rfl (hb hby d3_78) ?_
                show Steps p.tables e below (T14.setTop (mkF m 79 #[.val (.ref a), .val (.ref b), .val (.ref b)] [(.int (1 : Int32))])) _
                refine XS.goto X14.here hx rfl (pc0 := 79) (pc' := 83) rfl (hb hby d3_79) (by decide) (by decide) ?_
                show Steps p.tables e below (T14.setTop (mkF m 83 #[.val (.ref a), .val (.ref b), .val (.ref b)] [(.int (1 : Int32))])) _
                exact kt
              · simp only [if_neg hq75] at kt
                refine XS.icmpYes X14.here hx rfl (pc0 := 75) (pc' := 82) rfl (hb hby d3_75) rfl (feq hq75).2 (by decide) (by decide) ?_
                show Steps p.tables e below (T14.setTop (mkF m 82 #[.val (.ref a), .val (.ref b), .val (.ref b)] [])) _
                refine XS.iconst X14.here hx rfl (hb hby d3_82) ?_
                show Steps p.tables e below (T14.setTop (mkF m 83 #[.val (.ref a), .val (.ref b), .val (.ref b)] [(.int (0 : Int32))])) _
                exact kt
            show Goes p e below _ T14 (mkF m 83 #[.val (.ref a), .val (.ref b), .val (.ref b)] [(.int (if x5 = y5 then (1 : Int32) else (0 : Int32)))])
            exact retZ (t := .boolean) X14 hx hret hlk (by simp) (hb hby d3_83) eT14 (by decide) (by decide) ⟨by unfold eq6; rw [if_pos hpc20, if_pos hpc31, if_pos hpc42, if_pos hpc53, if_pos hpc64]; try first | rfl | (split <;> rfl), N0, rfl⟩
          · refine Goes.of (fun _ => XS.icmpYes X12.here hx rfl (pc0 := 64) (pc' := 82) rfl (hb hby d3_64) rfl (feq hpc64).2 (by decide) (by decide)) ?_
            show Goes p e below _ T12 (mkF m 82 #[.val (.ref a), .val (.ref b), .val (.ref b)] [])
            refine Goes.of (fun _ => XS.iconst X12.here hx rfl (hb hby d3_82)) ?_
            show Goes p e below _ T12 (mkF m 83 #[.val (.ref a), .val (.ref b), .val (.ref b)] [(.int (0 : Int32))])
            exact retZ (t := .boolean) X12 hx hret hlk (by simp) (hb hby d3_83) eT12 (by decide) (by decide) ⟨by unfold eq6; rw [if_pos hpc20, if_pos hpc31, if_pos hpc42, if_pos hpc53, if_neg hpc64]; try first | rfl | (split <;> rfl), N0, rfl⟩
        · refine Goes.of (fun _ => XS.icmpYes X10.here hx rfl (pc0 := 53) (pc' := 82) rfl (hb hby d3_53) rfl (feq hpc53).2 (by decide) (by decide)) ?_
          show Goes p e below _ T10 (mkF m 82 #[.val (.ref a), .val (.ref b), .val (.ref b)] [])
          refine Goes.of (fun _ => XS.iconst X10.here hx rfl (hb hby d3_82)) ?_
          show Goes p e below _ T10 (mkF m 83 #[.val (.ref a), .val (.ref b), .val (.ref b)] [(.int (0 : Int32))])
          exact retZ (t := .boolean) X10 hx hret hlk (by simp) (hb hby d3_83) eT10 (by decide) (by decide) ⟨by unfold eq6; rw [if_pos hpc20, if_pos hpc31, if_pos hpc42, if_neg hpc53]; try first | rfl | (split <;> rfl), N0, rfl⟩
      · refine Goes.of (fun _ => XS.icmpYes X8.here hx rfl (pc0 := 42) (pc' := 82) rfl (hb hby d3_42) rfl (feq hpc42).2 (by decide) (by decide)) ?_
        show Goes p e below _ T8 (mkF m 82 #[.val (.ref a), .val (.ref b), .val (.ref b)] [])
        refine Goes.of (fun _ => XS.iconst X8.here hx rfl (hb hby d3_82)) ?_
        show Goes p e below _ T8 (mkF m 83 #[.val (.ref a), .val (.ref b), .val (.ref b)] [(.int (0 : Int32))])
        exact retZ (t := .boolean) X8 hx hret hlk (by simp) (hb hby d3_83) eT8 (by decide) (by decide) ⟨by unfold eq6; rw [if_pos hpc20, if_pos hpc31, if_neg hpc42]; try first | rfl | (split <;> rfl), N0, rfl⟩
    · refine Goes.of (fun _ => XS.icmpYes X6.here hx rfl (pc0 := 31) (pc' := 82) rfl (hb hby d3_31) rfl (feq hpc31).2 (by decide) (by decide)) ?_
      show Goes p e below _ T6 (mkF m 82 #[.val (.ref a), .val (.ref b), .val (.ref b)] [])
      refine Goes.of (fun _ => XS.iconst X6.here hx rfl (hb hby d3_82)) ?_
      show Goes p e below _ T6 (mkF m 83 #[.val (.ref a), .val (.ref b), .val (.ref b)] [(.int (0 : Int32))])
      exact retZ (t := .boolean) X6 hx hret hlk (by simp) (hb hby d3_83) eT6 (by decide) (by decide) ⟨by unfold eq6; rw [if_pos hpc20, if_neg hpc31]; try first | rfl | (split <;> rfl), N0, rfl⟩
  · refine Goes.of (fun _ => XS.icmpYes X4.here hx rfl (pc0 := 20) (pc' := 82) rfl (hb hby d3_20) rfl (feq hpc20).2 (by decide) (by decide)) ?_
    show Goes p e below _ T4 (mkF m 82 #[.val (.ref a), .val (.ref b), .val (.ref b)] [])
    refine Goes.of (fun _ => XS.iconst X4.here hx rfl (hb hby d3_82)) ?_
    show Goes p e below _ T4 (mkF m 83 #[.val (.ref a), .val (.ref b), .val (.ref b)] [(.int (0 : Int32))])
    exact retZ (t := .boolean) X4 hx hret hlk (by simp) (hb hby d3_83) eT4 (by decide) (by decide) ⟨by unfold eq6; rw [if_neg hpc20]; try first | rfl | (split <;> rfl), N0, rfl⟩
set_option maxRecDepth 65536 in
set_option maxHeartbeats 40000000 in
theorem rm_eqnull (l : Launch) (Z : State) (a0 : Array Value) (hw : ∀ d ∈ tables_1, d.before a0 Z = true) (a : Addr) (h0 : Heap) (n0 : Nat) (O0 : Old Z n0 h0)  :
    Rm l (⟨"com/example/casement/casement/graphics/CharMetrics", "equals", "(Ljava/lang/Object;)Z"⟩ : MethodName) prog_7_method_9_code 3 (some .boolean) ({ frames := 0, cells := 0, slots := 0, locals := 0 } : Room) [] Z #[(.ref a), .null] h0 (fun v h L => v = some (.int 0) ∧ Fr n0 L ∧ h = h0) := by
  refine Rm.of (plainFor_of_name pn_com_example_casement_casement_graphics_CharMetrics) ?_
  intro p e s m below meth cod T X hx hZ hby hml hown hnm hret hlk eT0
  have hown : s.vm.findClass "com/example/casement/casement/graphics/CharMetrics" = some m.cls := hown
  have hnm : meth.name = "equals" := hnm
  have N0 := Fr.nil n0
  refine Goes.cast (ef_3n1 m a) ?_
  show Goes p e below _ T (mkF m 0 #[.val (.ref a), .val .null, .unset] [])
  refine Goes.of (fun _ => XS.aloadN X.here hx rfl (hb hby d3_0) rfl rfl) ?_
  show Goes p e below _ T (mkF m 1 #[.val (.ref a), .val .null, .unset] [.null])
  refine Goes.of (X.instanceofNull hx (g := (mkF m 1 #[.val (.ref a), .val .null, .unset] [.null])) rfl rfl (hb hby d3_1)) ?_
  show Goes p e below _ T (mkF m 4 #[.val (.ref a), .val .null, .unset] [(.int (0 : Int32))])
  refine Goes.of (fun _ => XS.ifYes X.here hx rfl (pc0 := 4) (pc' := 82) rfl (hb hby d3_4) rfl ((if0 _ _).trans (teq (by decide)).1) (by decide) (by decide)) ?_
  show Goes p e below _ T (mkF m 82 #[.val (.ref a), .val .null, .unset] [])
  refine Goes.of (fun _ => XS.iconst X.here hx rfl (hb hby d3_82)) ?_
  show Goes p e below _ T (mkF m 83 #[.val (.ref a), .val .null, .unset] [(.int (0 : Int32))])
  exact retZ (t := .boolean) X hx hret hlk (by simp) (hb hby d3_83) eT0 (by decide) (by decide) ⟨rfl, N0, rfl⟩
set_option maxRecDepth 65536 in
set_option maxHeartbeats 40000000 in
theorem rm_eqint (l : Launch) (Z : State) (a0 : Array Value) (hw : ∀ d ∈ tables_1, d.before a0 Z = true) (a b : Addr) (h0 : Heap) (n0 : Nat) (O0 : Old Z n0 h0) (Eb : Exa Z h0 b "java/lang/Integer") :
    Rm l (⟨"com/example/casement/casement/graphics/CharMetrics", "equals", "(Ljava/lang/Object;)Z"⟩ : MethodName) prog_7_method_9_code 3 (some .boolean) ({ frames := 0, cells := 0, slots := 0, locals := 0 } : Room) [] Z #[(.ref a), (.ref b)] h0 (fun v h L => v = some (.int 0) ∧ Fr n0 L ∧ h = h0) := by
  refine Rm.of (plainFor_of_name pn_com_example_casement_casement_graphics_CharMetrics) ?_
  intro p e s m below meth cod T X hx hZ hby hml hown hnm hret hlk eT0
  have hown : s.vm.findClass "com/example/casement/casement/graphics/CharMetrics" = some m.cls := hown
  have hnm : meth.name = "equals" := hnm
  have N0 := Fr.nil n0
  refine Goes.cast (ef_3 m a b) ?_
  show Goes p e below _ T (mkF m 0 #[.val (.ref a), .val (.ref b), .unset] [])
  refine Goes.of (fun _ => XS.aloadN X.here hx rfl (hb hby d3_0) rfl rfl) ?_
  show Goes p e below _ T (mkF m 1 #[.val (.ref a), .val (.ref b), .unset] [(.ref b)])
  refine goInstN X hx hZ hown (hw _ (List.mem_of_getElem? (i := 27) rfl)) eT0 Eb (nsNo (hw _ (List.mem_of_getElem? (i := 48) rfl)) (hw _ (List.mem_of_getElem? (i := 2) rfl)) (NS.step (hw _ (List.mem_of_getElem? (i := 48) rfl)) (NS.step (hw _ (List.mem_of_getElem? (i := 49) rfl)) (nsRoot (hw _ (List.mem_of_getElem? (i := 50) rfl)) (hw _ (List.mem_of_getElem? (i := 2) rfl)) (by decide)) (by decide)) (by decide)) (by decide)) (g := (mkF m 1 #[.val (.ref a), .val (.ref b), .unset] [(.ref b)])) rfl rfl (hb hby d3_1) ?_
  intro T1 X1 eT1
  show Goes p e below _ T1 (mkF m 4 #[.val (.ref a), .val (.ref b), .unset] [(.int (0 : Int32))])
  refine Goes.of (fun _ => XS.ifYes X1.here hx rfl (pc0 := 4) (pc' := 82) rfl (hb hby d3_4) rfl ((if0 _ _).trans (teq (by decide)).1) (by decide) (by decide)) ?_
  show Goes p e below _ T1 (mkF m 82 #[.val (.ref a), .val (.ref b), .unset] [])
  refine Goes.of (fun _ => XS.iconst X1.here hx rfl (hb hby d3_82)) ?_
  show Goes p e below _ T1 (mkF m 83 #[.val (.ref a), .val (.ref b), .unset] [(.int (0 : Int32))])
  exact retZ (t := .boolean) X1 hx hret hlk (by simp) (hb hby d3_83) eT1 (by decide) (by decide) ⟨rfl, N0, rfl⟩
set_option maxRecDepth 65536 in
set_option maxHeartbeats 40000000 in
theorem rm_law (l : Launch) (Z : State) (a0 : Array Value) (hw : ∀ d ∈ tables_1, d.before a0 Z = true) (ws : List Jvm.Cond) (a1 a2 a3 a4 a5 : Int32) (q6 : Int64) (ca : Addr) (cl : Cell) (h0 : Heap) (n0 : Nat) (O0 : Old Z n0 h0) (IC0 : IntC Z ca cl) :
    Rm l x code maxLocals ret room_1 ws Z #[(.int a1), (.int a2), (.int a3), (.int a4), (.int a5), (.long q6)] h0 (fun v h L => v = some (.int 1) ∧ Fr n0 L) := by
  refine Rm.of (plainFor_of_name pn_com_example_casement_casement_graphics_CharMetricsEqualsPinLaw) ?_
  intro p e s m below meth cod T X hx hZ hby hml hown hnm hret hlk eT0
  have hown : s.vm.findClass "com/example/casement/casement/graphics/CharMetricsEqualsPinLaw" = some m.cls := hown
  have hnm : meth.name = "law" := hnm
  have N0 := Fr.nil n0
  refine Goes.cast (ef_0 m a1 a2 a3 a4 a5 q6) ?_
  show Goes p e below _ T (mkF m 0 #[.val (.int a1), .val (.int a2), .val (.int a3), .val (.int a4), .val (.int a5), .val (.long q6), .second, .unset, .unset, .unset, .unset, .unset, .unset, .unset] [])
  refine Goes.of (fun _ => XS.lload X.here hx rfl (hb hby at_0) rfl) ?_
  show Goes p e below _ T (mkF m 2 #[.val (.int a1), .val (.int a2), .val (.int a3), .val (.int a4), .val (.int a5), .val (.long q6), .second, .unset, .unset, .unset, .unset, .unset, .unset, .unset] [(.long q6)])
  refine Goes.of (fun _ => XS.l2i X.here hx rfl (hb hby at_2) rfl) ?_
  show Goes p e below _ T (mkF m 3 #[.val (.int a1), .val (.int a2), .val (.int a3), .val (.int a4), .val (.int a5), .val (.long q6), .second, .unset, .unset, .unset, .unset, .unset, .unset, .unset] [(.int (q6.toInt32))])
  refine Goes.of (fun _ => XS.istore X.here hx rfl (hb hby at_3) rfl (l' := #[.val (.int a1), .val (.int a2), .val (.int a3), .val (.int a4), .val (.int a5), .val (.long q6), .second, .val (.int (q6.toInt32)), .unset, .unset, .unset, .unset, .unset, .unset]) rfl) ?_
  show Goes p e below _ T (mkF m 5 #[.val (.int a1), .val (.int a2), .val (.int a3), .val (.int a4), .val (.int a5), .val (.long q6), .second, .val (.int (q6.toInt32)), .unset, .unset, .unset, .unset, .unset, .unset] [])
  refine Goes.of (fun _ => XS.lload X.here hx rfl (hb hby at_5) rfl) ?_
  show Goes p e below _ T (mkF m 7 #[.val (.int a1), .val (.int a2), .val (.int a3), .val (.int a4), .val (.int a5), .val (.long q6), .second, .val (.int (q6.toInt32)), .unset, .unset, .unset, .unset, .unset, .unset] [(.long q6)])
  refine Goes.of (fun _ => XS.bipush X.here hx rfl (hb hby at_7)) ?_
  show Goes p e below _ T (mkF m 9 #[.val (.int a1), .val (.int a2), .val (.int a3), .val (.int a4), .val (.int a5), .val (.long q6), .second, .val (.int (q6.toInt32)), .unset, .unset, .unset, .unset, .unset, .unset] [(.int (32 : Int32)), (.long q6)])
  refine Goes.of (fun _ => XS.lushr X.here hx rfl (hb hby at_9) rfl) ?_
  show Goes p e below _ T (mkF m 10 #[.val (.int a1), .val (.int a2), .val (.int a3), .val (.int a4), .val (.int a5), .val (.long q6), .second, .val (.int (q6.toInt32)), .unset, .unset, .unset, .unset, .unset, .unset] [(.long ((q6.toUInt64 >>> ((32 : Int32) &&& 0x3f).toInt64.toUInt64).toInt64))])
  refine Goes.of (fun _ => XS.l2i X.here hx rfl (hb hby at_10) rfl) ?_
  show Goes p e below _ T (mkF m 11 #[.val (.int a1), .val (.int a2), .val (.int a3), .val (.int a4), .val (.int a5), .val (.long q6), .second, .val (.int (q6.toInt32)), .unset, .unset, .unset, .unset, .unset, .unset] [(.int (((q6.toUInt64 >>> ((32 : Int32) &&& 0x3f).toInt64.toUInt64).toInt64).toInt32))])
  refine Goes.of (fun _ => XS.bipush X.here hx rfl (hb hby at_11)) ?_
  show Goes p e below _ T (mkF m 13 #[.val (.int a1), .val (.int a2), .val (.int a3), .val (.int a4), .val (.int a5), .val (.long q6), .second, .val (.int (q6.toInt32)), .unset, .unset, .unset, .unset, .unset, .unset] [(.int (7 : Int32)), (.int (((q6.toUInt64 >>> ((32 : Int32) &&& 0x3f).toInt64.toUInt64).toInt64).toInt32))])
  refine Goes.of (fun _ => XS.iand X.here hx rfl (hb hby at_13) rfl) ?_
  show Goes p e below _ T (mkF m 14 #[.val (.int a1), .val (.int a2), .val (.int a3), .val (.int a4), .val (.int a5), .val (.long q6), .second, .val (.int (q6.toInt32)), .unset, .unset, .unset, .unset, .unset, .unset] [(.int ((((q6.toUInt64 >>> ((32 : Int32) &&& 0x3f).toInt64.toUInt64).toInt64).toInt32) &&& (7 : Int32)))])
  refine Goes.of (fun _ => XS.istore X.here hx rfl (hb hby at_14) rfl (l' := #[.val (.int a1), .val (.int a2), .val (.int a3), .val (.int a4), .val (.int a5), .val (.long q6), .second, .val (.int (q6.toInt32)), .val (.int ((((q6.toUInt64 >>> ((32 : Int32) &&& 0x3f).toInt64.toUInt64).toInt64).toInt32) &&& (7 : Int32))), .unset, .unset, .unset, .unset, .unset]) rfl) ?_
  show Goes p e below _ T (mkF m 16 #[.val (.int a1), .val (.int a2), .val (.int a3), .val (.int a4), .val (.int a5), .val (.long q6), .second, .val (.int (q6.toInt32)), .val (.int ((((q6.toUInt64 >>> ((32 : Int32) &&& 0x3f).toInt64.toUInt64).toInt64).toInt32) &&& (7 : Int32))), .unset, .unset, .unset, .unset, .unset] [])
  generalize hf6 : (q6.toInt32) = f6
  show Goes p e below _ T (mkF m 16 #[.val (.int a1), .val (.int a2), .val (.int a3), .val (.int a4), .val (.int a5), .val (.long q6), .second, .val (.int f6), .val (.int ((((q6.toUInt64 >>> ((32 : Int32) &&& 0x3f).toInt64.toUInt64).toInt64).toInt32) &&& (7 : Int32))), .unset, .unset, .unset, .unset, .unset] [])
  generalize hkk : (((q6.toUInt64 >>> ((32 : Int32) &&& 0x3f).toInt64.toUInt64).toInt64).toInt32) = kk
  show Goes p e below _ T (mkF m 16 #[.val (.int a1), .val (.int a2), .val (.int a3), .val (.int a4), .val (.int a5), .val (.long q6), .second, .val (.int f6), .val (.int (kk &&& (7 : Int32))), .unset, .unset, .unset, .unset, .unset] [])
  generalize hk : (kk &&& (7 : Int32)) = k
  show Goes p e below _ T (mkF m 16 #[.val (.int a1), .val (.int a2), .val (.int a3), .val (.int a4), .val (.int a5), .val (.long q6), .second, .val (.int f6), .val (.int k), .unset, .unset, .unset, .unset, .unset] [])
  have hk8 := c8 k (hk ▸ (n8 kk).1) (hk ▸ (n8 kk).2)
  show Goes p e below _ T (mkF m 16 #[.val (.int a1), .val (.int a2), .val (.int a3), .val (.int a4), .val (.int a5), .val (.long q6), .second, .val (.int f6), .val (.int k), .unset, .unset, .unset, .unset, .unset] [])
  refine Goes.of (fun _ => XS.bipush X.here hx rfl (hb hby at_16)) ?_
  show Goes p e below _ T (mkF m 18 #[.val (.int a1), .val (.int a2), .val (.int a3), .val (.int a4), .val (.int a5), .val (.long q6), .second, .val (.int f6), .val (.int k), .unset, .unset, .unset, .unset, .unset] [(.int (6 : Int32))])
  refine goNewP 6 X hx hZ (hw _ (List.mem_of_getElem? (i := 0) rfl)) eT0 (g := (mkF m 18 #[.val (.int a1), .val (.int a2), .val (.int a3), .val (.int a4), .val (.int a5), .val (.long q6), .second, .val (.int f6), .val (.int k), .unset, .unset, .unset, .unset, .unset] [(.int (6 : Int32))])) rfl (hb hby at_18) rfl (by decide) (by decide) (by decide) (by decide) (by decide) (ad := "[I") (by first | rfl | decide) ?_
  intro T1 h1 b1 kA1 X1 eT1 E1 hb1 V1 A1
  have g_b1 : n0 ≤ b1 := Nat.le_trans (oldLe O0) hb1
  have O0 := O0.ext E1
  have V1 : Arv Z h1 b1 kA1 .int (6 : Int32) [(.int (0 : Int32)), (.int (0 : Int32)), (.int (0 : Int32)), (.int (0 : Int32)), (.int (0 : Int32)), (.int (0 : Int32))] (.int (0 : Int32)) := V1
  show Goes p e below _ T1 (mkF m 20 #[.val (.int a1), .val (.int a2), .val (.int a3), .val (.int a4), .val (.int a5), .val (.long q6), .second, .val (.int f6), .val (.int k), .unset, .unset, .unset, .unset, .unset] [(.ref b1)])
  refine Goes.of (fun _ => XS.dup X1.here hx rfl (hb hby at_20) rfl rfl) ?_
  show Goes p e below _ T1 (mkF m 21 #[.val (.int a1), .val (.int a2), .val (.int a3), .val (.int a4), .val (.int a5), .val (.long q6), .second, .val (.int f6), .val (.int k), .unset, .unset, .unset, .unset, .unset] [(.ref b1), (.ref b1)])
  refine Goes.of (fun _ => XS.iconst X1.here hx rfl (hb hby at_21)) ?_
  show Goes p e below _ T1 (mkF m 22 #[.val (.int a1), .val (.int a2), .val (.int a3), .val (.int a4), .val (.int a5), .val (.long q6), .second, .val (.int f6), .val (.int k), .unset, .unset, .unset, .unset, .unset] [(.int (0 : Int32)), (.ref b1), (.ref b1)])
  refine Goes.of (fun _ => XS.iloadN X1.here hx rfl (hb hby at_22) rfl) ?_
  show Goes p e below _ T1 (mkF m 23 #[.val (.int a1), .val (.int a2), .val (.int a3), .val (.int a4), .val (.int a5), .val (.long q6), .second, .val (.int f6), .val (.int k), .unset, .unset, .unset, .unset, .unset] [(.int a1), (.int (0 : Int32)), (.ref b1), (.ref b1)])
  refine goStI 0 X1 hx hZ eT1 V1 (by decide) (by decide) rfl (Nat.lt_of_lt_of_le (Nat.lt_succ_self _) (Nat.le_of_ble_eq_true rfl)) (g := (mkF m 23 #[.val (.int a1), .val (.int a2), .val (.int a3), .val (.int a4), .val (.int a5), .val (.long q6), .second, .val (.int f6), .val (.int k), .unset, .unset, .unset, .unset, .unset] [(.int a1), (.int (0 : Int32)), (.ref b1), (.ref b1)])) rfl rfl (hb hby at_23) ?_
  intro T2 h2 X2 eT2 W2 V1
  have N2 := Fr.snoc X2 N0 g_b1
  have A1 := A1.wr W2
  have O0 := O0.wr W2 g_b1
  have V1 : Arv Z h2 b1 kA1 .int (6 : Int32) [(.int a1), (.int (0 : Int32)), (.int (0 : Int32)), (.int (0 : Int32)), (.int (0 : Int32)), (.int (0 : Int32))] (.int (0 : Int32)) := V1
  show Goes p e below _ T2 (mkF m 24 #[.val (.int a1), .val (.int a2), .val (.int a3), .val (.int a4), .val (.int a5), .val (.long q6), .second, .val (.int f6), .val (.int k), .unset, .unset, .unset, .unset, .unset] [(.ref b1)])
  refine Goes.of (fun _ => XS.dup X2.here hx rfl (hb hby at_24) rfl rfl) ?_
  show Goes p e below _ T2 (mkF m 25 #[.val (.int a1), .val (.int a2), .val (.int a3), .val (.int a4), .val (.int a5), .val (.long q6), .second, .val (.int f6), .val (.int k), .unset, .unset, .unset, .unset, .unset] [(.ref b1), (.ref b1)])
  refine Goes.of (fun _ => XS.iconst X2.here hx rfl (hb hby at_25)) ?_
  show Goes p e below _ T2 (mkF m 26 #[.val (.int a1), .val (.int a2), .val (.int a3), .val (.int a4), .val (.int a5), .val (.long q6), .second, .val (.int f6), .val (.int k), .unset, .unset, .unset, .unset, .unset] [(.int (1 : Int32)), (.ref b1), (.ref b1)])
  refine Goes.of (fun _ => XS.iloadN X2.here hx rfl (hb hby at_26) rfl) ?_
  show Goes p e below _ T2 (mkF m 27 #[.val (.int a1), .val (.int a2), .val (.int a3), .val (.int a4), .val (.int a5), .val (.long q6), .second, .val (.int f6), .val (.int k), .unset, .unset, .unset, .unset, .unset] [(.int a2), (.int (1 : Int32)), (.ref b1), (.ref b1)])
  refine goStI 1 X2 hx hZ eT2 V1 (by decide) (by decide) rfl (Nat.lt_of_lt_of_le (Nat.lt_succ_self _) (Nat.le_of_ble_eq_true rfl)) (g := (mkF m 27 #[.val (.int a1), .val (.int a2), .val (.int a3), .val (.int a4), .val (.int a5), .val (.long q6), .second, .val (.int f6), .val (.int k), .unset, .unset, .unset, .unset, .unset] [(.int a2), (.int (1 : Int32)), (.ref b1), (.ref b1)])) rfl rfl (hb hby at_27) ?_
  intro T3 h3 X3 eT3 W3 V1
  have N3 := Fr.snoc X3 N2 g_b1
  have A1 := A1.wr W3
  have O0 := O0.wr W3 g_b1
  have V1 : Arv Z h3 b1 kA1 .int (6 : Int32) [(.int a1), (.int a2), (.int (0 : Int32)), (.int (0 : Int32)), (.int (0 : Int32)), (.int (0 : Int32))] (.int (0 : Int32)) := V1
  show Goes p e below _ T3 (mkF m 28 #[.val (.int a1), .val (.int a2), .val (.int a3), .val (.int a4), .val (.int a5), .val (.long q6), .second, .val (.int f6), .val (.int k), .unset, .unset, .unset, .unset, .unset] [(.ref b1)])
  refine Goes.of (fun _ => XS.dup X3.here hx rfl (hb hby at_28) rfl rfl) ?_
  show Goes p e below _ T3 (mkF m 29 #[.val (.int a1), .val (.int a2), .val (.int a3), .val (.int a4), .val (.int a5), .val (.long q6), .second, .val (.int f6), .val (.int k), .unset, .unset, .unset, .unset, .unset] [(.ref b1), (.ref b1)])
  refine Goes.of (fun _ => XS.iconst X3.here hx rfl (hb hby at_29)) ?_
  show Goes p e below _ T3 (mkF m 30 #[.val (.int a1), .val (.int a2), .val (.int a3), .val (.int a4), .val (.int a5), .val (.long q6), .second, .val (.int f6), .val (.int k), .unset, .unset, .unset, .unset, .unset] [(.int (2 : Int32)), (.ref b1), (.ref b1)])
  refine Goes.of (fun _ => XS.iloadN X3.here hx rfl (hb hby at_30) rfl) ?_
  show Goes p e below _ T3 (mkF m 31 #[.val (.int a1), .val (.int a2), .val (.int a3), .val (.int a4), .val (.int a5), .val (.long q6), .second, .val (.int f6), .val (.int k), .unset, .unset, .unset, .unset, .unset] [(.int a3), (.int (2 : Int32)), (.ref b1), (.ref b1)])
  refine goStI 2 X3 hx hZ eT3 V1 (by decide) (by decide) rfl (Nat.lt_of_lt_of_le (Nat.lt_succ_self _) (Nat.le_of_ble_eq_true rfl)) (g := (mkF m 31 #[.val (.int a1), .val (.int a2), .val (.int a3), .val (.int a4), .val (.int a5), .val (.long q6), .second, .val (.int f6), .val (.int k), .unset, .unset, .unset, .unset, .unset] [(.int a3), (.int (2 : Int32)), (.ref b1), (.ref b1)])) rfl rfl (hb hby at_31) ?_
  intro T4 h4 X4 eT4 W4 V1
  have N4 := Fr.snoc X4 N3 g_b1
  have A1 := A1.wr W4
  have O0 := O0.wr W4 g_b1
  have V1 : Arv Z h4 b1 kA1 .int (6 : Int32) [(.int a1), (.int a2), (.int a3), (.int (0 : Int32)), (.int (0 : Int32)), (.int (0 : Int32))] (.int (0 : Int32)) := V1
  show Goes p e below _ T4 (mkF m 32 #[.val (.int a1), .val (.int a2), .val (.int a3), .val (.int a4), .val (.int a5), .val (.long q6), .second, .val (.int f6), .val (.int k), .unset, .unset, .unset, .unset, .unset] [(.ref b1)])
  refine Goes.of (fun _ => XS.dup X4.here hx rfl (hb hby at_32) rfl rfl) ?_
  show Goes p e below _ T4 (mkF m 33 #[.val (.int a1), .val (.int a2), .val (.int a3), .val (.int a4), .val (.int a5), .val (.long q6), .second, .val (.int f6), .val (.int k), .unset, .unset, .unset, .unset, .unset] [(.ref b1), (.ref b1)])
  refine Goes.of (fun _ => XS.iconst X4.here hx rfl (hb hby at_33)) ?_
  show Goes p e below _ T4 (mkF m 34 #[.val (.int a1), .val (.int a2), .val (.int a3), .val (.int a4), .val (.int a5), .val (.long q6), .second, .val (.int f6), .val (.int k), .unset, .unset, .unset, .unset, .unset] [(.int (3 : Int32)), (.ref b1), (.ref b1)])
  refine Goes.of (fun _ => XS.iloadN X4.here hx rfl (hb hby at_34) rfl) ?_
  show Goes p e below _ T4 (mkF m 35 #[.val (.int a1), .val (.int a2), .val (.int a3), .val (.int a4), .val (.int a5), .val (.long q6), .second, .val (.int f6), .val (.int k), .unset, .unset, .unset, .unset, .unset] [(.int a4), (.int (3 : Int32)), (.ref b1), (.ref b1)])
  refine goStI 3 X4 hx hZ eT4 V1 (by decide) (by decide) rfl (Nat.lt_of_lt_of_le (Nat.lt_succ_self _) (Nat.le_of_ble_eq_true rfl)) (g := (mkF m 35 #[.val (.int a1), .val (.int a2), .val (.int a3), .val (.int a4), .val (.int a5), .val (.long q6), .second, .val (.int f6), .val (.int k), .unset, .unset, .unset, .unset, .unset] [(.int a4), (.int (3 : Int32)), (.ref b1), (.ref b1)])) rfl rfl (hb hby at_35) ?_
  intro T5 h5 X5 eT5 W5 V1
  have N5 := Fr.snoc X5 N4 g_b1
  have A1 := A1.wr W5
  have O0 := O0.wr W5 g_b1
  have V1 : Arv Z h5 b1 kA1 .int (6 : Int32) [(.int a1), (.int a2), (.int a3), (.int a4), (.int (0 : Int32)), (.int (0 : Int32))] (.int (0 : Int32)) := V1
  show Goes p e below _ T5 (mkF m 36 #[.val (.int a1), .val (.int a2), .val (.int a3), .val (.int a4), .val (.int a5), .val (.long q6), .second, .val (.int f6), .val (.int k), .unset, .unset, .unset, .unset, .unset] [(.ref b1)])
  refine Goes.of (fun _ => XS.dup X5.here hx rfl (hb hby at_36) rfl rfl) ?_
  show Goes p e below _ T5 (mkF m 37 #[.val (.int a1), .val (.int a2), .val (.int a3), .val (.int a4), .val (.int a5), .val (.long q6), .second, .val (.int f6), .val (.int k), .unset, .unset, .unset, .unset, .unset] [(.ref b1), (.ref b1)])
  refine Goes.of (fun _ => XS.iconst X5.here hx rfl (hb hby at_37)) ?_
  show Goes p e below _ T5 (mkF m 38 #[.val (.int a1), .val (.int a2), .val (.int a3), .val (.int a4), .val (.int a5), .val (.long q6), .second, .val (.int f6), .val (.int k), .unset, .unset, .unset, .unset, .unset] [(.int (4 : Int32)), (.ref b1), (.ref b1)])
  refine Goes.of (fun _ => XS.iload X5.here hx rfl (hb hby at_38) rfl) ?_
  show Goes p e below _ T5 (mkF m 40 #[.val (.int a1), .val (.int a2), .val (.int a3), .val (.int a4), .val (.int a5), .val (.long q6), .second, .val (.int f6), .val (.int k), .unset, .unset, .unset, .unset, .unset] [(.int a5), (.int (4 : Int32)), (.ref b1), (.ref b1)])
  refine goStI 4 X5 hx hZ eT5 V1 (by decide) (by decide) rfl (Nat.lt_of_lt_of_le (Nat.lt_succ_self _) (Nat.le_of_ble_eq_true rfl)) (g := (mkF m 40 #[.val (.int a1), .val (.int a2), .val (.int a3), .val (.int a4), .val (.int a5), .val (.long q6), .second, .val (.int f6), .val (.int k), .unset, .unset, .unset, .unset, .unset] [(.int a5), (.int (4 : Int32)), (.ref b1), (.ref b1)])) rfl rfl (hb hby at_40) ?_
  intro T6 h6 X6 eT6 W6 V1
  have N6 := Fr.snoc X6 N5 g_b1
  have A1 := A1.wr W6
  have O0 := O0.wr W6 g_b1
  have V1 : Arv Z h6 b1 kA1 .int (6 : Int32) [(.int a1), (.int a2), (.int a3), (.int a4), (.int a5), (.int (0 : Int32))] (.int (0 : Int32)) := V1
  show Goes p e below _ T6 (mkF m 41 #[.val (.int a1), .val (.int a2), .val (.int a3), .val (.int a4), .val (.int a5), .val (.long q6), .second, .val (.int f6), .val (.int k), .unset, .unset, .unset, .unset, .unset] [(.ref b1)])
  refine Goes.of (fun _ => XS.dup X6.here hx rfl (hb hby at_41) rfl rfl) ?_
  show Goes p e below _ T6 (mkF m 42 #[.val (.int a1), .val (.int a2), .val (.int a3), .val (.int a4), .val (.int a5), .val (.long q6), .second, .val (.int f6), .val (.int k), .unset, .unset, .unset, .unset, .unset] [(.ref b1), (.ref b1)])
  refine Goes.of (fun _ => XS.iconst X6.here hx rfl (hb hby at_42)) ?_
  show Goes p e below _ T6 (mkF m 43 #[.val (.int a1), .val (.int a2), .val (.int a3), .val (.int a4), .val (.int a5), .val (.long q6), .second, .val (.int f6), .val (.int k), .unset, .unset, .unset, .unset, .unset] [(.int (5 : Int32)), (.ref b1), (.ref b1)])
  refine Goes.of (fun _ => XS.iload X6.here hx rfl (hb hby at_43) rfl) ?_
  show Goes p e below _ T6 (mkF m 45 #[.val (.int a1), .val (.int a2), .val (.int a3), .val (.int a4), .val (.int a5), .val (.long q6), .second, .val (.int f6), .val (.int k), .unset, .unset, .unset, .unset, .unset] [(.int f6), (.int (5 : Int32)), (.ref b1), (.ref b1)])
  refine goStI 5 X6 hx hZ eT6 V1 (by decide) (by decide) rfl (Nat.lt_of_lt_of_le (Nat.lt_succ_self _) (Nat.le_of_ble_eq_true rfl)) (g := (mkF m 45 #[.val (.int a1), .val (.int a2), .val (.int a3), .val (.int a4), .val (.int a5), .val (.long q6), .second, .val (.int f6), .val (.int k), .unset, .unset, .unset, .unset, .unset] [(.int f6), (.int (5 : Int32)), (.ref b1), (.ref b1)])) rfl rfl (hb hby at_45) ?_
  intro T7 h7 X7 eT7 W7 V1
  have N7 := Fr.snoc X7 N6 g_b1
  have A1 := A1.wr W7
  have O0 := O0.wr W7 g_b1
  have V1 : Arv Z h7 b1 kA1 .int (6 : Int32) [(.int a1), (.int a2), (.int a3), (.int a4), (.int a5), (.int f6)] (.int (0 : Int32)) := V1
  show Goes p e below _ T7 (mkF m 46 #[.val (.int a1), .val (.int a2), .val (.int a3), .val (.int a4), .val (.int a5), .val (.long q6), .second, .val (.int f6), .val (.int k), .unset, .unset, .unset, .unset, .unset] [(.ref b1)])
  refine Goes.of (fun _ => XS.astore X7.here hx rfl (hb hby at_46) rfl rfl (l' := #[.val (.int a1), .val (.int a2), .val (.int a3), .val (.int a4), .val (.int a5), .val (.long q6), .second, .val (.int f6), .val (.int k), .val (.ref b1), .unset, .unset, .unset, .unset]) rfl) ?_
  show Goes p e below _ T7 (mkF m 48 #[.val (.int a1), .val (.int a2), .val (.int a3), .val (.int a4), .val (.int a5), .val (.long q6), .second, .val (.int f6), .val (.int k), .val (.ref b1), .unset, .unset, .unset, .unset] [])
  refine Goes.of (fun _ => XS.bipush X7.here hx rfl (hb hby at_48)) ?_
  show Goes p e below _ T7 (mkF m 50 #[.val (.int a1), .val (.int a2), .val (.int a3), .val (.int a4), .val (.int a5), .val (.long q6), .second, .val (.int f6), .val (.int k), .val (.ref b1), .unset, .unset, .unset, .unset] [(.int (6 : Int32))])
  refine goNewP 6 X7 hx hZ (hw _ (List.mem_of_getElem? (i := 0) rfl)) eT7 (g := (mkF m 50 #[.val (.int a1), .val (.int a2), .val (.int a3), .val (.int a4), .val (.int a5), .val (.long q6), .second, .val (.int f6), .val (.int k), .val (.ref b1), .unset, .unset, .unset, .unset] [(.int (6 : Int32))])) rfl (hb hby at_50) rfl (by decide) (by decide) (by decide) (by decide) (by decide) (ad := "[I") (by first | rfl | decide) ?_
  intro T8 h8 b8 kA8 X8 eT8 E8 hb8 V8 A8
  have g_b8 : n0 ≤ b8 := Nat.le_trans (oldLe O0) hb8
  have ne_b1_b8 : b1 ≠ b8 := Nat.ne_of_lt (Nat.lt_of_lt_of_le V1.lt hb8)
  have V1 := V1.ext E8
  have A1 := A1.ext E8
  have O0 := O0.ext E8
  have V8 : Arv Z h8 b8 kA8 .int (6 : Int32) [(.int (0 : Int32)), (.int (0 : Int32)), (.int (0 : Int32)), (.int (0 : Int32)), (.int (0 : Int32)), (.int (0 : Int32))] (.int (0 : Int32)) := V8
  show Goes p e below _ T8 (mkF m 52 #[.val (.int a1), .val (.int a2), .val (.int a3), .val (.int a4), .val (.int a5), .val (.long q6), .second, .val (.int f6), .val (.int k), .val (.ref b1), .unset, .unset, .unset, .unset] [(.ref b8)])
  refine Goes.of (fun _ => XS.dup X8.here hx rfl (hb hby at_52) rfl rfl) ?_
  show Goes p e below _ T8 (mkF m 53 #[.val (.int a1), .val (.int a2), .val (.int a3), .val (.int a4), .val (.int a5), .val (.long q6), .second, .val (.int f6), .val (.int k), .val (.ref b1), .unset, .unset, .unset, .unset] [(.ref b8), (.ref b8)])
  refine Goes.of (fun _ => XS.iconst X8.here hx rfl (hb hby at_53)) ?_
  show Goes p e below _ T8 (mkF m 54 #[.val (.int a1), .val (.int a2), .val (.int a3), .val (.int a4), .val (.int a5), .val (.long q6), .second, .val (.int f6), .val (.int k), .val (.ref b1), .unset, .unset, .unset, .unset] [(.int (0 : Int32)), (.ref b8), (.ref b8)])
  refine Goes.of (fun _ => XS.iloadN X8.here hx rfl (hb hby at_54) rfl) ?_
  show Goes p e below _ T8 (mkF m 55 #[.val (.int a1), .val (.int a2), .val (.int a3), .val (.int a4), .val (.int a5), .val (.long q6), .second, .val (.int f6), .val (.int k), .val (.ref b1), .unset, .unset, .unset, .unset] [(.int a1), (.int (0 : Int32)), (.ref b8), (.ref b8)])
  refine goStI 0 X8 hx hZ eT8 V8 (by decide) (by decide) rfl (Nat.lt_of_lt_of_le (Nat.lt_succ_self _) (Nat.le_of_ble_eq_true rfl)) (g := (mkF m 55 #[.val (.int a1), .val (.int a2), .val (.int a3), .val (.int a4), .val (.int a5), .val (.long q6), .second, .val (.int f6), .val (.int k), .val (.ref b1), .unset, .unset, .unset, .unset] [(.int a1), (.int (0 : Int32)), (.ref b8), (.ref b8)])) rfl rfl (hb hby at_55) ?_
  intro T9 h9 X9 eT9 W9 V8
  have N9 := Fr.snoc X9 N7 g_b8
  have V1 := V1.other W9 ne_b1_b8
  have A1 := A1.wr W9
  have A8 := A8.wr W9
  have O0 := O0.wr W9 g_b8
  have V8 : Arv Z h9 b8 kA8 .int (6 : Int32) [(.int a1), (.int (0 : Int32)), (.int (0 : Int32)), (.int (0 : Int32)), (.int (0 : Int32)), (.int (0 : Int32))] (.int (0 : Int32)) := V8
  show Goes p e below _ T9 (mkF m 56 #[.val (.int a1), .val (.int a2), .val (.int a3), .val (.int a4), .val (.int a5), .val (.long q6), .second, .val (.int f6), .val (.int k), .val (.ref b1), .unset, .unset, .unset, .unset] [(.ref b8)])
  refine Goes.of (fun _ => XS.dup X9.here hx rfl (hb hby at_56) rfl rfl) ?_
  show Goes p e below _ T9 (mkF m 57 #[.val (.int a1), .val (.int a2), .val (.int a3), .val (.int a4), .val (.int a5), .val (.long q6), .second, .val (.int f6), .val (.int k), .val (.ref b1), .unset, .unset, .unset, .unset] [(.ref b8), (.ref b8)])
  refine Goes.of (fun _ => XS.iconst X9.here hx rfl (hb hby at_57)) ?_
  show Goes p e below _ T9 (mkF m 58 #[.val (.int a1), .val (.int a2), .val (.int a3), .val (.int a4), .val (.int a5), .val (.long q6), .second, .val (.int f6), .val (.int k), .val (.ref b1), .unset, .unset, .unset, .unset] [(.int (1 : Int32)), (.ref b8), (.ref b8)])
  refine Goes.of (fun _ => XS.iloadN X9.here hx rfl (hb hby at_58) rfl) ?_
  show Goes p e below _ T9 (mkF m 59 #[.val (.int a1), .val (.int a2), .val (.int a3), .val (.int a4), .val (.int a5), .val (.long q6), .second, .val (.int f6), .val (.int k), .val (.ref b1), .unset, .unset, .unset, .unset] [(.int a2), (.int (1 : Int32)), (.ref b8), (.ref b8)])
  refine goStI 1 X9 hx hZ eT9 V8 (by decide) (by decide) rfl (Nat.lt_of_lt_of_le (Nat.lt_succ_self _) (Nat.le_of_ble_eq_true rfl)) (g := (mkF m 59 #[.val (.int a1), .val (.int a2), .val (.int a3), .val (.int a4), .val (.int a5), .val (.long q6), .second, .val (.int f6), .val (.int k), .val (.ref b1), .unset, .unset, .unset, .unset] [(.int a2), (.int (1 : Int32)), (.ref b8), (.ref b8)])) rfl rfl (hb hby at_59) ?_
  intro T10 h10 X10 eT10 W10 V8
  have N10 := Fr.snoc X10 N9 g_b8
  have V1 := V1.other W10 ne_b1_b8
  have A1 := A1.wr W10
  have A8 := A8.wr W10
  have O0 := O0.wr W10 g_b8
  have V8 : Arv Z h10 b8 kA8 .int (6 : Int32) [(.int a1), (.int a2), (.int (0 : Int32)), (.int (0 : Int32)), (.int (0 : Int32)), (.int (0 : Int32))] (.int (0 : Int32)) := V8
  show Goes p e below _ T10 (mkF m 60 #[.val (.int a1), .val (.int a2), .val (.int a3), .val (.int a4), .val (.int a5), .val (.long q6), .second, .val (.int f6), .val (.int k), .val (.ref b1), .unset, .unset, .unset, .unset] [(.ref b8)])
  refine Goes.of (fun _ => XS.dup X10.here hx rfl (hb hby at_60) rfl rfl) ?_
  show Goes p e below _ T10 (mkF m 61 #[.val (.int a1), .val (.int a2), .val (.int a3), .val (.int a4), .val (.int a5), .val (.long q6), .second, .val (.int f6), .val (.int k), .val (.ref b1), .unset, .unset, .unset, .unset] [(.ref b8), (.ref b8)])
  refine Goes.of (fun _ => XS.iconst X10.here hx rfl (hb hby at_61)) ?_
  show Goes p e below _ T10 (mkF m 62 #[.val (.int a1), .val (.int a2), .val (.int a3), .val (.int a4), .val (.int a5), .val (.long q6), .second, .val (.int f6), .val (.int k), .val (.ref b1), .unset, .unset, .unset, .unset] [(.int (2 : Int32)), (.ref b8), (.ref b8)])
  refine Goes.of (fun _ => XS.iloadN X10.here hx rfl (hb hby at_62) rfl) ?_
  show Goes p e below _ T10 (mkF m 63 #[.val (.int a1), .val (.int a2), .val (.int a3), .val (.int a4), .val (.int a5), .val (.long q6), .second, .val (.int f6), .val (.int k), .val (.ref b1), .unset, .unset, .unset, .unset] [(.int a3), (.int (2 : Int32)), (.ref b8), (.ref b8)])
  refine goStI 2 X10 hx hZ eT10 V8 (by decide) (by decide) rfl (Nat.lt_of_lt_of_le (Nat.lt_succ_self _) (Nat.le_of_ble_eq_true rfl)) (g := (mkF m 63 #[.val (.int a1), .val (.int a2), .val (.int a3), .val (.int a4), .val (.int a5), .val (.long q6), .second, .val (.int f6), .val (.int k), .val (.ref b1), .unset, .unset, .unset, .unset] [(.int a3), (.int (2 : Int32)), (.ref b8), (.ref b8)])) rfl rfl (hb hby at_63) ?_
  intro T11 h11 X11 eT11 W11 V8
  have N11 := Fr.snoc X11 N10 g_b8
  have V1 := V1.other W11 ne_b1_b8
  have A1 := A1.wr W11
  have A8 := A8.wr W11
  have O0 := O0.wr W11 g_b8
  have V8 : Arv Z h11 b8 kA8 .int (6 : Int32) [(.int a1), (.int a2), (.int a3), (.int (0 : Int32)), (.int (0 : Int32)), (.int (0 : Int32))] (.int (0 : Int32)) := V8
  show Goes p e below _ T11 (mkF m 64 #[.val (.int a1), .val (.int a2), .val (.int a3), .val (.int a4), .val (.int a5), .val (.long q6), .second, .val (.int f6), .val (.int k), .val (.ref b1), .unset, .unset, .unset, .unset] [(.ref b8)])
  refine Goes.of (fun _ => XS.dup X11.here hx rfl (hb hby at_64) rfl rfl) ?_
  show Goes p e below _ T11 (mkF m 65 #[.val (.int a1), .val (.int a2), .val (.int a3), .val (.int a4), .val (.int a5), .val (.long q6), .second, .val (.int f6), .val (.int k), .val (.ref b1), .unset, .unset, .unset, .unset] [(.ref b8), (.ref b8)])
  refine Goes.of (fun _ => XS.iconst X11.here hx rfl (hb hby at_65)) ?_
  show Goes p e below _ T11 (mkF m 66 #[.val (.int a1), .val (.int a2), .val (.int a3), .val (.int a4), .val (.int a5), .val (.long q6), .second, .val (.int f6), .val (.int k), .val (.ref b1), .unset, .unset, .unset, .unset] [(.int (3 : Int32)), (.ref b8), (.ref b8)])
  refine Goes.of (fun _ => XS.iloadN X11.here hx rfl (hb hby at_66) rfl) ?_
  show Goes p e below _ T11 (mkF m 67 #[.val (.int a1), .val (.int a2), .val (.int a3), .val (.int a4), .val (.int a5), .val (.long q6), .second, .val (.int f6), .val (.int k), .val (.ref b1), .unset, .unset, .unset, .unset] [(.int a4), (.int (3 : Int32)), (.ref b8), (.ref b8)])
  refine goStI 3 X11 hx hZ eT11 V8 (by decide) (by decide) rfl (Nat.lt_of_lt_of_le (Nat.lt_succ_self _) (Nat.le_of_ble_eq_true rfl)) (g := (mkF m 67 #[.val (.int a1), .val (.int a2), .val (.int a3), .val (.int a4), .val (.int a5), .val (.long q6), .second, .val (.int f6), .val (.int k), .val (.ref b1), .unset, .unset, .unset, .unset] [(.int a4), (.int (3 : Int32)), (.ref b8), (.ref b8)])) rfl rfl (hb hby at_67) ?_
  intro T12 h12 X12 eT12 W12 V8
  have N12 := Fr.snoc X12 N11 g_b8
  have V1 := V1.other W12 ne_b1_b8
  have A1 := A1.wr W12
  have A8 := A8.wr W12
  have O0 := O0.wr W12 g_b8
  have V8 : Arv Z h12 b8 kA8 .int (6 : Int32) [(.int a1), (.int a2), (.int a3), (.int a4), (.int (0 : Int32)), (.int (0 : Int32))] (.int (0 : Int32)) := V8
  show Goes p e below _ T12 (mkF m 68 #[.val (.int a1), .val (.int a2), .val (.int a3), .val (.int a4), .val (.int a5), .val (.long q6), .second, .val (.int f6), .val (.int k), .val (.ref b1), .unset, .unset, .unset, .unset] [(.ref b8)])
  refine Goes.of (fun _ => XS.dup X12.here hx rfl (hb hby at_68) rfl rfl) ?_
  show Goes p e below _ T12 (mkF m 69 #[.val (.int a1), .val (.int a2), .val (.int a3), .val (.int a4), .val (.int a5), .val (.long q6), .second, .val (.int f6), .val (.int k), .val (.ref b1), .unset, .unset, .unset, .unset] [(.ref b8), (.ref b8)])
  refine Goes.of (fun _ => XS.iconst X12.here hx rfl (hb hby at_69)) ?_
  show Goes p e below _ T12 (mkF m 70 #[.val (.int a1), .val (.int a2), .val (.int a3), .val (.int a4), .val (.int a5), .val (.long q6), .second, .val (.int f6), .val (.int k), .val (.ref b1), .unset, .unset, .unset, .unset] [(.int (4 : Int32)), (.ref b8), (.ref b8)])
  refine Goes.of (fun _ => XS.iload X12.here hx rfl (hb hby at_70) rfl) ?_
  show Goes p e below _ T12 (mkF m 72 #[.val (.int a1), .val (.int a2), .val (.int a3), .val (.int a4), .val (.int a5), .val (.long q6), .second, .val (.int f6), .val (.int k), .val (.ref b1), .unset, .unset, .unset, .unset] [(.int a5), (.int (4 : Int32)), (.ref b8), (.ref b8)])
  refine goStI 4 X12 hx hZ eT12 V8 (by decide) (by decide) rfl (Nat.lt_of_lt_of_le (Nat.lt_succ_self _) (Nat.le_of_ble_eq_true rfl)) (g := (mkF m 72 #[.val (.int a1), .val (.int a2), .val (.int a3), .val (.int a4), .val (.int a5), .val (.long q6), .second, .val (.int f6), .val (.int k), .val (.ref b1), .unset, .unset, .unset, .unset] [(.int a5), (.int (4 : Int32)), (.ref b8), (.ref b8)])) rfl rfl (hb hby at_72) ?_
  intro T13 h13 X13 eT13 W13 V8
  have N13 := Fr.snoc X13 N12 g_b8
  have V1 := V1.other W13 ne_b1_b8
  have A1 := A1.wr W13
  have A8 := A8.wr W13
  have O0 := O0.wr W13 g_b8
  have V8 : Arv Z h13 b8 kA8 .int (6 : Int32) [(.int a1), (.int a2), (.int a3), (.int a4), (.int a5), (.int (0 : Int32))] (.int (0 : Int32)) := V8
  show Goes p e below _ T13 (mkF m 73 #[.val (.int a1), .val (.int a2), .val (.int a3), .val (.int a4), .val (.int a5), .val (.long q6), .second, .val (.int f6), .val (.int k), .val (.ref b1), .unset, .unset, .unset, .unset] [(.ref b8)])
  refine Goes.of (fun _ => XS.dup X13.here hx rfl (hb hby at_73) rfl rfl) ?_
  show Goes p e below _ T13 (mkF m 74 #[.val (.int a1), .val (.int a2), .val (.int a3), .val (.int a4), .val (.int a5), .val (.long q6), .second, .val (.int f6), .val (.int k), .val (.ref b1), .unset, .unset, .unset, .unset] [(.ref b8), (.ref b8)])
  refine Goes.of (fun _ => XS.iconst X13.here hx rfl (hb hby at_74)) ?_
  show Goes p e below _ T13 (mkF m 75 #[.val (.int a1), .val (.int a2), .val (.int a3), .val (.int a4), .val (.int a5), .val (.long q6), .second, .val (.int f6), .val (.int k), .val (.ref b1), .unset, .unset, .unset, .unset] [(.int (5 : Int32)), (.ref b8), (.ref b8)])
  refine Goes.of (fun _ => XS.iload X13.here hx rfl (hb hby at_75) rfl) ?_
  show Goes p e below _ T13 (mkF m 77 #[.val (.int a1), .val (.int a2), .val (.int a3), .val (.int a4), .val (.int a5), .val (.long q6), .second, .val (.int f6), .val (.int k), .val (.ref b1), .unset, .unset, .unset, .unset] [(.int f6), (.int (5 : Int32)), (.ref b8), (.ref b8)])
  refine goStI 5 X13 hx hZ eT13 V8 (by decide) (by decide) rfl (Nat.lt_of_lt_of_le (Nat.lt_succ_self _) (Nat.le_of_ble_eq_true rfl)) (g := (mkF m 77 #[.val (.int a1), .val (.int a2), .val (.int a3), .val (.int a4), .val (.int a5), .val (.long q6), .second, .val (.int f6), .val (.int k), .val (.ref b1), .unset, .unset, .unset, .unset] [(.int f6), (.int (5 : Int32)), (.ref b8), (.ref b8)])) rfl rfl (hb hby at_77) ?_
  intro T14 h14 X14 eT14 W14 V8
  have N14 := Fr.snoc X14 N13 g_b8
  have V1 := V1.other W14 ne_b1_b8
  have A1 := A1.wr W14
  have A8 := A8.wr W14
  have O0 := O0.wr W14 g_b8
  have V8 : Arv Z h14 b8 kA8 .int (6 : Int32) [(.int a1), (.int a2), (.int a3), (.int a4), (.int a5), (.int f6)] (.int (0 : Int32)) := V8
  show Goes p e below _ T14 (mkF m 78 #[.val (.int a1), .val (.int a2), .val (.int a3), .val (.int a4), .val (.int a5), .val (.long q6), .second, .val (.int f6), .val (.int k), .val (.ref b1), .unset, .unset, .unset, .unset] [(.ref b8)])
  refine Goes.of (fun _ => XS.astore X14.here hx rfl (hb hby at_78) rfl rfl (l' := #[.val (.int a1), .val (.int a2), .val (.int a3), .val (.int a4), .val (.int a5), .val (.long q6), .second, .val (.int f6), .val (.int k), .val (.ref b1), .val (.ref b8), .unset, .unset, .unset]) rfl) ?_
  show Goes p e below _ T14 (mkF m 80 #[.val (.int a1), .val (.int a2), .val (.int a3), .val (.int a4), .val (.int a5), .val (.long q6), .second, .val (.int f6), .val (.int k), .val (.ref b1), .val (.ref b8), .unset, .unset, .unset] [])
  rcases hk8 with rfl | rfl | rfl | rfl | rfl | rfl | rfl | rfl
  · show Goes p e below _ T14 (mkF m 80 #[.val (.int a1), .val (.int a2), .val (.int a3), .val (.int a4), .val (.int a5), .val (.long q6), .second, .val (.int f6), .val (.int (0 : Int32)), .val (.ref b1), .val (.ref b8), .unset, .unset, .unset] [])
    refine Goes.of (fun _ => XS.iload X14.here hx rfl (hb hby at_80) rfl) ?_
    show Goes p e below _ T14 (mkF m 82 #[.val (.int a1), .val (.int a2), .val (.int a3), .val (.int a4), .val (.int a5), .val (.long q6), .second, .val (.int f6), .val (.int (0 : Int32)), .val (.ref b1), .val (.ref b8), .unset, .unset, .unset] [(.int (0 : Int32))])
    refine Goes.of (fun _ => XS.ifNo X14.here hx rfl (hb hby at_82) rfl ((if0 _ _).trans (teq (by decide)).2)) ?_
    show Goes p e below _ T14 (mkF m 85 #[.val (.int a1), .val (.int a2), .val (.int a3), .val (.int a4), .val (.int a5), .val (.long q6), .second, .val (.int f6), .val (.int (0 : Int32)), .val (.ref b1), .val (.ref b8), .unset, .unset, .unset] [])
    refine Goes.of (fun _ => XS.aload X14.here hx rfl (hb hby at_85) rfl rfl) ?_
    show Goes p e below _ T14 (mkF m 87 #[.val (.int a1), .val (.int a2), .val (.int a3), .val (.int a4), .val (.int a5), .val (.long q6), .second, .val (.int f6), .val (.int (0 : Int32)), .val (.ref b1), .val (.ref b8), .unset, .unset, .unset] [(.ref b8)])
    refine Goes.of (fun _ => XS.iconst X14.here hx rfl (hb hby at_87)) ?_
    show Goes p e below _ T14 (mkF m 88 #[.val (.int a1), .val (.int a2), .val (.int a3), .val (.int a4), .val (.int a5), .val (.long q6), .second, .val (.int f6), .val (.int (0 : Int32)), .val (.ref b1), .val (.ref b8), .unset, .unset, .unset] [(.int (0 : Int32)), (.ref b8)])
    refine Goes.of (fun _ => XS.iloadN X14.here hx rfl (hb hby at_88) rfl) ?_
    show Goes p e below _ T14 (mkF m 89 #[.val (.int a1), .val (.int a2), .val (.int a3), .val (.int a4), .val (.int a5), .val (.long q6), .second, .val (.int f6), .val (.int (0 : Int32)), .val (.ref b1), .val (.ref b8), .unset, .unset, .unset] [(.int a2), (.int (0 : Int32)), (.ref b8)])
    refine goStI 0 X14 hx hZ eT14 V8 (by decide) (by decide) rfl (Nat.lt_of_lt_of_le (Nat.lt_succ_self _) (Nat.le_of_ble_eq_true rfl)) (g := (mkF m 89 #[.val (.int a1), .val (.int a2), .val (.int a3), .val (.int a4), .val (.int a5), .val (.long q6), .second, .val (.int f6), .val (.int (0 : Int32)), .val (.ref b1), .val (.ref b8), .unset, .unset, .unset] [(.int a2), (.int (0 : Int32)), (.ref b8)])) rfl rfl (hb hby at_89) ?_
    intro T15 h15 X15 eT15 W15 V8
    have N15 := Fr.snoc X15 N14 g_b8
    have V1 := V1.other W15 ne_b1_b8
    have A1 := A1.wr W15
    have A8 := A8.wr W15
    have O0 := O0.wr W15 g_b8
    have V8 : Arv Z h15 b8 kA8 .int (6 : Int32) [(.int a2), (.int a2), (.int a3), (.int a4), (.int a5), (.int f6)] (.int (0 : Int32)) := V8
    show Goes p e below _ T15 (mkF m 90 #[.val (.int a1), .val (.int a2), .val (.int a3), .val (.int a4), .val (.int a5), .val (.long q6), .second, .val (.int f6), .val (.int (0 : Int32)), .val (.ref b1), .val (.ref b8), .unset, .unset, .unset] [])
    refine Goes.of (fun _ => XS.iloadN X15.here hx rfl (hb hby at_90) rfl) ?_
    show Goes p e below _ T15 (mkF m 91 #[.val (.int a1), .val (.int a2), .val (.int a3), .val (.int a4), .val (.int a5), .val (.long q6), .second, .val (.int f6), .val (.int (0 : Int32)), .val (.ref b1), .val (.ref b8), .unset, .unset, .unset] [(.int a1)])
    refine Goes.of (fun _ => XS.iloadN X15.here hx rfl (hb hby at_91) rfl) ?_
    show Goes p e below _ T15 (mkF m 92 #[.val (.int a1), .val (.int a2), .val (.int a3), .val (.int a4), .val (.int a5), .val (.long q6), .second, .val (.int f6), .val (.int (0 : Int32)), .val (.ref b1), .val (.ref b8), .unset, .unset, .unset] [(.int a2), (.int a1)])
    refine Goes.of (T' := T15) (f' := (mkF m 100 #[.val (.int a1), .val (.int a2), .val (.int a3), .val (.int a4), .val (.int a5), .val (.long q6), .second, .val (.int f6), .val (.int (0 : Int32)), .val (.ref b1), .val (.ref b8), .unset, .unset, .unset] [(.int (if a1 = a2 then (1 : Int32) else (0 : Int32)))])) (fun t kt => ?_) ?_
    · show Steps p.tables e below (T15.setTop (mkF m 92 #[.val (.int a1), .val (.int a2), .val (.int a3), .val (.int a4), .val (.int a5), .val (.long q6), .second, .val (.int f6), .val (.int (0 : Int32)), .val (.ref b1), .val (.ref b8), .unset, .unset, .unset] [(.int a2), (.int a1)])) _
      by_cases hq92 : a1 = a2
      · simp only [if_pos hq92] at kt
        refine XS.icmpNo X15.here hx rfl (hb hby at_92) rfl (teq hq92).2 ?_
        show Steps p.tables e below (T15.setTop (mkF m 95 #[.val (.int a1), .val (.int a2), .val (.int a3), .val (.int a4), .val (.int a5), .val (.long q6), .second, .val (.int f6), .val (.int (0 : Int32)), .val (.ref b1), .val (.ref b8), .unset, .unset, .unset] [])) _
        refine XS.iconst X15.here hx rfl (hb hby at_95) ?_
        show Steps p.tables e below (T15.setTop (mkF m 96 #[.val (.int a1), .val (.int a2), .val (.int a3), .val (.int a4), .val (.int a5), .val (.long q6), .second, .val (.int f6), .val (.int (0 : Int32)), .val (.ref b1), .val (.ref b8), .unset, .unset, .unset] [(.int (1 : Int32))])) _
        refine XS.goto X15.here hx rfl (pc0 := 96) (pc' := 100) rfl (hb hby at_96) (by decide) (by decide) ?_
        show Steps p.tables e below (T15.setTop (mkF m 100 #[.val (.int a1), .val (.int a2), .val (.int a3), .val (.int a4), .val (.int a5), .val (.long q6), .second, .val (.int f6), .val (.int (0 : Int32)), .val (.ref b1), .val (.ref b8), .unset, .unset, .unset] [(.int (1 : Int32))])) _
        exact kt
      · simp only [if_neg hq92] at kt
        refine XS.icmpYes X15.here hx rfl (pc0 := 92) (pc' := 99) rfl (hb hby at_92) rfl (feq hq92).2 (by decide) (by decide) ?_
        show Steps p.tables e below (T15.setTop (mkF m 99 #[.val (.int a1), .val (.int a2), .val (.int a3), .val (.int a4), .val (.int a5), .val (.long q6), .second, .val (.int f6), .val (.int (0 : Int32)), .val (.ref b1), .val (.ref b8), .unset, .unset, .unset] [])) _
        refine XS.iconst X15.here hx rfl (hb hby at_99) ?_
        show Steps p.tables e below (T15.setTop (mkF m 100 #[.val (.int a1), .val (.int a2), .val (.int a3), .val (.int a4), .val (.int a5), .val (.long q6), .second, .val (.int f6), .val (.int (0 : Int32)), .val (.ref b1), .val (.ref b8), .unset, .unset, .unset] [(.int (0 : Int32))])) _
        exact kt
    show Goes p e below _ T15 (mkF m 100 #[.val (.int a1), .val (.int a2), .val (.int a3), .val (.int a4), .val (.int a5), .val (.long q6), .second, .val (.int f6), .val (.int (0 : Int32)), .val (.ref b1), .val (.ref b8), .unset, .unset, .unset] [(.int (if a1 = a2 then (1 : Int32) else (0 : Int32)))])
    refine Goes.of (fun _ => XS.istore X15.here hx rfl (hb hby at_100) rfl (l' := #[.val (.int a1), .val (.int a2), .val (.int a3), .val (.int a4), .val (.int a5), .val (.long q6), .second, .val (.int f6), .val (.int (0 : Int32)), .val (.ref b1), .val (.ref b8), .val (.int (if a1 = a2 then (1 : Int32) else (0 : Int32))), .unset, .unset]) rfl) ?_
    show Goes p e below _ T15 (mkF m 102 #[.val (.int a1), .val (.int a2), .val (.int a3), .val (.int a4), .val (.int a5), .val (.long q6), .second, .val (.int f6), .val (.int (0 : Int32)), .val (.ref b1), .val (.ref b8), .val (.int (if a1 = a2 then (1 : Int32) else (0 : Int32))), .unset, .unset] [])
    refine Goes.of (fun _ => XS.goto X15.here hx rfl (pc0 := 102) (pc' := 139) rfl (hb hby at_102) (by decide) (by decide)) ?_
    show Goes p e below _ T15 (mkF m 139 #[.val (.int a1), .val (.int a2), .val (.int a3), .val (.int a4), .val (.int a5), .val (.long q6), .second, .val (.int f6), .val (.int (0 : Int32)), .val (.ref b1), .val (.ref b8), .val (.int (if a1 = a2 then (1 : Int32) else (0 : Int32))), .unset, .unset] [])
    refine goNew X15 hx hZ hown (hw _ (List.mem_of_getElem? (i := 1) rfl)) (hw _ (List.mem_of_getElem? (i := 2) rfl)) (hw _ (List.mem_of_getElem? (i := 3) rfl)) eT15 (g := (mkF m 139 #[.val (.int a1), .val (.int a2), .val (.int a3), .val (.int a4), .val (.int a5), .val (.long q6), .second, .val (.int f6), .val (.int (0 : Int32)), .val (.ref b1), .val (.ref b8), .val (.int (if a1 = a2 then (1 : Int32) else (0 : Int32))), .unset, .unset] [])) rfl (hb hby at_139) (by decide) (by decide) ?_
    intro T16 h16 b16 X16 eT16 E16 hb16 A16 D16
    have g_b16 : n0 ≤ b16 := Nat.le_trans (oldLe O0) hb16
    have ne_b1_b16 : b1 ≠ b16 := Nat.ne_of_lt (Nat.lt_of_lt_of_le V1.lt hb16)
    have ne_b8_b16 : b8 ≠ b16 := Nat.ne_of_lt (Nat.lt_of_lt_of_le V8.lt hb16)
    have V1 := V1.ext E16
    have A1 := A1.ext E16
    have V8 := V8.ext E16
    have A8 := A8.ext E16
    have O0 := O0.ext E16
    have F16_leftSideBearing : Fld Z h16 b16 "com/example/casement/casement/graphics/CharMetrics" "leftSideBearing" "I" (.int (0 : Int32)) := D16 (Or.inr (hw _ (List.mem_of_getElem? (i := 11) rfl))) (ty := .int) (by decide)
    have F16_rightSideBearing : Fld Z h16 b16 "com/example/casement/casement/graphics/CharMetrics" "rightSideBearing" "I" (.int (0 : Int32)) := D16 (Or.inr (hw _ (List.mem_of_getElem? (i := 13) rfl))) (ty := .int) (by decide)
    have F16_characterWidth : Fld Z h16 b16 "com/example/casement/casement/graphics/CharMetrics" "characterWidth" "I" (.int (0 : Int32)) := D16 (Or.inr (hw _ (List.mem_of_getElem? (i := 15) rfl))) (ty := .int) (by decide)
    have F16_ascent : Fld Z h16 b16 "com/example/casement/casement/graphics/CharMetrics" "ascent" "I" (.int (0 : Int32)) := D16 (Or.inr (hw _ (List.mem_of_getElem? (i := 17) rfl))) (ty := .int) (by decide)
    have F16_descent : Fld Z h16 b16 "com/example/casement/casement/graphics/CharMetrics" "descent" "I" (.int (0 : Int32)) := D16 (Or.inr (hw _ (List.mem_of_getElem? (i := 19) rfl))) (ty := .int) (by decide)
    have F16_attributes : Fld Z h16 b16 "com/example/casement/casement/graphics/CharMetrics" "attributes" "I" (.int (0 : Int32)) := D16 (Or.inr (hw _ (List.mem_of_getElem? (i := 21) rfl))) (ty := .int) (by decide)
    show Goes p e below _ T16 (mkF m 142 #[.val (.int a1), .val (.int a2), .val (.int a3), .val (.int a4), .val (.int a5), .val (.long q6), .second, .val (.int f6), .val (.int (0 : Int32)), .val (.ref b1), .val (.ref b8), .val (.int (if a1 = a2 then (1 : Int32) else (0 : Int32))), .unset, .unset] [(.ref b16)])
    refine Goes.of (fun _ => XS.dup X16.here hx rfl (hb hby at_142) rfl rfl) ?_
    show Goes p e below _ T16 (mkF m 143 #[.val (.int a1), .val (.int a2), .val (.int a3), .val (.int a4), .val (.int a5), .val (.long q6), .second, .val (.int f6), .val (.int (0 : Int32)), .val (.ref b1), .val (.ref b8), .val (.int (if a1 = a2 then (1 : Int32) else (0 : Int32))), .unset, .unset] [(.ref b16), (.ref b16)])
    refine Goes.of (fun _ => XS.aload X16.here hx rfl (hb hby at_143) rfl rfl) ?_
    show Goes p e below _ T16 (mkF m 145 #[.val (.int a1), .val (.int a2), .val (.int a3), .val (.int a4), .val (.int a5), .val (.long q6), .second, .val (.int f6), .val (.int (0 : Int32)), .val (.ref b1), .val (.ref b8), .val (.int (if a1 = a2 then (1 : Int32) else (0 : Int32))), .unset, .unset] [(.ref b1), (.ref b16), (.ref b16)])
    refine Goes.of (fun _ => XS.iconst X16.here hx rfl (hb hby at_145)) ?_
    show Goes p e below _ T16 (mkF m 146 #[.val (.int a1), .val (.int a2), .val (.int a3), .val (.int a4), .val (.int a5), .val (.long q6), .second, .val (.int f6), .val (.int (0 : Int32)), .val (.ref b1), .val (.ref b8), .val (.int (if a1 = a2 then (1 : Int32) else (0 : Int32))), .unset, .unset] [(.int (0 : Int32)), (.ref b1), (.ref b16), (.ref b16)])
    refine goLdI (.int a1) X16 hx hZ eT16 V1 (by decide) (by decide) rfl (g := (mkF m 146 #[.val (.int a1), .val (.int a2), .val (.int a3), .val (.int a4), .val (.int a5), .val (.long q6), .second, .val (.int f6), .val (.int (0 : Int32)), .val (.ref b1), .val (.ref b8), .val (.int (if a1 = a2 then (1 : Int32) else (0 : Int32))), .unset, .unset] [(.int (0 : Int32)), (.ref b1), (.ref b16), (.ref b16)])) rfl rfl (hb hby at_146) ?_
    show Goes p e below _ T16 (mkF m 147 #[.val (.int a1), .val (.int a2), .val (.int a3), .val (.int a4), .val (.int a5), .val (.long q6), .second, .val (.int f6), .val (.int (0 : Int32)), .val (.ref b1), .val (.ref b8), .val (.int (if a1 = a2 then (1 : Int32) else (0 : Int32))), .unset, .unset] [(.int a1), (.ref b16), (.ref b16)])
    refine Goes.of (fun _ => XS.aload X16.here hx rfl (hb hby at_147) rfl rfl) ?_
    show Goes p e below _ T16 (mkF m 149 #[.val (.int a1), .val (.int a2), .val (.int a3), .val (.int a4), .val (.int a5), .val (.long q6), .second, .val (.int f6), .val (.int (0 : Int32)), .val (.ref b1), .val (.ref b8), .val (.int (if a1 = a2 then (1 : Int32) else (0 : Int32))), .unset, .unset] [(.ref b1), (.int a1), (.ref b16), (.ref b16)])
    refine Goes.of (fun _ => XS.iconst X16.here hx rfl (hb hby at_149)) ?_
    show Goes p e below _ T16 (mkF m 150 #[.val (.int a1), .val (.int a2), .val (.int a3), .val (.int a4), .val (.int a5), .val (.long q6), .second, .val (.int f6), .val (.int (0 : Int32)), .val (.ref b1), .val (.ref b8), .val (.int (if a1 = a2 then (1 : Int32) else (0 : Int32))), .unset, .unset] [(.int (1 : Int32)), (.ref b1), (.int a1), (.ref b16), (.ref b16)])
    refine goLdI (.int a2) X16 hx hZ eT16 V1 (by decide) (by decide) rfl (g := (mkF m 150 #[.val (.int a1), .val (.int a2), .val (.int a3), .val (.int a4), .val (.int a5), .val (.long q6), .second, .val (.int f6), .val (.int (0 : Int32)), .val (.ref b1), .val (.ref b8), .val (.int (if a1 = a2 then (1 : Int32) else (0 : Int32))), .unset, .unset] [(.int (1 : Int32)), (.ref b1), (.int a1), (.ref b16), (.ref b16)])) rfl rfl (hb hby at_150) ?_
    show Goes p e below _ T16 (mkF m 151 #[.val (.int a1), .val (.int a2), .val (.int a3), .val (.int a4), .val (.int a5), .val (.long q6), .second, .val (.int f6), .val (.int (0 : Int32)), .val (.ref b1), .val (.ref b8), .val (.int (if a1 = a2 then (1 : Int32) else (0 : Int32))), .unset, .unset] [(.int a2), (.int a1), (.ref b16), (.ref b16)])
    refine Goes.of (fun _ => XS.aload X16.here hx rfl (hb hby at_151) rfl rfl) ?_
    show Goes p e below _ T16 (mkF m 153 #[.val (.int a1), .val (.int a2), .val (.int a3), .val (.int a4), .val (.int a5), .val (.long q6), .second, .val (.int f6), .val (.int (0 : Int32)), .val (.ref b1), .val (.ref b8), .val (.int (if a1 = a2 then (1 : Int32) else (0 : Int32))), .unset, .unset] [(.ref b1), (.int a2), (.int a1), (.ref b16), (.ref b16)])
    refine Goes.of (fun _ => XS.iconst X16.here hx rfl (hb hby at_153)) ?_
    show Goes p e below _ T16 (mkF m 154 #[.val (.int a1), .val (.int a2), .val (.int a3), .val (.int a4), .val (.int a5), .val (.long q6), .second, .val (.int f6), .val (.int (0 : Int32)), .val (.ref b1), .val (.ref b8), .val (.int (if a1 = a2 then (1 : Int32) else (0 : Int32))), .unset, .unset] [(.int (2 : Int32)), (.ref b1), (.int a2), (.int a1), (.ref b16), (.ref b16)])
    refine goLdI (.int a3) X16 hx hZ eT16 V1 (by decide) (by decide) rfl (g := (mkF m 154 #[.val (.int a1), .val (.int a2), .val (.int a3), .val (.int a4), .val (.int a5), .val (.long q6), .second, .val (.int f6), .val (.int (0 : Int32)), .val (.ref b1), .val (.ref b8), .val (.int (if a1 = a2 then (1 : Int32) else (0 : Int32))), .unset, .unset] [(.int (2 : Int32)), (.ref b1), (.int a2), (.int a1), (.ref b16), (.ref b16)])) rfl rfl (hb hby at_154) ?_
    show Goes p e below _ T16 (mkF m 155 #[.val (.int a1), .val (.int a2), .val (.int a3), .val (.int a4), .val (.int a5), .val (.long q6), .second, .val (.int f6), .val (.int (0 : Int32)), .val (.ref b1), .val (.ref b8), .val (.int (if a1 = a2 then (1 : Int32) else (0 : Int32))), .unset, .unset] [(.int a3), (.int a2), (.int a1), (.ref b16), (.ref b16)])
    refine Goes.of (fun _ => XS.aload X16.here hx rfl (hb hby at_155) rfl rfl) ?_
    show Goes p e below _ T16 (mkF m 157 #[.val (.int a1), .val (.int a2), .val (.int a3), .val (.int a4), .val (.int a5), .val (.long q6), .second, .val (.int f6), .val (.int (0 : Int32)), .val (.ref b1), .val (.ref b8), .val (.int (if a1 = a2 then (1 : Int32) else (0 : Int32))), .unset, .unset] [(.ref b1), (.int a3), (.int a2), (.int a1), (.ref b16), (.ref b16)])
    refine Goes.of (fun _ => XS.iconst X16.here hx rfl (hb hby at_157)) ?_
    show Goes p e below _ T16 (mkF m 158 #[.val (.int a1), .val (.int a2), .val (.int a3), .val (.int a4), .val (.int a5), .val (.long q6), .second, .val (.int f6), .val (.int (0 : Int32)), .val (.ref b1), .val (.ref b8), .val (.int (if a1 = a2 then (1 : Int32) else (0 : Int32))), .unset, .unset] [(.int (3 : Int32)), (.ref b1), (.int a3), (.int a2), (.int a1), (.ref b16), (.ref b16)])
    refine goLdI (.int a4) X16 hx hZ eT16 V1 (by decide) (by decide) rfl (g := (mkF m 158 #[.val (.int a1), .val (.int a2), .val (.int a3), .val (.int a4), .val (.int a5), .val (.long q6), .second, .val (.int f6), .val (.int (0 : Int32)), .val (.ref b1), .val (.ref b8), .val (.int (if a1 = a2 then (1 : Int32) else (0 : Int32))), .unset, .unset] [(.int (3 : Int32)), (.ref b1), (.int a3), (.int a2), (.int a1), (.ref b16), (.ref b16)])) rfl rfl (hb hby at_158) ?_
    show Goes p e below _ T16 (mkF m 159 #[.val (.int a1), .val (.int a2), .val (.int a3), .val (.int a4), .val (.int a5), .val (.long q6), .second, .val (.int f6), .val (.int (0 : Int32)), .val (.ref b1), .val (.ref b8), .val (.int (if a1 = a2 then (1 : Int32) else (0 : Int32))), .unset, .unset] [(.int a4), (.int a3), (.int a2), (.int a1), (.ref b16), (.ref b16)])
    refine Goes.of (fun _ => XS.aload X16.here hx rfl (hb hby at_159) rfl rfl) ?_
    show Goes p e below _ T16 (mkF m 161 #[.val (.int a1), .val (.int a2), .val (.int a3), .val (.int a4), .val (.int a5), .val (.long q6), .second, .val (.int f6), .val (.int (0 : Int32)), .val (.ref b1), .val (.ref b8), .val (.int (if a1 = a2 then (1 : Int32) else (0 : Int32))), .unset, .unset] [(.ref b1), (.int a4), (.int a3), (.int a2), (.int a1), (.ref b16), (.ref b16)])
    refine Goes.of (fun _ => XS.iconst X16.here hx rfl (hb hby at_161)) ?_
    show Goes p e below _ T16 (mkF m 162 #[.val (.int a1), .val (.int a2), .val (.int a3), .val (.int a4), .val (.int a5), .val (.long q6), .second, .val (.int f6), .val (.int (0 : Int32)), .val (.ref b1), .val (.ref b8), .val (.int (if a1 = a2 then (1 : Int32) else (0 : Int32))), .unset, .unset] [(.int (4 : Int32)), (.ref b1), (.int a4), (.int a3), (.int a2), (.int a1), (.ref b16), (.ref b16)])
    refine goLdI (.int a5) X16 hx hZ eT16 V1 (by decide) (by decide) rfl (g := (mkF m 162 #[.val (.int a1), .val (.int a2), .val (.int a3), .val (.int a4), .val (.int a5), .val (.long q6), .second, .val (.int f6), .val (.int (0 : Int32)), .val (.ref b1), .val (.ref b8), .val (.int (if a1 = a2 then (1 : Int32) else (0 : Int32))), .unset, .unset] [(.int (4 : Int32)), (.ref b1), (.int a4), (.int a3), (.int a2), (.int a1), (.ref b16), (.ref b16)])) rfl rfl (hb hby at_162) ?_
    show Goes p e below _ T16 (mkF m 163 #[.val (.int a1), .val (.int a2), .val (.int a3), .val (.int a4), .val (.int a5), .val (.long q6), .second, .val (.int f6), .val (.int (0 : Int32)), .val (.ref b1), .val (.ref b8), .val (.int (if a1 = a2 then (1 : Int32) else (0 : Int32))), .unset, .unset] [(.int a5), (.int a4), (.int a3), (.int a2), (.int a1), (.ref b16), (.ref b16)])
    refine Goes.of (fun _ => XS.aload X16.here hx rfl (hb hby at_163) rfl rfl) ?_
    show Goes p e below _ T16 (mkF m 165 #[.val (.int a1), .val (.int a2), .val (.int a3), .val (.int a4), .val (.int a5), .val (.long q6), .second, .val (.int f6), .val (.int (0 : Int32)), .val (.ref b1), .val (.ref b8), .val (.int (if a1 = a2 then (1 : Int32) else (0 : Int32))), .unset, .unset] [(.ref b1), (.int a5), (.int a4), (.int a3), (.int a2), (.int a1), (.ref b16), (.ref b16)])
    refine Goes.of (fun _ => XS.iconst X16.here hx rfl (hb hby at_165)) ?_
    show Goes p e below _ T16 (mkF m 166 #[.val (.int a1), .val (.int a2), .val (.int a3), .val (.int a4), .val (.int a5), .val (.long q6), .second, .val (.int f6), .val (.int (0 : Int32)), .val (.ref b1), .val (.ref b8), .val (.int (if a1 = a2 then (1 : Int32) else (0 : Int32))), .unset, .unset] [(.int (5 : Int32)), (.ref b1), (.int a5), (.int a4), (.int a3), (.int a2), (.int a1), (.ref b16), (.ref b16)])
    refine goLdI (.int f6) X16 hx hZ eT16 V1 (by decide) (by decide) rfl (g := (mkF m 166 #[.val (.int a1), .val (.int a2), .val (.int a3), .val (.int a4), .val (.int a5), .val (.long q6), .second, .val (.int f6), .val (.int (0 : Int32)), .val (.ref b1), .val (.ref b8), .val (.int (if a1 = a2 then (1 : Int32) else (0 : Int32))), .unset, .unset] [(.int (5 : Int32)), (.ref b1), (.int a5), (.int a4), (.int a3), (.int a2), (.int a1), (.ref b16), (.ref b16)])) rfl rfl (hb hby at_166) ?_
    show Goes p e below _ T16 (mkF m 167 #[.val (.int a1), .val (.int a2), .val (.int a3), .val (.int a4), .val (.int a5), .val (.long q6), .second, .val (.int f6), .val (.int (0 : Int32)), .val (.ref b1), .val (.ref b8), .val (.int (if a1 = a2 then (1 : Int32) else (0 : Int32))), .unset, .unset] [(.int f6), (.int a5), (.int a4), (.int a3), (.int a2), (.int a1), (.ref b16), (.ref b16)])
    refine goSpecial 1 X16 hx hZ rfl hown (hw _ (List.mem_of_getElem? (i := 4) rfl)) (hw _ (List.mem_of_getElem? (i := 5) rfl)) (hw _ (List.mem_of_getElem? (i := 3) rfl)) (hw _ (List.mem_of_getElem? (i := 6) rfl)) (by decide) (rm_init l Z a0 hw b16 a1 a2 a3 a4 a5 f6 h16 n0 O0 g_b16 A16 F16_leftSideBearing F16_rightSideBearing F16_characterWidth F16_ascent F16_descent F16_attributes) eT16 (g := (mkF m 167 #[.val (.int a1), .val (.int a2), .val (.int a3), .val (.int a4), .val (.int a5), .val (.long q6), .second, .val (.int f6), .val (.int (0 : Int32)), .val (.ref b1), .val (.ref b8), .val (.int (if a1 = a2 then (1 : Int32) else (0 : Int32))), .unset, .unset] [(.int f6), (.int a5), (.int a4), (.int a3), (.int a2), (.int a1), (.ref b16), (.ref b16)])) rfl (by rw [hml]; rfl) b16 [(.int a1), (.int a2), (.int a3), (.int a4), (.int a5), (.int f6)] [(.ref b16)] (lenOf pd__IIIIII_V rfl) rfl rfl (by show 2 * 0 + _ ≤ _; exact Nat.le_of_eq rfl) (hb hby at_167) (by decide) (by decide) (by decide) (by decide) ?_
    intro v23 T23 L23 X23 q23
    obtain ⟨rfl, Nq23, Kq23, H0_23, H1_23, H2_23, H3_23, H4_23, H5_23⟩ := q23
    have N23 := Fr.app N15 Nq23
    have V1 := V1.keep Kq23 (ninS ne_b1_b16 nin0)
    have A1 := A1.keep Kq23
    have V8 := V8.keep Kq23 (ninS ne_b8_b16 nin0)
    have A8 := A8.keep Kq23
    have A16 := A16.keep Kq23
    have O0 := O0.keep Kq23 (allS g_b16 all0)
    show Goes p e below _ T23 (mkF m 170 #[.val (.int a1), .val (.int a2), .val (.int a3), .val (.int a4), .val (.int a5), .val (.long q6), .second, .val (.int f6), .val (.int (0 : Int32)), .val (.ref b1), .val (.ref b8), .val (.int (if a1 = a2 then (1 : Int32) else (0 : Int32))), .unset, .unset] [(.ref b16)])
    refine Goes.of (fun _ => XS.astore X23.here hx rfl (hb hby at_170) rfl rfl (l' := #[.val (.int a1), .val (.int a2), .val (.int a3), .val (.int a4), .val (.int a5), .val (.long q6), .second, .val (.int f6), .val (.int (0 : Int32)), .val (.ref b1), .val (.ref b8), .val (.int (if a1 = a2 then (1 : Int32) else (0 : Int32))), .val (.ref b16), .unset]) rfl) ?_
    show Goes p e below _ T23 (mkF m 172 #[.val (.int a1), .val (.int a2), .val (.int a3), .val (.int a4), .val (.int a5), .val (.long q6), .second, .val (.int f6), .val (.int (0 : Int32)), .val (.ref b1), .val (.ref b8), .val (.int (if a1 = a2 then (1 : Int32) else (0 : Int32))), .val (.ref b16), .unset] [])
    refine goNew X23 hx hZ hown (hw _ (List.mem_of_getElem? (i := 1) rfl)) (hw _ (List.mem_of_getElem? (i := 2) rfl)) (hw _ (List.mem_of_getElem? (i := 3) rfl)) (rfl : T23.heap = _) (g := (mkF m 172 #[.val (.int a1), .val (.int a2), .val (.int a3), .val (.int a4), .val (.int a5), .val (.long q6), .second, .val (.int f6), .val (.int (0 : Int32)), .val (.ref b1), .val (.ref b8), .val (.int (if a1 = a2 then (1 : Int32) else (0 : Int32))), .val (.ref b16), .unset] [])) rfl (hb hby at_172) (by decide) (by decide) ?_
    intro T24 h24 b24 X24 eT24 E24 hb24 A24 D24
    have g_b24 : n0 ≤ b24 := Nat.le_trans (oldLe O0) hb24
    have ne_b1_b24 : b1 ≠ b24 := Nat.ne_of_lt (Nat.lt_of_lt_of_le V1.lt hb24)
    have ne_b8_b24 : b8 ≠ b24 := Nat.ne_of_lt (Nat.lt_of_lt_of_le V8.lt hb24)
    have ne_b16_b24 : b16 ≠ b24 := Nat.ne_of_lt (Nat.lt_of_lt_of_le A16.lt hb24)
    have V1 := V1.ext E24
    have A1 := A1.ext E24
    have V8 := V8.ext E24
    have A8 := A8.ext E24
    have A16 := A16.ext E24
    have H0_23 := H0_23.ext E24
    have H1_23 := H1_23.ext E24
    have H2_23 := H2_23.ext E24
    have H3_23 := H3_23.ext E24
    have H4_23 := H4_23.ext E24
    have H5_23 := H5_23.ext E24
    have O0 := O0.ext E24
    have F24_leftSideBearing : Fld Z h24 b24 "com/example/casement/casement/graphics/CharMetrics" "leftSideBearing" "I" (.int (0 : Int32)) := D24 (Or.inr (hw _ (List.mem_of_getElem? (i := 11) rfl))) (ty := .int) (by decide)
    have F24_rightSideBearing : Fld Z h24 b24 "com/example/casement/casement/graphics/CharMetrics" "rightSideBearing" "I" (.int (0 : Int32)) := D24 (Or.inr (hw _ (List.mem_of_getElem? (i := 13) rfl))) (ty := .int) (by decide)
    have F24_characterWidth : Fld Z h24 b24 "com/example/casement/casement/graphics/CharMetrics" "characterWidth" "I" (.int (0 : Int32)) := D24 (Or.inr (hw _ (List.mem_of_getElem? (i := 15) rfl))) (ty := .int) (by decide)
    have F24_ascent : Fld Z h24 b24 "com/example/casement/casement/graphics/CharMetrics" "ascent" "I" (.int (0 : Int32)) := D24 (Or.inr (hw _ (List.mem_of_getElem? (i := 17) rfl))) (ty := .int) (by decide)
    have F24_descent : Fld Z h24 b24 "com/example/casement/casement/graphics/CharMetrics" "descent" "I" (.int (0 : Int32)) := D24 (Or.inr (hw _ (List.mem_of_getElem? (i := 19) rfl))) (ty := .int) (by decide)
    have F24_attributes : Fld Z h24 b24 "com/example/casement/casement/graphics/CharMetrics" "attributes" "I" (.int (0 : Int32)) := D24 (Or.inr (hw _ (List.mem_of_getElem? (i := 21) rfl))) (ty := .int) (by decide)
    show Goes p e below _ T24 (mkF m 175 #[.val (.int a1), .val (.int a2), .val (.int a3), .val (.int a4), .val (.int a5), .val (.long q6), .second, .val (.int f6), .val (.int (0 : Int32)), .val (.ref b1), .val (.ref b8), .val (.int (if a1 = a2 then (1 : Int32) else (0 : Int32))), .val (.ref b16), .unset] [(.ref b24)])
    refine Goes.of (fun _ => XS.dup X24.here hx rfl (hb hby at_175) rfl rfl) ?_
    show Goes p e below _ T24 (mkF m 176 #[.val (.int a1), .val (.int a2), .val (.int a3), .val (.int a4), .val (.int a5), .val (.long q6), .second, .val (.int f6), .val (.int (0 : Int32)), .val (.ref b1), .val (.ref b8), .val (.int (if a1 = a2 then (1 : Int32) else (0 : Int32))), .val (.ref b16), .unset] [(.ref b24), (.ref b24)])
    refine Goes.of (fun _ => XS.aload X24.here hx rfl (hb hby at_176) rfl rfl) ?_
    show Goes p e below _ T24 (mkF m 178 #[.val (.int a1), .val (.int a2), .val (.int a3), .val (.int a4), .val (.int a5), .val (.long q6), .second, .val (.int f6), .val (.int (0 : Int32)), .val (.ref b1), .val (.ref b8), .val (.int (if a1 = a2 then (1 : Int32) else (0 : Int32))), .val (.ref b16), .unset] [(.ref b8), (.ref b24), (.ref b24)])
    refine Goes.of (fun _ => XS.iconst X24.here hx rfl (hb hby at_178)) ?_
    show Goes p e below _ T24 (mkF m 179 #[.val (.int a1), .val (.int a2), .val (.int a3), .val (.int a4), .val (.int a5), .val (.long q6), .second, .val (.int f6), .val (.int (0 : Int32)), .val (.ref b1), .val (.ref b8), .val (.int (if a1 = a2 then (1 : Int32) else (0 : Int32))), .val (.ref b16), .unset] [(.int (0 : Int32)), (.ref b8), (.ref b24), (.ref b24)])
    refine goLdI (.int a2) X24 hx hZ eT24 V8 (by decide) (by decide) rfl (g := (mkF m 179 #[.val (.int a1), .val (.int a2), .val (.int a3), .val (.int a4), .val (.int a5), .val (.long q6), .second, .val (.int f6), .val (.int (0 : Int32)), .val (.ref b1), .val (.ref b8), .val (.int (if a1 = a2 then (1 : Int32) else (0 : Int32))), .val (.ref b16), .unset] [(.int (0 : Int32)), (.ref b8), (.ref b24), (.ref b24)])) rfl rfl (hb hby at_179) ?_
    show Goes p e below _ T24 (mkF m 180 #[.val (.int a1), .val (.int a2), .val (.int a3), .val (.int a4), .val (.int a5), .val (.long q6), .second, .val (.int f6), .val (.int (0 : Int32)), .val (.ref b1), .val (.ref b8), .val (.int (if a1 = a2 then (1 : Int32) else (0 : Int32))), .val (.ref b16), .unset] [(.int a2), (.ref b24), (.ref b24)])
    refine Goes.of (fun _ => XS.aload X24.here hx rfl (hb hby at_180) rfl rfl) ?_
    show Goes p e below _ T24 (mkF m 182 #[.val (.int a1), .val (.int a2), .val (.int a3), .val (.int a4), .val (.int a5), .val (.long q6), .second, .val (.int f6), .val (.int (0 : Int32)), .val (.ref b1), .val (.ref b8), .val (.int (if a1 = a2 then (1 : Int32) else (0 : Int32))), .val (.ref b16), .unset] [(.ref b8), (.int a2), (.ref b24), (.ref b24)])
    refine Goes.of (fun _ => XS.iconst X24.here hx rfl (hb hby at_182)) ?_
    show Goes p e below _ T24 (mkF m 183 #[.val (.int a1), .val (.int a2), .val (.int a3), .val (.int a4), .val (.int a5), .val (.long q6), .second, .val (.int f6), .val (.int (0 : Int32)), .val (.ref b1), .val (.ref b8), .val (.int (if a1 = a2 then (1 : Int32) else (0 : Int32))), .val (.ref b16), .unset] [(.int (1 : Int32)), (.ref b8), (.int a2), (.ref b24), (.ref b24)])
    refine goLdI (.int a2) X24 hx hZ eT24 V8 (by decide) (by decide) rfl (g := (mkF m 183 #[.val (.int a1), .val (.int a2), .val (.int a3), .val (.int a4), .val (.int a5), .val (.long q6), .second, .val (.int f6), .val (.int (0 : Int32)), .val (.ref b1), .val (.ref b8), .val (.int (if a1 = a2 then (1 : Int32) else (0 : Int32))), .val (.ref b16), .unset] [(.int (1 : Int32)), (.ref b8), (.int a2), (.ref b24), (.ref b24)])) rfl rfl (hb hby at_183) ?_
    show Goes p e below _ T24 (mkF m 184 #[.val (.int a1), .val (.int a2), .val (.int a3), .val (.int a4), .val (.int a5), .val (.long q6), .second, .val (.int f6), .val (.int (0 : Int32)), .val (.ref b1), .val (.ref b8), .val (.int (if a1 = a2 then (1 : Int32) else (0 : Int32))), .val (.ref b16), .unset] [(.int a2), (.int a2), (.ref b24), (.ref b24)])
    refine Goes.of (fun _ => XS.aload X24.here hx rfl (hb hby at_184) rfl rfl) ?_
    show Goes p e below _ T24 (mkF m 186 #[.val (.int a1), .val (.int a2), .val (.int a3), .val (.int a4), .val (.int a5), .val (.long q6), .second, .val (.int f6), .val (.int (0 : Int32)), .val (.ref b1), .val (.ref b8), .val (.int (if a1 = a2 then (1 : Int32) else (0 : Int32))), .val (.ref b16), .unset] [(.ref b8), (.int a2), (.int a2), (.ref b24), (.ref b24)])
    refine Goes.of (fun _ => XS.iconst X24.here hx rfl (hb hby at_186)) ?_
    show Goes p e below _ T24 (mkF m 187 #[.val (.int a1), .val (.int a2), .val (.int a3), .val (.int a4), .val (.int a5), .val (.long q6), .second, .val (.int f6), .val (.int (0 : Int32)), .val (.ref b1), .val (.ref b8), .val (.int (if a1 = a2 then (1 : Int32) else (0 : Int32))), .val (.ref b16), .unset] [(.int (2 : Int32)), (.ref b8), (.int a2), (.int a2), (.ref b24), (.ref b24)])
    refine goLdI (.int a3) X24 hx hZ eT24 V8 (by decide) (by decide) rfl (g := (mkF m 187 #[.val (.int a1), .val (.int a2), .val (.int a3), .val (.int a4), .val (.int a5), .val (.long q6), .second, .val (.int f6), .val (.int (0 : Int32)), .val (.ref b1), .val (.ref b8), .val (.int (if a1 = a2 then (1 : Int32) else (0 : Int32))), .val (.ref b16), .unset] [(.int (2 : Int32)), (.ref b8), (.int a2), (.int a2), (.ref b24), (.ref b24)])) rfl rfl (hb hby at_187) ?_
    show Goes p e below _ T24 (mkF m 188 #[.val (.int a1), .val (.int a2), .val (.int a3), .val (.int a4), .val (.int a5), .val (.long q6), .second, .val (.int f6), .val (.int (0 : Int32)), .val (.ref b1), .val (.ref b8), .val (.int (if a1 = a2 then (1 : Int32) else (0 : Int32))), .val (.ref b16), .unset] [(.int a3), (.int a2), (.int a2), (.ref b24), (.ref b24)])
    refine Goes.of (fun _ => XS.aload X24.here hx rfl (hb hby at_188) rfl rfl) ?_
    show Goes p e below _ T24 (mkF m 190 #[.val (.int a1), .val (.int a2), .val (.int a3), .val (.int a4), .val (.int a5), .val (.long q6), .second, .val (.int f6), .val (.int (0 : Int32)), .val (.ref b1), .val (.ref b8), .val (.int (if a1 = a2 then (1 : Int32) else (0 : Int32))), .val (.ref b16), .unset] [(.ref b8), (.int a3), (.int a2), (.int a2), (.ref b24), (.ref b24)])
    refine Goes.of (fun _ => XS.iconst X24.here hx rfl (hb hby at_190)) ?_
    show Goes p e below _ T24 (mkF m 191 #[.val (.int a1), .val (.int a2), .val (.int a3), .val (.int a4), .val (.int a5), .val (.long q6), .second, .val (.int f6), .val (.int (0 : Int32)), .val (.ref b1), .val (.ref b8), .val (.int (if a1 = a2 then (1 : Int32) else (0 : Int32))), .val (.ref b16), .unset] [(.int (3 : Int32)), (.ref b8), (.int a3), (.int a2), (.int a2), (.ref b24), (.ref b24)])
    refine goLdI (.int a4) X24 hx hZ eT24 V8 (by decide) (by decide) rfl (g := (mkF m 191 #[.val (.int a1), .val (.int a2), .val (.int a3), .val (.int a4), .val (.int a5), .val (.long q6), .second, .val (.int f6), .val (.int (0 : Int32)), .val (.ref b1), .val (.ref b8), .val (.int (if a1 = a2 then (1 : Int32) else (0 : Int32))), .val (.ref b16), .unset] [(.int (3 : Int32)), (.ref b8), (.int a3), (.int a2), (.int a2), (.ref b24), (.ref b24)])) rfl rfl (hb hby at_191) ?_
    show Goes p e below _ T24 (mkF m 192 #[.val (.int a1), .val (.int a2), .val (.int a3), .val (.int a4), .val (.int a5), .val (.long q6), .second, .val (.int f6), .val (.int (0 : Int32)), .val (.ref b1), .val (.ref b8), .val (.int (if a1 = a2 then (1 : Int32) else (0 : Int32))), .val (.ref b16), .unset] [(.int a4), (.int a3), (.int a2), (.int a2), (.ref b24), (.ref b24)])
    refine Goes.of (fun _ => XS.aload X24.here hx rfl (hb hby at_192) rfl rfl) ?_
    show Goes p e below _ T24 (mkF m 194 #[.val (.int a1), .val (.int a2), .val (.int a3), .val (.int a4), .val (.int a5), .val (.long q6), .second, .val (.int f6), .val (.int (0 : Int32)), .val (.ref b1), .val (.ref b8), .val (.int (if a1 = a2 then (1 : Int32) else (0 : Int32))), .val (.ref b16), .unset] [(.ref b8), (.int a4), (.int a3), (.int a2), (.int a2), (.ref b24), (.ref b24)])
    refine Goes.of (fun _ => XS.iconst X24.here hx rfl (hb hby at_194)) ?_
    show Goes p e below _ T24 (mkF m 195 #[.val (.int a1), .val (.int a2), .val (.int a3), .val (.int a4), .val (.int a5), .val (.long q6), .second, .val (.int f6), .val (.int (0 : Int32)), .val (.ref b1), .val (.ref b8), .val (.int (if a1 = a2 then (1 : Int32) else (0 : Int32))), .val (.ref b16), .unset] [(.int (4 : Int32)), (.ref b8), (.int a4), (.int a3), (.int a2), (.int a2), (.ref b24), (.ref b24)])
    refine goLdI (.int a5) X24 hx hZ eT24 V8 (by decide) (by decide) rfl (g := (mkF m 195 #[.val (.int a1), .val (.int a2), .val (.int a3), .val (.int a4), .val (.int a5), .val (.long q6), .second, .val (.int f6), .val (.int (0 : Int32)), .val (.ref b1), .val (.ref b8), .val (.int (if a1 = a2 then (1 : Int32) else (0 : Int32))), .val (.ref b16), .unset] [(.int (4 : Int32)), (.ref b8), (.int a4), (.int a3), (.int a2), (.int a2), (.ref b24), (.ref b24)])) rfl rfl (hb hby at_195) ?_
    show Goes p e below _ T24 (mkF m 196 #[.val (.int a1), .val (.int a2), .val (.int a3), .val (.int a4), .val (.int a5), .val (.long q6), .second, .val (.int f6), .val (.int (0 : Int32)), .val (.ref b1), .val (.ref b8), .val (.int (if a1 = a2 then (1 : Int32) else (0 : Int32))), .val (.ref b16), .unset] [(.int a5), (.int a4), (.int a3), (.int a2), (.int a2), (.ref b24), (.ref b24)])
    refine Goes.of (fun _ => XS.aload X24.here hx rfl (hb hby at_196) rfl rfl) ?_
    show Goes p e below _ T24 (mkF m 198 #[.val (.int a1), .val (.int a2), .val (.int a3), .val (.int a4), .val (.int a5), .val (.long q6), .second, .val (.int f6), .val (.int (0 : Int32)), .val (.ref b1), .val (.ref b8), .val (.int (if a1 = a2 then (1 : Int32) else (0 : Int32))), .val (.ref b16), .unset] [(.ref b8), (.int a5), (.int a4), (.int a3), (.int a2), (.int a2), (.ref b24), (.ref b24)])
    refine Goes.of (fun _ => XS.iconst X24.here hx rfl (hb hby at_198)) ?_
    show Goes p e below _ T24 (mkF m 199 #[.val (.int a1), .val (.int a2), .val (.int a3), .val (.int a4), .val (.int a5), .val (.long q6), .second, .val (.int f6), .val (.int (0 : Int32)), .val (.ref b1), .val (.ref b8), .val (.int (if a1 = a2 then (1 : Int32) else (0 : Int32))), .val (.ref b16), .unset] [(.int (5 : Int32)), (.ref b8), (.int a5), (.int a4), (.int a3), (.int a2), (.int a2), (.ref b24), (.ref b24)])
    refine goLdI (.int f6) X24 hx hZ eT24 V8 (by decide) (by decide) rfl (g := (mkF m 199 #[.val (.int a1), .val (.int a2), .val (.int a3), .val (.int a4), .val (.int a5), .val (.long q6), .second, .val (.int f6), .val (.int (0 : Int32)), .val (.ref b1), .val (.ref b8), .val (.int (if a1 = a2 then (1 : Int32) else (0 : Int32))), .val (.ref b16), .unset] [(.int (5 : Int32)), (.ref b8), (.int a5), (.int a4), (.int a3), (.int a2), (.int a2), (.ref b24), (.ref b24)])) rfl rfl (hb hby at_199) ?_
    show Goes p e below _ T24 (mkF m 200 #[.val (.int a1), .val (.int a2), .val (.int a3), .val (.int a4), .val (.int a5), .val (.long q6), .second, .val (.int f6), .val (.int (0 : Int32)), .val (.ref b1), .val (.ref b8), .val (.int (if a1 = a2 then (1 : Int32) else (0 : Int32))), .val (.ref b16), .unset] [(.int f6), (.int a5), (.int a4), (.int a3), (.int a2), (.int a2), (.ref b24), (.ref b24)])
    refine goSpecial 1 X24 hx hZ rfl hown (hw _ (List.mem_of_getElem? (i := 4) rfl)) (hw _ (List.mem_of_getElem? (i := 5) rfl)) (hw _ (List.mem_of_getElem? (i := 3) rfl)) (hw _ (List.mem_of_getElem? (i := 6) rfl)) (by decide) (rm_init l Z a0 hw b24 a2 a2 a3 a4 a5 f6 h24 n0 O0 g_b24 A24 F24_leftSideBearing F24_rightSideBearing F24_characterWidth F24_ascent F24_descent F24_attributes) eT24 (g := (mkF m 200 #[.val (.int a1), .val (.int a2), .val (.int a3), .val (.int a4), .val (.int a5), .val (.long q6), .second, .val (.int f6), .val (.int (0 : Int32)), .val (.ref b1), .val (.ref b8), .val (.int (if a1 = a2 then (1 : Int32) else (0 : Int32))), .val (.ref b16), .unset] [(.int f6), (.int a5), (.int a4), (.int a3), (.int a2), (.int a2), (.ref b24), (.ref b24)])) rfl (by rw [hml]; rfl) b24 [(.int a2), (.int a2), (.int a3), (.int a4), (.int a5), (.int f6)] [(.ref b24)] (lenOf pd__IIIIII_V rfl) rfl rfl (by show 2 * 0 + _ ≤ _; exact Nat.le_of_eq rfl) (hb hby at_200) (by decide) (by decide) (by decide) (by decide) ?_
    intro v31 T31 L31 X31 q31
    obtain ⟨rfl, Nq31, Kq31, H0_31, H1_31, H2_31, H3_31, H4_31, H5_31⟩ := q31
    have N31 := Fr.app N23 Nq31
    have V1 := V1.keep Kq31 (ninS ne_b1_b24 nin0)
    have A1 := A1.keep Kq31
    have V8 := V8.keep Kq31 (ninS ne_b8_b24 nin0)
    have A8 := A8.keep Kq31
    have A16 := A16.keep Kq31
    have H0_23 := H0_23.keep Kq31 (ninS ne_b16_b24 nin0)
    have H1_23 := H1_23.keep Kq31 (ninS ne_b16_b24 nin0)
    have H2_23 := H2_23.keep Kq31 (ninS ne_b16_b24 nin0)
    have H3_23 := H3_23.keep Kq31 (ninS ne_b16_b24 nin0)
    have H4_23 := H4_23.keep Kq31 (ninS ne_b16_b24 nin0)
    have H5_23 := H5_23.keep Kq31 (ninS ne_b16_b24 nin0)
    have A24 := A24.keep Kq31
    have O0 := O0.keep Kq31 (allS g_b24 all0)
    show Goes p e below _ T31 (mkF m 203 #[.val (.int a1), .val (.int a2), .val (.int a3), .val (.int a4), .val (.int a5), .val (.long q6), .second, .val (.int f6), .val (.int (0 : Int32)), .val (.ref b1), .val (.ref b8), .val (.int (if a1 = a2 then (1 : Int32) else (0 : Int32))), .val (.ref b16), .unset] [(.ref b24)])
    refine Goes.of (fun _ => XS.astore X31.here hx rfl (hb hby at_203) rfl rfl (l' := #[.val (.int a1), .val (.int a2), .val (.int a3), .val (.int a4), .val (.int a5), .val (.long q6), .second, .val (.int f6), .val (.int (0 : Int32)), .val (.ref b1), .val (.ref b8), .val (.int (if a1 = a2 then (1 : Int32) else (0 : Int32))), .val (.ref b16), .val (.ref b24)]) rfl) ?_
    show Goes p e below _ T31 (mkF m 205 #[.val (.int a1), .val (.int a2), .val (.int a3), .val (.int a4), .val (.int a5), .val (.long q6), .second, .val (.int f6), .val (.int (0 : Int32)), .val (.ref b1), .val (.ref b8), .val (.int (if a1 = a2 then (1 : Int32) else (0 : Int32))), .val (.ref b16), .val (.ref b24)] [])
    refine Goes.of (fun _ => XS.iload X31.here hx rfl (hb hby at_205) rfl) ?_
    show Goes p e below _ T31 (mkF m 207 #[.val (.int a1), .val (.int a2), .val (.int a3), .val (.int a4), .val (.int a5), .val (.long q6), .second, .val (.int f6), .val (.int (0 : Int32)), .val (.ref b1), .val (.ref b8), .val (.int (if a1 = a2 then (1 : Int32) else (0 : Int32))), .val (.ref b16), .val (.ref b24)] [(.int (0 : Int32))])
    refine Goes.of (fun _ => XS.bipush X31.here hx rfl (hb hby at_207)) ?_
    show Goes p e below _ T31 (mkF m 209 #[.val (.int a1), .val (.int a2), .val (.int a3), .val (.int a4), .val (.int a5), .val (.long q6), .second, .val (.int f6), .val (.int (0 : Int32)), .val (.ref b1), .val (.ref b8), .val (.int (if a1 = a2 then (1 : Int32) else (0 : Int32))), .val (.ref b16), .val (.ref b24)] [(.int (7 : Int32)), (.int (0 : Int32))])
    refine Goes.of (fun _ => XS.icmpYes X31.here hx rfl (pc0 := 209) (pc' := 249) rfl (hb hby at_209) rfl (feq (by decide)).2 (by decide) (by decide)) ?_
    show Goes p e below _ T31 (mkF m 249 #[.val (.int a1), .val (.int a2), .val (.int a3), .val (.int a4), .val (.int a5), .val (.long q6), .second, .val (.int f6), .val (.int (0 : Int32)), .val (.ref b1), .val (.ref b8), .val (.int (if a1 = a2 then (1 : Int32) else (0 : Int32))), .val (.ref b16), .val (.ref b24)] [])
    refine Goes.of (fun _ => XS.aload X31.here hx rfl (hb hby at_249) rfl rfl) ?_
    show Goes p e below _ T31 (mkF m 251 #[.val (.int a1), .val (.int a2), .val (.int a3), .val (.int a4), .val (.int a5), .val (.long q6), .second, .val (.int f6), .val (.int (0 : Int32)), .val (.ref b1), .val (.ref b8), .val (.int (if a1 = a2 then (1 : Int32) else (0 : Int32))), .val (.ref b16), .val (.ref b24)] [(.ref b16)])
    refine Goes.of (fun _ => XS.aload X31.here hx rfl (hb hby at_251) rfl rfl) ?_
    show Goes p e below _ T31 (mkF m 253 #[.val (.int a1), .val (.int a2), .val (.int a3), .val (.int a4), .val (.int a5), .val (.long q6), .second, .val (.int f6), .val (.int (0 : Int32)), .val (.ref b1), .val (.ref b8), .val (.int (if a1 = a2 then (1 : Int32) else (0 : Int32))), .val (.ref b16), .val (.ref b24)] [(.ref b24), (.ref b16)])
    refine goVirtual 0 X31 hx hZ hown (hw _ (List.mem_of_getElem? (i := 22) rfl)) (hw _ (List.mem_of_getElem? (i := 23) rfl)) (notFace_of_selects (args := #[]) (mvT hZ (hw _ (List.mem_of_getElem? (i := 25) rfl)))) (hw _ (List.mem_of_getElem? (i := 25) rfl)) (hw _ (List.mem_of_getElem? (i := 24) rfl)) (hw _ (List.mem_of_getElem? (i := 3) rfl)) (hw _ (List.mem_of_getElem? (i := 26) rfl)) (by decide) (rm_eq l Z a0 hw b16 b24 a1 a2 a3 a4 a5 f6 a2 a2 a3 a4 a5 f6 T31.heap n0 O0 A24 H0_23 H1_23 H2_23 H3_23 H4_23 H5_23 H0_31 H1_31 H2_31 H3_31 H4_31 H5_31) (rfl : T31.heap = _) A16 (g := (mkF m 253 #[.val (.int a1), .val (.int a2), .val (.int a3), .val (.int a4), .val (.int a5), .val (.long q6), .second, .val (.int f6), .val (.int (0 : Int32)), .val (.ref b1), .val (.ref b8), .val (.int (if a1 = a2 then (1 : Int32) else (0 : Int32))), .val (.ref b16), .val (.ref b24)] [(.ref b24), (.ref b16)])) rfl (by rw [hml]; rfl) [(.ref b24)] [] (lenOf pd__Ljava_lang_Object__Z rfl) rfl rfl (by show 2 * 0 + _ ≤ _; exact Nat.le_of_eq rfl) (hb hby at_253) (by decide) (by decide) (by decide) (by decide) ?_
    intro v32 T32 L32 X32 q32
    obtain ⟨rfl, Nq32, eT32⟩ := q32
    have N32 := Fr.app N31 Nq32
    show Goes p e below _ T32 (mkF m 256 #[.val (.int a1), .val (.int a2), .val (.int a3), .val (.int a4), .val (.int a5), .val (.long q6), .second, .val (.int f6), .val (.int (0 : Int32)), .val (.ref b1), .val (.ref b8), .val (.int (if a1 = a2 then (1 : Int32) else (0 : Int32))), .val (.ref b16), .val (.ref b24)] [(.int (eq6 a1 a2 a3 a4 a5 f6 a2 a2 a3 a4 a5 f6))])
    refine Goes.of (fun _ => XS.iload X32.here hx rfl (hb hby at_256) rfl) ?_
    show Goes p e below _ T32 (mkF m 258 #[.val (.int a1), .val (.int a2), .val (.int a3), .val (.int a4), .val (.int a5), .val (.long q6), .second, .val (.int f6), .val (.int (0 : Int32)), .val (.ref b1), .val (.ref b8), .val (.int (if a1 = a2 then (1 : Int32) else (0 : Int32))), .val (.ref b16), .val (.ref b24)] [(.int (if a1 = a2 then (1 : Int32) else (0 : Int32))), (.int (eq6 a1 a2 a3 a4 a5 f6 a2 a2 a3 a4 a5 f6))])
    refine Goes.of (fun _ => XS.icmpNo X32.here hx rfl (hb hby at_258) rfl (teq (by by_cases hh : a1 = a2 <;> simp [eq6, hh, eq_comm])).2) ?_
    show Goes p e below _ T32 (mkF m 261 #[.val (.int a1), .val (.int a2), .val (.int a3), .val (.int a4), .val (.int a5), .val (.long q6), .second, .val (.int f6), .val (.int (0 : Int32)), .val (.ref b1), .val (.ref b8), .val (.int (if a1 = a2 then (1 : Int32) else (0 : Int32))), .val (.ref b16), .val (.ref b24)] [])
    refine Goes.of (fun _ => XS.aload X32.here hx rfl (hb hby at_261) rfl rfl) ?_
    show Goes p e below _ T32 (mkF m 263 #[.val (.int a1), .val (.int a2), .val (.int a3), .val (.int a4), .val (.int a5), .val (.long q6), .second, .val (.int f6), .val (.int (0 : Int32)), .val (.ref b1), .val (.ref b8), .val (.int (if a1 = a2 then (1 : Int32) else (0 : Int32))), .val (.ref b16), .val (.ref b24)] [(.ref b24)])
    refine Goes.of (fun _ => XS.aload X32.here hx rfl (hb hby at_263) rfl rfl) ?_
    show Goes p e below _ T32 (mkF m 265 #[.val (.int a1), .val (.int a2), .val (.int a3), .val (.int a4), .val (.int a5), .val (.long q6), .second, .val (.int f6), .val (.int (0 : Int32)), .val (.ref b1), .val (.ref b8), .val (.int (if a1 = a2 then (1 : Int32) else (0 : Int32))), .val (.ref b16), .val (.ref b24)] [(.ref b16), (.ref b24)])
    refine goVirtual 0 X32 hx hZ hown (hw _ (List.mem_of_getElem? (i := 22) rfl)) (hw _ (List.mem_of_getElem? (i := 23) rfl)) (notFace_of_selects (args := #[]) (mvT hZ (hw _ (List.mem_of_getElem? (i := 25) rfl)))) (hw _ (List.mem_of_getElem? (i := 25) rfl)) (hw _ (List.mem_of_getElem? (i := 24) rfl)) (hw _ (List.mem_of_getElem? (i := 3) rfl)) (hw _ (List.mem_of_getElem? (i := 26) rfl)) (by decide) (rm_eq l Z a0 hw b24 b16 a2 a2 a3 a4 a5 f6 a1 a2 a3 a4 a5 f6 T31.heap n0 O0 A16 H0_31 H1_31 H2_31 H3_31 H4_31 H5_31 H0_23 H1_23 H2_23 H3_23 H4_23 H5_23) eT32 A24 (g := (mkF m 265 #[.val (.int a1), .val (.int a2), .val (.int a3), .val (.int a4), .val (.int a5), .val (.long q6), .second, .val (.int f6), .val (.int (0 : Int32)), .val (.ref b1), .val (.ref b8), .val (.int (if a1 = a2 then (1 : Int32) else (0 : Int32))), .val (.ref b16), .val (.ref b24)] [(.ref b16), (.ref b24)])) rfl (by rw [hml]; rfl) [(.ref b16)] [] (lenOf pd__Ljava_lang_Object__Z rfl) rfl rfl (by show 2 * 0 + _ ≤ _; exact Nat.le_of_eq rfl) (hb hby at_265) (by decide) (by decide) (by decide) (by decide) ?_
    intro v33 T33 L33 X33 q33
    obtain ⟨rfl, Nq33, eT33⟩ := q33
    have N33 := Fr.app N32 Nq33
    show Goes p e below _ T33 (mkF m 268 #[.val (.int a1), .val (.int a2), .val (.int a3), .val (.int a4), .val (.int a5), .val (.long q6), .second, .val (.int f6), .val (.int (0 : Int32)), .val (.ref b1), .val (.ref b8), .val (.int (if a1 = a2 then (1 : Int32) else (0 : Int32))), .val (.ref b16), .val (.ref b24)] [(.int (eq6 a2 a2 a3 a4 a5 f6 a1 a2 a3 a4 a5 f6))])
    refine Goes.of (fun _ => XS.iload X33.here hx rfl (hb hby at_268) rfl) ?_
    show Goes p e below _ T33 (mkF m 270 #[.val (.int a1), .val (.int a2), .val (.int a3), .val (.int a4), .val (.int a5), .val (.long q6), .second, .val (.int f6), .val (.int (0 : Int32)), .val (.ref b1), .val (.ref b8), .val (.int (if a1 = a2 then (1 : Int32) else (0 : Int32))), .val (.ref b16), .val (.ref b24)] [(.int (if a1 = a2 then (1 : Int32) else (0 : Int32))), (.int (eq6 a2 a2 a3 a4 a5 f6 a1 a2 a3 a4 a5 f6))])
    refine Goes.of (fun _ => XS.icmpNo X33.here hx rfl (hb hby at_270) rfl (teq (by by_cases hh : a1 = a2; (· simp [eq6, hh]); (· simp [eq6, hh, Ne.symm hh]))).2) ?_
    show Goes p e below _ T33 (mkF m 273 #[.val (.int a1), .val (.int a2), .val (.int a3), .val (.int a4), .val (.int a5), .val (.long q6), .second, .val (.int f6), .val (.int (0 : Int32)), .val (.ref b1), .val (.ref b8), .val (.int (if a1 = a2 then (1 : Int32) else (0 : Int32))), .val (.ref b16), .val (.ref b24)] [])
    refine Goes.of (fun _ => XS.iconst X33.here hx rfl (hb hby at_273)) ?_
    show Goes p e below _ T33 (mkF m 274 #[.val (.int a1), .val (.int a2), .val (.int a3), .val (.int a4), .val (.int a5), .val (.long q6), .second, .val (.int f6), .val (.int (0 : Int32)), .val (.ref b1), .val (.ref b8), .val (.int (if a1 = a2 then (1 : Int32) else (0 : Int32))), .val (.ref b16), .val (.ref b24)] [(.int (1 : Int32))])
    refine Goes.of (fun _ => XS.goto X33.here hx rfl (pc0 := 274) (pc' := 278) rfl (hb hby at_274) (by decide) (by decide)) ?_
    show Goes p e below _ T33 (mkF m 278 #[.val (.int a1), .val (.int a2), .val (.int a3), .val (.int a4), .val (.int a5), .val (.long q6), .second, .val (.int f6), .val (.int (0 : Int32)), .val (.ref b1), .val (.ref b8), .val (.int (if a1 = a2 then (1 : Int32) else (0 : Int32))), .val (.ref b16), .val (.ref b24)] [(.int (1 : Int32))])
    exact retZ (t := .boolean) X33 hx hret hlk (by simp) (hb hby at_278) eT33 (by decide) (by decide) ⟨rfl, N33⟩
  · show Goes p e below _ T14 (mkF m 80 #[.val (.int a1), .val (.int a2), .val (.int a3), .val (.int a4), .val (.int a5), .val (.long q6), .second, .val (.int f6), .val (.int (1 : Int32)), .val (.ref b1), .val (.ref b8), .unset, .unset, .unset] [])
    refine Goes.of (fun _ => XS.iload X14.here hx rfl (hb hby at_80) rfl) ?_
    show Goes p e below _ T14 (mkF m 82 #[.val (.int a1), .val (.int a2), .val (.int a3), .val (.int a4), .val (.int a5), .val (.long q6), .second, .val (.int f6), .val (.int (1 : Int32)), .val (.ref b1), .val (.ref b8), .unset, .unset, .unset] [(.int (1 : Int32))])
    refine Goes.of (fun _ => XS.ifYes X14.here hx rfl (pc0 := 82) (pc' := 105) rfl (hb hby at_82) rfl ((if0 _ _).trans (feq (by decide)).2) (by decide) (by decide)) ?_
    show Goes p e below _ T14 (mkF m 105 #[.val (.int a1), .val (.int a2), .val (.int a3), .val (.int a4), .val (.int a5), .val (.long q6), .second, .val (.int f6), .val (.int (1 : Int32)), .val (.ref b1), .val (.ref b8), .unset, .unset, .unset] [])
    refine Goes.of (fun _ => XS.iload X14.here hx rfl (hb hby at_105) rfl) ?_
    show Goes p e below _ T14 (mkF m 107 #[.val (.int a1), .val (.int a2), .val (.int a3), .val (.int a4), .val (.int a5), .val (.long q6), .second, .val (.int f6), .val (.int (1 : Int32)), .val (.ref b1), .val (.ref b8), .unset, .unset, .unset] [(.int (1 : Int32))])
    refine Goes.of (fun _ => XS.iconst X14.here hx rfl (hb hby at_107)) ?_
    show Goes p e below _ T14 (mkF m 108 #[.val (.int a1), .val (.int a2), .val (.int a3), .val (.int a4), .val (.int a5), .val (.long q6), .second, .val (.int f6), .val (.int (1 : Int32)), .val (.ref b1), .val (.ref b8), .unset, .unset, .unset] [(.int (5 : Int32)), (.int (1 : Int32))])
    refine Goes.of (fun _ => XS.icmpNo X14.here hx rfl (hb hby at_108) rfl (flt (by decide)).2.2.1) ?_
    show Goes p e below _ T14 (mkF m 111 #[.val (.int a1), .val (.int a2), .val (.int a3), .val (.int a4), .val (.int a5), .val (.long q6), .second, .val (.int f6), .val (.int (1 : Int32)), .val (.ref b1), .val (.ref b8), .unset, .unset, .unset] [])
    refine Goes.of (fun _ => XS.aload X14.here hx rfl (hb hby at_111) rfl rfl) ?_
    show Goes p e below _ T14 (mkF m 113 #[.val (.int a1), .val (.int a2), .val (.int a3), .val (.int a4), .val (.int a5), .val (.long q6), .second, .val (.int f6), .val (.int (1 : Int32)), .val (.ref b1), .val (.ref b8), .unset, .unset, .unset] [(.ref b8)])
    refine Goes.of (fun _ => XS.iload X14.here hx rfl (hb hby at_113) rfl) ?_
    show Goes p e below _ T14 (mkF m 115 #[.val (.int a1), .val (.int a2), .val (.int a3), .val (.int a4), .val (.int a5), .val (.long q6), .second, .val (.int f6), .val (.int (1 : Int32)), .val (.ref b1), .val (.ref b8), .unset, .unset, .unset] [(.int (1 : Int32)), (.ref b8)])
    refine Goes.of (fun _ => XS.iloadN X14.here hx rfl (hb hby at_115) rfl) ?_
    show Goes p e below _ T14 (mkF m 116 #[.val (.int a1), .val (.int a2), .val (.int a3), .val (.int a4), .val (.int a5), .val (.long q6), .second, .val (.int f6), .val (.int (1 : Int32)), .val (.ref b1), .val (.ref b8), .unset, .unset, .unset] [(.int a1), (.int (1 : Int32)), (.ref b8)])
    refine goStI 1 X14 hx hZ eT14 V8 (by decide) (by decide) rfl (Nat.lt_of_lt_of_le (Nat.lt_succ_self _) (Nat.le_of_ble_eq_true rfl)) (g := (mkF m 116 #[.val (.int a1), .val (.int a2), .val (.int a3), .val (.int a4), .val (.int a5), .val (.long q6), .second, .val (.int f6), .val (.int (1 : Int32)), .val (.ref b1), .val (.ref b8), .unset, .unset, .unset] [(.int a1), (.int (1 : Int32)), (.ref b8)])) rfl rfl (hb hby at_116) ?_
    intro T34 h34 X34 eT34 W34 V8
    have N34 := Fr.snoc X34 N14 g_b8
    have V1 := V1.other W34 ne_b1_b8
    have A1 := A1.wr W34
    have A8 := A8.wr W34
    have O0 := O0.wr W34 g_b8
    have V8 : Arv Z h34 b8 kA8 .int (6 : Int32) [(.int a1), (.int a1), (.int a3), (.int a4), (.int a5), (.int f6)] (.int (0 : Int32)) := V8
    show Goes p e below _ T34 (mkF m 117 #[.val (.int a1), .val (.int a2), .val (.int a3), .val (.int a4), .val (.int a5), .val (.long q6), .second, .val (.int f6), .val (.int (1 : Int32)), .val (.ref b1), .val (.ref b8), .unset, .unset, .unset] [])
    refine Goes.of (fun _ => XS.aload X34.here hx rfl (hb hby at_117) rfl rfl) ?_
    show Goes p e below _ T34 (mkF m 119 #[.val (.int a1), .val (.int a2), .val (.int a3), .val (.int a4), .val (.int a5), .val (.long q6), .second, .val (.int f6), .val (.int (1 : Int32)), .val (.ref b1), .val (.ref b8), .unset, .unset, .unset] [(.ref b1)])
    refine Goes.of (fun _ => XS.iload X34.here hx rfl (hb hby at_119) rfl) ?_
    show Goes p e below _ T34 (mkF m 121 #[.val (.int a1), .val (.int a2), .val (.int a3), .val (.int a4), .val (.int a5), .val (.long q6), .second, .val (.int f6), .val (.int (1 : Int32)), .val (.ref b1), .val (.ref b8), .unset, .unset, .unset] [(.int (1 : Int32)), (.ref b1)])
    refine goLdI (.int a2) X34 hx hZ eT34 V1 (by decide) (by decide) rfl (g := (mkF m 121 #[.val (.int a1), .val (.int a2), .val (.int a3), .val (.int a4), .val (.int a5), .val (.long q6), .second, .val (.int f6), .val (.int (1 : Int32)), .val (.ref b1), .val (.ref b8), .unset, .unset, .unset] [(.int (1 : Int32)), (.ref b1)])) rfl rfl (hb hby at_121) ?_
    show Goes p e below _ T34 (mkF m 122 #[.val (.int a1), .val (.int a2), .val (.int a3), .val (.int a4), .val (.int a5), .val (.long q6), .second, .val (.int f6), .val (.int (1 : Int32)), .val (.ref b1), .val (.ref b8), .unset, .unset, .unset] [(.int a2)])
    refine Goes.of (fun _ => XS.iloadN X34.here hx rfl (hb hby at_122) rfl) ?_
    show Goes p e below _ T34 (mkF m 123 #[.val (.int a1), .val (.int a2), .val (.int a3), .val (.int a4), .val (.int a5), .val (.long q6), .second, .val (.int f6), .val (.int (1 : Int32)), .val (.ref b1), .val (.ref b8), .unset, .unset, .unset] [(.int a1), (.int a2)])
    refine Goes.of (T' := T34) (f' := (mkF m 131 #[.val (.int a1), .val (.int a2), .val (.int a3), .val (.int a4), .val (.int a5), .val (.long q6), .second, .val (.int f6), .val (.int (1 : Int32)), .val (.ref b1), .val (.ref b8), .unset, .unset, .unset] [(.int (if a2 = a1 then (1 : Int32) else (0 : Int32)))])) (fun t kt => ?_) ?_
    · show Steps p.tables e below (T34.setTop (mkF m 123 #[.val (.int a1), .val (.int a2), .val (.int a3), .val (.int a4), .val (.int a5), .val (.long q6), .second, .val (.int f6), .val (.int (1 : Int32)), .val (.ref b1), .val (.ref b8), .unset, .unset, .unset] [(.int a1), (.int a2)])) _
      by_cases hq123 : a2 = a1
      · simp only [if_pos hq123] at kt
        refine XS.icmpNo X34.here hx rfl (hb hby at_123) rfl (teq hq123).2 ?_
        show Steps p.tables e below (T34.setTop (mkF m 126 #[.val (.int a1), .val (.int a2), .val (.int a3), .val (.int a4), .val (.int a5), .val (.long q6), .second, .val (.int f6), .val (.int (1 : Int32)), .val (.ref b1), .val (.ref b8), .unset, .unset, .unset] [])) _
        refine XS.iconst X34.here hx rfl (hb hby at_126) ?_
        show Steps p.tables e below (T34.setTop (mkF m 127 #[.val (.int a1), .val (.int a2), .val (.int a3), .val (.int a4), .val (.int a5), .val (.long q6), .second, .val (.int f6), .val (.int (1 : Int32)), .val (.ref b1), .val (.ref b8), .unset, .unset, .unset] [(.int (1 : Int32))])) _
        refine XS.goto X34.here hx rfl (pc0 := 127) (pc' := 131) rfl (hb hby at_127) (by decide) (by decide) ?_
        show Steps p.tables e below (T34.setTop (mkF m 131 #[.val (.int a1), .val (.int a2), .val (.int a3), .val (.int a4), .val (.int a5), .val (.long q6), .second, .val (.int f6), .val (.int (1 : Int32)), .val (.ref b1), .val (.ref b8), .unset, .unset, .unset] [(.int (1 : Int32))])) _
        exact kt
      · simp only [if_neg hq123] at kt
        refine XS.icmpYes X34.here hx rfl (pc0 := 123) (pc' := 130) rfl (hb hby at_123) rfl (feq hq123).2 (by decide) (by decide) ?_
        show Steps p.tables e below (T34.setTop (mkF m 130 #[.val (.int a1), .val (.int a2), .val (.int a3), .val (.int a4), .val (.int a5), .val (.long q6), .second, .val (.int f6), .val (.int (1 : Int32)), .val (.ref b1), .val (.ref b8), .unset, .unset, .unset] [])) _
        refine XS.iconst X34.here hx rfl (hb hby at_130) ?_
        show Steps p.tables e below (T34.setTop (mkF m 131 #[.val (.int a1), .val (.int a2), .val (.int a3), .val (.int a4), .val (.int a5), .val (.long q6), .second, .val (.int f6), .val (.int (1 : Int32)), .val (.ref b1), .val (.ref b8), .unset, .unset, .unset] [(.int (0 : Int32))])) _
        exact kt
    show Goes p e below _ T34 (mkF m 131 #[.val (.int a1), .val (.int a2), .val (.int a3), .val (.int a4), .val (.int a5), .val (.long q6), .second, .val (.int f6), .val (.int (1 : Int32)), .val (.ref b1), .val (.ref b8), .unset, .unset, .unset] [(.int (if a2 = a1 then (1 : Int32) else (0 : Int32)))])
    refine Goes.of (fun _ => XS.istore X34.here hx rfl (hb hby at_131) rfl (l' := #[.val (.int a1), .val (.int a2), .val (.int a3), .val (.int a4), .val (.int a5), .val (.long q6), .second, .val (.int f6), .val (.int (1 : Int32)), .val (.ref b1), .val (.ref b8), .val (.int (if a2 = a1 then (1 : Int32) else (0 : Int32))), .unset, .unset]) rfl) ?_
    show Goes p e below _ T34 (mkF m 133 #[.val (.int a1), .val (.int a2), .val (.int a3), .val (.int a4), .val (.int a5), .val (.long q6), .second, .val (.int f6), .val (.int (1 : Int32)), .val (.ref b1), .val (.ref b8), .val (.int (if a2 = a1 then (1 : Int32) else (0 : Int32))), .unset, .unset] [])
    refine Goes.of (fun _ => XS.goto X34.here hx rfl (pc0 := 133) (pc' := 139) rfl (hb hby at_133) (by decide) (by decide)) ?_
    show Goes p e below _ T34 (mkF m 139 #[.val (.int a1), .val (.int a2), .val (.int a3), .val (.int a4), .val (.int a5), .val (.long q6), .second, .val (.int f6), .val (.int (1 : Int32)), .val (.ref b1), .val (.ref b8), .val (.int (if a2 = a1 then (1 : Int32) else (0 : Int32))), .unset, .unset] [])
    refine goNew X34 hx hZ hown (hw _ (List.mem_of_getElem? (i := 1) rfl)) (hw _ (List.mem_of_getElem? (i := 2) rfl)) (hw _ (List.mem_of_getElem? (i := 3) rfl)) eT34 (g := (mkF m 139 #[.val (.int a1), .val (.int a2), .val (.int a3), .val (.int a4), .val (.int a5), .val (.long q6), .second, .val (.int f6), .val (.int (1 : Int32)), .val (.ref b1), .val (.ref b8), .val (.int (if a2 = a1 then (1 : Int32) else (0 : Int32))), .unset, .unset] [])) rfl (hb hby at_139) (by decide) (by decide) ?_
    intro T36 h36 b36 X36 eT36 E36 hb36 A36 D36
    have g_b36 : n0 ≤ b36 := Nat.le_trans (oldLe O0) hb36
    have ne_b1_b36 : b1 ≠ b36 := Nat.ne_of_lt (Nat.lt_of_lt_of_le V1.lt hb36)
    have ne_b8_b36 : b8 ≠ b36 := Nat.ne_of_lt (Nat.lt_of_lt_of_le V8.lt hb36)
    have V1 := V1.ext E36
    have A1 := A1.ext E36
    have V8 := V8.ext E36
    have A8 := A8.ext E36
    have O0 := O0.ext E36
    have F36_leftSideBearing : Fld Z h36 b36 "com/example/casement/casement/graphics/CharMetrics" "leftSideBearing" "I" (.int (0 : Int32)) := D36 (Or.inr (hw _ (List.mem_of_getElem? (i := 11) rfl))) (ty := .int) (by decide)
    have F36_rightSideBearing : Fld Z h36 b36 "com/example/casement/casement/graphics/CharMetrics" "rightSideBearing" "I" (.int (0 : Int32)) := D36 (Or.inr (hw _ (List.mem_of_getElem? (i := 13) rfl))) (ty := .int) (by decide)
    have F36_characterWidth : Fld Z h36 b36 "com/example/casement/casement/graphics/CharMetrics" "characterWidth" "I" (.int (0 : Int32)) := D36 (Or.inr (hw _ (List.mem_of_getElem? (i := 15) rfl))) (ty := .int) (by decide)
    have F36_ascent : Fld Z h36 b36 "com/example/casement/casement/graphics/CharMetrics" "ascent" "I" (.int (0 : Int32)) := D36 (Or.inr (hw _ (List.mem_of_getElem? (i := 17) rfl))) (ty := .int) (by decide)
    have F36_descent : Fld Z h36 b36 "com/example/casement/casement/graphics/CharMetrics" "descent" "I" (.int (0 : Int32)) := D36 (Or.inr (hw _ (List.mem_of_getElem? (i := 19) rfl))) (ty := .int) (by decide)
    have F36_attributes : Fld Z h36 b36 "com/example/casement/casement/graphics/CharMetrics" "attributes" "I" (.int (0 : Int32)) := D36 (Or.inr (hw _ (List.mem_of_getElem? (i := 21) rfl))) (ty := .int) (by decide)
    show Goes p e below _ T36 (mkF m 142 #[.val (.int a1), .val (.int a2), .val (.int a3), .val (.int a4), .val (.int a5), .val (.long q6), .second, .val (.int f6), .val (.int (1 : Int32)), .val (.ref b1), .val (.ref b8), .val (.int (if a2 = a1 then (1 : Int32) else (0 : Int32))), .unset, .unset] [(.ref b36)])
    refine Goes.of (fun _ => XS.dup X36.here hx rfl (hb hby at_142) rfl rfl) ?_
    show Goes p e below _ T36 (mkF m 143 #[.val (.int a1), .val (.int a2), .val (.int a3), .val (.int a4), .val (.int a5), .val (.long q6), .second, .val (.int f6), .val (.int (1 : Int32)), .val (.ref b1), .val (.ref b8), .val (.int (if a2 = a1 then (1 : Int32) else (0 : Int32))), .unset, .unset] [(.ref b36), (.ref b36)])
    refine Goes.of (fun _ => XS.aload X36.here hx rfl (hb hby at_143) rfl rfl) ?_
    show Goes p e below _ T36 (mkF m 145 #[.val (.int a1), .val (.int a2), .val (.int a3), .val (.int a4), .val (.int a5), .val (.long q6), .second, .val (.int f6), .val (.int (1 : Int32)), .val (.ref b1), .val (.ref b8), .val (.int (if a2 = a1 then (1 : Int32) else (0 : Int32))), .unset, .unset] [(.ref b1), (.ref b36), (.ref b36)])
    refine Goes.of (fun _ => XS.iconst X36.here hx rfl (hb hby at_145)) ?_
    show Goes p e below _ T36 (mkF m 146 #[.val (.int a1), .val (.int a2), .val (.int a3), .val (.int a4), .val (.int a5), .val (.long q6), .second, .val (.int f6), .val (.int (1 : Int32)), .val (.ref b1), .val (.ref b8), .val (.int (if a2 = a1 then (1 : Int32) else (0 : Int32))), .unset, .unset] [(.int (0 : Int32)), (.ref b1), (.ref b36), (.ref b36)])
    refine goLdI (.int a1) X36 hx hZ eT36 V1 (by decide) (by decide) rfl (g := (mkF m 146 #[.val (.int a1), .val (.int a2), .val (.int a3), .val (.int a4), .val (.int a5), .val (.long q6), .second, .val (.int f6), .val (.int (1 : Int32)), .val (.ref b1), .val (.ref b8), .val (.int (if a2 = a1 then (1 : Int32) else (0 : Int32))), .unset, .unset] [(.int (0 : Int32)), (.ref b1), (.ref b36), (.ref b36)])) rfl rfl (hb hby at_146) ?_
    show Goes p e below _ T36 (mkF m 147 #[.val (.int a1), .val (.int a2), .val (.int a3), .val (.int a4), .val (.int a5), .val (.long q6), .second, .val (.int f6), .val (.int (1 : Int32)), .val (.ref b1), .val (.ref b8), .val (.int (if a2 = a1 then (1 : Int32) else (0 : Int32))), .unset, .unset] [(.int a1), (.ref b36), (.ref b36)])
    refine Goes.of (fun _ => XS.aload X36.here hx rfl (hb hby at_147) rfl rfl) ?_
    show Goes p e below _ T36 (mkF m 149 #[.val (.int a1), .val (.int a2), .val (.int a3), .val (.int a4), .val (.int a5), .val (.long q6), .second, .val (.int f6), .val (.int (1 : Int32)), .val (.ref b1), .val (.ref b8), .val (.int (if a2 = a1 then (1 : Int32) else (0 : Int32))), .unset, .unset] [(.ref b1), (.int a1), (.ref b36), (.ref b36)])
    refine Goes.of (fun _ => XS.iconst X36.here hx rfl (hb hby at_149)) ?_
    show Goes p e below _ T36 (mkF m 150 #[.val (.int a1), .val (.int a2), .val (.int a3), .val (.int a4), .val (.int a5), .val (.long q6), .second, .val (.int f6), .val (.int (1 : Int32)), .val (.ref b1), .val (.ref b8), .val (.int (if a2 = a1 then (1 : Int32) else (0 : Int32))), .unset, .unset] [(.int (1 : Int32)), (.ref b1), (.int a1), (.ref b36), (.ref b36)])
    refine goLdI (.int a2) X36 hx hZ eT36 V1 (by decide) (by decide) rfl (g := (mkF m 150 #[.val (.int a1), .val (.int a2), .val (.int a3), .val (.int a4), .val (.int a5), .val (.long q6), .second, .val (.int f6), .val (.int (1 : Int32)), .val (.ref b1), .val (.ref b8), .val (.int (if a2 = a1 then (1 : Int32) else (0 : Int32))), .unset, .unset] [(.int (1 : Int32)), (.ref b1), (.int a1), (.ref b36), (.ref b36)])) rfl rfl (hb hby at_150) ?_
    show Goes p e below _ T36 (mkF m 151 #[.val (.int a1), .val (.int a2), .val (.int a3), .val (.int a4), .val (.int a5), .val (.long q6), .second, .val (.int f6), .val (.int (1 : Int32)), .val (.ref b1), .val (.ref b8), .val (.int (if a2 = a1 then (1 : Int32) else (0 : Int32))), .unset, .unset] [(.int a2), (.int a1), (.ref b36), (.ref b36)])
    refine Goes.of (fun _ => XS.aload X36.here hx rfl (hb hby at_151) rfl rfl) ?_
    show Goes p e below _ T36 (mkF m 153 #[.val (.int a1), .val (.int a2), .val (.int a3), .val (.int a4), .val (.int a5), .val (.long q6), .second, .val (.int f6), .val (.int (1 : Int32)), .val (.ref b1), .val (.ref b8), .val (.int (if a2 = a1 then (1 : Int32) else (0 : Int32))), .unset, .unset] [(.ref b1), (.int a2), (.int a1), (.ref b36), (.ref b36)])
    refine Goes.of (fun _ => XS.iconst X36.here hx rfl (hb hby at_153)) ?_
    show Goes p e below _ T36 (mkF m 154 #[.val (.int a1), .val (.int a2), .val (.int a3), .val (.int a4), .val (.int a5), .val (.long q6), .second, .val (.int f6), .val (.int (1 : Int32)), .val (.ref b1), .val (.ref b8), .val (.int (if a2 = a1 then (1 : Int32) else (0 : Int32))), .unset, .unset] [(.int (2 : Int32)), (.ref b1), (.int a2), (.int a1), (.ref b36), (.ref b36)])
    refine goLdI (.int a3) X36 hx hZ eT36 V1 (by decide) (by decide) rfl (g := (mkF m 154 #[.val (.int a1), .val (.int a2), .val (.int a3), .val (.int a4), .val (.int a5), .val (.long q6), .second, .val (.int f6), .val (.int (1 : Int32)), .val (.ref b1), .val (.ref b8), .val (.int (if a2 = a1 then (1 : Int32) else (0 : Int32))), .unset, .unset] [(.int (2 : Int32)), (.ref b1), (.int a2), (.int a1), (.ref b36), (.ref b36)])) rfl rfl (hb hby at_154) ?_
    show Goes p e below _ T36 (mkF m 155 #[.val (.int a1), .val (.int a2), .val (.int a3), .val (.int a4), .val (.int a5), .val (.long q6), .second, .val (.int f6), .val (.int (1 : Int32)), .val (.ref b1), .val (.ref b8), .val (.int (if a2 = a1 then (1 : Int32) else (0 : Int32))), .unset, .unset] [(.int a3), (.int a2), (.int a1), (.ref b36), (.ref b36)])
    refine Goes.of (fun _ => XS.aload X36.here hx rfl (hb hby at_155) rfl rfl) ?_
    show Goes p e below _ T36 (mkF m 157 #[.val (.int a1), .val (.int a2), .val (.int a3), .val (.int a4), .val (.int a5), .val (.long q6), .second, .val (.int f6), .val (.int (1 : Int32)), .val (.ref b1), .val (.ref b8), .val (.int (if a2 = a1 then (1 : Int32) else (0 : Int32))), .unset, .unset] [(.ref b1), (.int a3), (.int a2), (.int a1), (.ref b36), (.ref b36)])
    refine Goes.of (fun _ => XS.iconst X36.here hx rfl (hb hby at_157)) ?_
    show Goes p e below _ T36 (mkF m 158 #[.val (.int a1), .val (.int a2), .val (.int a3), .val (.int a4), .val (.int a5), .val (.long q6), .second, .val (.int f6), .val (.int (1 : Int32)), .val (.ref b1), .val (.ref b8), .val (.int (if a2 = a1 then (1 : Int32) else (0 : Int32))), .unset, .unset] [(.int (3 : Int32)), (.ref b1), (.int a3), (.int a2), (.int a1), (.ref b36), (.ref b36)])
    refine goLdI (.int a4) X36 hx hZ eT36 V1 (by decide) (by decide) rfl (g := (mkF m 158 #[.val (.int a1), .val (.int a2), .val (.int a3), .val (.int a4), .val (.int a5), .val (.long q6), .second, .val (.int f6), .val (.int (1 : Int32)), .val (.ref b1), .val (.ref b8), .val (.int (if a2 = a1 then (1 : Int32) else (0 : Int32))), .unset, .unset] [(.int (3 : Int32)), (.ref b1), (.int a3), (.int a2), (.int a1), (.ref b36), (.ref b36)])) rfl rfl (hb hby at_158) ?_
    show Goes p e below _ T36 (mkF m 159 #[.val (.int a1), .val (.int a2), .val (.int a3), .val (.int a4), .val (.int a5), .val (.long q6), .second, .val (.int f6), .val (.int (1 : Int32)), .val (.ref b1), .val (.ref b8), .val (.int (if a2 = a1 then (1 : Int32) else (0 : Int32))), .unset, .unset] [(.int a4), (.int a3), (.int a2), (.int a1), (.ref b36), (.ref b36)])
    refine Goes.of (fun _ => XS.aload X36.here hx rfl (hb hby at_159) rfl rfl) ?_
    show Goes p e below _ T36 (mkF m 161 #[.val (.int a1), .val (.int a2), .val (.int a3), .val (.int a4), .val (.int a5), .val (.long q6), .second, .val (.int f6), .val (.int (1 : Int32)), .val (.ref b1), .val (.ref b8), .val (.int (if a2 = a1 then (1 : Int32) else (0 : Int32))), .unset, .unset] [(.ref b1), (.int a4), (.int a3), (.int a2), (.int a1), (.ref b36), (.ref b36)])
    refine Goes.of (fun _ => XS.iconst X36.here hx rfl (hb hby at_161)) ?_
    show Goes p e below _ T36 (mkF m 162 #[.val (.int a1), .val (.int a2), .val (.int a3), .val (.int a4), .val (.int a5), .val (.long q6), .second, .val (.int f6), .val (.int (1 : Int32)), .val (.ref b1), .val (.ref b8), .val (.int (if a2 = a1 then (1 : Int32) else (0 : Int32))), .unset, .unset] [(.int (4 : Int32)), (.ref b1), (.int a4), (.int a3), (.int a2), (.int a1), (.ref b36), (.ref b36)])
    refine goLdI (.int a5) X36 hx hZ eT36 V1 (by decide) (by decide) rfl (g := (mkF m 162 #[.val (.int a1), .val (.int a2), .val (.int a3), .val (.int a4), .val (.int a5), .val (.long q6), .second, .val (.int f6), .val (.int (1 : Int32)), .val (.ref b1), .val (.ref b8), .val (.int (if a2 = a1 then (1 : Int32) else (0 : Int32))), .unset, .unset] [(.int (4 : Int32)), (.ref b1), (.int a4), (.int a3), (.int a2), (.int a1), (.ref b36), (.ref b36)])) rfl rfl (hb hby at_162) ?_
    show Goes p e below _ T36 (mkF m 163 #[.val (.int a1), .val (.int a2), .val (.int a3), .val (.int a4), .val (.int a5), .val (.long q6), .second, .val (.int f6), .val (.int (1 : Int32)), .val (.ref b1), .val (.ref b8), .val (.int (if a2 = a1 then (1 : Int32) else (0 : Int32))), .unset, .unset] [(.int a5), (.int a4), (.int a3), (.int a2), (.int a1), (.ref b36), (.ref b36)])
    refine Goes.of (fun _ => XS.aload X36.here hx rfl (hb hby at_163) rfl rfl) ?_
    show Goes p e below _ T36 (mkF m 165 #[.val (.int a1), .val (.int a2), .val (.int a3), .val (.int a4), .val (.int a5), .val (.long q6), .second, .val (.int f6), .val (.int (1 : Int32)), .val (.ref b1), .val (.ref b8), .val (.int (if a2 = a1 then (1 : Int32) else (0 : Int32))), .unset, .unset] [(.ref b1), (.int a5), (.int a4), (.int a3), (.int a2), (.int a1), (.ref b36), (.ref b36)])
    refine Goes.of (fun _ => XS.iconst X36.here hx rfl (hb hby at_165)) ?_
    show Goes p e below _ T36 (mkF m 166 #[.val (.int a1), .val (.int a2), .val (.int a3), .val (.int a4), .val (.int a5), .val (.long q6), .second, .val (.int f6), .val (.int (1 : Int32)), .val (.ref b1), .val (.ref b8), .val (.int (if a2 = a1 then (1 : Int32) else (0 : Int32))), .unset, .unset] [(.int (5 : Int32)), (.ref b1), (.int a5), (.int a4), (.int a3), (.int a2), (.int a1), (.ref b36), (.ref b36)])
    refine goLdI (.int f6) X36 hx hZ eT36 V1 (by decide) (by decide) rfl (g := (mkF m 166 #[.val (.int a1), .val (.int a2), .val (.int a3), .val (.int a4), .val (.int a5), .val (.long q6), .second, .val (.int f6), .val (.int (1 : Int32)), .val (.ref b1), .val (.ref b8), .val (.int (if a2 = a1 then (1 : Int32) else (0 : Int32))), .unset, .unset] [(.int (5 : Int32)), (.ref b1), (.int a5), (.int a4), (.int a3), (.int a2), (.int a1), (.ref b36), (.ref b36)])) rfl rfl (hb hby at_166) ?_
    show Goes p e below _ T36 (mkF m 167 #[.val (.int a1), .val (.int a2), .val (.int a3), .val (.int a4), .val (.int a5), .val (.long q6), .second, .val (.int f6), .val (.int (1 : Int32)), .val (.ref b1), .val (.ref b8), .val (.int (if a2 = a1 then (1 : Int32) else (0 : Int32))), .unset, .unset] [(.int f6), (.int a5), (.int a4), (.int a3), (.int a2), (.int a1), (.ref b36), (.ref b36)])
    refine goSpecial 1 X36 hx hZ rfl hown (hw _ (List.mem_of_getElem? (i := 4) rfl)) (hw _ (List.mem_of_getElem? (i := 5) rfl)) (hw _ (List.mem_of_getElem? (i := 3) rfl)) (hw _ (List.mem_of_getElem? (i := 6) rfl)) (by decide) (rm_init l Z a0 hw b36 a1 a2 a3 a4 a5 f6 h36 n0 O0 g_b36 A36 F36_leftSideBearing F36_rightSideBearing F36_characterWidth F36_ascent F36_descent F36_attributes) eT36 (g := (mkF m 167 #[.val (.int a1), .val (.int a2), .val (.int a3), .val (.int a4), .val (.int a5), .val (.long q6), .second, .val (.int f6), .val (.int (1 : Int32)), .val (.ref b1), .val (.ref b8), .val (.int (if a2 = a1 then (1 : Int32) else (0 : Int32))), .unset, .unset] [(.int f6), (.int a5), (.int a4), (.int a3), (.int a2), (.int a1), (.ref b36), (.ref b36)])) rfl (by rw [hml]; rfl) b36 [(.int a1), (.int a2), (.int a3), (.int a4), (.int a5), (.int f6)] [(.ref b36)] (lenOf pd__IIIIII_V rfl) rfl rfl (by show 2 * 0 + _ ≤ _; exact Nat.le_of_eq rfl) (hb hby at_167) (by decide) (by decide) (by decide) (by decide) ?_
    intro v43 T43 L43 X43 q43
    obtain ⟨rfl, Nq43, Kq43, H0_43, H1_43, H2_43, H3_43, H4_43, H5_43⟩ := q43
    have N43 := Fr.app N34 Nq43
    have V1 := V1.keep Kq43 (ninS ne_b1_b36 nin0)
    have A1 := A1.keep Kq43
    have V8 := V8.keep Kq43 (ninS ne_b8_b36 nin0)
    have A8 := A8.keep Kq43
    have A36 := A36.keep Kq43
    have O0 := O0.keep Kq43 (allS g_b36 all0)
    show Goes p e below _ T43 (mkF m 170 #[.val (.int a1), .val (.int a2), .val (.int a3), .val (.int a4), .val (.int a5), .val (.long q6), .second, .val (.int f6), .val (.int (1 : Int32)), .val (.ref b1), .val (.ref b8), .val (.int (if a2 = a1 then (1 : Int32) else (0 : Int32))), .unset, .unset] [(.ref b36)])
    refine Goes.of (fun _ => XS.astore X43.here hx rfl (hb hby at_170) rfl rfl (l' := #[.val (.int a1), .val (.int a2), .val (.int a3), .val (.int a4), .val (.int a5), .val (.long q6), .second, .val (.int f6), .val (.int (1 : Int32)), .val (.ref b1), .val (.ref b8), .val (.int (if a2 = a1 then (1 : Int32) else (0 : Int32))), .val (.ref b36), .unset]) rfl) ?_
    show Goes p e below _ T43 (mkF m 172 #[.val (.int a1), .val (.int a2), .val (.int a3), .val (.int a4), .val (.int a5), .val (.long q6), .second, .val (.int f6), .val (.int (1 : Int32)), .val (.ref b1), .val (.ref b8), .val (.int (if a2 = a1 then (1 : Int32) else (0 : Int32))), .val (.ref b36), .unset] [])
    refine goNew X43 hx hZ hown (hw _ (List.mem_of_getElem? (i := 1) rfl)) (hw _ (List.mem_of_getElem? (i := 2) rfl)) (hw _ (List.mem_of_getElem? (i := 3) rfl)) (rfl : T43.heap = _) (g := (mkF m 172 #[.val (.int a1), .val (.int a2), .val (.int a3), .val (.int a4), .val (.int a5), .val (.long q6), .second, .val (.int f6), .val (.int (1 : Int32)), .val (.ref b1), .val (.ref b8), .val (.int (if a2 = a1 then (1 : Int32) else (0 : Int32))), .val (.ref b36), .unset] [])) rfl (hb hby at_172) (by decide) (by decide) ?_
    intro T44 h44 b44 X44 eT44 E44 hb44 A44 D44
    have g_b44 : n0 ≤ b44 := Nat.le_trans (oldLe O0) hb44
    have ne_b1_b44 : b1 ≠ b44 := Nat.ne_of_lt (Nat.lt_of_lt_of_le V1.lt hb44)
    have ne_b8_b44 : b8 ≠ b44 := Nat.ne_of_lt (Nat.lt_of_lt_of_le V8.lt hb44)
    have ne_b36_b44 : b36 ≠ b44 := Nat.ne_of_lt (Nat.lt_of_lt_of_le A36.lt hb44)
    have V1 := V1.ext E44
    have A1 := A1.ext E44
    have V8 := V8.ext E44
    have A8 := A8.ext E44
    have A36 := A36.ext E44
    have H0_43 := H0_43.ext E44
    have H1_43 := H1_43.ext E44
    have H2_43 := H2_43.ext E44
    have H3_43 := H3_43.ext E44
    have H4_43 := H4_43.ext E44
    have H5_43 := H5_43.ext E44
    have O0 := O0.ext E44
    have F44_leftSideBearing : Fld Z h44 b44 "com/example/casement/casement/graphics/CharMetrics" "leftSideBearing" "I" (.int (0 : Int32)) := D44 (Or.inr (hw _ (List.mem_of_getElem? (i := 11) rfl))) (ty := .int) (by decide)
    have F44_rightSideBearing : Fld Z h44 b44 "com/example/casement/casement/graphics/CharMetrics" "rightSideBearing" "I" (.int (0 : Int32)) := D44 (Or.inr (hw _ (List.mem_of_getElem? (i := 13) rfl))) (ty := .int) (by decide)
    have F44_characterWidth : Fld Z h44 b44 "com/example/casement/casement/graphics/CharMetrics" "characterWidth" "I" (.int (0 : Int32)) := D44 (Or.inr (hw _ (List.mem_of_getElem? (i := 15) rfl))) (ty := .int) (by decide)
    have F44_ascent : Fld Z h44 b44 "com/example/casement/casement/graphics/CharMetrics" "ascent" "I" (.int (0 : Int32)) := D44 (Or.inr (hw _ (List.mem_of_getElem? (i := 17) rfl))) (ty := .int) (by decide)
    have F44_descent : Fld Z h44 b44 "com/example/casement/casement/graphics/CharMetrics" "descent" "I" (.int (0 : Int32)) := D44 (Or.inr (hw _ (List.mem_of_getElem? (i := 19) rfl))) (ty := .int) (by decide)
    have F44_attributes : Fld Z h44 b44 "com/example/casement/casement/graphics/CharMetrics" "attributes" "I" (.int (0 : Int32)) := D44 (Or.inr (hw _ (List.mem_of_getElem? (i := 21) rfl))) (ty := .int) (by decide)
    show Goes p e below _ T44 (mkF m 175 #[.val (.int a1), .val (.int a2), .val (.int a3), .val (.int a4), .val (.int a5), .val (.long q6), .second, .val (.int f6), .val (.int (1 : Int32)), .val (.ref b1), .val (.ref b8), .val (.int (if a2 = a1 then (1 : Int32) else (0 : Int32))), .val (.ref b36), .unset] [(.ref b44)])
    refine Goes.of (fun _ => XS.dup X44.here hx rfl (hb hby at_175) rfl rfl) ?_
    show Goes p e below _ T44 (mkF m 176 #[.val (.int a1), .val (.int a2), .val (.int a3), .val (.int a4), .val (.int a5), .val (.long q6), .second, .val (.int f6), .val (.int (1 : Int32)), .val (.ref b1), .val (.ref b8), .val (.int (if a2 = a1 then (1 : Int32) else (0 : Int32))), .val (.ref b36), .unset] [(.ref b44), (.ref b44)])
    refine Goes.of (fun _ => XS.aload X44.here hx rfl (hb hby at_176) rfl rfl) ?_
    show Goes p e below _ T44 (mkF m 178 #[.val (.int a1), .val (.int a2), .val (.int a3), .val (.int a4), .val (.int a5), .val (.long q6), .second, .val (.int f6), .val (.int (1 : Int32)), .val (.ref b1), .val (.ref b8), .val (.int (if a2 = a1 then (1 : Int32) else (0 : Int32))), .val (.ref b36), .unset] [(.ref b8), (.ref b44), (.ref b44)])
    refine Goes.of (fun _ => XS.iconst X44.here hx rfl (hb hby at_178)) ?_
    show Goes p e below _ T44 (mkF m 179 #[.val (.int a1), .val (.int a2), .val (.int a3), .val (.int a4), .val (.int a5), .val (.long q6), .second, .val (.int f6), .val (.int (1 : Int32)), .val (.ref b1), .val (.ref b8), .val (.int (if a2 = a1 then (1 : Int32) else (0 : Int32))), .val (.ref b36), .unset] [(.int (0 : Int32)), (.ref b8), (.ref b44), (.ref b44)])
    refine goLdI (.int a1) X44 hx hZ eT44 V8 (by decide) (by decide) rfl (g := (mkF m 179 #[.val (.int a1), .val (.int a2), .val (.int a3), .val (.int a4), .val (.int a5), .val (.long q6), .second, .val (.int f6), .val (.int (1 : Int32)), .val (.ref b1), .val (.ref b8), .val (.int (if a2 = a1 then (1 : Int32) else (0 : Int32))), .val (.ref b36), .unset] [(.int (0 : Int32)), (.ref b8), (.ref b44), (.ref b44)])) rfl rfl (hb hby at_179) ?_
    show Goes p e below _ T44 (mkF m 180 #[.val (.int a1), .val (.int a2), .val (.int a3), .val (.int a4), .val (.int a5), .val (.long q6), .second, .val (.int f6), .val (.int (1 : Int32)), .val (.ref b1), .val (.ref b8), .val (.int (if a2 = a1 then (1 : Int32) else (0 : Int32))), .val (.ref b36), .unset] [(.int a1), (.ref b44), (.ref b44)])
    refine Goes.of (fun _ => XS.aload X44.here hx rfl (hb hby at_180) rfl rfl) ?_
    show Goes p e below _ T44 (mkF m 182 #[.val (.int a1), .val (.int a2), .val (.int a3), .val (.int a4), .val (.int a5), .val (.long q6), .second, .val (.int f6), .val (.int (1 : Int32)), .val (.ref b1), .val (.ref b8), .val (.int (if a2 = a1 then (1 : Int32) else (0 : Int32))), .val (.ref b36), .unset] [(.ref b8), (.int a1), (.ref b44), (.ref b44)])
    refine Goes.of (fun _ => XS.iconst X44.here hx rfl (hb hby at_182)) ?_
    show Goes p e below _ T44 (mkF m 183 #[.val (.int a1), .val (.int a2), .val (.int a3), .val (.int a4), .val (.int a5), .val (.long q6), .second, .val (.int f6), .val (.int (1 : Int32)), .val (.ref b1), .val (.ref b8), .val (.int (if a2 = a1 then (1 : Int32) else (0 : Int32))), .val (.ref b36), .unset] [(.int (1 : Int32)), (.ref b8), (.int a1), (.ref b44), (.ref b44)])
    refine goLdI (.int a1) X44 hx hZ eT44 V8 (by decide) (by decide) rfl (g := (mkF m 183 #[.val (.int a1), .val (.int a2), .val (.int a3), .val (.int a4), .val (.int a5), .val (.long q6), .second, .val (.int f6), .val (.int (1 : Int32)), .val (.ref b1), .val (.ref b8), .val (.int (if a2 = a1 then (1 : Int32) else (0 : Int32))), .val (.ref b36), .unset] [(.int (1 : Int32)), (.ref b8), (.int a1), (.ref b44), (.ref b44)])) rfl rfl (hb hby at_183) ?_
    show Goes p e below _ T44 (mkF m 184 #[.val (.int a1), .val (.int a2), .val (.int a3), .val (.int a4), .val (.int a5), .val (.long q6), .second, .val (.int f6), .val (.int (1 : Int32)), .val (.ref b1), .val (.ref b8), .val (.int (if a2 = a1 then (1 : Int32) else (0 : Int32))), .val (.ref b36), .unset] [(.int a1), (.int a1), (.ref b44), (.ref b44)])
    refine Goes.of (fun _ => XS.aload X44.here hx rfl (hb hby at_184) rfl rfl) ?_
    show Goes p e below _ T44 (mkF m 186 #[.val (.int a1), .val (.int a2), .val (.int a3), .val (.int a4), .val (.int a5), .val (.long q6), .second, .val (.int f6), .val (.int (1 : Int32)), .val (.ref b1), .val (.ref b8), .val (.int (if a2 = a1 then (1 : Int32) else (0 : Int32))), .val (.ref b36), .unset] [(.ref b8), (.int a1), (.int a1), (.ref b44), (.ref b44)])
    refine Goes.of (fun _ => XS.iconst X44.here hx rfl (hb hby at_186)) ?_
    show Goes p e below _ T44 (mkF m 187 #[.val (.int a1), .val (.int a2), .val (.int a3), .val (.int a4), .val (.int a5), .val (.long q6), .second, .val (.int f6), .val (.int (1 : Int32)), .val (.ref b1), .val (.ref b8), .val (.int (if a2 = a1 then (1 : Int32) else (0 : Int32))), .val (.ref b36), .unset] [(.int (2 : Int32)), (.ref b8), (.int a1), (.int a1), (.ref b44), (.ref b44)])
    refine goLdI (.int a3) X44 hx hZ eT44 V8 (by decide) (by decide) rfl (g := (mkF m 187 #[.val (.int a1), .val (.int a2), .val (.int a3), .val (.int a4), .val (.int a5), .val (.long q6), .second, .val (.int f6), .val (.int (1 : Int32)), .val (.ref b1), .val (.ref b8), .val (.int (if a2 = a1 then (1 : Int32) else (0 : Int32))), .val (.ref b36), .unset] [(.int (2 : Int32)), (.ref b8), (.int a1), (.int a1), (.ref b44), (.ref b44)])) rfl rfl (hb hby at_187) ?_
    show Goes p e below _ T44 (mkF m 188 #[.val (.int a1), .val (.int a2), .val (.int a3), .val (.int a4), .val (.int a5), .val (.long q6), .second, .val (.int f6), .val (.int (1 : Int32)), .val (.ref b1), .val (.ref b8), .val (.int (if a2 = a1 then (1 : Int32) else (0 : Int32))), .val (.ref b36), .unset] [(.int a3), (.int a1), (.int a1), (.ref b44), (.ref b44)])
    refine Goes.of (fun _ => XS.aload X44.here hx rfl (hb hby at_188) rfl rfl) ?_
    show Goes p e below _ T44 (mkF m 190 #[.val (.int a1), .val (.int a2), .val (.int a3), .val (.int a4), .val (.int a5), .val (.long q6), .second, .val (.int f6), .val (.int (1 : Int32)), .val (.ref b1), .val (.ref b8), .val (.int (if a2 = a1 then (1 : Int32) else (0 : Int32))), .val (.ref b36), .unset] [(.ref b8), (.int a3), (.int a1), (.int a1), (.ref b44), (.ref b44)])
    refine Goes.of (fun _ => XS.iconst X44.here hx rfl (hb hby at_190)) ?_
    show Goes p e below _ T44 (mkF m 191 #[.val (.int a1), .val (.int a2), .val (.int a3), .val (.int a4), .val (.int a5), .val (.long q6), .second, .val (.int f6), .val (.int (1 : Int32)), .val (.ref b1), .val (.ref b8), .val (.int (if a2 = a1 then (1 : Int32) else (0 : Int32))), .val (.ref b36), .unset] [(.int (3 : Int32)), (.ref b8), (.int a3), (.int a1), (.int a1), (.ref b44), (.ref b44)])
    refine goLdI (.int a4) X44 hx hZ eT44 V8 (by decide) (by decide) rfl (g := (mkF m 191 #[.val (.int a1), .val (.int a2), .val (.int a3), .val (.int a4), .val (.int a5), .val (.long q6), .second, .val (.int f6), .val (.int (1 : Int32)), .val (.ref b1), .val (.ref b8), .val (.int (if a2 = a1 then (1 : Int32) else (0 : Int32))), .val (.ref b36), .unset] [(.int (3 : Int32)), (.ref b8), (.int a3), (.int a1), (.int a1), (.ref b44), (.ref b44)])) rfl rfl (hb hby at_191) ?_
    show Goes p e below _ T44 (mkF m 192 #[.val (.int a1), .val (.int a2), .val (.int a3), .val (.int a4), .val (.int a5), .val (.long q6), .second, .val (.int f6), .val (.int (1 : Int32)), .val (.ref b1), .val (.ref b8), .val (.int (if a2 = a1 then (1 : Int32) else (0 : Int32))), .val (.ref b36), .unset] [(.int a4), (.int a3), (.int a1), (.int a1), (.ref b44), (.ref b44)])
    refine Goes.of (fun _ => XS.aload X44.here hx rfl (hb hby at_192) rfl rfl) ?_
    show Goes p e below _ T44 (mkF m 194 #[.val (.int a1), .val (.int a2), .val (.int a3), .val (.int a4), .val (.int a5), .val (.long q6), .second, .val (.int f6), .val (.int (1 : Int32)), .val (.ref b1), .val (.ref b8), .val (.int (if a2 = a1 then (1 : Int32) else (0 : Int32))), .val (.ref b36), .unset] [(.ref b8), (.int a4), (.int a3), (.int a1), (.int a1), (.ref b44), (.ref b44)])
    refine Goes.of (fun _ => XS.iconst X44.here hx rfl (hb hby at_194)) ?_
    show Goes p e below _ T44 (mkF m 195 #[.val (.int a1), .val (.int a2), .val (.int a3), .val (.int a4), .val (.int a5), .val (.long q6), .second, .val (.int f6), .val (.int (1 : Int32)), .val (.ref b1), .val (.ref b8), .val (.int (if a2 = a1 then (1 : Int32) else (0 : Int32))), .val (.ref b36), .unset] [(.int (4 : Int32)), (.ref b8), (.int a4), (.int a3), (.int a1), (.int a1), (.ref b44), (.ref b44)])
    refine goLdI (.int a5) X44 hx hZ eT44 V8 (by decide) (by decide) rfl (g := (mkF m 195 #[.val (.int a1), .val (.int a2), .val (.int a3), .val (.int a4), .val (.int a5), .val (.long q6), .second, .val (.int f6), .val (.int (1 : Int32)), .val (.ref b1), .val (.ref b8), .val (.int (if a2 = a1 then (1 : Int32) else (0 : Int32))), .val (.ref b36), .unset] [(.int (4 : Int32)), (.ref b8), (.int a4), (.int a3), (.int a1), (.int a1), (.ref b44), (.ref b44)])) rfl rfl (hb hby at_195) ?_
    show Goes p e below _ T44 (mkF m 196 #[.val (.int a1), .val (.int a2), .val (.int a3), .val (.int a4), .val (.int a5), .val (.long q6), .second, .val (.int f6), .val (.int (1 : Int32)), .val (.ref b1), .val (.ref b8), .val (.int (if a2 = a1 then (1 : Int32) else (0 : Int32))), .val (.ref b36), .unset] [(.int a5), (.int a4), (.int a3), (.int a1), (.int a1), (.ref b44), (.ref b44)])
    refine Goes.of (fun _ => XS.aload X44.here hx rfl (hb hby at_196) rfl rfl) ?_
    show Goes p e below _ T44 (mkF m 198 #[.val (.int a1), .val (.int a2), .val (.int a3), .val (.int a4), .val (.int a5), .val (.long q6), .second, .val (.int f6), .val (.int (1 : Int32)), .val (.ref b1), .val (.ref b8), .val (.int (if a2 = a1 then (1 : Int32) else (0 : Int32))), .val (.ref b36), .unset] [(.ref b8), (.int a5), (.int a4), (.int a3), (.int a1), (.int a1), (.ref b44), (.ref b44)])
    refine Goes.of (fun _ => XS.iconst X44.here hx rfl (hb hby at_198)) ?_
    show Goes p e below _ T44 (mkF m 199 #[.val (.int a1), .val (.int a2), .val (.int a3), .val (.int a4), .val (.int a5), .val (.long q6), .second, .val (.int f6), .val (.int (1 : Int32)), .val (.ref b1), .val (.ref b8), .val (.int (if a2 = a1 then (1 : Int32) else (0 : Int32))), .val (.ref b36), .unset] [(.int (5 : Int32)), (.ref b8), (.int a5), (.int a4), (.int a3), (.int a1), (.int a1), (.ref b44), (.ref b44)])
    refine goLdI (.int f6) X44 hx hZ eT44 V8 (by decide) (by decide) rfl (g := (mkF m 199 #[.val (.int a1), .val (.int a2), .val (.int a3), .val (.int a4), .val (.int a5), .val (.long q6), .second, .val (.int f6), .val (.int (1 : Int32)), .val (.ref b1), .val (.ref b8), .val (.int (if a2 = a1 then (1 : Int32) else (0 : Int32))), .val (.ref b36), .unset] [(.int (5 : Int32)), (.ref b8), (.int a5), (.int a4), (.int a3), (.int a1), (.int a1), (.ref b44), (.ref b44)])) rfl rfl (hb hby at_199) ?_
    show Goes p e below _ T44 (mkF m 200 #[.val (.int a1), .val (.int a2), .val (.int a3), .val (.int a4), .val (.int a5), .val (.long q6), .second, .val (.int f6), .val (.int (1 : Int32)), .val (.ref b1), .val (.ref b8), .val (.int (if a2 = a1 then (1 : Int32) else (0 : Int32))), .val (.ref b36), .unset] [(.int f6), (.int a5), (.int a4), (.int a3), (.int a1), (.int a1), (.ref b44), (.ref b44)])
    refine goSpecial 1 X44 hx hZ rfl hown (hw _ (List.mem_of_getElem? (i := 4) rfl)) (hw _ (List.mem_of_getElem? (i := 5) rfl)) (hw _ (List.mem_of_getElem? (i := 3) rfl)) (hw _ (List.mem_of_getElem? (i := 6) rfl)) (by decide) (rm_init l Z a0 hw b44 a1 a1 a3 a4 a5 f6 h44 n0 O0 g_b44 A44 F44_leftSideBearing F44_rightSideBearing F44_characterWidth F44_ascent F44_descent F44_attributes) eT44 (g := (mkF m 200 #[.val (.int a1), .val (.int a2), .val (.int a3), .val (.int a4), .val (.int a5), .val (.long q6), .second, .val (.int f6), .val (.int (1 : Int32)), .val (.ref b1), .val (.ref b8), .val (.int (if a2 = a1 then (1 : Int32) else (0 : Int32))), .val (.ref b36), .unset] [(.int f6), (.int a5), (.int a4), (.int a3), (.int a1), (.int a1), (.ref b44), (.ref b44)])) rfl (by rw [hml]; rfl) b44 [(.int a1), (.int a1), (.int a3), (.int a4), (.int a5), (.int f6)] [(.ref b44)] (lenOf pd__IIIIII_V rfl) rfl rfl (by show 2 * 0 + _ ≤ _; exact Nat.le_of_eq rfl) (hb hby at_200) (by decide) (by decide) (by decide) (by decide) ?_
    intro v51 T51 L51 X51 q51
    obtain ⟨rfl, Nq51, Kq51, H0_51, H1_51, H2_51, H3_51, H4_51, H5_51⟩ := q51
    have N51 := Fr.app N43 Nq51
    have V1 := V1.keep Kq51 (ninS ne_b1_b44 nin0)
    have A1 := A1.keep Kq51
    have V8 := V8.keep Kq51 (ninS ne_b8_b44 nin0)
    have A8 := A8.keep Kq51
    have A36 := A36.keep Kq51
    have H0_43 := H0_43.keep Kq51 (ninS ne_b36_b44 nin0)
    have H1_43 := H1_43.keep Kq51 (ninS ne_b36_b44 nin0)
    have H2_43 := H2_43.keep Kq51 (ninS ne_b36_b44 nin0)
    have H3_43 := H3_43.keep Kq51 (ninS ne_b36_b44 nin0)
    have H4_43 := H4_43.keep Kq51 (ninS ne_b36_b44 nin0)
    have H5_43 := H5_43.keep Kq51 (ninS ne_b36_b44 nin0)
    have A44 := A44.keep Kq51
    have O0 := O0.keep Kq51 (allS g_b44 all0)
    show Goes p e below _ T51 (mkF m 203 #[.val (.int a1), .val (.int a2), .val (.int a3), .val (.int a4), .val (.int a5), .val (.long q6), .second, .val (.int f6), .val (.int (1 : Int32)), .val (.ref b1), .val (.ref b8), .val (.int (if a2 = a1 then (1 : Int32) else (0 : Int32))), .val (.ref b36), .unset] [(.ref b44)])
    refine Goes.of (fun _ => XS.astore X51.here hx rfl (hb hby at_203) rfl rfl (l' := #[.val (.int a1), .val (.int a2), .val (.int a3), .val (.int a4), .val (.int a5), .val (.long q6), .second, .val (.int f6), .val (.int (1 : Int32)), .val (.ref b1), .val (.ref b8), .val (.int (if a2 = a1 then (1 : Int32) else (0 : Int32))), .val (.ref b36), .val (.ref b44)]) rfl) ?_
    show Goes p e below _ T51 (mkF m 205 #[.val (.int a1), .val (.int a2), .val (.int a3), .val (.int a4), .val (.int a5), .val (.long q6), .second, .val (.int f6), .val (.int (1 : Int32)), .val (.ref b1), .val (.ref b8), .val (.int (if a2 = a1 then (1 : Int32) else (0 : Int32))), .val (.ref b36), .val (.ref b44)] [])
    refine Goes.of (fun _ => XS.iload X51.here hx rfl (hb hby at_205) rfl) ?_
    show Goes p e below _ T51 (mkF m 207 #[.val (.int a1), .val (.int a2), .val (.int a3), .val (.int a4), .val (.int a5), .val (.long q6), .second, .val (.int f6), .val (.int (1 : Int32)), .val (.ref b1), .val (.ref b8), .val (.int (if a2 = a1 then (1 : Int32) else (0 : Int32))), .val (.ref b36), .val (.ref b44)] [(.int (1 : Int32))])
    refine Goes.of (fun _ => XS.bipush X51.here hx rfl (hb hby at_207)) ?_
    show Goes p e below _ T51 (mkF m 209 #[.val (.int a1), .val (.int a2), .val (.int a3), .val (.int a4), .val (.int a5), .val (.long q6), .second, .val (.int f6), .val (.int (1 : Int32)), .val (.ref b1), .val (.ref b8), .val (.int (if a2 = a1 then (1 : Int32) else (0 : Int32))), .val (.ref b36), .val (.ref b44)] [(.int (7 : Int32)), (.int (1 : Int32))])
    refine Goes.of (fun _ => XS.icmpYes X51.here hx rfl (pc0 := 209) (pc' := 249) rfl (hb hby at_209) rfl (feq (by decide)).2 (by decide) (by decide)) ?_
    show Goes p e below _ T51 (mkF m 249 #[.val (.int a1), .val (.int a2), .val (.int a3), .val (.int a4), .val (.int a5), .val (.long q6), .second, .val (.int f6), .val (.int (1 : Int32)), .val (.ref b1), .val (.ref b8), .val (.int (if a2 = a1 then (1 : Int32) else (0 : Int32))), .val (.ref b36), .val (.ref b44)] [])
    refine Goes.of (fun _ => XS.aload X51.here hx rfl (hb hby at_249) rfl rfl) ?_
    show Goes p e below _ T51 (mkF m 251 #[.val (.int a1), .val (.int a2), .val (.int a3), .val (.int a4), .val (.int a5), .val (.long q6), .second, .val (.int f6), .val (.int (1 : Int32)), .val (.ref b1), .val (.ref b8), .val (.int (if a2 = a1 then (1 : Int32) else (0 : Int32))), .val (.ref b36), .val (.ref b44)] [(.ref b36)])
    refine Goes.of (fun _ => XS.aload X51.here hx rfl (hb hby at_251) rfl rfl) ?_
    show Goes p e below _ T51 (mkF m 253 #[.val (.int a1), .val (.int a2), .val (.int a3), .val (.int a4), .val (.int a5), .val (.long q6), .second, .val (.int f6), .val (.int (1 : Int32)), .val (.ref b1), .val (.ref b8), .val (.int (if a2 = a1 then (1 : Int32) else (0 : Int32))), .val (.ref b36), .val (.ref b44)] [(.ref b44), (.ref b36)])
    refine goVirtual 0 X51 hx hZ hown (hw _ (List.mem_of_getElem? (i := 22) rfl)) (hw _ (List.mem_of_getElem? (i := 23) rfl)) (notFace_of_selects (args := #[]) (mvT hZ (hw _ (List.mem_of_getElem? (i := 25) rfl)))) (hw _ (List.mem_of_getElem? (i := 25) rfl)) (hw _ (List.mem_of_getElem? (i := 24) rfl)) (hw _ (List.mem_of_getElem? (i := 3) rfl)) (hw _ (List.mem_of_getElem? (i := 26) rfl)) (by decide) (rm_eq l Z a0 hw b36 b44 a1 a2 a3 a4 a5 f6 a1 a1 a3 a4 a5 f6 T51.heap n0 O0 A44 H0_43 H1_43 H2_43 H3_43 H4_43 H5_43 H0_51 H1_51 H2_51 H3_51 H4_51 H5_51) (rfl : T51.heap = _) A36 (g := (mkF m 253 #[.val (.int a1), .val (.int a2), .val (.int a3), .val (.int a4), .val (.int a5), .val (.long q6), .second, .val (.int f6), .val (.int (1 : Int32)), .val (.ref b1), .val (.ref b8), .val (.int (if a2 = a1 then (1 : Int32) else (0 : Int32))), .val (.ref b36), .val (.ref b44)] [(.ref b44), (.ref b36)])) rfl (by rw [hml]; rfl) [(.ref b44)] [] (lenOf pd__Ljava_lang_Object__Z rfl) rfl rfl (by show 2 * 0 + _ ≤ _; exact Nat.le_of_eq rfl) (hb hby at_253) (by decide) (by decide) (by decide) (by decide) ?_
    intro v52 T52 L52 X52 q52
    obtain ⟨rfl, Nq52, eT52⟩ := q52
    have N52 := Fr.app N51 Nq52
    show Goes p e below _ T52 (mkF m 256 #[.val (.int a1), .val (.int a2), .val (.int a3), .val (.int a4), .val (.int a5), .val (.long q6), .second, .val (.int f6), .val (.int (1 : Int32)), .val (.ref b1), .val (.ref b8), .val (.int (if a2 = a1 then (1 : Int32) else (0 : Int32))), .val (.ref b36), .val (.ref b44)] [(.int (eq6 a1 a2 a3 a4 a5 f6 a1 a1 a3 a4 a5 f6))])
    refine Goes.of (fun _ => XS.iload X52.here hx rfl (hb hby at_256) rfl) ?_
    show Goes p e below _ T52 (mkF m 258 #[.val (.int a1), .val (.int a2), .val (.int a3), .val (.int a4), .val (.int a5), .val (.long q6), .second, .val (.int f6), .val (.int (1 : Int32)), .val (.ref b1), .val (.ref b8), .val (.int (if a2 = a1 then (1 : Int32) else (0 : Int32))), .val (.ref b36), .val (.ref b44)] [(.int (if a2 = a1 then (1 : Int32) else (0 : Int32))), (.int (eq6 a1 a2 a3 a4 a5 f6 a1 a1 a3 a4 a5 f6))])
    refine Goes.of (fun _ => XS.icmpNo X52.here hx rfl (hb hby at_258) rfl (teq (by by_cases hh : a2 = a1 <;> simp [eq6, hh, eq_comm])).2) ?_
    show Goes p e below _ T52 (mkF m 261 #[.val (.int a1), .val (.int a2), .val (.int a3), .val (.int a4), .val (.int a5), .val (.long q6), .second, .val (.int f6), .val (.int (1 : Int32)), .val (.ref b1), .val (.ref b8), .val (.int (if a2 = a1 then (1 : Int32) else (0 : Int32))), .val (.ref b36), .val (.ref b44)] [])
    refine Goes.of (fun _ => XS.aload X52.here hx rfl (hb hby at_261) rfl rfl) ?_
    show Goes p e below _ T52 (mkF m 263 #[.val (.int a1), .val (.int a2), .val (.int a3), .val (.int a4), .val (.int a5), .val (.long q6), .second, .val (.int f6), .val (.int (1 : Int32)), .val (.ref b1), .val (.ref b8), .val (.int (if a2 = a1 then (1 : Int32) else (0 : Int32))), .val (.ref b36), .val (.ref b44)] [(.ref b44)])
    refine Goes.of (fun _ => XS.aload X52.here hx rfl (hb hby at_263) rfl rfl) ?_
    show Goes p e below _ T52 (mkF m 265 #[.val (.int a1), .val (.int a2), .val (.int a3), .val (.int a4), .val (.int a5), .val (.long q6), .second, .val (.int f6), .val (.int (1 : Int32)), .val (.ref b1), .val (.ref b8), .val (.int (if a2 = a1 then (1 : Int32) else (0 : Int32))), .val (.ref b36), .val (.ref b44)] [(.ref b36), (.ref b44)])
    refine goVirtual 0 X52 hx hZ hown (hw _ (List.mem_of_getElem? (i := 22) rfl)) (hw _ (List.mem_of_getElem? (i := 23) rfl)) (notFace_of_selects (args := #[]) (mvT hZ (hw _ (List.mem_of_getElem? (i := 25) rfl)))) (hw _ (List.mem_of_getElem? (i := 25) rfl)) (hw _ (List.mem_of_getElem? (i := 24) rfl)) (hw _ (List.mem_of_getElem? (i := 3) rfl)) (hw _ (List.mem_of_getElem? (i := 26) rfl)) (by decide) (rm_eq l Z a0 hw b44 b36 a1 a1 a3 a4 a5 f6 a1 a2 a3 a4 a5 f6 T51.heap n0 O0 A36 H0_51 H1_51 H2_51 H3_51 H4_51 H5_51 H0_43 H1_43 H2_43 H3_43 H4_43 H5_43) eT52 A44 (g := (mkF m 265 #[.val (.int a1), .val (.int a2), .val (.int a3), .val (.int a4), .val (.int a5), .val (.long q6), .second, .val (.int f6), .val (.int (1 : Int32)), .val (.ref b1), .val (.ref b8), .val (.int (if a2 = a1 then (1 : Int32) else (0 : Int32))), .val (.ref b36), .val (.ref b44)] [(.ref b36), (.ref b44)])) rfl (by rw [hml]; rfl) [(.ref b36)] [] (lenOf pd__Ljava_lang_Object__Z rfl) rfl rfl (by show 2 * 0 + _ ≤ _; exact Nat.le_of_eq rfl) (hb hby at_265) (by decide) (by decide) (by decide) (by decide) ?_
    intro v53 T53 L53 X53 q53
    obtain ⟨rfl, Nq53, eT53⟩ := q53
    have N53 := Fr.app N52 Nq53
    show Goes p e below _ T53 (mkF m 268 #[.val (.int a1), .val (.int a2), .val (.int a3), .val (.int a4), .val (.int a5), .val (.long q6), .second, .val (.int f6), .val (.int (1 : Int32)), .val (.ref b1), .val (.ref b8), .val (.int (if a2 = a1 then (1 : Int32) else (0 : Int32))), .val (.ref b36), .val (.ref b44)] [(.int (eq6 a1 a1 a3 a4 a5 f6 a1 a2 a3 a4 a5 f6))])
    refine Goes.of (fun _ => XS.iload X53.here hx rfl (hb hby at_268) rfl) ?_
    show Goes p e below _ T53 (mkF m 270 #[.val (.int a1), .val (.int a2), .val (.int a3), .val (.int a4), .val (.int a5), .val (.long q6), .second, .val (.int f6), .val (.int (1 : Int32)), .val (.ref b1), .val (.ref b8), .val (.int (if a2 = a1 then (1 : Int32) else (0 : Int32))), .val (.ref b36), .val (.ref b44)] [(.int (if a2 = a1 then (1 : Int32) else (0 : Int32))), (.int (eq6 a1 a1 a3 a4 a5 f6 a1 a2 a3 a4 a5 f6))])
    refine Goes.of (fun _ => XS.icmpNo X53.here hx rfl (hb hby at_270) rfl (teq (by by_cases hh : a2 = a1; (· simp [eq6, hh]); (· simp [eq6, hh, Ne.symm hh]))).2) ?_
    show Goes p e below _ T53 (mkF m 273 #[.val (.int a1), .val (.int a2), .val (.int a3), .val (.int a4), .val (.int a5), .val (.long q6), .second, .val (.int f6), .val (.int (1 : Int32)), .val (.ref b1), .val (.ref b8), .val (.int (if a2 = a1 then (1 : Int32) else (0 : Int32))), .val (.ref b36), .val (.ref b44)] [])
    refine Goes.of (fun _ => XS.iconst X53.here hx rfl (hb hby at_273)) ?_
    show Goes p e below _ T53 (mkF m 274 #[.val (.int a1), .val (.int a2), .val (.int a3), .val (.int a4), .val (.int a5), .val (.long q6), .second, .val (.int f6), .val (.int (1 : Int32)), .val (.ref b1), .val (.ref b8), .val (.int (if a2 = a1 then (1 : Int32) else (0 : Int32))), .val (.ref b36), .val (.ref b44)] [(.int (1 : Int32))])
    refine Goes.of (fun _ => XS.goto X53.here hx rfl (pc0 := 274) (pc' := 278) rfl (hb hby at_274) (by decide) (by decide)) ?_
    show Goes p e below _ T53 (mkF m 278 #[.val (.int a1), .val (.int a2), .val (.int a3), .val (.int a4), .val (.int a5), .val (.long q6), .second, .val (.int f6), .val (.int (1 : Int32)), .val (.ref b1), .val (.ref b8), .val (.int (if a2 = a1 then (1 : Int32) else (0 : Int32))), .val (.ref b36), .val (.ref b44)] [(.int (1 : Int32))])
    exact retZ (t := .boolean) X53 hx hret hlk (by simp) (hb hby at_278) eT53 (by decide) (by decide) ⟨rfl, N53⟩
  · show Goes p e below _ T14 (mkF m 80 #[.val (.int a1), .val (.int a2), .val (.int a3), .val (.int a4), .val (.int a5), .val (.long q6), .second, .val (.int f6), .val (.int (2 : Int32)), .val (.ref b1), .val (.ref b8), .unset, .unset, .unset] [])
    refine Goes.of (fun _ => XS.iload X14.here hx rfl (hb hby at_80) rfl) ?_
    show Goes p e below _ T14 (mkF m 82 #[.val (.int a1), .val (.int a2), .val (.int a3), .val (.int a4), .val (.int a5), .val (.long q6), .second, .val (.int f6), .val (.int (2 : Int32)), .val (.ref b1), .val (.ref b8), .unset, .unset, .unset] [(.int (2 : Int32))])
    refine Goes.of (fun _ => XS.ifYes X14.here hx rfl (pc0 := 82) (pc' := 105) rfl (hb hby at_82) rfl ((if0 _ _).trans (feq (by decide)).2) (by decide) (by decide)) ?_
    show Goes p e below _ T14 (mkF m 105 #[.val (.int a1), .val (.int a2), .val (.int a3), .val (.int a4), .val (.int a5), .val (.long q6), .second, .val (.int f6), .val (.int (2 : Int32)), .val (.ref b1), .val (.ref b8), .unset, .unset, .unset] [])
    refine Goes.of (fun _ => XS.iload X14.here hx rfl (hb hby at_105) rfl) ?_
    show Goes p e below _ T14 (mkF m 107 #[.val (.int a1), .val (.int a2), .val (.int a3), .val (.int a4), .val (.int a5), .val (.long q6), .second, .val (.int f6), .val (.int (2 : Int32)), .val (.ref b1), .val (.ref b8), .unset, .unset, .unset] [(.int (2 : Int32))])
    refine Goes.of (fun _ => XS.iconst X14.here hx rfl (hb hby at_107)) ?_
    show Goes p e below _ T14 (mkF m 108 #[.val (.int a1), .val (.int a2), .val (.int a3), .val (.int a4), .val (.int a5), .val (.long q6), .second, .val (.int f6), .val (.int (2 : Int32)), .val (.ref b1), .val (.ref b8), .unset, .unset, .unset] [(.int (5 : Int32)), (.int (2 : Int32))])
    refine Goes.of (fun _ => XS.icmpNo X14.here hx rfl (hb hby at_108) rfl (flt (by decide)).2.2.1) ?_
    show Goes p e below _ T14 (mkF m 111 #[.val (.int a1), .val (.int a2), .val (.int a3), .val (.int a4), .val (.int a5), .val (.long q6), .second, .val (.int f6), .val (.int (2 : Int32)), .val (.ref b1), .val (.ref b8), .unset, .unset, .unset] [])
    refine Goes.of (fun _ => XS.aload X14.here hx rfl (hb hby at_111) rfl rfl) ?_
    show Goes p e below _ T14 (mkF m 113 #[.val (.int a1), .val (.int a2), .val (.int a3), .val (.int a4), .val (.int a5), .val (.long q6), .second, .val (.int f6), .val (.int (2 : Int32)), .val (.ref b1), .val (.ref b8), .unset, .unset, .unset] [(.ref b8)])
    refine Goes.of (fun _ => XS.iload X14.here hx rfl (hb hby at_113) rfl) ?_
    show Goes p e below _ T14 (mkF m 115 #[.val (.int a1), .val (.int a2), .val (.int a3), .val (.int a4), .val (.int a5), .val (.long q6), .second, .val (.int f6), .val (.int (2 : Int32)), .val (.ref b1), .val (.ref b8), .unset, .unset, .unset] [(.int (2 : Int32)), (.ref b8)])
    refine Goes.of (fun _ => XS.iloadN X14.here hx rfl (hb hby at_115) rfl) ?_
    show Goes p e below _ T14 (mkF m 116 #[.val (.int a1), .val (.int a2), .val (.int a3), .val (.int a4), .val (.int a5), .val (.long q6), .second, .val (.int f6), .val (.int (2 : Int32)), .val (.ref b1), .val (.ref b8), .unset, .unset, .unset] [(.int a1), (.int (2 : Int32)), (.ref b8)])
    refine goStI 2 X14 hx hZ eT14 V8 (by decide) (by decide) rfl (Nat.lt_of_lt_of_le (Nat.lt_succ_self _) (Nat.le_of_ble_eq_true rfl)) (g := (mkF m 116 #[.val (.int a1), .val (.int a2), .val (.int a3), .val (.int a4), .val (.int a5), .val (.long q6), .second, .val (.int f6), .val (.int (2 : Int32)), .val (.ref b1), .val (.ref b8), .unset, .unset, .unset] [(.int a1), (.int (2 : Int32)), (.ref b8)])) rfl rfl (hb hby at_116) ?_
    intro T54 h54 X54 eT54 W54 V8
    have N54 := Fr.snoc X54 N14 g_b8
    have V1 := V1.other W54 ne_b1_b8
    have A1 := A1.wr W54
    have A8 := A8.wr W54
    have O0 := O0.wr W54 g_b8
    have V8 : Arv Z h54 b8 kA8 .int (6 : Int32) [(.int a1), (.int a2), (.int a1), (.int a4), (.int a5), (.int f6)] (.int (0 : Int32)) := V8
    show Goes p e below _ T54 (mkF m 117 #[.val (.int a1), .val (.int a2), .val (.int a3), .val (.int a4), .val (.int a5), .val (.long q6), .second, .val (.int f6), .val (.int (2 : Int32)), .val (.ref b1), .val (.ref b8), .unset, .unset, .unset] [])
    refine Goes.of (fun _ => XS.aload X54.here hx rfl (hb hby at_117) rfl rfl) ?_
    show Goes p e below _ T54 (mkF m 119 #[.val (.int a1), .val (.int a2), .val (.int a3), .val (.int a4), .val (.int a5), .val (.long q6), .second, .val (.int f6), .val (.int (2 : Int32)), .val (.ref b1), .val (.ref b8), .unset, .unset, .unset] [(.ref b1)])
    refine Goes.of (fun _ => XS.iload X54.here hx rfl (hb hby at_119) rfl) ?_
    show Goes p e below _ T54 (mkF m 121 #[.val (.int a1), .val (.int a2), .val (.int a3), .val (.int a4), .val (.int a5), .val (.long q6), .second, .val (.int f6), .val (.int (2 : Int32)), .val (.ref b1), .val (.ref b8), .unset, .unset, .unset] [(.int (2 : Int32)), (.ref b1)])
    refine goLdI (.int a3) X54 hx hZ eT54 V1 (by decide) (by decide) rfl (g := (mkF m 121 #[.val (.int a1), .val (.int a2), .val (.int a3), .val (.int a4), .val (.int a5), .val (.long q6), .second, .val (.int f6), .val (.int (2 : Int32)), .val (.ref b1), .val (.ref b8), .unset, .unset, .unset] [(.int (2 : Int32)), (.ref b1)])) rfl rfl (hb hby at_121) ?_
    show Goes p e below _ T54 (mkF m 122 #[.val (.int a1), .val (.int a2), .val (.int a3), .val (.int a4), .val (.int a5), .val (.long q6), .second, .val (.int f6), .val (.int (2 : Int32)), .val (.ref b1), .val (.ref b8), .unset, .unset, .unset] [(.int a3)])
    refine Goes.of (fun _ => XS.iloadN X54.here hx rfl (hb hby at_122) rfl) ?_
    show Goes p e below _ T54 (mkF m 123 #[.val (.int a1), .val (.int a2), .val (.int a3), .val (.int a4), .val (.int a5), .val (.long q6), .second, .val (.int f6), .val (.int (2 : Int32)), .val (.ref b1), .val (.ref b8), .unset, .unset, .unset] [(.int a1), (.int a3)])
    refine Goes.of (T' := T54) (f' := (mkF m 131 #[.val (.int a1), .val (.int a2), .val (.int a3), .val (.int a4), .val (.int a5), .val (.long q6), .second, .val (.int f6), .val (.int (2 : Int32)), .val (.ref b1), .val (.ref b8), .unset, .unset, .unset] [(.int (if a3 = a1 then (1 : Int32) else (0 : Int32)))])) (fun t kt => ?_) ?_
    · show Steps p.tables e below (T54.setTop (mkF m 123 #[.val (.int a1), .val (.int a2), .val (.int a3), .val (.int a4), .val (.int a5), .val (.long q6), .second, .val (.int f6), .val (.int (2 : Int32)), .val (.ref b1), .val (.ref b8), .unset, .unset, .unset] [(.int a1), (.int a3)])) _
      by_cases hq123 : a3 = a1
      · simp only [if_pos hq123] at kt
        refine XS.icmpNo X54.here hx rfl (hb hby at_123) rfl (teq hq123).2 ?_
        show Steps p.tables e below (T54.setTop (mkF m 126 #[.val (.int a1), .val (.int a2), .val (.int a3), .val (.int a4), .val (.int a5), .val (.long q6), .second, .val (.int f6), .val (.int (2 : Int32)), .val (.ref b1), .val (.ref b8), .unset, .unset, .unset] [])) _
        refine XS.iconst X54.here hx rfl (hb hby at_126) ?_
        show Steps p.tables e below (T54.setTop (mkF m 127 #[.val (.int a1), .val (.int a2), .val (.int a3), .val (.int a4), .val (.int a5), .val (.long q6), .second, .val (.int f6), .val (.int (2 : Int32)), .val (.ref b1), .val (.ref b8), .unset, .unset, .unset] [(.int (1 : Int32))])) _
        refine XS.goto X54.here hx rfl (pc0 := 127) (pc' := 131) rfl (hb hby at_127) (by decide) (by decide) ?_
        show Steps p.tables e below (T54.setTop (mkF m 131 #[.val (.int a1), .val (.int a2), .val (.int a3), .val (.int a4), .val (.int a5), .val (.long q6), .second, .val (.int f6), .val (.int (2 : Int32)), .val (.ref b1), .val (.ref b8), .unset, .unset, .unset] [(.int (1 : Int32))])) _
        exact kt
      · simp only [if_neg hq123] at kt
        refine XS.icmpYes X54.here hx rfl (pc0 := 123) (pc' := 130) rfl (hb hby at_123) rfl (feq hq123).2 (by decide) (by decide) ?_
        show Steps p.tables e below (T54.setTop (mkF m 130 #[.val (.int a1), .val (.int a2), .val (.int a3), .val (.int a4), .val (.int a5), .val (.long q6), .second, .val (.int f6), .val (.int (2 : Int32)), .val (.ref b1), .val (.ref b8), .unset, .unset, .unset] [])) _
        refine XS.iconst X54.here hx rfl (hb hby at_130) ?_
        show Steps p.tables e below (T54.setTop (mkF m 131 #[.val (.int a1), .val (.int a2), .val (.int a3), .val (.int a4), .val (.int a5), .val (.long q6), .second, .val (.int f6), .val (.int (2 : Int32)), .val (.ref b1), .val (.ref b8), .unset, .unset, .unset] [(.int (0 : Int32))])) _
        exact kt
    show Goes p e below _ T54 (mkF m 131 #[.val (.int a1), .val (.int a2), .val (.int a3), .val (.int a4), .val (.int a5), .val (.long q6), .second, .val (.int f6), .val (.int (2 : Int32)), .val (.ref b1), .val (.ref b8), .unset, .unset, .unset] [(.int (if a3 = a1 then (1 : Int32) else (0 : Int32)))])
    refine Goes.of (fun _ => XS.istore X54.here hx rfl (hb hby at_131) rfl (l' := #[.val (.int a1), .val (.int a2), .val (.int a3), .val (.int a4), .val (.int a5), .val (.long q6), .second, .val (.int f6), .val (.int (2 : Int32)), .val (.ref b1), .val (.ref b8), .val (.int (if a3 = a1 then (1 : Int32) else (0 : Int32))), .unset, .unset]) rfl) ?_
    show Goes p e below _ T54 (mkF m 133 #[.val (.int a1), .val (.int a2), .val (.int a3), .val (.int a4), .val (.int a5), .val (.long q6), .second, .val (.int f6), .val (.int (2 : Int32)), .val (.ref b1), .val (.ref b8), .val (.int (if a3 = a1 then (1 : Int32) else (0 : Int32))), .unset, .unset] [])
    refine Goes.of (fun _ => XS.goto X54.here hx rfl (pc0 := 133) (pc' := 139) rfl (hb hby at_133) (by decide) (by decide)) ?_
    show Goes p e below _ T54 (mkF m 139 #[.val (.int a1), .val (.int a2), .val (.int a3), .val (.int a4), .val (.int a5), .val (.long q6), .second, .val (.int f6), .val (.int (2 : Int32)), .val (.ref b1), .val (.ref b8), .val (.int (if a3 = a1 then (1 : Int32) else (0 : Int32))), .unset, .unset] [])
    refine goNew X54 hx hZ hown (hw _ (List.mem_of_getElem? (i := 1) rfl)) (hw _ (List.mem_of_getElem? (i := 2) rfl)) (hw _ (List.mem_of_getElem? (i := 3) rfl)) eT54 (g := (mkF m 139 #[.val (.int a1), .val (.int a2), .val (.int a3), .val (.int a4), .val (.int a5), .val (.long q6), .second, .val (.int f6), .val (.int (2 : Int32)), .val (.ref b1), .val (.ref b8), .val (.int (if a3 = a1 then (1 : Int32) else (0 : Int32))), .unset, .unset] [])) rfl (hb hby at_139) (by decide) (by decide) ?_
    intro T56 h56 b56 X56 eT56 E56 hb56 A56 D56
    have g_b56 : n0 ≤ b56 := Nat.le_trans (oldLe O0) hb56
    have ne_b1_b56 : b1 ≠ b56 := Nat.ne_of_lt (Nat.lt_of_lt_of_le V1.lt hb56)
    have ne_b8_b56 : b8 ≠ b56 := Nat.ne_of_lt (Nat.lt_of_lt_of_le V8.lt hb56)
    have V1 := V1.ext E56
    have A1 := A1.ext E56
    have V8 := V8.ext E56
    have A8 := A8.ext E56
    have O0 := O0.ext E56
    have F56_leftSideBearing : Fld Z h56 b56 "com/example/casement/casement/graphics/CharMetrics" "leftSideBearing" "I" (.int (0 : Int32)) := D56 (Or.inr (hw _ (List.mem_of_getElem? (i := 11) rfl))) (ty := .int) (by decide)
    have F56_rightSideBearing : Fld Z h56 b56 "com/example/casement/casement/graphics/CharMetrics" "rightSideBearing" "I" (.int (0 : Int32)) := D56 (Or.inr (hw _ (List.mem_of_getElem? (i := 13) rfl))) (ty := .int) (by decide)
    have F56_characterWidth : Fld Z h56 b56 "com/example/casement/casement/graphics/CharMetrics" "characterWidth" "I" (.int (0 : Int32)) := D56 (Or.inr (hw _ (List.mem_of_getElem? (i := 15) rfl))) (ty := .int) (by decide)
    have F56_ascent : Fld Z h56 b56 "com/example/casement/casement/graphics/CharMetrics" "ascent" "I" (.int (0 : Int32)) := D56 (Or.inr (hw _ (List.mem_of_getElem? (i := 17) rfl))) (ty := .int) (by decide)
    have F56_descent : Fld Z h56 b56 "com/example/casement/casement/graphics/CharMetrics" "descent" "I" (.int (0 : Int32)) := D56 (Or.inr (hw _ (List.mem_of_getElem? (i := 19) rfl))) (ty := .int) (by decide)
    have F56_attributes : Fld Z h56 b56 "com/example/casement/casement/graphics/CharMetrics" "attributes" "I" (.int (0 : Int32)) := D56 (Or.inr (hw _ (List.mem_of_getElem? (i := 21) rfl))) (ty := .int) (by decide)
    show Goes p e below _ T56 (mkF m 142 #[.val (.int a1), .val (.int a2), .val (.int a3), .val (.int a4), .val (.int a5), .val (.long q6), .second, .val (.int f6), .val (.int (2 : Int32)), .val (.ref b1), .val (.ref b8), .val (.int (if a3 = a1 then (1 : Int32) else (0 : Int32))), .unset, .unset] [(.ref b56)])
    refine Goes.of (fun _ => XS.dup X56.here hx rfl (hb hby at_142) rfl rfl) ?_
    show Goes p e below _ T56 (mkF m 143 #[.val (.int a1), .val (.int a2), .val (.int a3), .val (.int a4), .val (.int a5), .val (.long q6), .second, .val (.int f6), .val (.int (2 : Int32)), .val (.ref b1), .val (.ref b8), .val (.int (if a3 = a1 then (1 : Int32) else (0 : Int32))), .unset, .unset] [(.ref b56), (.ref b56)])
    refine Goes.of (fun _ => XS.aload X56.here hx rfl (hb hby at_143) rfl rfl) ?_
    show Goes p e below _ T56 (mkF m 145 #[.val (.int a1), .val (.int a2), .val (.int a3), .val (.int a4), .val (.int a5), .val (.long q6), .second, .val (.int f6), .val (.int (2 : Int32)), .val (.ref b1), .val (.ref b8), .val (.int (if a3 = a1 then (1 : Int32) else (0 : Int32))), .unset, .unset] [(.ref b1), (.ref b56), (.ref b56)])
    refine Goes.of (fun _ => XS.iconst X56.here hx rfl (hb hby at_145)) ?_
    show Goes p e below _ T56 (mkF m 146 #[.val (.int a1), .val (.int a2), .val (.int a3), .val (.int a4), .val (.int a5), .val (.long q6), .second, .val (.int f6), .val (.int (2 : Int32)), .val (.ref b1), .val (.ref b8), .val (.int (if a3 = a1 then (1 : Int32) else (0 : Int32))), .unset, .unset] [(.int (0 : Int32)), (.ref b1), (.ref b56), (.ref b56)])
    refine goLdI (.int a1) X56 hx hZ eT56 V1 (by decide) (by decide) rfl (g := (mkF m 146 #[.val (.int a1), .val (.int a2), .val (.int a3), .val (.int a4), .val (.int a5), .val (.long q6), .second, .val (.int f6), .val (.int (2 : Int32)), .val (.ref b1), .val (.ref b8), .val (.int (if a3 = a1 then (1 : Int32) else (0 : Int32))), .unset, .unset] [(.int (0 : Int32)), (.ref b1), (.ref b56), (.ref b56)])) rfl rfl (hb hby at_146) ?_
    show Goes p e below _ T56 (mkF m 147 #[.val (.int a1), .val (.int a2), .val (.int a3), .val (.int a4), .val (.int a5), .val (.long q6), .second, .val (.int f6), .val (.int (2 : Int32)), .val (.ref b1), .val (.ref b8), .val (.int (if a3 = a1 then (1 : Int32) else (0 : Int32))), .unset, .unset] [(.int a1), (.ref b56), (.ref b56)])
    refine Goes.of (fun _ => XS.aload X56.here hx rfl (hb hby at_147) rfl rfl) ?_
    show Goes p e below _ T56 (mkF m 149 #[.val (.int a1), .val (.int a2), .val (.int a3), .val (.int a4), .val (.int a5), .val (.long q6), .second, .val (.int f6), .val (.int (2 : Int32)), .val (.ref b1), .val (.ref b8), .val (.int (if a3 = a1 then (1 : Int32) else (0 : Int32))), .unset, .unset] [(.ref b1), (.int a1), (.ref b56), (.ref b56)])
    refine Goes.of (fun _ => XS.iconst X56.here hx rfl (hb hby at_149)) ?_
    show Goes p e below _ T56 (mkF m 150 #[.val (.int a1), .val (.int a2), .val (.int a3), .val (.int a4), .val (.int a5), .val (.long q6), .second, .val (.int f6), .val (.int (2 : Int32)), .val (.ref b1), .val (.ref b8), .val (.int (if a3 = a1 then (1 : Int32) else (0 : Int32))), .unset, .unset] [(.int (1 : Int32)), (.ref b1), (.int a1), (.ref b56), (.ref b56)])
    refine goLdI (.int a2) X56 hx hZ eT56 V1 (by decide) (by decide) rfl (g := (mkF m 150 #[.val (.int a1), .val (.int a2), .val (.int a3), .val (.int a4), .val (.int a5), .val (.long q6), .second, .val (.int f6), .val (.int (2 : Int32)), .val (.ref b1), .val (.ref b8), .val (.int (if a3 = a1 then (1 : Int32) else (0 : Int32))), .unset, .unset] [(.int (1 : Int32)), (.ref b1), (.int a1), (.ref b56), (.ref b56)])) rfl rfl (hb hby at_150) ?_
    show Goes p e below _ T56 (mkF m 151 #[.val (.int a1), .val (.int a2), .val (.int a3), .val (.int a4), .val (.int a5), .val (.long q6), .second, .val (.int f6), .val (.int (2 : Int32)), .val (.ref b1), .val (.ref b8), .val (.int (if a3 = a1 then (1 : Int32) else (0 : Int32))), .unset, .unset] [(.int a2), (.int a1), (.ref b56), (.ref b56)])
    refine Goes.of (fun _ => XS.aload X56.here hx rfl (hb hby at_151) rfl rfl) ?_
    show Goes p e below _ T56 (mkF m 153 #[.val (.int a1), .val (.int a2), .val (.int a3), .val (.int a4), .val (.int a5), .val (.long q6), .second, .val (.int f6), .val (.int (2 : Int32)), .val (.ref b1), .val (.ref b8), .val (.int (if a3 = a1 then (1 : Int32) else (0 : Int32))), .unset, .unset] [(.ref b1), (.int a2), (.int a1), (.ref b56), (.ref b56)])
    refine Goes.of (fun _ => XS.iconst X56.here hx rfl (hb hby at_153)) ?_
    show Goes p e below _ T56 (mkF m 154 #[.val (.int a1), .val (.int a2), .val (.int a3), .val (.int a4), .val (.int a5), .val (.long q6), .second, .val (.int f6), .val (.int (2 : Int32)), .val (.ref b1), .val (.ref b8), .val (.int (if a3 = a1 then (1 : Int32) else (0 : Int32))), .unset, .unset] [(.int (2 : Int32)), (.ref b1), (.int a2), (.int a1), (.ref b56), (.ref b56)])
    refine goLdI (.int a3) X56 hx hZ eT56 V1 (by decide) (by decide) rfl (g := (mkF m 154 #[.val (.int a1), .val (.int a2), .val (.int a3), .val (.int a4), .val (.int a5), .val (.long q6), .second, .val (.int f6), .val (.int (2 : Int32)), .val (.ref b1), .val (.ref b8), .val (.int (if a3 = a1 then (1 : Int32) else (0 : Int32))), .unset, .unset] [(.int (2 : Int32)), (.ref b1), (.int a2), (.int a1), (.ref b56), (.ref b56)])) rfl rfl (hb hby at_154) ?_
    show Goes p e below _ T56 (mkF m 155 #[.val (.int a1), .val (.int a2), .val (.int a3), .val (.int a4), .val (.int a5), .val (.long q6), .second, .val (.int f6), .val (.int (2 : Int32)), .val (.ref b1), .val (.ref b8), .val (.int (if a3 = a1 then (1 : Int32) else (0 : Int32))), .unset, .unset] [(.int a3), (.int a2), (.int a1), (.ref b56), (.ref b56)])
    refine Goes.of (fun _ => XS.aload X56.here hx rfl (hb hby at_155) rfl rfl) ?_
    show Goes p e below _ T56 (mkF m 157 #[.val (.int a1), .val (.int a2), .val (.int a3), .val (.int a4), .val (.int a5), .val (.long q6), .second, .val (.int f6), .val (.int (2 : Int32)), .val (.ref b1), .val (.ref b8), .val (.int (if a3 = a1 then (1 : Int32) else (0 : Int32))), .unset, .unset] [(.ref b1), (.int a3), (.int a2), (.int a1), (.ref b56), (.ref b56)])
    refine Goes.of (fun _ => XS.iconst X56.here hx rfl (hb hby at_157)) ?_
    show Goes p e below _ T56 (mkF m 158 #[.val (.int a1), .val (.int a2), .val (.int a3), .val (.int a4), .val (.int a5), .val (.long q6), .second, .val (.int f6), .val (.int (2 : Int32)), .val (.ref b1), .val (.ref b8), .val (.int (if a3 = a1 then (1 : Int32) else (0 : Int32))), .unset, .unset] [(.int (3 : Int32)), (.ref b1), (.int a3), (.int a2), (.int a1), (.ref b56), (.ref b56)])
    refine goLdI (.int a4) X56 hx hZ eT56 V1 (by decide) (by decide) rfl (g := (mkF m 158 #[.val (.int a1), .val (.int a2), .val (.int a3), .val (.int a4), .val (.int a5), .val (.long q6), .second, .val (.int f6), .val (.int (2 : Int32)), .val (.ref b1), .val (.ref b8), .val (.int (if a3 = a1 then (1 : Int32) else (0 : Int32))), .unset, .unset] [(.int (3 : Int32)), (.ref b1), (.int a3), (.int a2), (.int a1), (.ref b56), (.ref b56)])) rfl rfl (hb hby at_158) ?_
    show Goes p e below _ T56 (mkF m 159 #[.val (.int a1), .val (.int a2), .val (.int a3), .val (.int a4), .val (.int a5), .val (.long q6), .second, .val (.int f6), .val (.int (2 : Int32)), .val (.ref b1), .val (.ref b8), .val (.int (if a3 = a1 then (1 : Int32) else (0 : Int32))), .unset, .unset] [(.int a4), (.int a3), (.int a2), (.int a1), (.ref b56), (.ref b56)])
    refine Goes.of (fun _ => XS.aload X56.here hx rfl (hb hby at_159) rfl rfl) ?_
    show Goes p e below _ T56 (mkF m 161 #[.val (.int a1), .val (.int a2), .val (.int a3), .val (.int a4), .val (.int a5), .val (.long q6), .second, .val (.int f6), .val (.int (2 : Int32)), .val (.ref b1), .val (.ref b8), .val (.int (if a3 = a1 then (1 : Int32) else (0 : Int32))), .unset, .unset] [(.ref b1), (.int a4), (.int a3), (.int a2), (.int a1), (.ref b56), (.ref b56)])
    refine Goes.of (fun _ => XS.iconst X56.here hx rfl (hb hby at_161)) ?_
    show Goes p e below _ T56 (mkF m 162 #[.val (.int a1), .val (.int a2), .val (.int a3), .val (.int a4), .val (.int a5), .val (.long q6), .second, .val (.int f6), .val (.int (2 : Int32)), .val (.ref b1), .val (.ref b8), .val (.int (if a3 = a1 then (1 : Int32) else (0 : Int32))), .unset, .unset] [(.int (4 : Int32)), (.ref b1), (.int a4), (.int a3), (.int a2), (.int a1), (.ref b56), (.ref b56)])
    refine goLdI (.int a5) X56 hx hZ eT56 V1 (by decide) (by decide) rfl (g := (mkF m 162 #[.val (.int a1), .val (.int a2), .val (.int a3), .val (.int a4), .val (.int a5), .val (.long q6), .second, .val (.int f6), .val (.int (2 : Int32)), .val (.ref b1), .val (.ref b8), .val (.int (if a3 = a1 then (1 : Int32) else (0 : Int32))), .unset, .unset] [(.int (4 : Int32)), (.ref b1), (.int a4), (.int a3), (.int a2), (.int a1), (.ref b56), (.ref b56)])) rfl rfl (hb hby at_162) ?_
    show Goes p e below _ T56 (mkF m 163 #[.val (.int a1), .val (.int a2), .val (.int a3), .val (.int a4), .val (.int a5), .val (.long q6), .second, .val (.int f6), .val (.int (2 : Int32)), .val (.ref b1), .val (.ref b8), .val (.int (if a3 = a1 then (1 : Int32) else (0 : Int32))), .unset, .unset] [(.int a5), (.int a4), (.int a3), (.int a2), (.int a1), (.ref b56), (.ref b56)])
    refine Goes.of (fun _ => XS.aload X56.here hx rfl (hb hby at_163) rfl rfl) ?_
    show Goes p e below _ T56 (mkF m 165 #[.val (.int a1), .val (.int a2), .val (.int a3), .val (.int a4), .val (.int a5), .val (.long q6), .second, .val (.int f6), .val (.int (2 : Int32)), .val (.ref b1), .val (.ref b8), .val (.int (if a3 = a1 then (1 : Int32) else (0 : Int32))), .unset, .unset] [(.ref b1), (.int a5), (.int a4), (.int a3), (.int a2), (.int a1), (.ref b56), (.ref b56)])
    refine Goes.of (fun _ => XS.iconst X56.here hx rfl (hb hby at_165)) ?_
    show Goes p e below _ T56 (mkF m 166 #[.val (.int a1), .val (.int a2), .val (.int a3), .val (.int a4), .val (.int a5), .val (.long q6), .second, .val (.int f6), .val (.int (2 : Int32)), .val (.ref b1), .val (.ref b8), .val (.int (if a3 = a1 then (1 : Int32) else (0 : Int32))), .unset, .unset] [(.int (5 : Int32)), (.ref b1), (.int a5), (.int a4), (.int a3), (.int a2), (.int a1), (.ref b56), (.ref b56)])
    refine goLdI (.int f6) X56 hx hZ eT56 V1 (by decide) (by decide) rfl (g := (mkF m 166 #[.val (.int a1), .val (.int a2), .val (.int a3), .val (.int a4), .val (.int a5), .val (.long q6), .second, .val (.int f6), .val (.int (2 : Int32)), .val (.ref b1), .val (.ref b8), .val (.int (if a3 = a1 then (1 : Int32) else (0 : Int32))), .unset, .unset] [(.int (5 : Int32)), (.ref b1), (.int a5), (.int a4), (.int a3), (.int a2), (.int a1), (.ref b56), (.ref b56)])) rfl rfl (hb hby at_166) ?_
    show Goes p e below _ T56 (mkF m 167 #[.val (.int a1), .val (.int a2), .val (.int a3), .val (.int a4), .val (.int a5), .val (.long q6), .second, .val (.int f6), .val (.int (2 : Int32)), .val (.ref b1), .val (.ref b8), .val (.int (if a3 = a1 then (1 : Int32) else (0 : Int32))), .unset, .unset] [(.int f6), (.int a5), (.int a4), (.int a3), (.int a2), (.int a1), (.ref b56), (.ref b56)])
    refine goSpecial 1 X56 hx hZ rfl hown (hw _ (List.mem_of_getElem? (i := 4) rfl)) (hw _ (List.mem_of_getElem? (i := 5) rfl)) (hw _ (List.mem_of_getElem? (i := 3) rfl)) (hw _ (List.mem_of_getElem? (i := 6) rfl)) (by decide) (rm_init l Z a0 hw b56 a1 a2 a3 a4 a5 f6 h56 n0 O0 g_b56 A56 F56_leftSideBearing F56_rightSideBearing F56_characterWidth F56_ascent F56_descent F56_attributes) eT56 (g := (mkF m 167 #[.val (.int a1), .val (.int a2), .val (.int a3), .val (.int a4), .val (.int a5), .val (.long q6), .second, .val (.int f6), .val (.int (2 : Int32)), .val (.ref b1), .val (.ref b8), .val (.int (if a3 = a1 then (1 : Int32) else (0 : Int32))), .unset, .unset] [(.int f6), (.int a5), (.int a4), (.int a3), (.int a2), (.int a1), (.ref b56), (.ref b56)])) rfl (by rw [hml]; rfl) b56 [(.int a1), (.int a2), (.int a3), (.int a4), (.int a5), (.int f6)] [(.ref b56)] (lenOf pd__IIIIII_V rfl) rfl rfl (by show 2 * 0 + _ ≤ _; exact Nat.le_of_eq rfl) (hb hby at_167) (by decide) (by decide) (by decide) (by decide) ?_
    intro v63 T63 L63 X63 q63
    obtain ⟨rfl, Nq63, Kq63, H0_63, H1_63, H2_63, H3_63, H4_63, H5_63⟩ := q63
    have N63 := Fr.app N54 Nq63
    have V1 := V1.keep Kq63 (ninS ne_b1_b56 nin0)
    have A1 := A1.keep Kq63
    have V8 := V8.keep Kq63 (ninS ne_b8_b56 nin0)
    have A8 := A8.keep Kq63
    have A56 := A56.keep Kq63
    have O0 := O0.keep Kq63 (allS g_b56 all0)
    show Goes p e below _ T63 (mkF m 170 #[.val (.int a1), .val (.int a2), .val (.int a3), .val (.int a4), .val (.int a5), .val (.long q6), .second, .val (.int f6), .val (.int (2 : Int32)), .val (.ref b1), .val (.ref b8), .val (.int (if a3 = a1 then (1 : Int32) else (0 : Int32))), .unset, .unset] [(.ref b56)])
    refine Goes.of (fun _ => XS.astore X63.here hx rfl (hb hby at_170) rfl rfl (l' := #[.val (.int a1), .val (.int a2), .val (.int a3), .val (.int a4), .val (.int a5), .val (.long q6), .second, .val (.int f6), .val (.int (2 : Int32)), .val (.ref b1), .val (.ref b8), .val (.int (if a3 = a1 then (1 : Int32) else (0 : Int32))), .val (.ref b56), .unset]) rfl) ?_
    show Goes p e below _ T63 (mkF m 172 #[.val (.int a1), .val (.int a2), .val (.int a3), .val (.int a4), .val (.int a5), .val (.long q6), .second, .val (.int f6), .val (.int (2 : Int32)), .val (.ref b1), .val (.ref b8), .val (.int (if a3 = a1 then (1 : Int32) else (0 : Int32))), .val (.ref b56), .unset] [])
    refine goNew X63 hx hZ hown (hw _ (List.mem_of_getElem? (i := 1) rfl)) (hw _ (List.mem_of_getElem? (i := 2) rfl)) (hw _ (List.mem_of_getElem? (i := 3) rfl)) (rfl : T63.heap = _) (g := (mkF m 172 #[.val (.int a1), .val (.int a2), .val (.int a3), .val (.int a4), .val (.int a5), .val (.long q6), .second, .val (.int f6), .val (.int (2 : Int32)), .val (.ref b1), .val (.ref b8), .val (.int (if a3 = a1 then (1 : Int32) else (0 : Int32))), .val (.ref b56), .unset] [])) rfl (hb hby at_172) (by decide) (by decide) ?_
    intro T64 h64 b64 X64 eT64 E64 hb64 A64 D64
    have g_b64 : n0 ≤ b64 := Nat.le_trans (oldLe O0) hb64
    have ne_b1_b64 : b1 ≠ b64 := Nat.ne_of_lt (Nat.lt_of_lt_of_le V1.lt hb64)
    have ne_b8_b64 : b8 ≠ b64 := Nat.ne_of_lt (Nat.lt_of_lt_of_le V8.lt hb64)
    have ne_b56_b64 : b56 ≠ b64 := Nat.ne_of_lt (Nat.lt_of_lt_of_le A56.lt hb64)
    have V1 := V1.ext E64
    have A1 := A1.ext E64
    have V8 := V8.ext E64
    have A8 := A8.ext E64
    have A56 := A56.ext E64
    have H0_63 := H0_63.ext E64
    have H1_63 := H1_63.ext E64
    have H2_63 := H2_63.ext E64
    have H3_63 := H3_63.ext E64
    have H4_63 := H4_63.ext E64
    have H5_63 := H5_63.ext E64
    have O0 := O0.ext E64
    have F64_leftSideBearing : Fld Z h64 b64 "com/example/casement/casement/graphics/CharMetrics" "leftSideBearing" "I" (.int (0 : Int32)) := D64 (Or.inr (hw _ (List.mem_of_getElem? (i := 11) rfl))) (ty := .int) (by decide)
    have F64_rightSideBearing : Fld Z h64 b64 "com/example/casement/casement/graphics/CharMetrics" "rightSideBearing" "I" (.int (0 : Int32)) := D64 (Or.inr (hw _ (List.mem_of_getElem? (i := 13) rfl))) (ty := .int) (by decide)
    have F64_characterWidth : Fld Z h64 b64 "com/example/casement/casement/graphics/CharMetrics" "characterWidth" "I" (.int (0 : Int32)) := D64 (Or.inr (hw _ (List.mem_of_getElem? (i := 15) rfl))) (ty := .int) (by decide)
    have F64_ascent : Fld Z h64 b64 "com/example/casement/casement/graphics/CharMetrics" "ascent" "I" (.int (0 : Int32)) := D64 (Or.inr (hw _ (List.mem_of_getElem? (i := 17) rfl))) (ty := .int) (by decide)
    have F64_descent : Fld Z h64 b64 "com/example/casement/casement/graphics/CharMetrics" "descent" "I" (.int (0 : Int32)) := D64 (Or.inr (hw _ (List.mem_of_getElem? (i := 19) rfl))) (ty := .int) (by decide)
    have F64_attributes : Fld Z h64 b64 "com/example/casement/casement/graphics/CharMetrics" "attributes" "I" (.int (0 : Int32)) := D64 (Or.inr (hw _ (List.mem_of_getElem? (i := 21) rfl))) (ty := .int) (by decide)
    show Goes p e below _ T64 (mkF m 175 #[.val (.int a1), .val (.int a2), .val (.int a3), .val (.int a4), .val (.int a5), .val (.long q6), .second, .val (.int f6), .val (.int (2 : Int32)), .val (.ref b1), .val (.ref b8), .val (.int (if a3 = a1 then (1 : Int32) else (0 : Int32))), .val (.ref b56), .unset] [(.ref b64)])
    refine Goes.of (fun _ => XS.dup X64.here hx rfl (hb hby at_175) rfl rfl) ?_
    show Goes p e below _ T64 (mkF m 176 #[.val (.int a1), .val (.int a2), .val (.int a3), .val (.int a4), .val (.int a5), .val (.long q6), .second, .val (.int f6), .val (.int (2 : Int32)), .val (.ref b1), .val (.ref b8), .val (.int (if a3 = a1 then (1 : Int32) else (0 : Int32))), .val (.ref b56), .unset] [(.ref b64), (.ref b64)])
    refine Goes.of (fun _ => XS.aload X64.here hx rfl (hb hby at_176) rfl rfl) ?_
    show Goes p e below _ T64 (mkF m 178 #[.val (.int a1), .val (.int a2), .val (.int a3), .val (.int a4), .val (.int a5), .val (.long q6), .second, .val (.int f6), .val (.int (2 : Int32)), .val (.ref b1), .val (.ref b8), .val (.int (if a3 = a1 then (1 : Int32) else (0 : Int32))), .val (.ref b56), .unset] [(.ref b8), (.ref b64), (.ref b64)])
    refine Goes.of (fun _ => XS.iconst X64.here hx rfl (hb hby at_178)) ?_
    show Goes p e below _ T64 (mkF m 179 #[.val (.int a1), .val (.int a2), .val (.int a3), .val (.int a4), .val (.int a5), .val (.long q6), .second, .val (.int f6), .val (.int (2 : Int32)), .val (.ref b1), .val (.ref b8), .val (.int (if a3 = a1 then (1 : Int32) else (0 : Int32))), .val (.ref b56), .unset] [(.int (0 : Int32)), (.ref b8), (.ref b64), (.ref b64)])
    refine goLdI (.int a1) X64 hx hZ eT64 V8 (by decide) (by decide) rfl (g := (mkF m 179 #[.val (.int a1), .val (.int a2), .val (.int a3), .val (.int a4), .val (.int a5), .val (.long q6), .second, .val (.int f6), .val (.int (2 : Int32)), .val (.ref b1), .val (.ref b8), .val (.int (if a3 = a1 then (1 : Int32) else (0 : Int32))), .val (.ref b56), .unset] [(.int (0 : Int32)), (.ref b8), (.ref b64), (.ref b64)])) rfl rfl (hb hby at_179) ?_
    show Goes p e below _ T64 (mkF m 180 #[.val (.int a1), .val (.int a2), .val (.int a3), .val (.int a4), .val (.int a5), .val (.long q6), .second, .val (.int f6), .val (.int (2 : Int32)), .val (.ref b1), .val (.ref b8), .val (.int (if a3 = a1 then (1 : Int32) else (0 : Int32))), .val (.ref b56), .unset] [(.int a1), (.ref b64), (.ref b64)])
    refine Goes.of (fun _ => XS.aload X64.here hx rfl (hb hby at_180) rfl rfl) ?_
    show Goes p e below _ T64 (mkF m 182 #[.val (.int a1), .val (.int a2), .val (.int a3), .val (.int a4), .val (.int a5), .val (.long q6), .second, .val (.int f6), .val (.int (2 : Int32)), .val (.ref b1), .val (.ref b8), .val (.int (if a3 = a1 then (1 : Int32) else (0 : Int32))), .val (.ref b56), .unset] [(.ref b8), (.int a1), (.ref b64), (.ref b64)])
    refine Goes.of (fun _ => XS.iconst X64.here hx rfl (hb hby at_182)) ?_
    show Goes p e below _ T64 (mkF m 183 #[.val (.int a1), .val (.int a2), .val (.int a3), .val (.int a4), .val (.int a5), .val (.long q6), .second, .val (.int f6), .val (.int (2 : Int32)), .val (.ref b1), .val (.ref b8), .val (.int (if a3 = a1 then (1 : Int32) else (0 : Int32))), .val (.ref b56), .unset] [(.int (1 : Int32)), (.ref b8), (.int a1), (.ref b64), (.ref b64)])
    refine goLdI (.int a2) X64 hx hZ eT64 V8 (by decide) (by decide) rfl (g := (mkF m 183 #[.val (.int a1), .val (.int a2), .val (.int a3), .val (.int a4), .val (.int a5), .val (.long q6), .second, .val (.int f6), .val (.int (2 : Int32)), .val (.ref b1), .val (.ref b8), .val (.int (if a3 = a1 then (1 : Int32) else (0 : Int32))), .val (.ref b56), .unset] [(.int (1 : Int32)), (.ref b8), (.int a1), (.ref b64), (.ref b64)])) rfl rfl (hb hby at_183) ?_
    show Goes p e below _ T64 (mkF m 184 #[.val (.int a1), .val (.int a2), .val (.int a3), .val (.int a4), .val (.int a5), .val (.long q6), .second, .val (.int f6), .val (.int (2 : Int32)), .val (.ref b1), .val (.ref b8), .val (.int (if a3 = a1 then (1 : Int32) else (0 : Int32))), .val (.ref b56), .unset] [(.int a2), (.int a1), (.ref b64), (.ref b64)])
    refine Goes.of (fun _ => XS.aload X64.here hx rfl (hb hby at_184) rfl rfl) ?_
    show Goes p e below _ T64 (mkF m 186 #[.val (.int a1), .val (.int a2), .val (.int a3), .val (.int a4), .val (.int a5), .val (.long q6), .second, .val (.int f6), .val (.int (2 : Int32)), .val (.ref b1), .val (.ref b8), .val (.int (if a3 = a1 then (1 : Int32) else (0 : Int32))), .val (.ref b56), .unset] [(.ref b8), (.int a2), (.int a1), (.ref b64), (.ref b64)])
    refine Goes.of (fun _ => XS.iconst X64.here hx rfl (hb hby at_186)) ?_
    show Goes p e below _ T64 (mkF m 187 #[.val (.int a1), .val (.int a2), .val (.int a3), .val (.int a4), .val (.int a5), .val (.long q6), .second, .val (.int f6), .val (.int (2 : Int32)), .val (.ref b1), .val (.ref b8), .val (.int (if a3 = a1 then (1 : Int32) else (0 : Int32))), .val (.ref b56), .unset] [(.int (2 : Int32)), (.ref b8), (.int a2), (.int a1), (.ref b64), (.ref b64)])
    refine goLdI (.int a1) X64 hx hZ eT64 V8 (by decide) (by decide) rfl (g := (mkF m 187 #[.val (.int a1), .val (.int a2), .val (.int a3), .val (.int a4), .val (.int a5), .val (.long q6), .second, .val (.int f6), .val (.int (2 : Int32)), .val (.ref b1), .val (.ref b8), .val (.int (if a3 = a1 then (1 : Int32) else (0 : Int32))), .val (.ref b56), .unset] [(.int (2 : Int32)), (.ref b8), (.int a2), (.int a1), (.ref b64), (.ref b64)])) rfl rfl (hb hby at_187) ?_
    show Goes p e below _ T64 (mkF m 188 #[.val (.int a1), .val (.int a2), .val (.int a3), .val (.int a4), .val (.int a5), .val (.long q6), .second, .val (.int f6), .val (.int (2 : Int32)), .val (.ref b1), .val (.ref b8), .val (.int (if a3 = a1 then (1 : Int32) else (0 : Int32))), .val (.ref b56), .unset] [(.int a1), (.int a2), (.int a1), (.ref b64), (.ref b64)])
    refine Goes.of (fun _ => XS.aload X64.here hx rfl (hb hby at_188) rfl rfl) ?_
    show Goes p e below _ T64 (mkF m 190 #[.val (.int a1), .val (.int a2), .val (.int a3), .val (.int a4), .val (.int a5), .val (.long q6), .second, .val (.int f6), .val (.int (2 : Int32)), .val (.ref b1), .val (.ref b8), .val (.int (if a3 = a1 then (1 : Int32) else (0 : Int32))), .val (.ref b56), .unset] [(.ref b8), (.int a1), (.int a2), (.int a1), (.ref b64), (.ref b64)])
    refine Goes.of (fun _ => XS.iconst X64.here hx rfl (hb hby at_190)) ?_
    show Goes p e below _ T64 (mkF m 191 #[.val (.int a1), .val (.int a2), .val (.int a3), .val (.int a4), .val (.int a5), .val (.long q6), .second, .val (.int f6), .val (.int (2 : Int32)), .val (.ref b1), .val (.ref b8), .val (.int (if a3 = a1 then (1 : Int32) else (0 : Int32))), .val (.ref b56), .unset] [(.int (3 : Int32)), (.ref b8), (.int a1), (.int a2), (.int a1), (.ref b64), (.ref b64)])
    refine goLdI (.int a4) X64 hx hZ eT64 V8 (by decide) (by decide) rfl (g := (mkF m 191 #[.val (.int a1), .val (.int a2), .val (.int a3), .val (.int a4), .val (.int a5), .val (.long q6), .second, .val (.int f6), .val (.int (2 : Int32)), .val (.ref b1), .val (.ref b8), .val (.int (if a3 = a1 then (1 : Int32) else (0 : Int32))), .val (.ref b56), .unset] [(.int (3 : Int32)), (.ref b8), (.int a1), (.int a2), (.int a1), (.ref b64), (.ref b64)])) rfl rfl (hb hby at_191) ?_
    show Goes p e below _ T64 (mkF m 192 #[.val (.int a1), .val (.int a2), .val (.int a3), .val (.int a4), .val (.int a5), .val (.long q6), .second, .val (.int f6), .val (.int (2 : Int32)), .val (.ref b1), .val (.ref b8), .val (.int (if a3 = a1 then (1 : Int32) else (0 : Int32))), .val (.ref b56), .unset] [(.int a4), (.int a1), (.int a2), (.int a1), (.ref b64), (.ref b64)])
    refine Goes.of (fun _ => XS.aload X64.here hx rfl (hb hby at_192) rfl rfl) ?_
    show Goes p e below _ T64 (mkF m 194 #[.val (.int a1), .val (.int a2), .val (.int a3), .val (.int a4), .val (.int a5), .val (.long q6), .second, .val (.int f6), .val (.int (2 : Int32)), .val (.ref b1), .val (.ref b8), .val (.int (if a3 = a1 then (1 : Int32) else (0 : Int32))), .val (.ref b56), .unset] [(.ref b8), (.int a4), (.int a1), (.int a2), (.int a1), (.ref b64), (.ref b64)])
    refine Goes.of (fun _ => XS.iconst X64.here hx rfl (hb hby at_194)) ?_
    show Goes p e below _ T64 (mkF m 195 #[.val (.int a1), .val (.int a2), .val (.int a3), .val (.int a4), .val (.int a5), .val (.long q6), .second, .val (.int f6), .val (.int (2 : Int32)), .val (.ref b1), .val (.ref b8), .val (.int (if a3 = a1 then (1 : Int32) else (0 : Int32))), .val (.ref b56), .unset] [(.int (4 : Int32)), (.ref b8), (.int a4), (.int a1), (.int a2), (.int a1), (.ref b64), (.ref b64)])
    refine goLdI (.int a5) X64 hx hZ eT64 V8 (by decide) (by decide) rfl (g := (mkF m 195 #[.val (.int a1), .val (.int a2), .val (.int a3), .val (.int a4), .val (.int a5), .val (.long q6), .second, .val (.int f6), .val (.int (2 : Int32)), .val (.ref b1), .val (.ref b8), .val (.int (if a3 = a1 then (1 : Int32) else (0 : Int32))), .val (.ref b56), .unset] [(.int (4 : Int32)), (.ref b8), (.int a4), (.int a1), (.int a2), (.int a1), (.ref b64), (.ref b64)])) rfl rfl (hb hby at_195) ?_
    show Goes p e below _ T64 (mkF m 196 #[.val (.int a1), .val (.int a2), .val (.int a3), .val (.int a4), .val (.int a5), .val (.long q6), .second, .val (.int f6), .val (.int (2 : Int32)), .val (.ref b1), .val (.ref b8), .val (.int (if a3 = a1 then (1 : Int32) else (0 : Int32))), .val (.ref b56), .unset] [(.int a5), (.int a4), (.int a1), (.int a2), (.int a1), (.ref b64), (.ref b64)])
    refine Goes.of (fun _ => XS.aload X64.here hx rfl (hb hby at_196) rfl rfl) ?_
    show Goes p e below _ T64 (mkF m 198 #[.val (.int a1), .val (.int a2), .val (.int a3), .val (.int a4), .val (.int a5), .val (.long q6), .second, .val (.int f6), .val (.int (2 : Int32)), .val (.ref b1), .val (.ref b8), .val (.int (if a3 = a1 then (1 : Int32) else (0 : Int32))), .val (.ref b56), .unset] [(.ref b8), (.int a5), (.int a4), (.int a1), (.int a2), (.int a1), (.ref b64), (.ref b64)])
    refine Goes.of (fun _ => XS.iconst X64.here hx rfl (hb hby at_198)) ?_
    show Goes p e below _ T64 (mkF m 199 #[.val (.int a1), .val (.int a2), .val (.int a3), .val (.int a4), .val (.int a5), .val (.long q6), .second, .val (.int f6), .val (.int (2 : Int32)), .val (.ref b1), .val (.ref b8), .val (.int (if a3 = a1 then (1 : Int32) else (0 : Int32))), .val (.ref b56), .unset] [(.int (5 : Int32)), (.ref b8), (.int a5), (.int a4), (.int a1), (.int a2), (.int a1), (.ref b64), (.ref b64)])
    refine goLdI (.int f6) X64 hx hZ eT64 V8 (by decide) (by decide) rfl (g := (mkF m 199 #[.val (.int a1), .val (.int a2), .val (.int a3), .val (.int a4), .val (.int a5), .val (.long q6), .second, .val (.int f6), .val (.int (2 : Int32)), .val (.ref b1), .val (.ref b8), .val (.int (if a3 = a1 then (1 : Int32) else (0 : Int32))), .val (.ref b56), .unset] [(.int (5 : Int32)), (.ref b8), (.int a5), (.int a4), (.int a1), (.int a2), (.int a1), (.ref b64), (.ref b64)])) rfl rfl (hb hby at_199) ?_
    show Goes p e below _ T64 (mkF m 200 #[.val (.int a1), .val (.int a2), .val (.int a3), .val (.int a4), .val (.int a5), .val (.long q6), .second, .val (.int f6), .val (.int (2 : Int32)), .val (.ref b1), .val (.ref b8), .val (.int (if a3 = a1 then (1 : Int32) else (0 : Int32))), .val (.ref b56), .unset] [(.int f6), (.int a5), (.int a4), (.int a1), (.int a2), (.int a1), (.ref b64), (.ref b64)])
    refine goSpecial 1 X64 hx hZ rfl hown (hw _ (List.mem_of_getElem? (i := 4) rfl)) (hw _ (List.mem_of_getElem? (i := 5) rfl)) (hw _ (List.mem_of_getElem? (i := 3) rfl)) (hw _ (List.mem_of_getElem? (i := 6) rfl)) (by decide) (rm_init l Z a0 hw b64 a1 a2 a1 a4 a5 f6 h64 n0 O0 g_b64 A64 F64_leftSideBearing F64_rightSideBearing F64_characterWidth F64_ascent F64_descent F64_attributes) eT64 (g := (mkF m 200 #[.val (.int a1), .val (.int a2), .val (.int a3), .val (.int a4), .val (.int a5), .val (.long q6), .second, .val (.int f6), .val (.int (2 : Int32)), .val (.ref b1), .val (.ref b8), .val (.int (if a3 = a1 then (1 : Int32) else (0 : Int32))), .val (.ref b56), .unset] [(.int f6), (.int a5), (.int a4), (.int a1), (.int a2), (.int a1), (.ref b64), (.ref b64)])) rfl (by rw [hml]; rfl) b64 [(.int a1), (.int a2), (.int a1), (.int a4), (.int a5), (.int f6)] [(.ref b64)] (lenOf pd__IIIIII_V rfl) rfl rfl (by show 2 * 0 + _ ≤ _; exact Nat.le_of_eq rfl) (hb hby at_200) (by decide) (by decide) (by decide) (by decide) ?_
    intro v71 T71 L71 X71 q71
    obtain ⟨rfl, Nq71, Kq71, H0_71, H1_71, H2_71, H3_71, H4_71, H5_71⟩ := q71
    have N71 := Fr.app N63 Nq71
    have V1 := V1.keep Kq71 (ninS ne_b1_b64 nin0)
    have A1 := A1.keep Kq71
    have V8 := V8.keep Kq71 (ninS ne_b8_b64 nin0)
    have A8 := A8.keep Kq71
    have A56 := A56.keep Kq71
    have H0_63 := H0_63.keep Kq71 (ninS ne_b56_b64 nin0)
    have H1_63 := H1_63.keep Kq71 (ninS ne_b56_b64 nin0)
    have H2_63 := H2_63.keep Kq71 (ninS ne_b56_b64 nin0)
    have H3_63 := H3_63.keep Kq71 (ninS ne_b56_b64 nin0)
    have H4_63 := H4_63.keep Kq71 (ninS ne_b56_b64 nin0)
    have H5_63 := H5_63.keep Kq71 (ninS ne_b56_b64 nin0)
    have A64 := A64.keep Kq71
    have O0 := O0.keep Kq71 (allS g_b64 all0)
    show Goes p e below _ T71 (mkF m 203 #[.val (.int a1), .val (.int a2), .val (.int a3), .val (.int a4), .val (.int a5), .val (.long q6), .second, .val (.int f6), .val (.int (2 : Int32)), .val (.ref b1), .val (.ref b8), .val (.int (if a3 = a1 then (1 : Int32) else (0 : Int32))), .val (.ref b56), .unset] [(.ref b64)])
    refine Goes.of (fun _ => XS.astore X71.here hx rfl (hb hby at_203) rfl rfl (l' := #[.val (.int a1), .val (.int a2), .val (.int a3), .val (.int a4), .val (.int a5), .val (.long q6), .second, .val (.int f6), .val (.int (2 : Int32)), .val (.ref b1), .val (.ref b8), .val (.int (if a3 = a1 then (1 : Int32) else (0 : Int32))), .val (.ref b56), .val (.ref b64)]) rfl) ?_
    show Goes p e below _ T71 (mkF m 205 #[.val (.int a1), .val (.int a2), .val (.int a3), .val (.int a4), .val (.int a5), .val (.long q6), .second, .val (.int f6), .val (.int (2 : Int32)), .val (.ref b1), .val (.ref b8), .val (.int (if a3 = a1 then (1 : Int32) else (0 : Int32))), .val (.ref b56), .val (.ref b64)] [])
    refine Goes.of (fun _ => XS.iload X71.here hx rfl (hb hby at_205) rfl) ?_
    show Goes p e below _ T71 (mkF m 207 #[.val (.int a1), .val (.int a2), .val (.int a3), .val (.int a4), .val (.int a5), .val (.long q6), .second, .val (.int f6), .val (.int (2 : Int32)), .val (.ref b1), .val (.ref b8), .val (.int (if a3 = a1 then (1 : Int32) else (0 : Int32))), .val (.ref b56), .val (.ref b64)] [(.int (2 : Int32))])
    refine Goes.of (fun _ => XS.bipush X71.here hx rfl (hb hby at_207)) ?_
    show Goes p e below _ T71 (mkF m 209 #[.val (.int a1), .val (.int a2), .val (.int a3), .val (.int a4), .val (.int a5), .val (.long q6), .second, .val (.int f6), .val (.int (2 : Int32)), .val (.ref b1), .val (.ref b8), .val (.int (if a3 = a1 then (1 : Int32) else (0 : Int32))), .val (.ref b56), .val (.ref b64)] [(.int (7 : Int32)), (.int (2 : Int32))])
    refine Goes.of (fun _ => XS.icmpYes X71.here hx rfl (pc0 := 209) (pc' := 249) rfl (hb hby at_209) rfl (feq (by decide)).2 (by decide) (by decide)) ?_
    show Goes p e below _ T71 (mkF m 249 #[.val (.int a1), .val (.int a2), .val (.int a3), .val (.int a4), .val (.int a5), .val (.long q6), .second, .val (.int f6), .val (.int (2 : Int32)), .val (.ref b1), .val (.ref b8), .val (.int (if a3 = a1 then (1 : Int32) else (0 : Int32))), .val (.ref b56), .val (.ref b64)] [])
    refine Goes.of (fun _ => XS.aload X71.here hx rfl (hb hby at_249) rfl rfl) ?_
    show Goes p e below _ T71 (mkF m 251 #[.val (.int a1), .val (.int a2), .val (.int a3), .val (.int a4), .val (.int a5), .val (.long q6), .second, .val (.int f6), .val (.int (2 : Int32)), .val (.ref b1), .val (.ref b8), .val (.int (if a3 = a1 then (1 : Int32) else (0 : Int32))), .val (.ref b56), .val (.ref b64)] [(.ref b56)])
    refine Goes.of (fun _ => XS.aload X71.here hx rfl (hb hby at_251) rfl rfl) ?_
    show Goes p e below _ T71 (mkF m 253 #[.val (.int a1), .val (.int a2), .val (.int a3), .val (.int a4), .val (.int a5), .val (.long q6), .second, .val (.int f6), .val (.int (2 : Int32)), .val (.ref b1), .val (.ref b8), .val (.int (if a3 = a1 then (1 : Int32) else (0 : Int32))), .val (.ref b56), .val (.ref b64)] [(.ref b64), (.ref b56)])
    refine goVirtual 0 X71 hx hZ hown (hw _ (List.mem_of_getElem? (i := 22) rfl)) (hw _ (List.mem_of_getElem? (i := 23) rfl)) (notFace_of_selects (args := #[]) (mvT hZ (hw _ (List.mem_of_getElem? (i := 25) rfl)))) (hw _ (List.mem_of_getElem? (i := 25) rfl)) (hw _ (List.mem_of_getElem? (i := 24) rfl)) (hw _ (List.mem_of_getElem? (i := 3) rfl)) (hw _ (List.mem_of_getElem? (i := 26) rfl)) (by decide) (rm_eq l Z a0 hw b56 b64 a1 a2 a3 a4 a5 f6 a1 a2 a1 a4 a5 f6 T71.heap n0 O0 A64 H0_63 H1_63 H2_63 H3_63 H4_63 H5_63 H0_71 H1_71 H2_71 H3_71 H4_71 H5_71) (rfl : T71.heap = _) A56 (g := (mkF m 253 #[.val (.int a1), .val (.int a2), .val (.int a3), .val (.int a4), .val (.int a5), .val (.long q6), .second, .val (.int f6), .val (.int (2 : Int32)), .val (.ref b1), .val (.ref b8), .val (.int (if a3 = a1 then (1 : Int32) else (0 : Int32))), .val (.ref b56), .val (.ref b64)] [(.ref b64), (.ref b56)])) rfl (by rw [hml]; rfl) [(.ref b64)] [] (lenOf pd__Ljava_lang_Object__Z rfl) rfl rfl (by show 2 * 0 + _ ≤ _; exact Nat.le_of_eq rfl) (hb hby at_253) (by decide) (by decide) (by decide) (by decide) ?_
    intro v72 T72 L72 X72 q72
    obtain ⟨rfl, Nq72, eT72⟩ := q72
    have N72 := Fr.app N71 Nq72
    show Goes p e below _ T72 (mkF m 256 #[.val (.int a1), .val (.int a2), .val (.int a3), .val (.int a4), .val (.int a5), .val (.long q6), .second, .val (.int f6), .val (.int (2 : Int32)), .val (.ref b1), .val (.ref b8), .val (.int (if a3 = a1 then (1 : Int32) else (0 : Int32))), .val (.ref b56), .val (.ref b64)] [(.int (eq6 a1 a2 a3 a4 a5 f6 a1 a2 a1 a4 a5 f6))])
    refine Goes.of (fun _ => XS.iload X72.here hx rfl (hb hby at_256) rfl) ?_
    show Goes p e below _ T72 (mkF m 258 #[.val (.int a1), .val (.int a2), .val (.int a3), .val (.int a4), .val (.int a5), .val (.long q6), .second, .val (.int f6), .val (.int (2 : Int32)), .val (.ref b1), .val (.ref b8), .val (.int (if a3 = a1 then (1 : Int32) else (0 : Int32))), .val (.ref b56), .val (.ref b64)] [(.int (if a3 = a1 then (1 : Int32) else (0 : Int32))), (.int (eq6 a1 a2 a3 a4 a5 f6 a1 a2 a1 a4 a5 f6))])
    refine Goes.of (fun _ => XS.icmpNo X72.here hx rfl (hb hby at_258) rfl (teq (by by_cases hh : a3 = a1 <;> simp [eq6, hh, eq_comm])).2) ?_
    show Goes p e below _ T72 (mkF m 261 #[.val (.int a1), .val (.int a2), .val (.int a3), .val (.int a4), .val (.int a5), .val (.long q6), .second, .val (.int f6), .val (.int (2 : Int32)), .val (.ref b1), .val (.ref b8), .val (.int (if a3 = a1 then (1 : Int32) else (0 : Int32))), .val (.ref b56), .val (.ref b64)] [])
    refine Goes.of (fun _ => XS.aload X72.here hx rfl (hb hby at_261) rfl rfl) ?_
    show Goes p e below _ T72 (mkF m 263 #[.val (.int a1), .val (.int a2), .val (.int a3), .val (.int a4), .val (.int a5), .val (.long q6), .second, .val (.int f6), .val (.int (2 : Int32)), .val (.ref b1), .val (.ref b8), .val (.int (if a3 = a1 then (1 : Int32) else (0 : Int32))), .val (.ref b56), .val (.ref b64)] [(.ref b64)])
    refine Goes.of (fun _ => XS.aload X72.here hx rfl (hb hby at_263) rfl rfl) ?_
    show Goes p e below _ T72 (mkF m 265 #[.val (.int a1), .val (.int a2), .val (.int a3), .val (.int a4), .val (.int a5), .val (.long q6), .second, .val (.int f6), .val (.int (2 : Int32)), .val (.ref b1), .val (.ref b8), .val (.int (if a3 = a1 then (1 : Int32) else (0 : Int32))), .val (.ref b56), .val (.ref b64)] [(.ref b56), (.ref b64)])
    refine goVirtual 0 X72 hx hZ hown (hw _ (List.mem_of_getElem? (i := 22) rfl)) (hw _ (List.mem_of_getElem? (i := 23) rfl)) (notFace_of_selects (args := #[]) (mvT hZ (hw _ (List.mem_of_getElem? (i := 25) rfl)))) (hw _ (List.mem_of_getElem? (i := 25) rfl)) (hw _ (List.mem_of_getElem? (i := 24) rfl)) (hw _ (List.mem_of_getElem? (i := 3) rfl)) (hw _ (List.mem_of_getElem? (i := 26) rfl)) (by decide) (rm_eq l Z a0 hw b64 b56 a1 a2 a1 a4 a5 f6 a1 a2 a3 a4 a5 f6 T71.heap n0 O0 A56 H0_71 H1_71 H2_71 H3_71 H4_71 H5_71 H0_63 H1_63 H2_63 H3_63 H4_63 H5_63) eT72 A64 (g := (mkF m 265 #[.val (.int a1), .val (.int a2), .val (.int a3), .val (.int a4), .val (.int a5), .val (.long q6), .second, .val (.int f6), .val (.int (2 : Int32)), .val (.ref b1), .val (.ref b8), .val (.int (if a3 = a1 then (1 : Int32) else (0 : Int32))), .val (.ref b56), .val (.ref b64)] [(.ref b56), (.ref b64)])) rfl (by rw [hml]; rfl) [(.ref b56)] [] (lenOf pd__Ljava_lang_Object__Z rfl) rfl rfl (by show 2 * 0 + _ ≤ _; exact Nat.le_of_eq rfl) (hb hby at_265) (by decide) (by decide) (by decide) (by decide) ?_
    intro v73 T73 L73 X73 q73
    obtain ⟨rfl, Nq73, eT73⟩ := q73
    have N73 := Fr.app N72 Nq73
    show Goes p e below _ T73 (mkF m 268 #[.val (.int a1), .val (.int a2), .val (.int a3), .val (.int a4), .val (.int a5), .val (.long q6), .second, .val (.int f6), .val (.int (2 : Int32)), .val (.ref b1), .val (.ref b8), .val (.int (if a3 = a1 then (1 : Int32) else (0 : Int32))), .val (.ref b56), .val (.ref b64)] [(.int (eq6 a1 a2 a1 a4 a5 f6 a1 a2 a3 a4 a5 f6))])
    refine Goes.of (fun _ => XS.iload X73.here hx rfl (hb hby at_268) rfl) ?_
    show Goes p e below _ T73 (mkF m 270 #[.val (.int a1), .val (.int a2), .val (.int a3), .val (.int a4), .val (.int a5), .val (.long q6), .second, .val (.int f6), .val (.int (2 : Int32)), .val (.ref b1), .val (.ref b8), .val (.int (if a3 = a1 then (1 : Int32) else (0 : Int32))), .val (.ref b56), .val (.ref b64)] [(.int (if a3 = a1 then (1 : Int32) else (0 : Int32))), (.int (eq6 a1 a2 a1 a4 a5 f6 a1 a2 a3 a4 a5 f6))])
    refine Goes.of (fun _ => XS.icmpNo X73.here hx rfl (hb hby at_270) rfl (teq (by by_cases hh : a3 = a1; (· simp [eq6, hh]); (· simp [eq6, hh, Ne.symm hh]))).2) ?_
    show Goes p e below _ T73 (mkF m 273 #[.val (.int a1), .val (.int a2), .val (.int a3), .val (.int a4), .val (.int a5), .val (.long q6), .second, .val (.int f6), .val (.int (2 : Int32)), .val (.ref b1), .val (.ref b8), .val (.int (if a3 = a1 then (1 : Int32) else (0 : Int32))), .val (.ref b56), .val (.ref b64)] [])
    refine Goes.of (fun _ => XS.iconst X73.here hx rfl (hb hby at_273)) ?_
    show Goes p e below _ T73 (mkF m 274 #[.val (.int a1), .val (.int a2), .val (.int a3), .val (.int a4), .val (.int a5), .val (.long q6), .second, .val (.int f6), .val (.int (2 : Int32)), .val (.ref b1), .val (.ref b8), .val (.int (if a3 = a1 then (1 : Int32) else (0 : Int32))), .val (.ref b56), .val (.ref b64)] [(.int (1 : Int32))])
    refine Goes.of (fun _ => XS.goto X73.here hx rfl (pc0 := 274) (pc' := 278) rfl (hb hby at_274) (by decide) (by decide)) ?_
    show Goes p e below _ T73 (mkF m 278 #[.val (.int a1), .val (.int a2), .val (.int a3), .val (.int a4), .val (.int a5), .val (.long q6), .second, .val (.int f6), .val (.int (2 : Int32)), .val (.ref b1), .val (.ref b8), .val (.int (if a3 = a1 then (1 : Int32) else (0 : Int32))), .val (.ref b56), .val (.ref b64)] [(.int (1 : Int32))])
    exact retZ (t := .boolean) X73 hx hret hlk (by simp) (hb hby at_278) eT73 (by decide) (by decide) ⟨rfl, N73⟩
  · show Goes p e below _ T14 (mkF m 80 #[.val (.int a1), .val (.int a2), .val (.int a3), .val (.int a4), .val (.int a5), .val (.long q6), .second, .val (.int f6), .val (.int (3 : Int32)), .val (.ref b1), .val (.ref b8), .unset, .unset, .unset] [])
    refine Goes.of (fun _ => XS.iload X14.here hx rfl (hb hby at_80) rfl) ?_
    show Goes p e below _ T14 (mkF m 82 #[.val (.int a1), .val (.int a2), .val (.int a3), .val (.int a4), .val (.int a5), .val (.long q6), .second, .val (.int f6), .val (.int (3 : Int32)), .val (.ref b1), .val (.ref b8), .unset, .unset, .unset] [(.int (3 : Int32))])
    refine Goes.of (fun _ => XS.ifYes X14.here hx rfl (pc0 := 82) (pc' := 105) rfl (hb hby at_82) rfl ((if0 _ _).trans (feq (by decide)).2) (by decide) (by decide)) ?_
    show Goes p e below _ T14 (mkF m 105 #[.val (.int a1), .val (.int a2), .val (.int a3), .val (.int a4), .val (.int a5), .val (.long q6), .second, .val (.int f6), .val (.int (3 : Int32)), .val (.ref b1), .val (.ref b8), .unset, .unset, .unset] [])
    refine Goes.of (fun _ => XS.iload X14.here hx rfl (hb hby at_105) rfl) ?_
    show Goes p e below _ T14 (mkF m 107 #[.val (.int a1), .val (.int a2), .val (.int a3), .val (.int a4), .val (.int a5), .val (.long q6), .second, .val (.int f6), .val (.int (3 : Int32)), .val (.ref b1), .val (.ref b8), .unset, .unset, .unset] [(.int (3 : Int32))])
    refine Goes.of (fun _ => XS.iconst X14.here hx rfl (hb hby at_107)) ?_
    show Goes p e below _ T14 (mkF m 108 #[.val (.int a1), .val (.int a2), .val (.int a3), .val (.int a4), .val (.int a5), .val (.long q6), .second, .val (.int f6), .val (.int (3 : Int32)), .val (.ref b1), .val (.ref b8), .unset, .unset, .unset] [(.int (5 : Int32)), (.int (3 : Int32))])
    refine Goes.of (fun _ => XS.icmpNo X14.here hx rfl (hb hby at_108) rfl (flt (by decide)).2.2.1) ?_
    show Goes p e below _ T14 (mkF m 111 #[.val (.int a1), .val (.int a2), .val (.int a3), .val (.int a4), .val (.int a5), .val (.long q6), .second, .val (.int f6), .val (.int (3 : Int32)), .val (.ref b1), .val (.ref b8), .unset, .unset, .unset] [])
    refine Goes.of (fun _ => XS.aload X14.here hx rfl (hb hby at_111) rfl rfl) ?_
    show Goes p e below _ T14 (mkF m 113 #[.val (.int a1), .val (.int a2), .val (.int a3), .val (.int a4), .val (.int a5), .val (.long q6), .second, .val (.int f6), .val (.int (3 : Int32)), .val (.ref b1), .val (.ref b8), .unset, .unset, .unset] [(.ref b8)])
    refine Goes.of (fun _ => XS.iload X14.here hx rfl (hb hby at_113) rfl) ?_
    show Goes p e below _ T14 (mkF m 115 #[.val (.int a1), .val (.int a2), .val (.int a3), .val (.int a4), .val (.int a5), .val (.long q6), .second, .val (.int f6), .val (.int (3 : Int32)), .val (.ref b1), .val (.ref b8), .unset, .unset, .unset] [(.int (3 : Int32)), (.ref b8)])
    refine Goes.of (fun _ => XS.iloadN X14.here hx rfl (hb hby at_115) rfl) ?_
    show Goes p e below _ T14 (mkF m 116 #[.val (.int a1), .val (.int a2), .val (.int a3), .val (.int a4), .val (.int a5), .val (.long q6), .second, .val (.int f6), .val (.int (3 : Int32)), .val (.ref b1), .val (.ref b8), .unset, .unset, .unset] [(.int a1), (.int (3 : Int32)), (.ref b8)])
    refine goStI 3 X14 hx hZ eT14 V8 (by decide) (by decide) rfl (Nat.lt_of_lt_of_le (Nat.lt_succ_self _) (Nat.le_of_ble_eq_true rfl)) (g := (mkF m 116 #[.val (.int a1), .val (.int a2), .val (.int a3), .val (.int a4), .val (.int a5), .val (.long q6), .second, .val (.int f6), .val (.int (3 : Int32)), .val (.ref b1), .val (.ref b8), .unset, .unset, .unset] [(.int a1), (.int (3 : Int32)), (.ref b8)])) rfl rfl (hb hby at_116) ?_
    intro T74 h74 X74 eT74 W74 V8
    have N74 := Fr.snoc X74 N14 g_b8
    have V1 := V1.other W74 ne_b1_b8
    have A1 := A1.wr W74
    have A8 := A8.wr W74
    have O0 := O0.wr W74 g_b8
    have V8 : Arv Z h74 b8 kA8 .int (6 : Int32) [(.int a1), (.int a2), (.int a3), (.int a1), (.int a5), (.int f6)] (.int (0 : Int32)) := V8
    show Goes p e below _ T74 (mkF m 117 #[.val (.int a1), .val (.int a2), .val (.int a3), .val (.int a4), .val (.int a5), .val (.long q6), .second, .val (.int f6), .val (.int (3 : Int32)), .val (.ref b1), .val (.ref b8), .unset, .unset, .unset] [])
    refine Goes.of (fun _ => XS.aload X74.here hx rfl (hb hby at_117) rfl rfl) ?_
    show Goes p e below _ T74 (mkF m 119 #[.val (.int a1), .val (.int a2), .val (.int a3), .val (.int a4), .val (.int a5), .val (.long q6), .second, .val (.int f6), .val (.int (3 : Int32)), .val (.ref b1), .val (.ref b8), .unset, .unset, .unset] [(.ref b1)])
    refine Goes.of (fun _ => XS.iload X74.here hx rfl (hb hby at_119) rfl) ?_
    show Goes p e below _ T74 (mkF m 121 #[.val (.int a1), .val (.int a2), .val (.int a3), .val (.int a4), .val (.int a5), .val (.long q6), .second, .val (.int f6), .val (.int (3 : Int32)), .val (.ref b1), .val (.ref b8), .unset, .unset, .unset] [(.int (3 : Int32)), (.ref b1)])
    refine goLdI (.int a4) X74 hx hZ eT74 V1 (by decide) (by decide) rfl (g := (mkF m 121 #[.val (.int a1), .val (.int a2), .val (.int a3), .val (.int a4), .val (.int a5), .val (.long q6), .second, .val (.int f6), .val (.int (3 : Int32)), .val (.ref b1), .val (.ref b8), .unset, .unset, .unset] [(.int (3 : Int32)), (.ref b1)])) rfl rfl (hb hby at_121) ?_
    show Goes p e below _ T74 (mkF m 122 #[.val (.int a1), .val (.int a2), .val (.int a3), .val (.int a4), .val (.int a5), .val (.long q6), .second, .val (.int f6), .val (.int (3 : Int32)), .val (.ref b1), .val (.ref b8), .unset, .unset, .unset] [(.int a4)])
    refine Goes.of (fun _ => XS.iloadN X74.here hx rfl (hb hby at_122) rfl) ?_
    show Goes p e below _ T74 (mkF m 123 #[.val (.int a1), .val (.int a2), .val (.int a3), .val (.int a4), .val (.int a5), .val (.long q6), .second, .val (.int f6), .val (.int (3 : Int32)), .val (.ref b1), .val (.ref b8), .unset, .unset, .unset] [(.int a1), (.int a4)])
    refine Goes.of (T' := T74) (f' := (mkF m 131 #[.val (.int a1), .val (.int a2), .val (.int a3), .val (.int a4), .val (.int a5), .val (.long q6), .second, .val (.int f6), .val (.int (3 : Int32)), .val (.ref b1), .val (.ref b8), .unset, .unset, .unset] [(.int (if a4 = a1 then (1 : Int32) else (0 : Int32)))])) (fun t kt => ?_) ?_
    · show Steps p.tables e below (T74.setTop (mkF m 123 #[.val (.int a1), .val (.int a2), .val (.int a3), .val (.int a4), .val (.int a5), .val (.long q6), .second, .val (.int f6), .val (.int (3 : Int32)), .val (.ref b1), .val (.ref b8), .unset, .unset, .unset] [(.int a1), (.int a4)])) _
      by_cases hq123 : a4 = a1
      · simp only [if_pos hq123] at kt
        refine XS.icmpNo X74.here hx rfl (hb hby at_123) rfl (teq hq123).2 ?_
        show Steps p.tables e below (T74.setTop (mkF m 126 #[.val (.int a1), .val (.int a2), .val (.int a3), .val (.int a4), .val (.int a5), .val (.long q6), .second, .val (.int f6), .val (.int (3 : Int32)), .val (.ref b1), .val (.ref b8), .unset, .unset, .unset] [])) _
        refine XS.iconst X74.here hx rfl (hb hby at_126) ?_
        show Steps p.tables e below (T74.setTop (mkF m 127 #[.val (.int a1), .val (.int a2), .val (.int a3), .val (.int a4), .val (.int a5), .val (.long q6), .second, .val (.int f6), .val (.int (3 : Int32)), .val (.ref b1), .val (.ref b8), .unset, .unset, .unset] [(.int (1 : Int32))])) _
        refine XS.goto X74.here hx rfl (pc0 := 127) (pc' := 131) rfl (hb hby at_127) (by decide) (by decide) ?_
        show Steps p.tables e below (T74.setTop (mkF m 131 #[.val (.int a1), .val (.int a2), .val (.int a3), .val (.int a4), .val (.int a5), .val (.long q6), .second, .val (.int f6), .val (.int (3 : Int32)), .val (.ref b1), .val (.ref b8), .unset, .unset, .unset] [(.int (1 : Int32))])) _
        exact kt
      · simp only [if_neg hq123] at kt
        refine XS.icmpYes X74.here hx rfl (pc0 := 123) (pc' := 130) rfl (hb hby at_123) rfl (feq hq123).2 (by decide) (by decide) ?_
        show Steps p.tables e below (T74.setTop (mkF m 130 #[.val (.int a1), .val (.int a2), .val (.int a3), .val (.int a4), .val (.int a5), .val (.long q6), .second, .val (.int f6), .val (.int (3 : Int32)), .val (.ref b1), .val (.ref b8), .unset, .unset, .unset] [])) _
        refine XS.iconst X74.here hx rfl (hb hby at_130) ?_
        show Steps p.tables e below (T74.setTop (mkF m 131 #[.val (.int a1), .val (.int a2), .val (.int a3), .val (.int a4), .val (.int a5), .val (.long q6), .second, .val (.int f6), .val (.int (3 : Int32)), .val (.ref b1), .val (.ref b8), .unset, .unset, .unset] [(.int (0 : Int32))])) _
        exact kt
    show Goes p e below _ T74 (mkF m 131 #[.val (.int a1), .val (.int a2), .val (.int a3), .val (.int a4), .val (.int a5), .val (.long q6), .second, .val (.int f6), .val (.int (3 : Int32)), .val (.ref b1), .val (.ref b8), .unset, .unset, .unset] [(.int (if a4 = a1 then (1 : Int32) else (0 : Int32)))])
    refine Goes.of (fun _ => XS.istore X74.here hx rfl (hb hby at_131) rfl (l' := #[.val (.int a1), .val (.int a2), .val (.int a3), .val (.int a4), .val (.int a5), .val (.long q6), .second, .val (.int f6), .val (.int (3 : Int32)), .val (.ref b1), .val (.ref b8), .val (.int (if a4 = a1 then (1 : Int32) else (0 : Int32))), .unset, .unset]) rfl) ?_
    show Goes p e below _ T74 (mkF m 133 #[.val (.int a1), .val (.int a2), .val (.int a3), .val (.int a4), .val (.int a5), .val (.long q6), .second, .val (.int f6), .val (.int (3 : Int32)), .val (.ref b1), .val (.ref b8), .val (.int (if a4 = a1 then (1 : Int32) else (0 : Int32))), .unset, .unset] [])
    refine Goes.of (fun _ => XS.goto X74.here hx rfl (pc0 := 133) (pc' := 139) rfl (hb hby at_133) (by decide) (by decide)) ?_
    show Goes p e below _ T74 (mkF m 139 #[.val (.int a1), .val (.int a2), .val (.int a3), .val (.int a4), .val (.int a5), .val (.long q6), .second, .val (.int f6), .val (.int (3 : Int32)), .val (.ref b1), .val (.ref b8), .val (.int (if a4 = a1 then (1 : Int32) else (0 : Int32))), .unset, .unset] [])
    refine goNew X74 hx hZ hown (hw _ (List.mem_of_getElem? (i := 1) rfl)) (hw _ (List.mem_of_getElem? (i := 2) rfl)) (hw _ (List.mem_of_getElem? (i := 3) rfl)) eT74 (g := (mkF m 139 #[.val (.int a1), .val (.int a2), .val (.int a3), .val (.int a4), .val (.int a5), .val (.long q6), .second, .val (.int f6), .val (.int (3 : Int32)), .val (.ref b1), .val (.ref b8), .val (.int (if a4 = a1 then (1 : Int32) else (0 : Int32))), .unset, .unset] [])) rfl (hb hby at_139) (by decide) (by decide) ?_
    intro T76 h76 b76 X76 eT76 E76 hb76 A76 D76
    have g_b76 : n0 ≤ b76 := Nat.le_trans (oldLe O0) hb76
    have ne_b1_b76 : b1 ≠ b76 := Nat.ne_of_lt (Nat.lt_of_lt_of_le V1.lt hb76)
    have ne_b8_b76 : b8 ≠ b76 := Nat.ne_of_lt (Nat.lt_of_lt_of_le V8.lt hb76)
    have V1 := V1.ext E76
    have A1 := A1.ext E76
    have V8 := V8.ext E76
    have A8 := A8.ext E76
    have O0 := O0.ext E76
    have F76_leftSideBearing : Fld Z h76 b76 "com/example/casement/casement/graphics/CharMetrics" "leftSideBearing" "I" (.int (0 : Int32)) := D76 (Or.inr (hw _ (List.mem_of_getElem? (i := 11) rfl))) (ty := .int) (by decide)
    have F76_rightSideBearing : Fld Z h76 b76 "com/example/casement/casement/graphics/CharMetrics" "rightSideBearing" "I" (.int (0 : Int32)) := D76 (Or.inr (hw _ (List.mem_of_getElem? (i := 13) rfl))) (ty := .int) (by decide)
    have F76_characterWidth : Fld Z h76 b76 "com/example/casement/casement/graphics/CharMetrics" "characterWidth" "I" (.int (0 : Int32)) := D76 (Or.inr (hw _ (List.mem_of_getElem? (i := 15) rfl))) (ty := .int) (by decide)
    have F76_ascent : Fld Z h76 b76 "com/example/casement/casement/graphics/CharMetrics" "ascent" "I" (.int (0 : Int32)) := D76 (Or.inr (hw _ (List.mem_of_getElem? (i := 17) rfl))) (ty := .int) (by decide)
    have F76_descent : Fld Z h76 b76 "com/example/casement/casement/graphics/CharMetrics" "descent" "I" (.int (0 : Int32)) := D76 (Or.inr (hw _ (List.mem_of_getElem? (i := 19) rfl))) (ty := .int) (by decide)
    have F76_attributes : Fld Z h76 b76 "com/example/casement/casement/graphics/CharMetrics" "attributes" "I" (.int (0 : Int32)) := D76 (Or.inr (hw _ (List.mem_of_getElem? (i := 21) rfl))) (ty := .int) (by decide)
    show Goes p e below _ T76 (mkF m 142 #[.val (.int a1), .val (.int a2), .val (.int a3), .val (.int a4), .val (.int a5), .val (.long q6), .second, .val (.int f6), .val (.int (3 : Int32)), .val (.ref b1), .val (.ref b8), .val (.int (if a4 = a1 then (1 : Int32) else (0 : Int32))), .unset, .unset] [(.ref b76)])
    refine Goes.of (fun _ => XS.dup X76.here hx rfl (hb hby at_142) rfl rfl) ?_
    show Goes p e below _ T76 (mkF m 143 #[.val (.int a1), .val (.int a2), .val (.int a3), .val (.int a4), .val (.int a5), .val (.long q6), .second, .val (.int f6), .val (.int (3 : Int32)), .val (.ref b1), .val (.ref b8), .val (.int (if a4 = a1 then (1 : Int32) else (0 : Int32))), .unset, .unset] [(.ref b76), (.ref b76)])
    refine Goes.of (fun _ => XS.aload X76.here hx rfl (hb hby at_143) rfl rfl) ?_
    show Goes p e below _ T76 (mkF m 145 #[.val (.int a1), .val (.int a2), .val (.int a3), .val (.int a4), .val (.int a5), .val (.long q6), .second, .val (.int f6), .val (.int (3 : Int32)), .val (.ref b1), .val (.ref b8), .val (.int (if a4 = a1 then (1 : Int32) else (0 : Int32))), .unset, .unset] [(.ref b1), (.ref b76), (.ref b76)])
    refine Goes.of (fun _ => XS.iconst X76.here hx rfl (hb hby at_145)) ?_
    show Goes p e below _ T76 (mkF m 146 #[.val (.int a1), .val (.int a2), .val (.int a3), .val (.int a4), .val (.int a5), .val (.long q6), .second, .val (.int f6), .val (.int (3 : Int32)), .val (.ref b1), .val (.ref b8), .val (.int (if a4 = a1 then (1 : Int32) else (0 : Int32))), .unset, .unset] [(.int (0 : Int32)), (.ref b1), (.ref b76), (.ref b76)])
    refine goLdI (.int a1) X76 hx hZ eT76 V1 (by decide) (by decide) rfl (g := (mkF m 146 #[.val (.int a1), .val (.int a2), .val (.int a3), .val (.int a4), .val (.int a5), .val (.long q6), .second, .val (.int f6), .val (.int (3 : Int32)), .val (.ref b1), .val (.ref b8), .val (.int (if a4 = a1 then (1 : Int32) else (0 : Int32))), .unset, .unset] [(.int (0 : Int32)), (.ref b1), (.ref b76), (.ref b76)])) rfl rfl (hb hby at_146) ?_
    show Goes p e below _ T76 (mkF m 147 #[.val (.int a1), .val (.int a2), .val (.int a3), .val (.int a4), .val (.int a5), .val (.long q6), .second, .val (.int f6), .val (.int (3 : Int32)), .val (.ref b1), .val (.ref b8), .val (.int (if a4 = a1 then (1 : Int32) else (0 : Int32))), .unset, .unset] [(.int a1), (.ref b76), (.ref b76)])
    refine Goes.of (fun _ => XS.aload X76.here hx rfl (hb hby at_147) rfl rfl) ?_
    show Goes p e below _ T76 (mkF m 149 #[.val (.int a1), .val (.int a2), .val (.int a3), .val (.int a4), .val (.int a5), .val (.long q6), .second, .val (.int f6), .val (.int (3 : Int32)), .val (.ref b1), .val (.ref b8), .val (.int (if a4 = a1 then (1 : Int32) else (0 : Int32))), .unset, .unset] [(.ref b1), (.int a1), (.ref b76), (.ref b76)])
    refine Goes.of (fun _ => XS.iconst X76.here hx rfl (hb hby at_149)) ?_
    show Goes p e below _ T76 (mkF m 150 #[.val (.int a1), .val (.int a2), .val (.int a3), .val (.int a4), .val (.int a5), .val (.long q6), .second, .val (.int f6), .val (.int (3 : Int32)), .val (.ref b1), .val (.ref b8), .val (.int (if a4 = a1 then (1 : Int32) else (0 : Int32))), .unset, .unset] [(.int (1 : Int32)), (.ref b1), (.int a1), (.ref b76), (.ref b76)])
    refine goLdI (.int a2) X76 hx hZ eT76 V1 (by decide) (by decide) rfl (g := (mkF m 150 #[.val (.int a1), .val (.int a2), .val (.int a3), .val (.int a4), .val (.int a5), .val (.long q6), .second, .val (.int f6), .val (.int (3 : Int32)), .val (.ref b1), .val (.ref b8), .val (.int (if a4 = a1 then (1 : Int32) else (0 : Int32))), .unset, .unset] [(.int (1 : Int32)), (.ref b1), (.int a1), (.ref b76), (.ref b76)])) rfl rfl (hb hby at_150) ?_
    show Goes p e below _ T76 (mkF m 151 #[.val (.int a1), .val (.int a2), .val (.int a3), .val (.int a4), .val (.int a5), .val (.long q6), .second, .val (.int f6), .val (.int (3 : Int32)), .val (.ref b1), .val (.ref b8), .val (.int (if a4 = a1 then (1 : Int32) else (0 : Int32))), .unset, .unset] [(.int a2), (.int a1), (.ref b76), (.ref b76)])
    refine Goes.of (fun _ => XS.aload X76.here hx rfl (hb hby at_151) rfl rfl) ?_
    show Goes p e below _ T76 (mkF m 153 #[.val (.int a1), .val (.int a2), .val (.int a3), .val (.int a4), .val (.int a5), .val (.long q6), .second, .val (.int f6), .val (.int (3 : Int32)), .val (.ref b1), .val (.ref b8), .val (.int (if a4 = a1 then (1 : Int32) else (0 : Int32))), .unset, .unset] [(.ref b1), (.int a2), (.int a1), (.ref b76), (.ref b76)])
    refine Goes.of (fun _ => XS.iconst X76.here hx rfl (hb hby at_153)) ?_
    show Goes p e below _ T76 (mkF m 154 #[.val (.int a1), .val (.int a2), .val (.int a3), .val (.int a4), .val (.int a5), .val (.long q6), .second, .val (.int f6), .val (.int (3 : Int32)), .val (.ref b1), .val (.ref b8), .val (.int (if a4 = a1 then (1 : Int32) else (0 : Int32))), .unset, .unset] [(.int (2 : Int32)), (.ref b1), (.int a2), (.int a1), (.ref b76), (.ref b76)])
    refine goLdI (.int a3) X76 hx hZ eT76 V1 (by decide) (by decide) rfl (g := (mkF m 154 #[.val (.int a1), .val (.int a2), .val (.int a3), .val (.int a4), .val (.int a5), .val (.long q6), .second, .val (.int f6), .val (.int (3 : Int32)), .val (.ref b1), .val (.ref b8), .val (.int (if a4 = a1 then (1 : Int32) else (0 : Int32))), .unset, .unset] [(.int (2 : Int32)), (.ref b1), (.int a2), (.int a1), (.ref b76), (.ref b76)])) rfl rfl (hb hby at_154) ?_
    show Goes p e below _ T76 (mkF m 155 #[.val (.int a1), .val (.int a2), .val (.int a3), .val (.int a4), .val (.int a5), .val (.long q6), .second, .val (.int f6), .val (.int (3 : Int32)), .val (.ref b1), .val (.ref b8), .val (.int (if a4 = a1 then (1 : Int32) else (0 : Int32))), .unset, .unset] [(.int a3), (.int a2), (.int a1), (.ref b76), (.ref b76)])
    refine Goes.of (fun _ => XS.aload X76.here hx rfl (hb hby at_155) rfl rfl) ?_
    show Goes p e below _ T76 (mkF m 157 #[.val (.int a1), .val (.int a2), .val (.int a3), .val (.int a4), .val (.int a5), .val (.long q6), .second, .val (.int f6), .val (.int (3 : Int32)), .val (.ref b1), .val (.ref b8), .val (.int (if a4 = a1 then (1 : Int32) else (0 : Int32))), .unset, .unset] [(.ref b1), (.int a3), (.int a2), (.int a1), (.ref b76), (.ref b76)])
    refine Goes.of (fun _ => XS.iconst X76.here hx rfl (hb hby at_157)) ?_
    show Goes p e below _ T76 (mkF m 158 #[.val (.int a1), .val (.int a2), .val (.int a3), .val (.int a4), .val (.int a5), .val (.long q6), .second, .val (.int f6), .val (.int (3 : Int32)), .val (.ref b1), .val (.ref b8), .val (.int (if a4 = a1 then (1 : Int32) else (0 : Int32))), .unset, .unset] [(.int (3 : Int32)), (.ref b1), (.int a3), (.int a2), (.int a1), (.ref b76), (.ref b76)])
    refine goLdI (.int a4) X76 hx hZ eT76 V1 (by decide) (by decide) rfl (g := (mkF m 158 #[.val (.int a1), .val (.int a2), .val (.int a3), .val (.int a4), .val (.int a5), .val (.long q6), .second, .val (.int f6), .val (.int (3 : Int32)), .val (.ref b1), .val (.ref b8), .val (.int (if a4 = a1 then (1 : Int32) else (0 : Int32))), .unset, .unset] [(.int (3 : Int32)), (.ref b1), (.int a3), (.int a2), (.int a1), (.ref b76), (.ref b76)])) rfl rfl (hb hby at_158) ?_
    show Goes p e below _ T76 (mkF m 159 #[.val (.int a1), .val (.int a2), .val (.int a3), .val (.int a4), .val (.int a5), .val (.long q6), .second, .val (.int f6), .val (.int (3 : Int32)), .val (.ref b1), .val (.ref b8), .val (.int (if a4 = a1 then (1 : Int32) else (0 : Int32))), .unset, .unset] [(.int a4), (.int a3), (.int a2), (.int a1), (.ref b76), (.ref b76)])
    refine Goes.of (fun _ => XS.aload X76.here hx rfl (hb hby at_159) rfl rfl) ?_
    show Goes p e below _ T76 (mkF m 161 #[.val (.int a1), .val (.int a2), .val (.int a3), .val (.int a4), .val (.int a5), .val (.long q6), .second, .val (.int f6), .val (.int (3 : Int32)), .val (.ref b1), .val (.ref b8), .val (.int (if a4 = a1 then (1 : Int32) else (0 : Int32))), .unset, .unset] [(.ref b1), (.int a4), (.int a3), (.int a2), (.int a1), (.ref b76), (.ref b76)])
    refine Goes.of (fun _ => XS.iconst X76.here hx rfl (hb hby at_161)) ?_
    show Goes p e below _ T76 (mkF m 162 #[.val (.int a1), .val (.int a2), .val (.int a3), .val (.int a4), .val (.int a5), .val (.long q6), .second, .val (.int f6), .val (.int (3 : Int32)), .val (.ref b1), .val (.ref b8), .val (.int (if a4 = a1 then (1 : Int32) else (0 : Int32))), .unset, .unset] [(.int (4 : Int32)), (.ref b1), (.int a4), (.int a3), (.int a2), (.int a1), (.ref b76), (.ref b76)])
    refine goLdI (.int a5) X76 hx hZ eT76 V1 (by decide) (by decide) rfl (g := (mkF m 162 #[.val (.int a1), .val (.int a2), .val (.int a3), .val (.int a4), .val (.int a5), .val (.long q6), .second, .val (.int f6), .val (.int (3 : Int32)), .val (.ref b1), .val (.ref b8), .val (.int (if a4 = a1 then (1 : Int32) else (0 : Int32))), .unset, .unset] [(.int (4 : Int32)), (.ref b1), (.int a4), (.int a3), (.int a2), (.int a1), (.ref b76), (.ref b76)])) rfl rfl (hb hby at_162) ?_
    show Goes p e below _ T76 (mkF m 163 #[.val (.int a1), .val (.int a2), .val (.int a3), .val (.int a4), .val (.int a5), .val (.long q6), .second, .val (.int f6), .val (.int (3 : Int32)), .val (.ref b1), .val (.ref b8), .val (.int (if a4 = a1 then (1 : Int32) else (0 : Int32))), .unset, .unset] [(.int a5), (.int a4), (.int a3), (.int a2), (.int a1), (.ref b76), (.ref b76)])
    refine Goes.of (fun _ => XS.aload X76.here hx rfl (hb hby at_163) rfl rfl) ?_
    show Goes p e below _ T76 (mkF m 165 #[.val (.int a1), .val (.int a2), .val (.int a3), .val (.int a4), .val (.int a5), .val (.long q6), .second, .val (.int f6), .val (.int (3 : Int32)), .val (.ref b1), .val (.ref b8), .val (.int (if a4 = a1 then (1 : Int32) else (0 : Int32))), .unset, .unset] [(.ref b1), (.int a5), (.int a4), (.int a3), (.int a2), (.int a1), (.ref b76), (.ref b76)])
    refine Goes.of (fun _ => XS.iconst X76.here hx rfl (hb hby at_165)) ?_
    show Goes p e below _ T76 (mkF m 166 #[.val (.int a1), .val (.int a2), .val (.int a3), .val (.int a4), .val (.int a5), .val (.long q6), .second, .val (.int f6), .val (.int (3 : Int32)), .val (.ref b1), .val (.ref b8), .val (.int (if a4 = a1 then (1 : Int32) else (0 : Int32))), .unset, .unset] [(.int (5 : Int32)), (.ref b1), (.int a5), (.int a4), (.int a3), (.int a2), (.int a1), (.ref b76), (.ref b76)])
    refine goLdI (.int f6) X76 hx hZ eT76 V1 (by decide) (by decide) rfl (g := (mkF m 166 #[.val (.int a1), .val (.int a2), .val (.int a3), .val (.int a4), .val (.int a5), .val (.long q6), .second, .val (.int f6), .val (.int (3 : Int32)), .val (.ref b1), .val (.ref b8), .val (.int (if a4 = a1 then (1 : Int32) else (0 : Int32))), .unset, .unset] [(.int (5 : Int32)), (.ref b1), (.int a5), (.int a4), (.int a3), (.int a2), (.int a1), (.ref b76), (.ref b76)])) rfl rfl (hb hby at_166) ?_
    show Goes p e below _ T76 (mkF m 167 #[.val (.int a1), .val (.int a2), .val (.int a3), .val (.int a4), .val (.int a5), .val (.long q6), .second, .val (.int f6), .val (.int (3 : Int32)), .val (.ref b1), .val (.ref b8), .val (.int (if a4 = a1 then (1 : Int32) else (0 : Int32))), .unset, .unset] [(.int f6), (.int a5), (.int a4), (.int a3), (.int a2), (.int a1), (.ref b76), (.ref b76)])
    refine goSpecial 1 X76 hx hZ rfl hown (hw _ (List.mem_of_getElem? (i := 4) rfl)) (hw _ (List.mem_of_getElem? (i := 5) rfl)) (hw _ (List.mem_of_getElem? (i := 3) rfl)) (hw _ (List.mem_of_getElem? (i := 6) rfl)) (by decide) (rm_init l Z a0 hw b76 a1 a2 a3 a4 a5 f6 h76 n0 O0 g_b76 A76 F76_leftSideBearing F76_rightSideBearing F76_characterWidth F76_ascent F76_descent F76_attributes) eT76 (g := (mkF m 167 #[.val (.int a1), .val (.int a2), .val (.int a3), .val (.int a4), .val (.int a5), .val (.long q6), .second, .val (.int f6), .val (.int (3 : Int32)), .val (.ref b1), .val (.ref b8), .val (.int (if a4 = a1 then (1 : Int32) else (0 : Int32))), .unset, .unset] [(.int f6), (.int a5), (.int a4), (.int a3), (.int a2), (.int a1), (.ref b76), (.ref b76)])) rfl (by rw [hml]; rfl) b76 [(.int a1), (.int a2), (.int a3), (.int a4), (.int a5), (.int f6)] [(.ref b76)] (lenOf pd__IIIIII_V rfl) rfl rfl (by show 2 * 0 + _ ≤ _; exact Nat.le_of_eq rfl) (hb hby at_167) (by decide) (by decide) (by decide) (by decide) ?_
    intro v83 T83 L83 X83 q83
    obtain ⟨rfl, Nq83, Kq83, H0_83, H1_83, H2_83, H3_83, H4_83, H5_83⟩ := q83
    have N83 := Fr.app N74 Nq83
    have V1 := V1.keep Kq83 (ninS ne_b1_b76 nin0)
    have A1 := A1.keep Kq83
    have V8 := V8.keep Kq83 (ninS ne_b8_b76 nin0)
    have A8 := A8.keep Kq83
    have A76 := A76.keep Kq83
    have O0 := O0.keep Kq83 (allS g_b76 all0)
    show Goes p e below _ T83 (mkF m 170 #[.val (.int a1), .val (.int a2), .val (.int a3), .val (.int a4), .val (.int a5), .val (.long q6), .second, .val (.int f6), .val (.int (3 : Int32)), .val (.ref b1), .val (.ref b8), .val (.int (if a4 = a1 then (1 : Int32) else (0 : Int32))), .unset, .unset] [(.ref b76)])
    refine Goes.of (fun _ => XS.astore X83.here hx rfl (hb hby at_170) rfl rfl (l' := #[.val (.int a1), .val (.int a2), .val (.int a3), .val (.int a4), .val (.int a5), .val (.long q6), .second, .val (.int f6), .val (.int (3 : Int32)), .val (.ref b1), .val (.ref b8), .val (.int (if a4 = a1 then (1 : Int32) else (0 : Int32))), .val (.ref b76), .unset]) rfl) ?_
    show Goes p e below _ T83 (mkF m 172 #[.val (.int a1), .val (.int a2), .val (.int a3), .val (.int a4), .val (.int a5), .val (.long q6), .second, .val (.int f6), .val (.int (3 : Int32)), .val (.ref b1), .val (.ref b8), .val (.int (if a4 = a1 then (1 : Int32) else (0 : Int32))), .val (.ref b76), .unset] [])
    refine goNew X83 hx hZ hown (hw _ (List.mem_of_getElem? (i := 1) rfl)) (hw _ (List.mem_of_getElem? (i := 2) rfl)) (hw _ (List.mem_of_getElem? (i := 3) rfl)) (rfl : T83.heap = _) (g := (mkF m 172 #[.val (.int a1), .val (.int a2), .val (.int a3), .val (.int a4), .val (.int a5), .val (.long q6), .second, .val (.int f6), .val (.int (3 : Int32)), .val (.ref b1), .val (.ref b8), .val (.int (if a4 = a1 then (1 : Int32) else (0 : Int32))), .val (.ref b76), .unset] [])) rfl (hb hby at_172) (by decide) (by decide) ?_
    intro T84 h84 b84 X84 eT84 E84 hb84 A84 D84
    have g_b84 : n0 ≤ b84 := Nat.le_trans (oldLe O0) hb84
    have ne_b1_b84 : b1 ≠ b84 := Nat.ne_of_lt (Nat.lt_of_lt_of_le V1.lt hb84)
    have ne_b8_b84 : b8 ≠ b84 := Nat.ne_of_lt (Nat.lt_of_lt_of_le V8.lt hb84)
    have ne_b76_b84 : b76 ≠ b84 := Nat.ne_of_lt (Nat.lt_of_lt_of_le A76.lt hb84)
    have V1 := V1.ext E84
    have A1 := A1.ext E84
    have V8 := V8.ext E84
    have A8 := A8.ext E84
    have A76 := A76.ext E84
    have H0_83 := H0_83.ext E84
    have H1_83 := H1_83.ext E84
    have H2_83 := H2_83.ext E84
    have H3_83 := H3_83.ext E84
    have H4_83 := H4_83.ext E84
    have H5_83 := H5_83.ext E84
    have O0 := O0.ext E84
    have F84_leftSideBearing : Fld Z h84 b84 "com/example/casement/casement/graphics/CharMetrics" "leftSideBearing" "I" (.int (0 : Int32)) := D84 (Or.inr (hw _ (List.mem_of_getElem? (i := 11) rfl))) (ty := .int) (by decide)
    have F84_rightSideBearing : Fld Z h84 b84 "com/example/casement/casement/graphics/CharMetrics" "rightSideBearing" "I" (.int (0 : Int32)) := D84 (Or.inr (hw _ (List.mem_of_getElem? (i := 13) rfl))) (ty := .int) (by decide)
    have F84_characterWidth : Fld Z h84 b84 "com/example/casement/casement/graphics/CharMetrics" "characterWidth" "I" (.int (0 : Int32)) := D84 (Or.inr (hw _ (List.mem_of_getElem? (i := 15) rfl))) (ty := .int) (by decide)
    have F84_ascent : Fld Z h84 b84 "com/example/casement/casement/graphics/CharMetrics" "ascent" "I" (.int (0 : Int32)) := D84 (Or.inr (hw _ (List.mem_of_getElem? (i := 17) rfl))) (ty := .int) (by decide)
    have F84_descent : Fld Z h84 b84 "com/example/casement/casement/graphics/CharMetrics" "descent" "I" (.int (0 : Int32)) := D84 (Or.inr (hw _ (List.mem_of_getElem? (i := 19) rfl))) (ty := .int) (by decide)
    have F84_attributes : Fld Z h84 b84 "com/example/casement/casement/graphics/CharMetrics" "attributes" "I" (.int (0 : Int32)) := D84 (Or.inr (hw _ (List.mem_of_getElem? (i := 21) rfl))) (ty := .int) (by decide)
    show Goes p e below _ T84 (mkF m 175 #[.val (.int a1), .val (.int a2), .val (.int a3), .val (.int a4), .val (.int a5), .val (.long q6), .second, .val (.int f6), .val (.int (3 : Int32)), .val (.ref b1), .val (.ref b8), .val (.int (if a4 = a1 then (1 : Int32) else (0 : Int32))), .val (.ref b76), .unset] [(.ref b84)])
    refine Goes.of (fun _ => XS.dup X84.here hx rfl (hb hby at_175) rfl rfl) ?_
    show Goes p e below _ T84 (mkF m 176 #[.val (.int a1), .val (.int a2), .val (.int a3), .val (.int a4), .val (.int a5), .val (.long q6), .second, .val (.int f6), .val (.int (3 : Int32)), .val (.ref b1), .val (.ref b8), .val (.int (if a4 = a1 then (1 : Int32) else (0 : Int32))), .val (.ref b76), .unset] [(.ref b84), (.ref b84)])
    refine Goes.of (fun _ => XS.aload X84.here hx rfl (hb hby at_176) rfl rfl) ?_
    show Goes p e below _ T84 (mkF m 178 #[.val (.int a1), .val (.int a2), .val (.int a3), .val (.int a4), .val (.int a5), .val (.long q6), .second, .val (.int f6), .val (.int (3 : Int32)), .val (.ref b1), .val (.ref b8), .val (.int (if a4 = a1 then (1 : Int32) else (0 : Int32))), .val (.ref b76), .unset] [(.ref b8), (.ref b84), (.ref b84)])
    refine Goes.of (fun _ => XS.iconst X84.here hx rfl (hb hby at_178)) ?_
    show Goes p e below _ T84 (mkF m 179 #[.val (.int a1), .val (.int a2), .val (.int a3), .val (.int a4), .val (.int a5), .val (.long q6), .second, .val (.int f6), .val (.int (3 : Int32)), .val (.ref b1), .val (.ref b8), .val (.int (if a4 = a1 then (1 : Int32) else (0 : Int32))), .val (.ref b76), .unset] [(.int (0 : Int32)), (.ref b8), (.ref b84), (.ref b84)])
    refine goLdI (.int a1) X84 hx hZ eT84 V8 (by decide) (by decide) rfl (g := (mkF m 179 #[.val (.int a1), .val (.int a2), .val (.int a3), .val (.int a4), .val (.int a5), .val (.long q6), .second, .val (.int f6), .val (.int (3 : Int32)), .val (.ref b1), .val (.ref b8), .val (.int (if a4 = a1 then (1 : Int32) else (0 : Int32))), .val (.ref b76), .unset] [(.int (0 : Int32)), (.ref b8), (.ref b84), (.ref b84)])) rfl rfl (hb hby at_179) ?_
    show Goes p e below _ T84 (mkF m 180 #[.val (.int a1), .val (.int a2), .val (.int a3), .val (.int a4), .val (.int a5), .val (.long q6), .second, .val (.int f6), .val (.int (3 : Int32)), .val (.ref b1), .val (.ref b8), .val (.int (if a4 = a1 then (1 : Int32) else (0 : Int32))), .val (.ref b76), .unset] [(.int a1), (.ref b84), (.ref b84)])
    refine Goes.of (fun _ => XS.aload X84.here hx rfl (hb hby at_180) rfl rfl) ?_
    show Goes p e below _ T84 (mkF m 182 #[.val (.int a1), .val (.int a2), .val (.int a3), .val (.int a4), .val (.int a5), .val (.long q6), .second, .val (.int f6), .val (.int (3 : Int32)), .val (.ref b1), .val (.ref b8), .val (.int (if a4 = a1 then (1 : Int32) else (0 : Int32))), .val (.ref b76), .unset] [(.ref b8), (.int a1), (.ref b84), (.ref b84)])
    refine Goes.of (fun _ => XS.iconst X84.here hx rfl (hb hby at_182)) ?_
    show Goes p e below _ T84 (mkF m 183 #[.val (.int a1), .val (.int a2), .val (.int a3), .val (.int a4), .val (.int a5), .val (.long q6), .second, .val (.int f6), .val (.int (3 : Int32)), .val (.ref b1), .val (.ref b8), .val (.int (if a4 = a1 then (1 : Int32) else (0 : Int32))), .val (.ref b76), .unset] [(.int (1 : Int32)), (.ref b8), (.int a1), (.ref b84), (.ref b84)])
    refine goLdI (.int a2) X84 hx hZ eT84 V8 (by decide) (by decide) rfl (g := (mkF m 183 #[.val (.int a1), .val (.int a2), .val (.int a3), .val (.int a4), .val (.int a5), .val (.long q6), .second, .val (.int f6), .val (.int (3 : Int32)), .val (.ref b1), .val (.ref b8), .val (.int (if a4 = a1 then (1 : Int32) else (0 : Int32))), .val (.ref b76), .unset] [(.int (1 : Int32)), (.ref b8), (.int a1), (.ref b84), (.ref b84)])) rfl rfl (hb hby at_183) ?_
    show Goes p e below _ T84 (mkF m 184 #[.val (.int a1), .val (.int a2), .val (.int a3), .val (.int a4), .val (.int a5), .val (.long q6), .second, .val (.int f6), .val (.int (3 : Int32)), .val (.ref b1), .val (.ref b8), .val (.int (if a4 = a1 then (1 : Int32) else (0 : Int32))), .val (.ref b76), .unset] [(.int a2), (.int a1), (.ref b84), (.ref b84)])
    refine Goes.of (fun _ => XS.aload X84.here hx rfl (hb hby at_184) rfl rfl) ?_
    show Goes p e below _ T84 (mkF m 186 #[.val (.int a1), .val (.int a2), .val (.int a3), .val (.int a4), .val (.int a5), .val (.long q6), .second, .val (.int f6), .val (.int (3 : Int32)), .val (.ref b1), .val (.ref b8), .val (.int (if a4 = a1 then (1 : Int32) else (0 : Int32))), .val (.ref b76), .unset] [(.ref b8), (.int a2), (.int a1), (.ref b84), (.ref b84)])
    refine Goes.of (fun _ => XS.iconst X84.here hx rfl (hb hby at_186)) ?_
    show Goes p e below _ T84 (mkF m 187 #[.val (.int a1), .val (.int a2), .val (.int a3), .val (.int a4), .val (.int a5), .val (.long q6), .second, .val (.int f6), .val (.int (3 : Int32)), .val (.ref b1), .val (.ref b8), .val (.int (if a4 = a1 then (1 : Int32) else (0 : Int32))), .val (.ref b76), .unset] [(.int (2 : Int32)), (.ref b8), (.int a2), (.int a1), (.ref b84), (.ref b84)])
    refine goLdI (.int a3) X84 hx hZ eT84 V8 (by decide) (by decide) rfl (g := (mkF m 187 #[.val (.int a1), .val (.int a2), .val (.int a3), .val (.int a4), .val (.int a5), .val (.long q6), .second, .val (.int f6), .val (.int (3 : Int32)), .val (.ref b1), .val (.ref b8), .val (.int (if a4 = a1 then (1 : Int32) else (0 : Int32))), .val (.ref b76), .unset] [(.int (2 : Int32)), (.ref b8), (.int a2), (.int a1), (.ref b84), (.ref b84)])) rfl rfl (hb hby at_187) ?_
    show Goes p e below _ T84 (mkF m 188 #[.val (.int a1), .val (.int a2), .val (.int a3), .val (.int a4), .val (.int a5), .val (.long q6), .second, .val (.int f6), .val (.int (3 : Int32)), .val (.ref b1), .val (.ref b8), .val (.int (if a4 = a1 then (1 : Int32) else (0 : Int32))), .val (.ref b76), .unset] [(.int a3), (.int a2), (.int a1), (.ref b84), (.ref b84)])
    refine Goes.of (fun _ => XS.aload X84.here hx rfl (hb hby at_188) rfl rfl) ?_
    show Goes p e below _ T84 (mkF m 190 #[.val (.int a1), .val (.int a2), .val (.int a3), .val (.int a4), .val (.int a5), .val (.long q6), .second, .val (.int f6), .val (.int (3 : Int32)), .val (.ref b1), .val (.ref b8), .val (.int (if a4 = a1 then (1 : Int32) else (0 : Int32))), .val (.ref b76), .unset] [(.ref b8), (.int a3), (.int a2), (.int a1), (.ref b84), (.ref b84)])
    refine Goes.of (fun _ => XS.iconst X84.here hx rfl (hb hby at_190)) ?_
    show Goes p e below _ T84 (mkF m 191 #[.val (.int a1), .val (.int a2), .val (.int a3), .val (.int a4), .val (.int a5), .val (.long q6), .second, .val (.int f6), .val (.int (3 : Int32)), .val (.ref b1), .val (.ref b8), .val (.int (if a4 = a1 then (1 : Int32) else (0 : Int32))), .val (.ref b76), .unset] [(.int (3 : Int32)), (.ref b8), (.int a3), (.int a2), (.int a1), (.ref b84), (.ref b84)])
    refine goLdI (.int a1) X84 hx hZ eT84 V8 (by decide) (by decide) rfl (g := (mkF m 191 #[.val (.int a1), .val (.int a2), .val (.int a3), .val (.int a4), .val (.int a5), .val (.long q6), .second, .val (.int f6), .val (.int (3 : Int32)), .val (.ref b1), .val (.ref b8), .val (.int (if a4 = a1 then (1 : Int32) else (0 : Int32))), .val (.ref b76), .unset] [(.int (3 : Int32)), (.ref b8), (.int a3), (.int a2), (.int a1), (.ref b84), (.ref b84)])) rfl rfl (hb hby at_191) ?_
    show Goes p e below _ T84 (mkF m 192 #[.val (.int a1), .val (.int a2), .val (.int a3), .val (.int a4), .val (.int a5), .val (.long q6), .second, .val (.int f6), .val (.int (3 : Int32)), .val (.ref b1), .val (.ref b8), .val (.int (if a4 = a1 then (1 : Int32) else (0 : Int32))), .val (.ref b76), .unset] [(.int a1), (.int a3), (.int a2), (.int a1), (.ref b84), (.ref b84)])
    refine Goes.of (fun _ => XS.aload X84.here hx rfl (hb hby at_192) rfl rfl) ?_
    show Goes p e below _ T84 (mkF m 194 #[.val (.int a1), .val (.int a2), .val (.int a3), .val (.int a4), .val (.int a5), .val (.long q6), .second, .val (.int f6), .val (.int (3 : Int32)), .val (.ref b1), .val (.ref b8), .val (.int (if a4 = a1 then (1 : Int32) else (0 : Int32))), .val (.ref b76), .unset] [(.ref b8), (.int a1), (.int a3), (.int a2), (.int a1), (.ref b84), (.ref b84)])
    refine Goes.of (fun _ => XS.iconst X84.here hx rfl (hb hby at_194)) ?_
    show Goes p e below _ T84 (mkF m 195 #[.val (.int a1), .val (.int a2), .val (.int a3), .val (.int a4), .val (.int a5), .val (.long q6), .second, .val (.int f6), .val (.int (3 : Int32)), .val (.ref b1), .val (.ref b8), .val (.int (if a4 = a1 then (1 : Int32) else (0 : Int32))), .val (.ref b76), .unset] [(.int (4 : Int32)), (.ref b8), (.int a1), (.int a3), (.int a2), (.int a1), (.ref b84), (.ref b84)])
    refine goLdI (.int a5) X84 hx hZ eT84 V8 (by decide) (by decide) rfl (g := (mkF m 195 #[.val (.int a1), .val (.int a2), .val (.int a3), .val (.int a4), .val (.int a5), .val (.long q6), .second, .val (.int f6), .val (.int (3 : Int32)), .val (.ref b1), .val (.ref b8), .val (.int (if a4 = a1 then (1 : Int32) else (0 : Int32))), .val (.ref b76), .unset] [(.int (4 : Int32)), (.ref b8), (.int a1), (.int a3), (.int a2), (.int a1), (.ref b84), (.ref b84)])) rfl rfl (hb hby at_195) ?_
    show Goes p e below _ T84 (mkF m 196 #[.val (.int a1), .val (.int a2), .val (.int a3), .val (.int a4), .val (.int a5), .val (.long q6), .second, .val (.int f6), .val (.int (3 : Int32)), .val (.ref b1), .val (.ref b8), .val (.int (if a4 = a1 then (1 : Int32) else (0 : Int32))), .val (.ref b76), .unset] [(.int a5), (.int a1), (.int a3), (.int a2), (.int a1), (.ref b84), (.ref b84)])
    refine Goes.of (fun _ => XS.aload X84.here hx rfl (hb hby at_196) rfl rfl) ?_
    show Goes p e below _ T84 (mkF m 198 #[.val (.int a1), .val (.int a2), .val (.int a3), .val (.int a4), .val (.int a5), .val (.long q6), .second, .val (.int f6), .val (.int (3 : Int32)), .val (.ref b1), .val (.ref b8), .val (.int (if a4 = a1 then (1 : Int32) else (0 : Int32))), .val (.ref b76), .unset] [(.ref b8), (.int a5), (.int a1), (.int a3), (.int a2), (.int a1), (.ref b84), (.ref b84)])
    refine Goes.of (fun _ => XS.iconst X84.here hx rfl (hb hby at_198)) ?_
    show Goes p e below _ T84 (mkF m 199 #[.val (.int a1), .val (.int a2), .val (.int a3), .val (.int a4), .val (.int a5), .val (.long q6), .second, .val (.int f6), .val (.int (3 : Int32)), .val (.ref b1), .val (.ref b8), .val (.int (if a4 = a1 then (1 : Int32) else (0 : Int32))), .val (.ref b76), .unset] [(.int (5 : Int32)), (.ref b8), (.int a5), (.int a1), (.int a3), (.int a2), (.int a1), (.ref b84), (.ref b84)])
    refine goLdI (.int f6) X84 hx hZ eT84 V8 (by decide) (by decide) rfl (g := (mkF m 199 #[.val (.int a1), .val (.int a2), .val (.int a3), .val (.int a4), .val (.int a5), .val (.long q6), .second, .val (.int f6), .val (.int (3 : Int32)), .val (.ref b1), .val (.ref b8), .val (.int (if a4 = a1 then (1 : Int32) else (0 : Int32))), .val (.ref b76), .unset] [(.int (5 : Int32)), (.ref b8), (.int a5), (.int a1), (.int a3), (.int a2), (.int a1), (.ref b84), (.ref b84)])) rfl rfl (hb hby at_199) ?_
    show Goes p e below _ T84 (mkF m 200 #[.val (.int a1), .val (.int a2), .val (.int a3), .val (.int a4), .val (.int a5), .val (.long q6), .second, .val (.int f6), .val (.int (3 : Int32)), .val (.ref b1), .val (.ref b8), .val (.int (if a4 = a1 then (1 : Int32) else (0 : Int32))), .val (.ref b76), .unset] [(.int f6), (.int a5), (.int a1), (.int a3), (.int a2), (.int a1), (.ref b84), (.ref b84)])
    refine goSpecial 1 X84 hx hZ rfl hown (hw _ (List.mem_of_getElem? (i := 4) rfl)) (hw _ (List.mem_of_getElem? (i := 5) rfl)) (hw _ (List.mem_of_getElem? (i := 3) rfl)) (hw _ (List.mem_of_getElem? (i := 6) rfl)) (by decide) (rm_init l Z a0 hw b84 a1 a2 a3 a1 a5 f6 h84 n0 O0 g_b84 A84 F84_leftSideBearing F84_rightSideBearing F84_characterWidth F84_ascent F84_descent F84_attributes) eT84 (g := (mkF m 200 #[.val (.int a1), .val (.int a2), .val (.int a3), .val (.int a4), .val (.int a5), .val (.long q6), .second, .val (.int f6), .val (.int (3 : Int32)), .val (.ref b1), .val (.ref b8), .val (.int (if a4 = a1 then (1 : Int32) else (0 : Int32))), .val (.ref b76), .unset] [(.int f6), (.int a5), (.int a1), (.int a3), (.int a2), (.int a1), (.ref b84), (.ref b84)])) rfl (by rw [hml]; rfl) b84 [(.int a1), (.int a2), (.int a3), (.int a1), (.int a5), (.int f6)] [(.ref b84)] (lenOf pd__IIIIII_V rfl) rfl rfl (by show 2 * 0 + _ ≤ _; exact Nat.le_of_eq rfl) (hb hby at_200) (by decide) (by decide) (by decide) (by decide) ?_
    intro v91 T91 L91 X91 q91
    obtain ⟨rfl, Nq91, Kq91, H0_91, H1_91, H2_91, H3_91, H4_91, H5_91⟩ := q91
    have N91 := Fr.app N83 Nq91
    have V1 := V1.keep Kq91 (ninS ne_b1_b84 nin0)
    have A1 := A1.keep Kq91
    have V8 := V8.keep Kq91 (ninS ne_b8_b84 nin0)
    have A8 := A8.keep Kq91
    have A76 := A76.keep Kq91
    have H0_83 := H0_83.keep Kq91 (ninS ne_b76_b84 nin0)
    have H1_83 := H1_83.keep Kq91 (ninS ne_b76_b84 nin0)
    have H2_83 := H2_83.keep Kq91 (ninS ne_b76_b84 nin0)
    have H3_83 := H3_83.keep Kq91 (ninS ne_b76_b84 nin0)
    have H4_83 := H4_83.keep Kq91 (ninS ne_b76_b84 nin0)
    have H5_83 := H5_83.keep Kq91 (ninS ne_b76_b84 nin0)
    have A84 := A84.keep Kq91
    have O0 := O0.keep Kq91 (allS g_b84 all0)
    show Goes p e below _ T91 (mkF m 203 #[.val (.int a1), .val (.int a2), .val (.int a3), .val (.int a4), .val (.int a5), .val (.long q6), .second, .val (.int f6), .val (.int (3 : Int32)), .val (.ref b1), .val (.ref b8), .val (.int (if a4 = a1 then (1 : Int32) else (0 : Int32))), .val (.ref b76), .unset] [(.ref b84)])
    refine Goes.of (fun _ => XS.astore X91.here hx rfl (hb hby at_203) rfl rfl (l' := #[.val (.int a1), .val (.int a2), .val (.int a3), .val (.int a4), .val (.int a5), .val (.long q6), .second, .val (.int f6), .val (.int (3 : Int32)), .val (.ref b1), .val (.ref b8), .val (.int (if a4 = a1 then (1 : Int32) else (0 : Int32))), .val (.ref b76), .val (.ref b84)]) rfl) ?_
    show Goes p e below _ T91 (mkF m 205 #[.val (.int a1), .val (.int a2), .val (.int a3), .val (.int a4), .val (.int a5), .val (.long q6), .second, .val (.int f6), .val (.int (3 : Int32)), .val (.ref b1), .val (.ref b8), .val (.int (if a4 = a1 then (1 : Int32) else (0 : Int32))), .val (.ref b76), .val (.ref b84)] [])
    refine Goes.of (fun _ => XS.iload X91.here hx rfl (hb hby at_205) rfl) ?_
    show Goes p e below _ T91 (mkF m 207 #[.val (.int a1), .val (.int a2), .val (.int a3), .val (.int a4), .val (.int a5), .val (.long q6), .second, .val (.int f6), .val (.int (3 : Int32)), .val (.ref b1), .val (.ref b8), .val (.int (if a4 = a1 then (1 : Int32) else (0 : Int32))), .val (.ref b76), .val (.ref b84)] [(.int (3 : Int32))])
    refine Goes.of (fun _ => XS.bipush X91.here hx rfl (hb hby at_207)) ?_
    show Goes p e below _ T91 (mkF m 209 #[.val (.int a1), .val (.int a2), .val (.int a3), .val (.int a4), .val (.int a5), .val (.long q6), .second, .val (.int f6), .val (.int (3 : Int32)), .val (.ref b1), .val (.ref b8), .val (.int (if a4 = a1 then (1 : Int32) else (0 : Int32))), .val (.ref b76), .val (.ref b84)] [(.int (7 : Int32)), (.int (3 : Int32))])
    refine Goes.of (fun _ => XS.icmpYes X91.here hx rfl (pc0 := 209) (pc' := 249) rfl (hb hby at_209) rfl (feq (by decide)).2 (by decide) (by decide)) ?_
    show Goes p e below _ T91 (mkF m 249 #[.val (.int a1), .val (.int a2), .val (.int a3), .val (.int a4), .val (.int a5), .val (.long q6), .second, .val (.int f6), .val (.int (3 : Int32)), .val (.ref b1), .val (.ref b8), .val (.int (if a4 = a1 then (1 : Int32) else (0 : Int32))), .val (.ref b76), .val (.ref b84)] [])
    refine Goes.of (fun _ => XS.aload X91.here hx rfl (hb hby at_249) rfl rfl) ?_
    show Goes p e below _ T91 (mkF m 251 #[.val (.int a1), .val (.int a2), .val (.int a3), .val (.int a4), .val (.int a5), .val (.long q6), .second, .val (.int f6), .val (.int (3 : Int32)), .val (.ref b1), .val (.ref b8), .val (.int (if a4 = a1 then (1 : Int32) else (0 : Int32))), .val (.ref b76), .val (.ref b84)] [(.ref b76)])
    refine Goes.of (fun _ => XS.aload X91.here hx rfl (hb hby at_251) rfl rfl) ?_
    show Goes p e below _ T91 (mkF m 253 #[.val (.int a1), .val (.int a2), .val (.int a3), .val (.int a4), .val (.int a5), .val (.long q6), .second, .val (.int f6), .val (.int (3 : Int32)), .val (.ref b1), .val (.ref b8), .val (.int (if a4 = a1 then (1 : Int32) else (0 : Int32))), .val (.ref b76), .val (.ref b84)] [(.ref b84), (.ref b76)])
    refine goVirtual 0 X91 hx hZ hown (hw _ (List.mem_of_getElem? (i := 22) rfl)) (hw _ (List.mem_of_getElem? (i := 23) rfl)) (notFace_of_selects (args := #[]) (mvT hZ (hw _ (List.mem_of_getElem? (i := 25) rfl)))) (hw _ (List.mem_of_getElem? (i := 25) rfl)) (hw _ (List.mem_of_getElem? (i := 24) rfl)) (hw _ (List.mem_of_getElem? (i := 3) rfl)) (hw _ (List.mem_of_getElem? (i := 26) rfl)) (by decide) (rm_eq l Z a0 hw b76 b84 a1 a2 a3 a4 a5 f6 a1 a2 a3 a1 a5 f6 T91.heap n0 O0 A84 H0_83 H1_83 H2_83 H3_83 H4_83 H5_83 H0_91 H1_91 H2_91 H3_91 H4_91 H5_91) (rfl : T91.heap = _) A76 (g := (mkF m 253 #[.val (.int a1), .val (.int a2), .val (.int a3), .val (.int a4), .val (.int a5), .val (.long q6), .second, .val (.int f6), .val (.int (3 : Int32)), .val (.ref b1), .val (.ref b8), .val (.int (if a4 = a1 then (1 : Int32) else (0 : Int32))), .val (.ref b76), .val (.ref b84)] [(.ref b84), (.ref b76)])) rfl (by rw [hml]; rfl) [(.ref b84)] [] (lenOf pd__Ljava_lang_Object__Z rfl) rfl rfl (by show 2 * 0 + _ ≤ _; exact Nat.le_of_eq rfl) (hb hby at_253) (by decide) (by decide) (by decide) (by decide) ?_
    intro v92 T92 L92 X92 q92
    obtain ⟨rfl, Nq92, eT92⟩ := q92
    have N92 := Fr.app N91 Nq92
    show Goes p e below _ T92 (mkF m 256 #[.val (.int a1), .val (.int a2), .val (.int a3), .val (.int a4), .val (.int a5), .val (.long q6), .second, .val (.int f6), .val (.int (3 : Int32)), .val (.ref b1), .val (.ref b8), .val (.int (if a4 = a1 then (1 : Int32) else (0 : Int32))), .val (.ref b76), .val (.ref b84)] [(.int (eq6 a1 a2 a3 a4 a5 f6 a1 a2 a3 a1 a5 f6))])
    refine Goes.of (fun _ => XS.iload X92.here hx rfl (hb hby at_256) rfl) ?_
    show Goes p e below _ T92 (mkF m 258 #[.val (.int a1), .val (.int a2), .val (.int a3), .val (.int a4), .val (.int a5), .val (.long q6), .second, .val (.int f6), .val (.int (3 : Int32)), .val (.ref b1), .val (.ref b8), .val (.int (if a4 = a1 then (1 : Int32) else (0 : Int32))), .val (.ref b76), .val (.ref b84)] [(.int (if a4 = a1 then (1 : Int32) else (0 : Int32))), (.int (eq6 a1 a2 a3 a4 a5 f6 a1 a2 a3 a1 a5 f6))])
    refine Goes.of (fun _ => XS.icmpNo X92.here hx rfl (hb hby at_258) rfl (teq (by by_cases hh : a4 = a1 <;> simp [eq6, hh, eq_comm])).2) ?_
    show Goes p e below _ T92 (mkF m 261 #[.val (.int a1), .val (.int a2), .val (.int a3), .val (.int a4), .val (.int a5), .val (.long q6), .second, .val (.int f6), .val (.int (3 : Int32)), .val (.ref b1), .val (.ref b8), .val (.int (if a4 = a1 then (1 : Int32) else (0 : Int32))), .val (.ref b76), .val (.ref b84)] [])
    refine Goes.of (fun _ => XS.aload X92.here hx rfl (hb hby at_261) rfl rfl) ?_
    show Goes p e below _ T92 (mkF m 263 #[.val (.int a1), .val (.int a2), .val (.int a3), .val (.int a4), .val (.int a5), .val (.long q6), .second, .val (.int f6), .val (.int (3 : Int32)), .val (.ref b1), .val (.ref b8), .val (.int (if a4 = a1 then (1 : Int32) else (0 : Int32))), .val (.ref b76), .val (.ref b84)] [(.ref b84)])
    refine Goes.of (fun _ => XS.aload X92.here hx rfl (hb hby at_263) rfl rfl) ?_
    show Goes p e below _ T92 (mkF m 265 #[.val (.int a1), .val (.int a2), .val (.int a3), .val (.int a4), .val (.int a5), .val (.long q6), .second, .val (.int f6), .val (.int (3 : Int32)), .val (.ref b1), .val (.ref b8), .val (.int (if a4 = a1 then (1 : Int32) else (0 : Int32))), .val (.ref b76), .val (.ref b84)] [(.ref b76), (.ref b84)])
    refine goVirtual 0 X92 hx hZ hown (hw _ (List.mem_of_getElem? (i := 22) rfl)) (hw _ (List.mem_of_getElem? (i := 23) rfl)) (notFace_of_selects (args := #[]) (mvT hZ (hw _ (List.mem_of_getElem? (i := 25) rfl)))) (hw _ (List.mem_of_getElem? (i := 25) rfl)) (hw _ (List.mem_of_getElem? (i := 24) rfl)) (hw _ (List.mem_of_getElem? (i := 3) rfl)) (hw _ (List.mem_of_getElem? (i := 26) rfl)) (by decide) (rm_eq l Z a0 hw b84 b76 a1 a2 a3 a1 a5 f6 a1 a2 a3 a4 a5 f6 T91.heap n0 O0 A76 H0_91 H1_91 H2_91 H3_91 H4_91 H5_91 H0_83 H1_83 H2_83 H3_83 H4_83 H5_83) eT92 A84 (g := (mkF m 265 #[.val (.int a1), .val (.int a2), .val (.int a3), .val (.int a4), .val (.int a5), .val (.long q6), .second, .val (.int f6), .val (.int (3 : Int32)), .val (.ref b1), .val (.ref b8), .val (.int (if a4 = a1 then (1 : Int32) else (0 : Int32))), .val (.ref b76), .val (.ref b84)] [(.ref b76), (.ref b84)])) rfl (by rw [hml]; rfl) [(.ref b76)] [] (lenOf pd__Ljava_lang_Object__Z rfl) rfl rfl (by show 2 * 0 + _ ≤ _; exact Nat.le_of_eq rfl) (hb hby at_265) (by decide) (by decide) (by decide) (by decide) ?_
    intro v93 T93 L93 X93 q93
    obtain ⟨rfl, Nq93, eT93⟩ := q93
    have N93 := Fr.app N92 Nq93
    show Goes p e below _ T93 (mkF m 268 #[.val (.int a1), .val (.int a2), .val (.int a3), .val (.int a4), .val (.int a5), .val (.long q6), .second, .val (.int f6), .val (.int (3 : Int32)), .val (.ref b1), .val (.ref b8), .val (.int (if a4 = a1 then (1 : Int32) else (0 : Int32))), .val (.ref b76), .val (.ref b84)] [(.int (eq6 a1 a2 a3 a1 a5 f6 a1 a2 a3 a4 a5 f6))])
    refine Goes.of (fun _ => XS.iload X93.here hx rfl (hb hby at_268) rfl) ?_
    show Goes p e below _ T93 (mkF m 270 #[.val (.int a1), .val (.int a2), .val (.int a3), .val (.int a4), .val (.int a5), .val (.long q6), .second, .val (.int f6), .val (.int (3 : Int32)), .val (.ref b1), .val (.ref b8), .val (.int (if a4 = a1 then (1 : Int32) else (0 : Int32))), .val (.ref b76), .val (.ref b84)] [(.int (if a4 = a1 then (1 : Int32) else (0 : Int32))), (.int (eq6 a1 a2 a3 a1 a5 f6 a1 a2 a3 a4 a5 f6))])
    refine Goes.of (fun _ => XS.icmpNo X93.here hx rfl (hb hby at_270) rfl (teq (by by_cases hh : a4 = a1; (· simp [eq6, hh]); (· simp [eq6, hh, Ne.symm hh]))).2) ?_
    show Goes p e below _ T93 (mkF m 273 #[.val (.int a1), .val (.int a2), .val (.int a3), .val (.int a4), .val (.int a5), .val (.long q6), .second, .val (.int f6), .val (.int (3 : Int32)), .val (.ref b1), .val (.ref b8), .val (.int (if a4 = a1 then (1 : Int32) else (0 : Int32))), .val (.ref b76), .val (.ref b84)] [])
    refine Goes.of (fun _ => XS.iconst X93.here hx rfl (hb hby at_273)) ?_
    show Goes p e below _ T93 (mkF m 274 #[.val (.int a1), .val (.int a2), .val (.int a3), .val (.int a4), .val (.int a5), .val (.long q6), .second, .val (.int f6), .val (.int (3 : Int32)), .val (.ref b1), .val (.ref b8), .val (.int (if a4 = a1 then (1 : Int32) else (0 : Int32))), .val (.ref b76), .val (.ref b84)] [(.int (1 : Int32))])
    refine Goes.of (fun _ => XS.goto X93.here hx rfl (pc0 := 274) (pc' := 278) rfl (hb hby at_274) (by decide) (by decide)) ?_
    show Goes p e below _ T93 (mkF m 278 #[.val (.int a1), .val (.int a2), .val (.int a3), .val (.int a4), .val (.int a5), .val (.long q6), .second, .val (.int f6), .val (.int (3 : Int32)), .val (.ref b1), .val (.ref b8), .val (.int (if a4 = a1 then (1 : Int32) else (0 : Int32))), .val (.ref b76), .val (.ref b84)] [(.int (1 : Int32))])
    exact retZ (t := .boolean) X93 hx hret hlk (by simp) (hb hby at_278) eT93 (by decide) (by decide) ⟨rfl, N93⟩
  · show Goes p e below _ T14 (mkF m 80 #[.val (.int a1), .val (.int a2), .val (.int a3), .val (.int a4), .val (.int a5), .val (.long q6), .second, .val (.int f6), .val (.int (4 : Int32)), .val (.ref b1), .val (.ref b8), .unset, .unset, .unset] [])
    refine Goes.of (fun _ => XS.iload X14.here hx rfl (hb hby at_80) rfl) ?_
    show Goes p e below _ T14 (mkF m 82 #[.val (.int a1), .val (.int a2), .val (.int a3), .val (.int a4), .val (.int a5), .val (.long q6), .second, .val (.int f6), .val (.int (4 : Int32)), .val (.ref b1), .val (.ref b8), .unset, .unset, .unset] [(.int (4 : Int32))])
    refine Goes.of (fun _ => XS.ifYes X14.here hx rfl (pc0 := 82) (pc' := 105) rfl (hb hby at_82) rfl ((if0 _ _).trans (feq (by decide)).2) (by decide) (by decide)) ?_
    show Goes p e below _ T14 (mkF m 105 #[.val (.int a1), .val (.int a2), .val (.int a3), .val (.int a4), .val (.int a5), .val (.long q6), .second, .val (.int f6), .val (.int (4 : Int32)), .val (.ref b1), .val (.ref b8), .unset, .unset, .unset] [])
    refine Goes.of (fun _ => XS.iload X14.here hx rfl (hb hby at_105) rfl) ?_
    show Goes p e below _ T14 (mkF m 107 #[.val (.int a1), .val (.int a2), .val (.int a3), .val (.int a4), .val (.int a5), .val (.long q6), .second, .val (.int f6), .val (.int (4 : Int32)), .val (.ref b1), .val (.ref b8), .unset, .unset, .unset] [(.int (4 : Int32))])
    refine Goes.of (fun _ => XS.iconst X14.here hx rfl (hb hby at_107)) ?_
    show Goes p e below _ T14 (mkF m 108 #[.val (.int a1), .val (.int a2), .val (.int a3), .val (.int a4), .val (.int a5), .val (.long q6), .second, .val (.int f6), .val (.int (4 : Int32)), .val (.ref b1), .val (.ref b8), .unset, .unset, .unset] [(.int (5 : Int32)), (.int (4 : Int32))])
    refine Goes.of (fun _ => XS.icmpNo X14.here hx rfl (hb hby at_108) rfl (flt (by decide)).2.2.1) ?_
    show Goes p e below _ T14 (mkF m 111 #[.val (.int a1), .val (.int a2), .val (.int a3), .val (.int a4), .val (.int a5), .val (.long q6), .second, .val (.int f6), .val (.int (4 : Int32)), .val (.ref b1), .val (.ref b8), .unset, .unset, .unset] [])
    refine Goes.of (fun _ => XS.aload X14.here hx rfl (hb hby at_111) rfl rfl) ?_
    show Goes p e below _ T14 (mkF m 113 #[.val (.int a1), .val (.int a2), .val (.int a3), .val (.int a4), .val (.int a5), .val (.long q6), .second, .val (.int f6), .val (.int (4 : Int32)), .val (.ref b1), .val (.ref b8), .unset, .unset, .unset] [(.ref b8)])
    refine Goes.of (fun _ => XS.iload X14.here hx rfl (hb hby at_113) rfl) ?_
    show Goes p e below _ T14 (mkF m 115 #[.val (.int a1), .val (.int a2), .val (.int a3), .val (.int a4), .val (.int a5), .val (.long q6), .second, .val (.int f6), .val (.int (4 : Int32)), .val (.ref b1), .val (.ref b8), .unset, .unset, .unset] [(.int (4 : Int32)), (.ref b8)])
    refine Goes.of (fun _ => XS.iloadN X14.here hx rfl (hb hby at_115) rfl) ?_
    show Goes p e below _ T14 (mkF m 116 #[.val (.int a1), .val (.int a2), .val (.int a3), .val (.int a4), .val (.int a5), .val (.long q6), .second, .val (.int f6), .val (.int (4 : Int32)), .val (.ref b1), .val (.ref b8), .unset, .unset, .unset] [(.int a1), (.int (4 : Int32)), (.ref b8)])
    refine goStI 4 X14 hx hZ eT14 V8 (by decide) (by decide) rfl (Nat.lt_of_lt_of_le (Nat.lt_succ_self _) (Nat.le_of_ble_eq_true rfl)) (g := (mkF m 116 #[.val (.int a1), .val (.int a2), .val (.int a3), .val (.int a4), .val (.int a5), .val (.long q6), .second, .val (.int f6), .val (.int (4 : Int32)), .val (.ref b1), .val (.ref b8), .unset, .unset, .unset] [(.int a1), (.int (4 : Int32)), (.ref b8)])) rfl rfl (hb hby at_116) ?_
    intro T94 h94 X94 eT94 W94 V8
    have N94 := Fr.snoc X94 N14 g_b8
    have V1 := V1.other W94 ne_b1_b8
    have A1 := A1.wr W94
    have A8 := A8.wr W94
    have O0 := O0.wr W94 g_b8
    have V8 : Arv Z h94 b8 kA8 .int (6 : Int32) [(.int a1), (.int a2), (.int a3), (.int a4), (.int a1), (.int f6)] (.int (0 : Int32)) := V8
    show Goes p e below _ T94 (mkF m 117 #[.val (.int a1), .val (.int a2), .val (.int a3), .val (.int a4), .val (.int a5), .val (.long q6), .second, .val (.int f6), .val (.int (4 : Int32)), .val (.ref b1), .val (.ref b8), .unset, .unset, .unset] [])
    refine Goes.of (fun _ => XS.aload X94.here hx rfl (hb hby at_117) rfl rfl) ?_
    show Goes p e below _ T94 (mkF m 119 #[.val (.int a1), .val (.int a2), .val (.int a3), .val (.int a4), .val (.int a5), .val (.long q6), .second, .val (.int f6), .val (.int (4 : Int32)), .val (.ref b1), .val (.ref b8), .unset, .unset, .unset] [(.ref b1)])
    refine Goes.of (fun _ => XS.iload X94.here hx rfl (hb hby at_119) rfl) ?_
    show Goes p e below _ T94 (mkF m 121 #[.val (.int a1), .val (.int a2), .val (.int a3), .val (.int a4), .val (.int a5), .val (.long q6), .second, .val (.int f6), .val (.int (4 : Int32)), .val (.ref b1), .val (.ref b8), .unset, .unset, .unset] [(.int (4 : Int32)), (.ref b1)])
    refine goLdI (.int a5) X94 hx hZ eT94 V1 (by decide) (by decide) rfl (g := (mkF m 121 #[.val (.int a1), .val (.int a2), .val (.int a3), .val (.int a4), .val (.int a5), .val (.long q6), .second, .val (.int f6), .val (.int (4 : Int32)), .val (.ref b1), .val (.ref b8), .unset, .unset, .unset] [(.int (4 : Int32)), (.ref b1)])) rfl rfl (hb hby at_121) ?_
    show Goes p e below _ T94 (mkF m 122 #[.val (.int a1), .val (.int a2), .val (.int a3), .val (.int a4), .val (.int a5), .val (.long q6), .second, .val (.int f6), .val (.int (4 : Int32)), .val (.ref b1), .val (.ref b8), .unset, .unset, .unset] [(.int a5)])
    refine Goes.of (fun _ => XS.iloadN X94.here hx rfl (hb hby at_122) rfl) ?_
    show Goes p e below _ T94 (mkF m 123 #[.val (.int a1), .val (.int a2), .val (.int a3), .val (.int a4), .val (.int a5), .val (.long q6), .second, .val (.int f6), .val (.int (4 : Int32)), .val (.ref b1), .val (.ref b8), .unset, .unset, .unset] [(.int a1), (.int a5)])
    refine Goes.of (T' := T94) (f' := (mkF m 131 #[.val (.int a1), .val (.int a2), .val (.int a3), .val (.int a4), .val (.int a5), .val (.long q6), .second, .val (.int f6), .val (.int (4 : Int32)), .val (.ref b1), .val (.ref b8), .unset, .unset, .unset] [(.int (if a5 = a1 then (1 : Int32) else (0 : Int32)))])) (fun t kt => ?_) ?_
    · show Steps p.tables e below (T94.setTop (mkF m 123 #[.val (.int a1), .val (.int a2), .val (.int a3), .val (.int a4), .val (.int a5), .val (.long q6), .second, .val (.int f6), .val (.int (4 : Int32)), .val (.ref b1), .val (.ref b8), .unset, .unset, .unset] [(.int a1), (.int a5)])) _
      by_cases hq123 : a5 = a1
      · simp only [if_pos hq123] at kt
        refine XS.icmpNo X94.here hx rfl (hb hby at_123) rfl (teq hq123).2 ?_
        show Steps p.tables e below (T94.setTop (mkF m 126 #[.val (.int a1), .val (.int a2), .val (.int a3), .val (.int a4), .val (.int a5), .val (.long q6), .second, .val (.int f6), .val (.int (4 : Int32)), .val (.ref b1), .val (.ref b8), .unset, .unset, .unset] [])) _
        refine XS.iconst X94.here hx rfl (hb hby at_126) ?_
        show Steps p.tables e below (T94.setTop (mkF m 127 #[.val (.int a1), .val (.int a2), .val (.int a3), .val (.int a4), .val (.int a5), .val (.long q6), .second, .val (.int f6), .val (.int (4 : Int32)), .val (.ref b1), .val (.ref b8), .unset, .unset, .unset] [(.int (1 : Int32))])) _
        refine XS.goto X94.here hx rfl (pc0 := 127) (pc' := 131) rfl (hb hby at_127) (by decide) (by decide) ?_
        show Steps p.tables e below (T94.setTop (mkF m 131 #[.val (.int a1), .val (.int a2), .val (.int a3), .val (.int a4), .val (.int a5), .val (.long q6), .second, .val (.int f6), .val (.int (4 : Int32)), .val (.ref b1), .val (.ref b8), .unset, .unset, .unset] [(.int (1 : Int32))])) _
        exact kt
      · simp only [if_neg hq123] at kt
        refine XS.icmpYes X94.here hx rfl (pc0 := 123) (pc' := 130) rfl (hb hby at_123) rfl (feq hq123).2 (by decide) (by decide) ?_
        show Steps p.tables e below (T94.setTop (mkF m 130 #[.val (.int a1), .val (.int a2), .val (.int a3), .val (.int a4), .val (.int a5), .val (.long q6), .second, .val (.int f6), .val (.int (4 : Int32)), .val (.ref b1), .val (.ref b8), .unset, .unset, .unset] [])) _
        refine XS.iconst X94.here hx rfl (hb hby at_130) ?_
        show Steps p.tables e below (T94.setTop (mkF m 131 #[.val (.int a1), .val (.int a2), .val (.int a3), .val (.int a4), .val (.int a5), .val (.long q6), .second, .val (.int f6), .val (.int (4 : Int32)), .val (.ref b1), .val (.ref b8), .unset, .unset, .unset] [(.int (0 : Int32))])) _
        exact kt
    show Goes p e below _ T94 (mkF m 131 #[.val (.int a1), .val (.int a2), .val (.int a3), .val (.int a4), .val (.int a5), .val (.long q6), .second, .val (.int f6), .val (.int (4 : Int32)), .val (.ref b1), .val (.ref b8), .unset, .unset, .unset] [(.int (if a5 = a1 then (1 : Int32) else (0 : Int32)))])
    refine Goes.of (fun _ => XS.istore X94.here hx rfl (hb hby at_131) rfl (l' := #[.val (.int a1), .val (.int a2), .val (.int a3), .val (.int a4), .val (.int a5), .val (.long q6), .second, .val (.int f6), .val (.int (4 : Int32)), .val (.ref b1), .val (.ref b8), .val (.int (if a5 = a1 then (1 : Int32) else (0 : Int32))), .unset, .unset]) rfl) ?_
    show Goes p e below _ T94 (mkF m 133 #[.val (.int a1), .val (.int a2), .val (.int a3), .val (.int a4), .val (.int a5), .val (.long q6), .second, .val (.int f6), .val (.int (4 : Int32)), .val (.ref b1), .val (.ref b8), .val (.int (if a5 = a1 then (1 : Int32) else (0 : Int32))), .unset, .unset] [])
    refine Goes.of (fun _ => XS.goto X94.here hx rfl (pc0 := 133) (pc' := 139) rfl (hb hby at_133) (by decide) (by decide)) ?_
    show Goes p e below _ T94 (mkF m 139 #[.val (.int a1), .val (.int a2), .val (.int a3), .val (.int a4), .val (.int a5), .val (.long q6), .second, .val (.int f6), .val (.int (4 : Int32)), .val (.ref b1), .val (.ref b8), .val (.int (if a5 = a1 then (1 : Int32) else (0 : Int32))), .unset, .unset] [])
    refine goNew X94 hx hZ hown (hw _ (List.mem_of_getElem? (i := 1) rfl)) (hw _ (List.mem_of_getElem? (i := 2) rfl)) (hw _ (List.mem_of_getElem? (i := 3) rfl)) eT94 (g := (mkF m 139 #[.val (.int a1), .val (.int a2), .val (.int a3), .val (.int a4), .val (.int a5), .val (.long q6), .second, .val (.int f6), .val (.int (4 : Int32)), .val (.ref b1), .val (.ref b8), .val (.int (if a5 = a1 then (1 : Int32) else (0 : Int32))), .unset, .unset] [])) rfl (hb hby at_139) (by decide) (by decide) ?_
    intro T96 h96 b96 X96 eT96 E96 hb96 A96 D96
    have g_b96 : n0 ≤ b96 := Nat.le_trans (oldLe O0) hb96
    have ne_b1_b96 : b1 ≠ b96 := Nat.ne_of_lt (Nat.lt_of_lt_of_le V1.lt hb96)
    have ne_b8_b96 : b8 ≠ b96 := Nat.ne_of_lt (Nat.lt_of_lt_of_le V8.lt hb96)
    have V1 := V1.ext E96
    have A1 := A1.ext E96
    have V8 := V8.ext E96
    have A8 := A8.ext E96
    have O0 := O0.ext E96
    have F96_leftSideBearing : Fld Z h96 b96 "com/example/casement/casement/graphics/CharMetrics" "leftSideBearing" "I" (.int (0 : Int32)) := D96 (Or.inr (hw _ (List.mem_of_getElem? (i := 11) rfl))) (ty := .int) (by decide)
    have F96_rightSideBearing : Fld Z h96 b96 "com/example/casement/casement/graphics/CharMetrics" "rightSideBearing" "I" (.int (0 : Int32)) := D96 (Or.inr (hw _ (List.mem_of_getElem? (i := 13) rfl))) (ty := .int) (by decide)
    have F96_characterWidth : Fld Z h96 b96 "com/example/casement/casement/graphics/CharMetrics" "characterWidth" "I" (.int (0 : Int32)) := D96 (Or.inr (hw _ (List.mem_of_getElem? (i := 15) rfl))) (ty := .int) (by decide)
    have F96_ascent : Fld Z h96 b96 "com/example/casement/casement/graphics/CharMetrics" "ascent" "I" (.int (0 : Int32)) := D96 (Or.inr (hw _ (List.mem_of_getElem? (i := 17) rfl))) (ty := .int) (by decide)
    have F96_descent : Fld Z h96 b96 "com/example/casement/casement/graphics/CharMetrics" "descent" "I" (.int (0 : Int32)) := D96 (Or.inr (hw _ (List.mem_of_getElem? (i := 19) rfl))) (ty := .int) (by decide)
    have F96_attributes : Fld Z h96 b96 "com/example/casement/casement/graphics/CharMetrics" "attributes" "I" (.int (0 : Int32)) := D96 (Or.inr (hw _ (List.mem_of_getElem? (i := 21) rfl))) (ty := .int) (by decide)
    show Goes p e below _ T96 (mkF m 142 #[.val (.int a1), .val (.int a2), .val (.int a3), .val (.int a4), .val (.int a5), .val (.long q6), .second, .val (.int f6), .val (.int (4 : Int32)), .val (.ref b1), .val (.ref b8), .val (.int (if a5 = a1 then (1 : Int32) else (0 : Int32))), .unset, .unset] [(.ref b96)])
    refine Goes.of (fun _ => XS.dup X96.here hx rfl (hb hby at_142) rfl rfl) ?_
    show Goes p e below _ T96 (mkF m 143 #[.val (.int a1), .val (.int a2), .val (.int a3), .val (.int a4), .val (.int a5), .val (.long q6), .second, .val (.int f6), .val (.int (4 : Int32)), .val (.ref b1), .val (.ref b8), .val (.int (if a5 = a1 then (1 : Int32) else (0 : Int32))), .unset, .unset] [(.ref b96), (.ref b96)])
    refine Goes.of (fun _ => XS.aload X96.here hx rfl (hb hby at_143) rfl rfl) ?_
    show Goes p e below _ T96 (mkF m 145 #[.val (.int a1), .val (.int a2), .val (.int a3), .val (.int a4), .val (.int a5), .val (.long q6), .second, .val (.int f6), .val (.int (4 : Int32)), .val (.ref b1), .val (.ref b8), .val (.int (if a5 = a1 then (1 : Int32) else (0 : Int32))), .unset, .unset] [(.ref b1), (.ref b96), (.ref b96)])
    refine Goes.of (fun _ => XS.iconst X96.here hx rfl (hb hby at_145)) ?_
    show Goes p e below _ T96 (mkF m 146 #[.val (.int a1), .val (.int a2), .val (.int a3), .val (.int a4), .val (.int a5), .val (.long q6), .second, .val (.int f6), .val (.int (4 : Int32)), .val (.ref b1), .val (.ref b8), .val (.int (if a5 = a1 then (1 : Int32) else (0 : Int32))), .unset, .unset] [(.int (0 : Int32)), (.ref b1), (.ref b96), (.ref b96)])
    refine goLdI (.int a1) X96 hx hZ eT96 V1 (by decide) (by decide) rfl (g := (mkF m 146 #[.val (.int a1), .val (.int a2), .val (.int a3), .val (.int a4), .val (.int a5), .val (.long q6), .second, .val (.int f6), .val (.int (4 : Int32)), .val (.ref b1), .val (.ref b8), .val (.int (if a5 = a1 then (1 : Int32) else (0 : Int32))), .unset, .unset] [(.int (0 : Int32)), (.ref b1), (.ref b96), (.ref b96)])) rfl rfl (hb hby at_146) ?_
    show Goes p e below _ T96 (mkF m 147 #[.val (.int a1), .val (.int a2), .val (.int a3), .val (.int a4), .val (.int a5), .val (.long q6), .second, .val (.int f6), .val (.int (4 : Int32)), .val (.ref b1), .val (.ref b8), .val (.int (if a5 = a1 then (1 : Int32) else (0 : Int32))), .unset, .unset] [(.int a1), (.ref b96), (.ref b96)])
    refine Goes.of (fun _ => XS.aload X96.here hx rfl (hb hby at_147) rfl rfl) ?_
    show Goes p e below _ T96 (mkF m 149 #[.val (.int a1), .val (.int a2), .val (.int a3), .val (.int a4), .val (.int a5), .val (.long q6), .second, .val (.int f6), .val (.int (4 : Int32)), .val (.ref b1), .val (.ref b8), .val (.int (if a5 = a1 then (1 : Int32) else (0 : Int32))), .unset, .unset] [(.ref b1), (.int a1), (.ref b96), (.ref b96)])
    refine Goes.of (fun _ => XS.iconst X96.here hx rfl (hb hby at_149)) ?_
    show Goes p e below _ T96 (mkF m 150 #[.val (.int a1), .val (.int a2), .val (.int a3), .val (.int a4), .val (.int a5), .val (.long q6), .second, .val (.int f6), .val (.int (4 : Int32)), .val (.ref b1), .val (.ref b8), .val (.int (if a5 = a1 then (1 : Int32) else (0 : Int32))), .unset, .unset] [(.int (1 : Int32)), (.ref b1), (.int a1), (.ref b96), (.ref b96)])
    refine goLdI (.int a2) X96 hx hZ eT96 V1 (by decide) (by decide) rfl (g := (mkF m 150 #[.val (.int a1), .val (.int a2), .val (.int a3), .val (.int a4), .val (.int a5), .val (.long q6), .second, .val (.int f6), .val (.int (4 : Int32)), .val (.ref b1), .val (.ref b8), .val (.int (if a5 = a1 then (1 : Int32) else (0 : Int32))), .unset, .unset] [(.int (1 : Int32)), (.ref b1), (.int a1), (.ref b96), (.ref b96)])) rfl rfl (hb hby at_150) ?_
    show Goes p e below _ T96 (mkF m 151 #[.val (.int a1), .val (.int a2), .val (.int a3), .val (.int a4), .val (.int a5), .val (.long q6), .second, .val (.int f6), .val (.int (4 : Int32)), .val (.ref b1), .val (.ref b8), .val (.int (if a5 = a1 then (1 : Int32) else (0 : Int32))), .unset, .unset] [(.int a2), (.int a1), (.ref b96), (.ref b96)])
    refine Goes.of (fun _ => XS.aload X96.here hx rfl (hb hby at_151) rfl rfl) ?_
    show Goes p e below _ T96 (mkF m 153 #[.val (.int a1), .val (.int a2), .val (.int a3), .val (.int a4), .val (.int a5), .val (.long q6), .second, .val (.int f6), .val (.int (4 : Int32)), .val (.ref b1), .val (.ref b8), .val (.int (if a5 = a1 then (1 : Int32) else (0 : Int32))), .unset, .unset] [(.ref b1), (.int a2), (.int a1), (.ref b96), (.ref b96)])
    refine Goes.of (fun _ => XS.iconst X96.here hx rfl (hb hby at_153)) ?_
    show Goes p e below _ T96 (mkF m 154 #[.val (.int a1), .val (.int a2), .val (.int a3), .val (.int a4), .val (.int a5), .val (.long q6), .second, .val (.int f6), .val (.int (4 : Int32)), .val (.ref b1), .val (.ref b8), .val (.int (if a5 = a1 then (1 : Int32) else (0 : Int32))), .unset, .unset] [(.int (2 : Int32)), (.ref b1), (.int a2), (.int a1), (.ref b96), (.ref b96)])
    refine goLdI (.int a3) X96 hx hZ eT96 V1 (by decide) (by decide) rfl (g := (mkF m 154 #[.val (.int a1), .val (.int a2), .val (.int a3), .val (.int a4), .val (.int a5), .val (.long q6), .second, .val (.int f6), .val (.int (4 : Int32)), .val (.ref b1), .val (.ref b8), .val (.int (if a5 = a1 then (1 : Int32) else (0 : Int32))), .unset, .unset] [(.int (2 : Int32)), (.ref b1), (.int a2), (.int a1), (.ref b96), (.ref b96)])) rfl rfl (hb hby at_154) ?_
    show Goes p e below _ T96 (mkF m 155 #[.val (.int a1), .val (.int a2), .val (.int a3), .val (.int a4), .val (.int a5), .val (.long q6), .second, .val (.int f6), .val (.int (4 : Int32)), .val (.ref b1), .val (.ref b8), .val (.int (if a5 = a1 then (1 : Int32) else (0 : Int32))), .unset, .unset] [(.int a3), (.int a2), (.int a1), (.ref b96), (.ref b96)])
    refine Goes.of (fun _ => XS.aload X96.here hx rfl (hb hby at_155) rfl rfl) ?_
    show Goes p e below _ T96 (mkF m 157 #[.val (.int a1), .val (.int a2), .val (.int a3), .val (.int a4), .val (.int a5), .val (.long q6), .second, .val (.int f6), .val (.int (4 : Int32)), .val (.ref b1), .val (.ref b8), .val (.int (if a5 = a1 then (1 : Int32) else (0 : Int32))), .unset, .unset] [(.ref b1), (.int a3), (.int a2), (.int a1), (.ref b96), (.ref b96)])
    refine Goes.of (fun _ => XS.iconst X96.here hx rfl (hb hby at_157)) ?_
    show Goes p e below _ T96 (mkF m 158 #[.val (.int a1), .val (.int a2), .val (.int a3), .val (.int a4), .val (.int a5), .val (.long q6), .second, .val (.int f6), .val (.int (4 : Int32)), .val (.ref b1), .val (.ref b8), .val (.int (if a5 = a1 then (1 : Int32) else (0 : Int32))), .unset, .unset] [(.int (3 : Int32)), (.ref b1), (.int a3), (.int a2), (.int a1), (.ref b96), (.ref b96)])
    refine goLdI (.int a4) X96 hx hZ eT96 V1 (by decide) (by decide) rfl (g := (mkF m 158 #[.val (.int a1), .val (.int a2), .val (.int a3), .val (.int a4), .val (.int a5), .val (.long q6), .second, .val (.int f6), .val (.int (4 : Int32)), .val (.ref b1), .val (.ref b8), .val (.int (if a5 = a1 then (1 : Int32) else (0 : Int32))), .unset, .unset] [(.int (3 : Int32)), (.ref b1), (.int a3), (.int a2), (.int a1), (.ref b96), (.ref b96)])) rfl rfl (hb hby at_158) ?_
    show Goes p e below _ T96 (mkF m 159 #[.val (.int a1), .val (.int a2), .val (.int a3), .val (.int a4), .val (.int a5), .val (.long q6), .second, .val (.int f6), .val (.int (4 : Int32)), .val (.ref b1), .val (.ref b8), .val (.int (if a5 = a1 then (1 : Int32) else (0 : Int32))), .unset, .unset] [(.int a4), (.int a3), (.int a2), (.int a1), (.ref b96), (.ref b96)])
    refine Goes.of (fun _ => XS.aload X96.here hx rfl (hb hby at_159) rfl rfl) ?_
    show Goes p e below _ T96 (mkF m 161 #[.val (.int a1), .val (.int a2), .val (.int a3), .val (.int a4), .val (.int a5), .val (.long q6), .second, .val (.int f6), .val (.int (4 : Int32)), .val (.ref b1), .val (.ref b8), .val (.int (if a5 = a1 then (1 : Int32) else (0 : Int32))), .unset, .unset] [(.ref b1), (.int a4), (.int a3), (.int a2), (.int a1), (.ref b96), (.ref b96)])
    refine Goes.of (fun _ => XS.iconst X96.here hx rfl (hb hby at_161)) ?_
    show Goes p e below _ T96 (mkF m 162 #[.val (.int a1), .val (.int a2), .val (.int a3), .val (.int a4), .val (.int a5), .val (.long q6), .second, .val (.int f6), .val (.int (4 : Int32)), .val (.ref b1), .val (.ref b8), .val (.int (if a5 = a1 then (1 : Int32) else (0 : Int32))), .unset, .unset] [(.int (4 : Int32)), (.ref b1), (.int a4), (.int a3), (.int a2), (.int a1), (.ref b96), (.ref b96)])
    refine goLdI (.int a5) X96 hx hZ eT96 V1 (by decide) (by decide) rfl (g := (mkF m 162 #[.val (.int a1), .val (.int a2), .val (.int a3), .val (.int a4), .val (.int a5), .val (.long q6), .second, .val (.int f6), .val (.int (4 : Int32)), .val (.ref b1), .val (.ref b8), .val (.int (if a5 = a1 then (1 : Int32) else (0 : Int32))), .unset, .unset] [(.int (4 : Int32)), (.ref b1), (.int a4), (.int a3), (.int a2), (.int a1), (.ref b96), (.ref b96)])) rfl rfl (hb hby at_162) ?_
    show Goes p e below _ T96 (mkF m 163 #[.val (.int a1), .val (.int a2), .val (.int a3), .val (.int a4), .val (.int a5), .val (.long q6), .second, .val (.int f6), .val (.int (4 : Int32)), .val (.ref b1), .val (.ref b8), .val (.int (if a5 = a1 then (1 : Int32) else (0 : Int32))), .unset, .unset] [(.int a5), (.int a4), (.int a3), (.int a2), (.int a1), (.ref b96), (.ref b96)])
    refine Goes.of (fun _ => XS.aload X96.here hx rfl (hb hby at_163) rfl rfl) ?_
    show Goes p e below _ T96 (mkF m 165 #[.val (.int a1), .val (.int a2), .val (.int a3), .val (.int a4), .val (.int a5), .val (.long q6), .second, .val (.int f6), .val (.int (4 : Int32)), .val (.ref b1), .val (.ref b8), .val (.int (if a5 = a1 then (1 : Int32) else (0 : Int32))), .unset, .unset] [(.ref b1), (.int a5), (.int a4), (.int a3), (.int a2), (.int a1), (.ref b96), (.ref b96)])
    refine Goes.of (fun _ => XS.iconst X96.here hx rfl (hb hby at_165)) ?_
    show Goes p e below _ T96 (mkF m 166 #[.val (.int a1), .val (.int a2), .val (.int a3), .val (.int a4), .val (.int a5), .val (.long q6), .second, .val (.int f6), .val (.int (4 : Int32)), .val (.ref b1), .val (.ref b8), .val (.int (if a5 = a1 then (1 : Int32) else (0 : Int32))), .unset, .unset] [(.int (5 : Int32)), (.ref b1), (.int a5), (.int a4), (.int a3), (.int a2), (.int a1), (.ref b96), (.ref b96)])
    refine goLdI (.int f6) X96 hx hZ eT96 V1 (by decide) (by decide) rfl (g := (mkF m 166 #[.val (.int a1), .val (.int a2), .val (.int a3), .val (.int a4), .val (.int a5), .val (.long q6), .second, .val (.int f6), .val (.int (4 : Int32)), .val (.ref b1), .val (.ref b8), .val (.int (if a5 = a1 then (1 : Int32) else (0 : Int32))), .unset, .unset] [(.int (5 : Int32)), (.ref b1), (.int a5), (.int a4), (.int a3), (.int a2), (.int a1), (.ref b96), (.ref b96)])) rfl rfl (hb hby at_166) ?_
    show Goes p e below _ T96 (mkF m 167 #[.val (.int a1), .val (.int a2), .val (.int a3), .val (.int a4), .val (.int a5), .val (.long q6), .second, .val (.int f6), .val (.int (4 : Int32)), .val (.ref b1), .val (.ref b8), .val (.int (if a5 = a1 then (1 : Int32) else (0 : Int32))), .unset, .unset] [(.int f6), (.int a5), (.int a4), (.int a3), (.int a2), (.int a1), (.ref b96), (.ref b96)])
    refine goSpecial 1 X96 hx hZ rfl hown (hw _ (List.mem_of_getElem? (i := 4) rfl)) (hw _ (List.mem_of_getElem? (i := 5) rfl)) (hw _ (List.mem_of_getElem? (i := 3) rfl)) (hw _ (List.mem_of_getElem? (i := 6) rfl)) (by decide) (rm_init l Z a0 hw b96 a1 a2 a3 a4 a5 f6 h96 n0 O0 g_b96 A96 F96_leftSideBearing F96_rightSideBearing F96_characterWidth F96_ascent F96_descent F96_attributes) eT96 (g := (mkF m 167 #[.val (.int a1), .val (.int a2), .val (.int a3), .val (.int a4), .val (.int a5), .val (.long q6), .second, .val (.int f6), .val (.int (4 : Int32)), .val (.ref b1), .val (.ref b8), .val (.int (if a5 = a1 then (1 : Int32) else (0 : Int32))), .unset, .unset] [(.int f6), (.int a5), (.int a4), (.int a3), (.int a2), (.int a1), (.ref b96), (.ref b96)])) rfl (by rw [hml]; rfl) b96 [(.int a1), (.int a2), (.int a3), (.int a4), (.int a5), (.int f6)] [(.ref b96)] (lenOf pd__IIIIII_V rfl) rfl rfl (by show 2 * 0 + _ ≤ _; exact Nat.le_of_eq rfl) (hb hby at_167) (by decide) (by decide) (by decide) (by decide) ?_
    intro v103 T103 L103 X103 q103
    obtain ⟨rfl, Nq103, Kq103, H0_103, H1_103, H2_103, H3_103, H4_103, H5_103⟩ := q103
    have N103 := Fr.app N94 Nq103
    have V1 := V1.keep Kq103 (ninS ne_b1_b96 nin0)
    have A1 := A1.keep Kq103
    have V8 := V8.keep Kq103 (ninS ne_b8_b96 nin0)
    have A8 := A8.keep Kq103
    have A96 := A96.keep Kq103
    have O0 := O0.keep Kq103 (allS g_b96 all0)
    show Goes p e below _ T103 (mkF m 170 #[.val (.int a1), .val (.int a2), .val (.int a3), .val (.int a4), .val (.int a5), .val (.long q6), .second, .val (.int f6), .val (.int (4 : Int32)), .val (.ref b1), .val (.ref b8), .val (.int (if a5 = a1 then (1 : Int32) else (0 : Int32))), .unset, .unset] [(.ref b96)])
    refine Goes.of (fun _ => XS.astore X103.here hx rfl (hb hby at_170) rfl rfl (l' := #[.val (.int a1), .val (.int a2), .val (.int a3), .val (.int a4), .val (.int a5), .val (.long q6), .second, .val (.int f6), .val (.int (4 : Int32)), .val (.ref b1), .val (.ref b8), .val (.int (if a5 = a1 then (1 : Int32) else (0 : Int32))), .val (.ref b96), .unset]) rfl) ?_
    show Goes p e below _ T103 (mkF m 172 #[.val (.int a1), .val (.int a2), .val (.int a3), .val (.int a4), .val (.int a5), .val (.long q6), .second, .val (.int f6), .val (.int (4 : Int32)), .val (.ref b1), .val (.ref b8), .val (.int (if a5 = a1 then (1 : Int32) else (0 : Int32))), .val (.ref b96), .unset] [])
    refine goNew X103 hx hZ hown (hw _ (List.mem_of_getElem? (i := 1) rfl)) (hw _ (List.mem_of_getElem? (i := 2) rfl)) (hw _ (List.mem_of_getElem? (i := 3) rfl)) (rfl : T103.heap = _) (g := (mkF m 172 #[.val (.int a1), .val (.int a2), .val (.int a3), .val (.int a4), .val (.int a5), .val (.long q6), .second, .val (.int f6), .val (.int (4 : Int32)), .val (.ref b1), .val (.ref b8), .val (.int (if a5 = a1 then (1 : Int32) else (0 : Int32))), .val (.ref b96), .unset] [])) rfl (hb hby at_172) (by decide) (by decide) ?_
    intro T104 h104 b104 X104 eT104 E104 hb104 A104 D104
    have g_b104 : n0 ≤ b104 := Nat.le_trans (oldLe O0) hb104
    have ne_b1_b104 : b1 ≠ b104 := Nat.ne_of_lt (Nat.lt_of_lt_of_le V1.lt hb104)
    have ne_b8_b104 : b8 ≠ b104 := Nat.ne_of_lt (Nat.lt_of_lt_of_le V8.lt hb104)
    have ne_b96_b104 : b96 ≠ b104 := Nat.ne_of_lt (Nat.lt_of_lt_of_le A96.lt hb104)
    have V1 := V1.ext E104
    have A1 := A1.ext E104
    have V8 := V8.ext E104
    have A8 := A8.ext E104
    have A96 := A96.ext E104
    have H0_103 := H0_103.ext E104
    have H1_103 := H1_103.ext E104
    have H2_103 := H2_103.ext E104
    have H3_103 := H3_103.ext E104
    have H4_103 := H4_103.ext E104
    have H5_103 := H5_103.ext E104
    have O0 := O0.ext E104
    have F104_leftSideBearing : Fld Z h104 b104 "com/example/casement/casement/graphics/CharMetrics" "leftSideBearing" "I" (.int (0 : Int32)) := D104 (Or.inr (hw _ (List.mem_of_getElem? (i := 11) rfl))) (ty := .int) (by decide)
    have F104_rightSideBearing : Fld Z h104 b104 "com/example/casement/casement/graphics/CharMetrics" "rightSideBearing" "I" (.int (0 : Int32)) := D104 (Or.inr (hw _ (List.mem_of_getElem? (i := 13) rfl))) (ty := .int) (by decide)
    have F104_characterWidth : Fld Z h104 b104 "com/example/casement/casement/graphics/CharMetrics" "characterWidth" "I" (.int (0 : Int32)) := D104 (Or.inr (hw _ (List.mem_of_getElem? (i := 15) rfl))) (ty := .int) (by decide)
    have F104_ascent : Fld Z h104 b104 "com/example/casement/casement/graphics/CharMetrics" "ascent" "I" (.int (0 : Int32)) := D104 (Or.inr (hw _ (List.mem_of_getElem? (i := 17) rfl))) (ty := .int) (by decide)
    have F104_descent : Fld Z h104 b104 "com/example/casement/casement/graphics/CharMetrics" "descent" "I" (.int (0 : Int32)) := D104 (Or.inr (hw _ (List.mem_of_getElem? (i := 19) rfl))) (ty := .int) (by decide)
    have F104_attributes : Fld Z h104 b104 "com/example/casement/casement/graphics/CharMetrics" "attributes" "I" (.int (0 : Int32)) := D104 (Or.inr (hw _ (List.mem_of_getElem? (i := 21) rfl))) (ty := .int) (by decide)
    show Goes p e below _ T104 (mkF m 175 #[.val (.int a1), .val (.int a2), .val (.int a3), .val (.int a4), .val (.int a5), .val (.long q6), .second, .val (.int f6), .val (.int (4 : Int32)), .val (.ref b1), .val (.ref b8), .val (.int (if a5 = a1 then (1 : Int32) else (0 : Int32))), .val (.ref b96), .unset] [(.ref b104)])
    refine Goes.of (fun _ => XS.dup X104.here hx rfl (hb hby at_175) rfl rfl) ?_
    show Goes p e below _ T104 (mkF m 176 #[.val (.int a1), .val (.int a2), .val (.int a3), .val (.int a4), .val (.int a5), .val (.long q6), .second, .val (.int f6), .val (.int (4 : Int32)), .val (.ref b1), .val (.ref b8), .val (.int (if a5 = a1 then (1 : Int32) else (0 : Int32))), .val (.ref b96), .unset] [(.ref b104), (.ref b104)])
    refine Goes.of (fun _ => XS.aload X104.here hx rfl (hb hby at_176) rfl rfl) ?_
    show Goes p e below _ T104 (mkF m 178 #[.val (.int a1), .val (.int a2), .val (.int a3), .val (.int a4), .val (.int a5), .val (.long q6), .second, .val (.int f6), .val (.int (4 : Int32)), .val (.ref b1), .val (.ref b8), .val (.int (if a5 = a1 then (1 : Int32) else (0 : Int32))), .val (.ref b96), .unset] [(.ref b8), (.ref b104), (.ref b104)])
    refine Goes.of (fun _ => XS.iconst X104.here hx rfl (hb hby at_178)) ?_
    show Goes p e below _ T104 (mkF m 179 #[.val (.int a1), .val (.int a2), .val (.int a3), .val (.int a4), .val (.int a5), .val (.long q6), .second, .val (.int f6), .val (.int (4 : Int32)), .val (.ref b1), .val (.ref b8), .val (.int (if a5 = a1 then (1 : Int32) else (0 : Int32))), .val (.ref b96), .unset] [(.int (0 : Int32)), (.ref b8), (.ref b104), (.ref b104)])
    refine goLdI (.int a1) X104 hx hZ eT104 V8 (by decide) (by decide) rfl (g := (mkF m 179 #[.val (.int a1), .val (.int a2), .val (.int a3), .val (.int a4), .val (.int a5), .val (.long q6), .second, .val (.int f6), .val (.int (4 : Int32)), .val (.ref b1), .val (.ref b8), .val (.int (if a5 = a1 then (1 : Int32) else (0 : Int32))), .val (.ref b96), .unset] [(.int (0 : Int32)), (.ref b8), (.ref b104), (.ref b104)])) rfl rfl (hb hby at_179) ?_
    show Goes p e below _ T104 (mkF m 180 #[.val (.int a1), .val (.int a2), .val (.int a3), .val (.int a4), .val (.int a5), .val (.long q6), .second, .val (.int f6), .val (.int (4 : Int32)), .val (.ref b1), .val (.ref b8), .val (.int (if a5 = a1 then (1 : Int32) else (0 : Int32))), .val (.ref b96), .unset] [(.int a1), (.ref b104), (.ref b104)])
    refine Goes.of (fun _ => XS.aload X104.here hx rfl (hb hby at_180) rfl rfl) ?_
    show Goes p e below _ T104 (mkF m 182 #[.val (.int a1), .val (.int a2), .val (.int a3), .val (.int a4), .val (.int a5), .val (.long q6), .second, .val (.int f6), .val (.int (4 : Int32)), .val (.ref b1), .val (.ref b8), .val (.int (if a5 = a1 then (1 : Int32) else (0 : Int32))), .val (.ref b96), .unset] [(.ref b8), (.int a1), (.ref b104), (.ref b104)])
    refine Goes.of (fun _ => XS.iconst X104.here hx rfl (hb hby at_182)) ?_
    show Goes p e below _ T104 (mkF m 183 #[.val (.int a1), .val (.int a2), .val (.int a3), .val (.int a4), .val (.int a5), .val (.long q6), .second, .val (.int f6), .val (.int (4 : Int32)), .val (.ref b1), .val (.ref b8), .val (.int (if a5 = a1 then (1 : Int32) else (0 : Int32))), .val (.ref b96), .unset] [(.int (1 : Int32)), (.ref b8), (.int a1), (.ref b104), (.ref b104)])
    refine goLdI (.int a2) X104 hx hZ eT104 V8 (by decide) (by decide) rfl (g := (mkF m 183 #[.val (.int a1), .val (.int a2), .val (.int a3), .val (.int a4), .val (.int a5), .val (.long q6), .second, .val (.int f6), .val (.int (4 : Int32)), .val (.ref b1), .val (.ref b8), .val (.int (if a5 = a1 then (1 : Int32) else (0 : Int32))), .val (.ref b96), .unset] [(.int (1 : Int32)), (.ref b8), (.int a1), (.ref b104), (.ref b104)])) rfl rfl (hb hby at_183) ?_
    show Goes p e below _ T104 (mkF m 184 #[.val (.int a1), .val (.int a2), .val (.int a3), .val (.int a4), .val (.int a5), .val (.long q6), .second, .val (.int f6), .val (.int (4 : Int32)), .val (.ref b1), .val (.ref b8), .val (.int (if a5 = a1 then (1 : Int32) else (0 : Int32))), .val (.ref b96), .unset] [(.int a2), (.int a1), (.ref b104), (.ref b104)])
    refine Goes.of (fun _ => XS.aload X104.here hx rfl (hb hby at_184) rfl rfl) ?_
    show Goes p e below _ T104 (mkF m 186 #[.val (.int a1), .val (.int a2), .val (.int a3), .val (.int a4), .val (.int a5), .val (.long q6), .second, .val (.int f6), .val (.int (4 : Int32)), .val (.ref b1), .val (.ref b8), .val (.int (if a5 = a1 then (1 : Int32) else (0 : Int32))), .val (.ref b96), .unset] [(.ref b8), (.int a2), (.int a1), (.ref b104), (.ref b104)])
    refine Goes.of (fun _ => XS.iconst X104.here hx rfl (hb hby at_186)) ?_
    show Goes p e below _ T104 (mkF m 187 #[.val (.int a1), .val (.int a2), .val (.int a3), .val (.int a4), .val (.int a5), .val (.long q6), .second, .val (.int f6), .val (.int (4 : Int32)), .val (.ref b1), .val (.ref b8), .val (.int (if a5 = a1 then (1 : Int32) else (0 : Int32))), .val (.ref b96), .unset] [(.int (2 : Int32)), (.ref b8), (.int a2), (.int a1), (.ref b104), (.ref b104)])
    refine goLdI (.int a3) X104 hx hZ eT104 V8 (by decide) (by decide) rfl (g := (mkF m 187 #[.val (.int a1), .val (.int a2), .val (.int a3), .val (.int a4), .val (.int a5), .val (.long q6), .second, .val (.int f6), .val (.int (4 : Int32)), .val (.ref b1), .val (.ref b8), .val (.int (if a5 = a1 then (1 : Int32) else (0 : Int32))), .val (.ref b96), .unset] [(.int (2 : Int32)), (.ref b8), (.int a2), (.int a1), (.ref b104), (.ref b104)])) rfl rfl (hb hby at_187) ?_
    show Goes p e below _ T104 (mkF m 188 #[.val (.int a1), .val (.int a2), .val (.int a3), .val (.int a4), .val (.int a5), .val (.long q6), .second, .val (.int f6), .val (.int (4 : Int32)), .val (.ref b1), .val (.ref b8), .val (.int (if a5 = a1 then (1 : Int32) else (0 : Int32))), .val (.ref b96), .unset] [(.int a3), (.int a2), (.int a1), (.ref b104), (.ref b104)])
    refine Goes.of (fun _ => XS.aload X104.here hx rfl (hb hby at_188) rfl rfl) ?_
    show Goes p e below _ T104 (mkF m 190 #[.val (.int a1), .val (.int a2), .val (.int a3), .val (.int a4), .val (.int a5), .val (.long q6), .second, .val (.int f6), .val (.int (4 : Int32)), .val (.ref b1), .val (.ref b8), .val (.int (if a5 = a1 then (1 : Int32) else (0 : Int32))), .val (.ref b96), .unset] [(.ref b8), (.int a3), (.int a2), (.int a1), (.ref b104), (.ref b104)])
    refine Goes.of (fun _ => XS.iconst X104.here hx rfl (hb hby at_190)) ?_
    show Goes p e below _ T104 (mkF m 191 #[.val (.int a1), .val (.int a2), .val (.int a3), .val (.int a4), .val (.int a5), .val (.long q6), .second, .val (.int f6), .val (.int (4 : Int32)), .val (.ref b1), .val (.ref b8), .val (.int (if a5 = a1 then (1 : Int32) else (0 : Int32))), .val (.ref b96), .unset] [(.int (3 : Int32)), (.ref b8), (.int a3), (.int a2), (.int a1), (.ref b104), (.ref b104)])
    refine goLdI (.int a4) X104 hx hZ eT104 V8 (by decide) (by decide) rfl (g := (mkF m 191 #[.val (.int a1), .val (.int a2), .val (.int a3), .val (.int a4), .val (.int a5), .val (.long q6), .second, .val (.int f6), .val (.int (4 : Int32)), .val (.ref b1), .val (.ref b8), .val (.int (if a5 = a1 then (1 : Int32) else (0 : Int32))), .val (.ref b96), .unset] [(.int (3 : Int32)), (.ref b8), (.int a3), (.int a2), (.int a1), (.ref b104), (.ref b104)])) rfl rfl (hb hby at_191) ?_
    show Goes p e below _ T104 (mkF m 192 #[.val (.int a1), .val (.int a2), .val (.int a3), .val (.int a4), .val (.int a5), .val (.long q6), .second, .val (.int f6), .val (.int (4 : Int32)), .val (.ref b1), .val (.ref b8), .val (.int (if a5 = a1 then (1 : Int32) else (0 : Int32))), .val (.ref b96), .unset] [(.int a4), (.int a3), (.int a2), (.int a1), (.ref b104), (.ref b104)])
    refine Goes.of (fun _ => XS.aload X104.here hx rfl (hb hby at_192) rfl rfl) ?_
    show Goes p e below _ T104 (mkF m 194 #[.val (.int a1), .val (.int a2), .val (.int a3), .val (.int a4), .val (.int a5), .val (.long q6), .second, .val (.int f6), .val (.int (4 : Int32)), .val (.ref b1), .val (.ref b8), .val (.int (if a5 = a1 then (1 : Int32) else (0 : Int32))), .val (.ref b96), .unset] [(.ref b8), (.int a4), (.int a3), (.int a2), (.int a1), (.ref b104), (.ref b104)])
    refine Goes.of (fun _ => XS.iconst X104.here hx rfl (hb hby at_194)) ?_
    show Goes p e below _ T104 (mkF m 195 #[.val (.int a1), .val (.int a2), .val (.int a3), .val (.int a4), .val (.int a5), .val (.long q6), .second, .val (.int f6), .val (.int (4 : Int32)), .val (.ref b1), .val (.ref b8), .val (.int (if a5 = a1 then (1 : Int32) else (0 : Int32))), .val (.ref b96), .unset] [(.int (4 : Int32)), (.ref b8), (.int a4), (.int a3), (.int a2), (.int a1), (.ref b104), (.ref b104)])
    refine goLdI (.int a1) X104 hx hZ eT104 V8 (by decide) (by decide) rfl (g := (mkF m 195 #[.val (.int a1), .val (.int a2), .val (.int a3), .val (.int a4), .val (.int a5), .val (.long q6), .second, .val (.int f6), .val (.int (4 : Int32)), .val (.ref b1), .val (.ref b8), .val (.int (if a5 = a1 then (1 : Int32) else (0 : Int32))), .val (.ref b96), .unset] [(.int (4 : Int32)), (.ref b8), (.int a4), (.int a3), (.int a2), (.int a1), (.ref b104), (.ref b104)])) rfl rfl (hb hby at_195) ?_
    show Goes p e below _ T104 (mkF m 196 #[.val (.int a1), .val (.int a2), .val (.int a3), .val (.int a4), .val (.int a5), .val (.long q6), .second, .val (.int f6), .val (.int (4 : Int32)), .val (.ref b1), .val (.ref b8), .val (.int (if a5 = a1 then (1 : Int32) else (0 : Int32))), .val (.ref b96), .unset] [(.int a1), (.int a4), (.int a3), (.int a2), (.int a1), (.ref b104), (.ref b104)])
    refine Goes.of (fun _ => XS.aload X104.here hx rfl (hb hby at_196) rfl rfl) ?_
    show Goes p e below _ T104 (mkF m 198 #[.val (.int a1), .val (.int a2), .val (.int a3), .val (.int a4), .val (.int a5), .val (.long q6), .second, .val (.int f6), .val (.int (4 : Int32)), .val (.ref b1), .val (.ref b8), .val (.int (if a5 = a1 then (1 : Int32) else (0 : Int32))), .val (.ref b96), .unset] [(.ref b8), (.int a1), (.int a4), (.int a3), (.int a2), (.int a1), (.ref b104), (.ref b104)])
    refine Goes.of (fun _ => XS.iconst X104.here hx rfl (hb hby at_198)) ?_
    show Goes p e below _ T104 (mkF m 199 #[.val (.int a1), .val (.int a2), .val (.int a3), .val (.int a4), .val (.int a5), .val (.long q6), .second, .val (.int f6), .val (.int (4 : Int32)), .val (.ref b1), .val (.ref b8), .val (.int (if a5 = a1 then (1 : Int32) else (0 : Int32))), .val (.ref b96), .unset] [(.int (5 : Int32)), (.ref b8), (.int a1), (.int a4), (.int a3), (.int a2), (.int a1), (.ref b104), (.ref b104)])
    refine goLdI (.int f6) X104 hx hZ eT104 V8 (by decide) (by decide) rfl (g := (mkF m 199 #[.val (.int a1), .val (.int a2), .val (.int a3), .val (.int a4), .val (.int a5), .val (.long q6), .second, .val (.int f6), .val (.int (4 : Int32)), .val (.ref b1), .val (.ref b8), .val (.int (if a5 = a1 then (1 : Int32) else (0 : Int32))), .val (.ref b96), .unset] [(.int (5 : Int32)), (.ref b8), (.int a1), (.int a4), (.int a3), (.int a2), (.int a1), (.ref b104), (.ref b104)])) rfl rfl (hb hby at_199) ?_
    show Goes p e below _ T104 (mkF m 200 #[.val (.int a1), .val (.int a2), .val (.int a3), .val (.int a4), .val (.int a5), .val (.long q6), .second, .val (.int f6), .val (.int (4 : Int32)), .val (.ref b1), .val (.ref b8), .val (.int (if a5 = a1 then (1 : Int32) else (0 : Int32))), .val (.ref b96), .unset] [(.int f6), (.int a1), (.int a4), (.int a3), (.int a2), (.int a1), (.ref b104), (.ref b104)])
    refine goSpecial 1 X104 hx hZ rfl hown (hw _ (List.mem_of_getElem? (i := 4) rfl)) (hw _ (List.mem_of_getElem? (i := 5) rfl)) (hw _ (List.mem_of_getElem? (i := 3) rfl)) (hw _ (List.mem_of_getElem? (i := 6) rfl)) (by decide) (rm_init l Z a0 hw b104 a1 a2 a3 a4 a1 f6 h104 n0 O0 g_b104 A104 F104_leftSideBearing F104_rightSideBearing F104_characterWidth F104_ascent F104_descent F104_attributes) eT104 (g := (mkF m 200 #[.val (.int a1), .val (.int a2), .val (.int a3), .val (.int a4), .val (.int a5), .val (.long q6), .second, .val (.int f6), .val (.int (4 : Int32)), .val (.ref b1), .val (.ref b8), .val (.int (if a5 = a1 then (1 : Int32) else (0 : Int32))), .val (.ref b96), .unset] [(.int f6), (.int a1), (.int a4), (.int a3), (.int a2), (.int a1), (.ref b104), (.ref b104)])) rfl (by rw [hml]; rfl) b104 [(.int a1), (.int a2), (.int a3), (.int a4), (.int a1), (.int f6)] [(.ref b104)] (lenOf pd__IIIIII_V rfl) rfl rfl (by show 2 * 0 + _ ≤ _; exact Nat.le_of_eq rfl) (hb hby at_200) (by decide) (by decide) (by decide) (by decide) ?_
    intro v111 T111 L111 X111 q111
    obtain ⟨rfl, Nq111, Kq111, H0_111, H1_111, H2_111, H3_111, H4_111, H5_111⟩ := q111
    have N111 := Fr.app N103 Nq111
    have V1 := V1.keep Kq111 (ninS ne_b1_b104 nin0)
    have A1 := A1.keep Kq111
    have V8 := V8.keep Kq111 (ninS ne_b8_b104 nin0)
    have A8 := A8.keep Kq111
    have A96 := A96.keep Kq111
    have H0_103 := H0_103.keep Kq111 (ninS ne_b96_b104 nin0)
    have H1_103 := H1_103.keep Kq111 (ninS ne_b96_b104 nin0)
    have H2_103 := H2_103.keep Kq111 (ninS ne_b96_b104 nin0)
    have H3_103 := H3_103.keep Kq111 (ninS ne_b96_b104 nin0)
    have H4_103 := H4_103.keep Kq111 (ninS ne_b96_b104 nin0)
    have H5_103 := H5_103.keep Kq111 (ninS ne_b96_b104 nin0)
    have A104 := A104.keep Kq111
    have O0 := O0.keep Kq111 (allS g_b104 all0)
    show Goes p e below _ T111 (mkF m 203 #[.val (.int a1), .val (.int a2), .val (.int a3), .val (.int a4), .val (.int a5), .val (.long q6), .second, .val (.int f6), .val (.int (4 : Int32)), .val (.ref b1), .val (.ref b8), .val (.int (if a5 = a1 then (1 : Int32) else (0 : Int32))), .val (.ref b96), .unset] [(.ref b104)])
    refine Goes.of (fun _ => XS.astore X111.here hx rfl (hb hby at_203) rfl rfl (l' := #[.val (.int a1), .val (.int a2), .val (.int a3), .val (.int a4), .val (.int a5), .val (.long q6), .second, .val (.int f6), .val (.int (4 : Int32)), .val (.ref b1), .val (.ref b8), .val (.int (if a5 = a1 then (1 : Int32) else (0 : Int32))), .val (.ref b96), .val (.ref b104)]) rfl) ?_
    show Goes p e below _ T111 (mkF m 205 #[.val (.int a1), .val (.int a2), .val (.int a3), .val (.int a4), .val (.int a5), .val (.long q6), .second, .val (.int f6), .val (.int (4 : Int32)), .val (.ref b1), .val (.ref b8), .val (.int (if a5 = a1 then (1 : Int32) else (0 : Int32))), .val (.ref b96), .val (.ref b104)] [])
    refine Goes.of (fun _ => XS.iload X111.here hx rfl (hb hby at_205) rfl) ?_
    show Goes p e below _ T111 (mkF m 207 #[.val (.int a1), .val (.int a2), .val (.int a3), .val (.int a4), .val (.int a5), .val (.long q6), .second, .val (.int f6), .val (.int (4 : Int32)), .val (.ref b1), .val (.ref b8), .val (.int (if a5 = a1 then (1 : Int32) else (0 : Int32))), .val (.ref b96), .val (.ref b104)] [(.int (4 : Int32))])
    refine Goes.of (fun _ => XS.bipush X111.here hx rfl (hb hby at_207)) ?_
    show Goes p e below _ T111 (mkF m 209 #[.val (.int a1), .val (.int a2), .val (.int a3), .val (.int a4), .val (.int a5), .val (.long q6), .second, .val (.int f6), .val (.int (4 : Int32)), .val (.ref b1), .val (.ref b8), .val (.int (if a5 = a1 then (1 : Int32) else (0 : Int32))), .val (.ref b96), .val (.ref b104)] [(.int (7 : Int32)), (.int (4 : Int32))])
    refine Goes.of (fun _ => XS.icmpYes X111.here hx rfl (pc0 := 209) (pc' := 249) rfl (hb hby at_209) rfl (feq (by decide)).2 (by decide) (by decide)) ?_
    show Goes p e below _ T111 (mkF m 249 #[.val (.int a1), .val (.int a2), .val (.int a3), .val (.int a4), .val (.int a5), .val (.long q6), .second, .val (.int f6), .val (.int (4 : Int32)), .val (.ref b1), .val (.ref b8), .val (.int (if a5 = a1 then (1 : Int32) else (0 : Int32))), .val (.ref b96), .val (.ref b104)] [])
    refine Goes.of (fun _ => XS.aload X111.here hx rfl (hb hby at_249) rfl rfl) ?_
    show Goes p e below _ T111 (mkF m 251 #[.val (.int a1), .val (.int a2), .val (.int a3), .val (.int a4), .val (.int a5), .val (.long q6), .second, .val (.int f6), .val (.int (4 : Int32)), .val (.ref b1), .val (.ref b8), .val (.int (if a5 = a1 then (1 : Int32) else (0 : Int32))), .val (.ref b96), .val (.ref b104)] [(.ref b96)])
    refine Goes.of (fun _ => XS.aload X111.here hx rfl (hb hby at_251) rfl rfl) ?_
    show Goes p e below _ T111 (mkF m 253 #[.val (.int a1), .val (.int a2), .val (.int a3), .val (.int a4), .val (.int a5), .val (.long q6), .second, .val (.int f6), .val (.int (4 : Int32)), .val (.ref b1), .val (.ref b8), .val (.int (if a5 = a1 then (1 : Int32) else (0 : Int32))), .val (.ref b96), .val (.ref b104)] [(.ref b104), (.ref b96)])
    refine goVirtual 0 X111 hx hZ hown (hw _ (List.mem_of_getElem? (i := 22) rfl)) (hw _ (List.mem_of_getElem? (i := 23) rfl)) (notFace_of_selects (args := #[]) (mvT hZ (hw _ (List.mem_of_getElem? (i := 25) rfl)))) (hw _ (List.mem_of_getElem? (i := 25) rfl)) (hw _ (List.mem_of_getElem? (i := 24) rfl)) (hw _ (List.mem_of_getElem? (i := 3) rfl)) (hw _ (List.mem_of_getElem? (i := 26) rfl)) (by decide) (rm_eq l Z a0 hw b96 b104 a1 a2 a3 a4 a5 f6 a1 a2 a3 a4 a1 f6 T111.heap n0 O0 A104 H0_103 H1_103 H2_103 H3_103 H4_103 H5_103 H0_111 H1_111 H2_111 H3_111 H4_111 H5_111) (rfl : T111.heap = _) A96 (g := (mkF m 253 #[.val (.int a1), .val (.int a2), .val (.int a3), .val (.int a4), .val (.int a5), .val (.long q6), .second, .val (.int f6), .val (.int (4 : Int32)), .val (.ref b1), .val (.ref b8), .val (.int (if a5 = a1 then (1 : Int32) else (0 : Int32))), .val (.ref b96), .val (.ref b104)] [(.ref b104), (.ref b96)])) rfl (by rw [hml]; rfl) [(.ref b104)] [] (lenOf pd__Ljava_lang_Object__Z rfl) rfl rfl (by show 2 * 0 + _ ≤ _; exact Nat.le_of_eq rfl) (hb hby at_253) (by decide) (by decide) (by decide) (by decide) ?_
    intro v112 T112 L112 X112 q112
    obtain ⟨rfl, Nq112, eT112⟩ := q112
    have N112 := Fr.app N111 Nq112
    show Goes p e below _ T112 (mkF m 256 #[.val (.int a1), .val (.int a2), .val (.int a3), .val (.int a4), .val (.int a5), .val (.long q6), .second, .val (.int f6), .val (.int (4 : Int32)), .val (.ref b1), .val (.ref b8), .val (.int (if a5 = a1 then (1 : Int32) else (0 : Int32))), .val (.ref b96), .val (.ref b104)] [(.int (eq6 a1 a2 a3 a4 a5 f6 a1 a2 a3 a4 a1 f6))])
    refine Goes.of (fun _ => XS.iload X112.here hx rfl (hb hby at_256) rfl) ?_
    show Goes p e below _ T112 (mkF m 258 #[.val (.int a1), .val (.int a2), .val (.int a3), .val (.int a4), .val (.int a5), .val (.long q6), .second, .val (.int f6), .val (.int (4 : Int32)), .val (.ref b1), .val (.ref b8), .val (.int (if a5 = a1 then (1 : Int32) else (0 : Int32))), .val (.ref b96), .val (.ref b104)] [(.int (if a5 = a1 then (1 : Int32) else (0 : Int32))), (.int (eq6 a1 a2 a3 a4 a5 f6 a1 a2 a3 a4 a1 f6))])
    refine Goes.of (fun _ => XS.icmpNo X112.here hx rfl (hb hby at_258) rfl (teq (by by_cases hh : a5 = a1 <;> simp [eq6, hh, eq_comm])).2) ?_
    show Goes p e below _ T112 (mkF m 261 #[.val (.int a1), .val (.int a2), .val (.int a3), .val (.int a4), .val (.int a5), .val (.long q6), .second, .val (.int f6), .val (.int (4 : Int32)), .val (.ref b1), .val (.ref b8), .val (.int (if a5 = a1 then (1 : Int32) else (0 : Int32))), .val (.ref b96), .val (.ref b104)] [])
    refine Goes.of (fun _ => XS.aload X112.here hx rfl (hb hby at_261) rfl rfl) ?_
    show Goes p e below _ T112 (mkF m 263 #[.val (.int a1), .val (.int a2), .val (.int a3), .val (.int a4), .val (.int a5), .val (.long q6), .second, .val (.int f6), .val (.int (4 : Int32)), .val (.ref b1), .val (.ref b8), .val (.int (if a5 = a1 then (1 : Int32) else (0 : Int32))), .val (.ref b96), .val (.ref b104)] [(.ref b104)])
    refine Goes.of (fun _ => XS.aload X112.here hx rfl (hb hby at_263) rfl rfl) ?_
    show Goes p e below _ T112 (mkF m 265 #[.val (.int a1), .val (.int a2), .val (.int a3), .val (.int a4), .val (.int a5), .val (.long q6), .second, .val (.int f6), .val (.int (4 : Int32)), .val (.ref b1), .val (.ref b8), .val (.int (if a5 = a1 then (1 : Int32) else (0 : Int32))), .val (.ref b96), .val (.ref b104)] [(.ref b96), (.ref b104)])
    refine goVirtual 0 X112 hx hZ hown (hw _ (List.mem_of_getElem? (i := 22) rfl)) (hw _ (List.mem_of_getElem? (i := 23) rfl)) (notFace_of_selects (args := #[]) (mvT hZ (hw _ (List.mem_of_getElem? (i := 25) rfl)))) (hw _ (List.mem_of_getElem? (i := 25) rfl)) (hw _ (List.mem_of_getElem? (i := 24) rfl)) (hw _ (List.mem_of_getElem? (i := 3) rfl)) (hw _ (List.mem_of_getElem? (i := 26) rfl)) (by decide) (rm_eq l Z a0 hw b104 b96 a1 a2 a3 a4 a1 f6 a1 a2 a3 a4 a5 f6 T111.heap n0 O0 A96 H0_111 H1_111 H2_111 H3_111 H4_111 H5_111 H0_103 H1_103 H2_103 H3_103 H4_103 H5_103) eT112 A104 (g := (mkF m 265 #[.val (.int a1), .val (.int a2), .val (.int a3), .val (.int a4), .val (.int a5), .val (.long q6), .second, .val (.int f6), .val (.int (4 : Int32)), .val (.ref b1), .val (.ref b8), .val (.int (if a5 = a1 then (1 : Int32) else (0 : Int32))), .val (.ref b96), .val (.ref b104)] [(.ref b96), (.ref b104)])) rfl (by rw [hml]; rfl) [(.ref b96)] [] (lenOf pd__Ljava_lang_Object__Z rfl) rfl rfl (by show 2 * 0 + _ ≤ _; exact Nat.le_of_eq rfl) (hb hby at_265) (by decide) (by decide) (by decide) (by decide) ?_
    intro v113 T113 L113 X113 q113
    obtain ⟨rfl, Nq113, eT113⟩ := q113
    have N113 := Fr.app N112 Nq113
    show Goes p e below _ T113 (mkF m 268 #[.val (.int a1), .val (.int a2), .val (.int a3), .val (.int a4), .val (.int a5), .val (.long q6), .second, .val (.int f6), .val (.int (4 : Int32)), .val (.ref b1), .val (.ref b8), .val (.int (if a5 = a1 then (1 : Int32) else (0 : Int32))), .val (.ref b96), .val (.ref b104)] [(.int (eq6 a1 a2 a3 a4 a1 f6 a1 a2 a3 a4 a5 f6))])
    refine Goes.of (fun _ => XS.iload X113.here hx rfl (hb hby at_268) rfl) ?_
    show Goes p e below _ T113 (mkF m 270 #[.val (.int a1), .val (.int a2), .val (.int a3), .val (.int a4), .val (.int a5), .val (.long q6), .second, .val (.int f6), .val (.int (4 : Int32)), .val (.ref b1), .val (.ref b8), .val (.int (if a5 = a1 then (1 : Int32) else (0 : Int32))), .val (.ref b96), .val (.ref b104)] [(.int (if a5 = a1 then (1 : Int32) else (0 : Int32))), (.int (eq6 a1 a2 a3 a4 a1 f6 a1 a2 a3 a4 a5 f6))])
    refine Goes.of (fun _ => XS.icmpNo X113.here hx rfl (hb hby at_270) rfl (teq (by by_cases hh : a5 = a1; (· simp [eq6, hh]); (· simp [eq6, hh, Ne.symm hh]))).2) ?_
    show Goes p e below _ T113 (mkF m 273 #[.val (.int a1), .val (.int a2), .val (.int a3), .val (.int a4), .val (.int a5), .val (.long q6), .second, .val (.int f6), .val (.int (4 : Int32)), .val (.ref b1), .val (.ref b8), .val (.int (if a5 = a1 then (1 : Int32) else (0 : Int32))), .val (.ref b96), .val (.ref b104)] [])
    refine Goes.of (fun _ => XS.iconst X113.here hx rfl (hb hby at_273)) ?_
    show Goes p e below _ T113 (mkF m 274 #[.val (.int a1), .val (.int a2), .val (.int a3), .val (.int a4), .val (.int a5), .val (.long q6), .second, .val (.int f6), .val (.int (4 : Int32)), .val (.ref b1), .val (.ref b8), .val (.int (if a5 = a1 then (1 : Int32) else (0 : Int32))), .val (.ref b96), .val (.ref b104)] [(.int (1 : Int32))])
    refine Goes.of (fun _ => XS.goto X113.here hx rfl (pc0 := 274) (pc' := 278) rfl (hb hby at_274) (by decide) (by decide)) ?_
    show Goes p e below _ T113 (mkF m 278 #[.val (.int a1), .val (.int a2), .val (.int a3), .val (.int a4), .val (.int a5), .val (.long q6), .second, .val (.int f6), .val (.int (4 : Int32)), .val (.ref b1), .val (.ref b8), .val (.int (if a5 = a1 then (1 : Int32) else (0 : Int32))), .val (.ref b96), .val (.ref b104)] [(.int (1 : Int32))])
    exact retZ (t := .boolean) X113 hx hret hlk (by simp) (hb hby at_278) eT113 (by decide) (by decide) ⟨rfl, N113⟩
  · show Goes p e below _ T14 (mkF m 80 #[.val (.int a1), .val (.int a2), .val (.int a3), .val (.int a4), .val (.int a5), .val (.long q6), .second, .val (.int f6), .val (.int (5 : Int32)), .val (.ref b1), .val (.ref b8), .unset, .unset, .unset] [])
    refine Goes.of (fun _ => XS.iload X14.here hx rfl (hb hby at_80) rfl) ?_
    show Goes p e below _ T14 (mkF m 82 #[.val (.int a1), .val (.int a2), .val (.int a3), .val (.int a4), .val (.int a5), .val (.long q6), .second, .val (.int f6), .val (.int (5 : Int32)), .val (.ref b1), .val (.ref b8), .unset, .unset, .unset] [(.int (5 : Int32))])
    refine Goes.of (fun _ => XS.ifYes X14.here hx rfl (pc0 := 82) (pc' := 105) rfl (hb hby at_82) rfl ((if0 _ _).trans (feq (by decide)).2) (by decide) (by decide)) ?_
    show Goes p e below _ T14 (mkF m 105 #[.val (.int a1), .val (.int a2), .val (.int a3), .val (.int a4), .val (.int a5), .val (.long q6), .second, .val (.int f6), .val (.int (5 : Int32)), .val (.ref b1), .val (.ref b8), .unset, .unset, .unset] [])
    refine Goes.of (fun _ => XS.iload X14.here hx rfl (hb hby at_105) rfl) ?_
    show Goes p e below _ T14 (mkF m 107 #[.val (.int a1), .val (.int a2), .val (.int a3), .val (.int a4), .val (.int a5), .val (.long q6), .second, .val (.int f6), .val (.int (5 : Int32)), .val (.ref b1), .val (.ref b8), .unset, .unset, .unset] [(.int (5 : Int32))])
    refine Goes.of (fun _ => XS.iconst X14.here hx rfl (hb hby at_107)) ?_
    show Goes p e below _ T14 (mkF m 108 #[.val (.int a1), .val (.int a2), .val (.int a3), .val (.int a4), .val (.int a5), .val (.long q6), .second, .val (.int f6), .val (.int (5 : Int32)), .val (.ref b1), .val (.ref b8), .unset, .unset, .unset] [(.int (5 : Int32)), (.int (5 : Int32))])
    refine Goes.of (fun _ => XS.icmpNo X14.here hx rfl (hb hby at_108) rfl (flt (by decide)).2.2.1) ?_
    show Goes p e below _ T14 (mkF m 111 #[.val (.int a1), .val (.int a2), .val (.int a3), .val (.int a4), .val (.int a5), .val (.long q6), .second, .val (.int f6), .val (.int (5 : Int32)), .val (.ref b1), .val (.ref b8), .unset, .unset, .unset] [])
    refine Goes.of (fun _ => XS.aload X14.here hx rfl (hb hby at_111) rfl rfl) ?_
    show Goes p e below _ T14 (mkF m 113 #[.val (.int a1), .val (.int a2), .val (.int a3), .val (.int a4), .val (.int a5), .val (.long q6), .second, .val (.int f6), .val (.int (5 : Int32)), .val (.ref b1), .val (.ref b8), .unset, .unset, .unset] [(.ref b8)])
    refine Goes.of (fun _ => XS.iload X14.here hx rfl (hb hby at_113) rfl) ?_
    show Goes p e below _ T14 (mkF m 115 #[.val (.int a1), .val (.int a2), .val (.int a3), .val (.int a4), .val (.int a5), .val (.long q6), .second, .val (.int f6), .val (.int (5 : Int32)), .val (.ref b1), .val (.ref b8), .unset, .unset, .unset] [(.int (5 : Int32)), (.ref b8)])
    refine Goes.of (fun _ => XS.iloadN X14.here hx rfl (hb hby at_115) rfl) ?_
    show Goes p e below _ T14 (mkF m 116 #[.val (.int a1), .val (.int a2), .val (.int a3), .val (.int a4), .val (.int a5), .val (.long q6), .second, .val (.int f6), .val (.int (5 : Int32)), .val (.ref b1), .val (.ref b8), .unset, .unset, .unset] [(.int a1), (.int (5 : Int32)), (.ref b8)])
    refine goStI 5 X14 hx hZ eT14 V8 (by decide) (by decide) rfl (Nat.lt_of_lt_of_le (Nat.lt_succ_self _) (Nat.le_of_ble_eq_true rfl)) (g := (mkF m 116 #[.val (.int a1), .val (.int a2), .val (.int a3), .val (.int a4), .val (.int a5), .val (.long q6), .second, .val (.int f6), .val (.int (5 : Int32)), .val (.ref b1), .val (.ref b8), .unset, .unset, .unset] [(.int a1), (.int (5 : Int32)), (.ref b8)])) rfl rfl (hb hby at_116) ?_
    intro T114 h114 X114 eT114 W114 V8
    have N114 := Fr.snoc X114 N14 g_b8
    have V1 := V1.other W114 ne_b1_b8
    have A1 := A1.wr W114
    have A8 := A8.wr W114
    have O0 := O0.wr W114 g_b8
    have V8 : Arv Z h114 b8 kA8 .int (6 : Int32) [(.int a1), (.int a2), (.int a3), (.int a4), (.int a5), (.int a1)] (.int (0 : Int32)) := V8
    show Goes p e below _ T114 (mkF m 117 #[.val (.int a1), .val (.int a2), .val (.int a3), .val (.int a4), .val (.int a5), .val (.long q6), .second, .val (.int f6), .val (.int (5 : Int32)), .val (.ref b1), .val (.ref b8), .unset, .unset, .unset] [])
    refine Goes.of (fun _ => XS.aload X114.here hx rfl (hb hby at_117) rfl rfl) ?_
    show Goes p e below _ T114 (mkF m 119 #[.val (.int a1), .val (.int a2), .val (.int a3), .val (.int a4), .val (.int a5), .val (.long q6), .second, .val (.int f6), .val (.int (5 : Int32)), .val (.ref b1), .val (.ref b8), .unset, .unset, .unset] [(.ref b1)])
    refine Goes.of (fun _ => XS.iload X114.here hx rfl (hb hby at_119) rfl) ?_
    show Goes p e below _ T114 (mkF m 121 #[.val (.int a1), .val (.int a2), .val (.int a3), .val (.int a4), .val (.int a5), .val (.long q6), .second, .val (.int f6), .val (.int (5 : Int32)), .val (.ref b1), .val (.ref b8), .unset, .unset, .unset] [(.int (5 : Int32)), (.ref b1)])
    refine goLdI (.int f6) X114 hx hZ eT114 V1 (by decide) (by decide) rfl (g := (mkF m 121 #[.val (.int a1), .val (.int a2), .val (.int a3), .val (.int a4), .val (.int a5), .val (.long q6), .second, .val (.int f6), .val (.int (5 : Int32)), .val (.ref b1), .val (.ref b8), .unset, .unset, .unset] [(.int (5 : Int32)), (.ref b1)])) rfl rfl (hb hby at_121) ?_
    show Goes p e below _ T114 (mkF m 122 #[.val (.int a1), .val (.int a2), .val (.int a3), .val (.int a4), .val (.int a5), .val (.long q6), .second, .val (.int f6), .val (.int (5 : Int32)), .val (.ref b1), .val (.ref b8), .unset, .unset, .unset] [(.int f6)])
    refine Goes.of (fun _ => XS.iloadN X114.here hx rfl (hb hby at_122) rfl) ?_
    show Goes p e below _ T114 (mkF m 123 #[.val (.int a1), .val (.int a2), .val (.int a3), .val (.int a4), .val (.int a5), .val (.long q6), .second, .val (.int f6), .val (.int (5 : Int32)), .val (.ref b1), .val (.ref b8), .unset, .unset, .unset] [(.int a1), (.int f6)])
    refine Goes.of (T' := T114) (f' := (mkF m 131 #[.val (.int a1), .val (.int a2), .val (.int a3), .val (.int a4), .val (.int a5), .val (.long q6), .second, .val (.int f6), .val (.int (5 : Int32)), .val (.ref b1), .val (.ref b8), .unset, .unset, .unset] [(.int (if f6 = a1 then (1 : Int32) else (0 : Int32)))])) (fun t kt => ?_) ?_
    · show Steps p.tables e below (T114.setTop (mkF m 123 #[.val (.int a1), .val (.int a2), .val (.int a3), .val (.int a4), .val (.int a5), .val (.long q6), .second, .val (.int f6), .val (.int (5 : Int32)), .val (.ref b1), .val (.ref b8), .unset, .unset, .unset] [(.int a1), (.int f6)])) _
      by_cases hq123 : f6 = a1
      · simp only [if_pos hq123] at kt
        refine XS.icmpNo X114.here hx rfl (hb hby at_123) rfl (teq hq123).2 ?_
        show Steps p.tables e below (T114.setTop (mkF m 126 #[.val (.int a1), .val (.int a2), .val (.int a3), .val (.int a4), .val (.int a5), .val (.long q6), .second, .val (.int f6), .val (.int (5 : Int32)), .val (.ref b1), .val (.ref b8), .unset, .unset, .unset] [])) _
        refine XS.iconst X114.here hx rfl (hb hby at_126) ?_
        show Steps p.tables e below (T114.setTop (mkF m 127 #[.val (.int a1), .val (.int a2), .val (.int a3), .val (.int a4), .val (.int a5), .val (.long q6), .second, .val (.int f6), .val (.int (5 : Int32)), .val (.ref b1), .val (.ref b8), .unset, .unset, .unset] [(.int (1 : Int32))])) _
        refine XS.goto X114.here hx rfl (pc0 := 127) (pc' := 131) rfl (hb hby at_127) (by decide) (by decide) ?_
        show Steps p.tables e below (T114.setTop (mkF m 131 #[.val (.int a1), .val (.int a2), .val (.int a3), .val (.int a4), .val (.int a5), .val (.long q6), .second, .val (.int f6), .val (.int (5 : Int32)), .val (.ref b1), .val (.ref b8), .unset, .unset, .unset] [(.int (1 : Int32))])) _
        exact kt
      · simp only [if_neg hq123] at kt
        refine XS.icmpYes X114.here hx rfl (pc0 := 123) (pc' := 130) rfl (hb hby at_123) rfl (feq hq123).2 (by decide) (by decide) ?_
        show Steps p.tables e below (T114.setTop (mkF m 130 #[.val (.int a1), .val (.int a2), .val (.int a3), .val (.int a4), .val (.int a5), .val (.long q6), .second, .val (.int f6), .val (.int (5 : Int32)), .val (.ref b1), .val (.ref b8), .unset, .unset, .unset] [])) _
        refine XS.iconst X114.here hx rfl (hb hby at_130) ?_
        show Steps p.tables e below (T114.setTop (mkF m 131 #[.val (.int a1), .val (.int a2), .val (.int a3), .val (.int a4), .val (.int a5), .val (.long q6), .second, .val (.int f6), .val (.int (5 : Int32)), .val (.ref b1), .val (.ref b8), .unset, .unset, .unset] [(.int (0 : Int32))])) _
        exact kt
    show Goes p e below _ T114 (mkF m 131 #[.val (.int a1), .val (.int a2), .val (.int a3), .val (.int a4), .val (.int a5), .val (.long q6), .second, .val (.int f6), .val (.int (5 : Int32)), .val (.ref b1), .val (.ref b8), .unset, .unset, .unset] [(.int (if f6 = a1 then (1 : Int32) else (0 : Int32)))])
    refine Goes.of (fun _ => XS.istore X114.here hx rfl (hb hby at_131) rfl (l' := #[.val (.int a1), .val (.int a2), .val (.int a3), .val (.int a4), .val (.int a5), .val (.long q6), .second, .val (.int f6), .val (.int (5 : Int32)), .val (.ref b1), .val (.ref b8), .val (.int (if f6 = a1 then (1 : Int32) else (0 : Int32))), .unset, .unset]) rfl) ?_
    show Goes p e below _ T114 (mkF m 133 #[.val (.int a1), .val (.int a2), .val (.int a3), .val (.int a4), .val (.int a5), .val (.long q6), .second, .val (.int f6), .val (.int (5 : Int32)), .val (.ref b1), .val (.ref b8), .val (.int (if f6 = a1 then (1 : Int32) else (0 : Int32))), .unset, .unset] [])
    refine Goes.of (fun _ => XS.goto X114.here hx rfl (pc0 := 133) (pc' := 139) rfl (hb hby at_133) (by decide) (by decide)) ?_
    show Goes p e below _ T114 (mkF m 139 #[.val (.int a1), .val (.int a2), .val (.int a3), .val (.int a4), .val (.int a5), .val (.long q6), .second, .val (.int f6), .val (.int (5 : Int32)), .val (.ref b1), .val (.ref b8), .val (.int (if f6 = a1 then (1 : Int32) else (0 : Int32))), .unset, .unset] [])
    refine goNew X114 hx hZ hown (hw _ (List.mem_of_getElem? (i := 1) rfl)) (hw _ (List.mem_of_getElem? (i := 2) rfl)) (hw _ (List.mem_of_getElem? (i := 3) rfl)) eT114 (g := (mkF m 139 #[.val (.int a1), .val (.int a2), .val (.int a3), .val (.int a4), .val (.int a5), .val (.long q6), .second, .val (.int f6), .val (.int (5 : Int32)), .val (.ref b1), .val (.ref b8), .val (.int (if f6 = a1 then (1 : Int32) else (0 : Int32))), .unset, .unset] [])) rfl (hb hby at_139) (by decide) (by decide) ?_
    intro T116 h116 b116 X116 eT116 E116 hb116 A116 D116
    have g_b116 : n0 ≤ b116 := Nat.le_trans (oldLe O0) hb116
    have ne_b1_b116 : b1 ≠ b116 := Nat.ne_of_lt (Nat.lt_of_lt_of_le V1.lt hb116)
    have ne_b8_b116 : b8 ≠ b116 := Nat.ne_of_lt (Nat.lt_of_lt_of_le V8.lt hb116)
    have V1 := V1.ext E116
    have A1 := A1.ext E116
    have V8 := V8.ext E116
    have A8 := A8.ext E116
    have O0 := O0.ext E116
    have F116_leftSideBearing : Fld Z h116 b116 "com/example/casement/casement/graphics/CharMetrics" "leftSideBearing" "I" (.int (0 : Int32)) := D116 (Or.inr (hw _ (List.mem_of_getElem? (i := 11) rfl))) (ty := .int) (by decide)
    have F116_rightSideBearing : Fld Z h116 b116 "com/example/casement/casement/graphics/CharMetrics" "rightSideBearing" "I" (.int (0 : Int32)) := D116 (Or.inr (hw _ (List.mem_of_getElem? (i := 13) rfl))) (ty := .int) (by decide)
    have F116_characterWidth : Fld Z h116 b116 "com/example/casement/casement/graphics/CharMetrics" "characterWidth" "I" (.int (0 : Int32)) := D116 (Or.inr (hw _ (List.mem_of_getElem? (i := 15) rfl))) (ty := .int) (by decide)
    have F116_ascent : Fld Z h116 b116 "com/example/casement/casement/graphics/CharMetrics" "ascent" "I" (.int (0 : Int32)) := D116 (Or.inr (hw _ (List.mem_of_getElem? (i := 17) rfl))) (ty := .int) (by decide)
    have F116_descent : Fld Z h116 b116 "com/example/casement/casement/graphics/CharMetrics" "descent" "I" (.int (0 : Int32)) := D116 (Or.inr (hw _ (List.mem_of_getElem? (i := 19) rfl))) (ty := .int) (by decide)
    have F116_attributes : Fld Z h116 b116 "com/example/casement/casement/graphics/CharMetrics" "attributes" "I" (.int (0 : Int32)) := D116 (Or.inr (hw _ (List.mem_of_getElem? (i := 21) rfl))) (ty := .int) (by decide)
    show Goes p e below _ T116 (mkF m 142 #[.val (.int a1), .val (.int a2), .val (.int a3), .val (.int a4), .val (.int a5), .val (.long q6), .second, .val (.int f6), .val (.int (5 : Int32)), .val (.ref b1), .val (.ref b8), .val (.int (if f6 = a1 then (1 : Int32) else (0 : Int32))), .unset, .unset] [(.ref b116)])
    refine Goes.of (fun _ => XS.dup X116.here hx rfl (hb hby at_142) rfl rfl) ?_
    show Goes p e below _ T116 (mkF m 143 #[.val (.int a1), .val (.int a2), .val (.int a3), .val (.int a4), .val (.int a5), .val (.long q6), .second, .val (.int f6), .val (.int (5 : Int32)), .val (.ref b1), .val (.ref b8), .val (.int (if f6 = a1 then (1 : Int32) else (0 : Int32))), .unset, .unset] [(.ref b116), (.ref b116)])
    refine Goes.of (fun _ => XS.aload X116.here hx rfl (hb hby at_143) rfl rfl) ?_
    show Goes p e below _ T116 (mkF m 145 #[.val (.int a1), .val (.int a2), .val (.int a3), .val (.int a4), .val (.int a5), .val (.long q6), .second, .val (.int f6), .val (.int (5 : Int32)), .val (.ref b1), .val (.ref b8), .val (.int (if f6 = a1 then (1 : Int32) else (0 : Int32))), .unset, .unset] [(.ref b1), (.ref b116), (.ref b116)])
    refine Goes.of (fun _ => XS.iconst X116.here hx rfl (hb hby at_145)) ?_
    show Goes p e below _ T116 (mkF m 146 #[.val (.int a1), .val (.int a2), .val (.int a3), .val (.int a4), .val (.int a5), .val (.long q6), .second, .val (.int f6), .val (.int (5 : Int32)), .val (.ref b1), .val (.ref b8), .val (.int (if f6 = a1 then (1 : Int32) else (0 : Int32))), .unset, .unset] [(.int (0 : Int32)), (.ref b1), (.ref b116), (.ref b116)])
    refine goLdI (.int a1) X116 hx hZ eT116 V1 (by decide) (by decide) rfl (g := (mkF m 146 #[.val (.int a1), .val (.int a2), .val (.int a3), .val (.int a4), .val (.int a5), .val (.long q6), .second, .val (.int f6), .val (.int (5 : Int32)), .val (.ref b1), .val (.ref b8), .val (.int (if f6 = a1 then (1 : Int32) else (0 : Int32))), .unset, .unset] [(.int (0 : Int32)), (.ref b1), (.ref b116), (.ref b116)])) rfl rfl (hb hby at_146) ?_
    show Goes p e below _ T116 (mkF m 147 #[.val (.int a1), .val (.int a2), .val (.int a3), .val (.int a4), .val (.int a5), .val (.long q6), .second, .val (.int f6), .val (.int (5 : Int32)), .val (.ref b1), .val (.ref b8), .val (.int (if f6 = a1 then (1 : Int32) else (0 : Int32))), .unset, .unset] [(.int a1), (.ref b116), (.ref b116)])
    refine Goes.of (fun _ => XS.aload X116.here hx rfl (hb hby at_147) rfl rfl) ?_
    show Goes p e below _ T116 (mkF m 149 #[.val (.int a1), .val (.int a2), .val (.int a3), .val (.int a4), .val (.int a5), .val (.long q6), .second, .val (.int f6), .val (.int (5 : Int32)), .val (.ref b1), .val (.ref b8), .val (.int (if f6 = a1 then (1 : Int32) else (0 : Int32))), .unset, .unset] [(.ref b1), (.int a1), (.ref b116), (.ref b116)])
    refine Goes.of (fun _ => XS.iconst X116.here hx rfl (hb hby at_149)) ?_
    show Goes p e below _ T116 (mkF m 150 #[.val (.int a1), .val (.int a2), .val (.int a3), .val (.int a4), .val (.int a5), .val (.long q6), .second, .val (.int f6), .val (.int (5 : Int32)), .val (.ref b1), .val (.ref b8), .val (.int (if f6 = a1 then (1 : Int32) else (0 : Int32))), .unset, .unset] [(.int (1 : Int32)), (.ref b1), (.int a1), (.ref b116), (.ref b116)])
    refine goLdI (.int a2) X116 hx hZ eT116 V1 (by decide) (by decide) rfl (g := (mkF m 150 #[.val (.int a1), .val (.int a2), .val (.int a3), .val (.int a4), .val (.int a5), .val (.long q6), .second, .val (.int f6), .val (.int (5 : Int32)), .val (.ref b1), .val (.ref b8), .val (.int (if f6 = a1 then (1 : Int32) else (0 : Int32))), .unset, .unset] [(.int (1 : Int32)), (.ref b1), (.int a1), (.ref b116), (.ref b116)])) rfl rfl (hb hby at_150) ?_
    show Goes p e below _ T116 (mkF m 151 #[.val (.int a1), .val (.int a2), .val (.int a3), .val (.int a4), .val (.int a5), .val (.long q6), .second, .val (.int f6), .val (.int (5 : Int32)), .val (.ref b1), .val (.ref b8), .val (.int (if f6 = a1 then (1 : Int32) else (0 : Int32))), .unset, .unset] [(.int a2), (.int a1), (.ref b116), (.ref b116)])
    refine Goes.of (fun _ => XS.aload X116.here hx rfl (hb hby at_151) rfl rfl) ?_
    show Goes p e below _ T116 (mkF m 153 #[.val (.int a1), .val (.int a2), .val (.int a3), .val (.int a4), .val (.int a5), .val (.long q6), .second, .val (.int f6), .val (.int (5 : Int32)), .val (.ref b1), .val (.ref b8), .val (.int (if f6 = a1 then (1 : Int32) else (0 : Int32))), .unset, .unset] [(.ref b1), (.int a2), (.int a1), (.ref b116), (.ref b116)])
    refine Goes.of (fun _ => XS.iconst X116.here hx rfl (hb hby at_153)) ?_
    show Goes p e below _ T116 (mkF m 154 #[.val (.int a1), .val (.int a2), .val (.int a3), .val (.int a4), .val (.int a5), .val (.long q6), .second, .val (.int f6), .val (.int (5 : Int32)), .val (.ref b1), .val (.ref b8), .val (.int (if f6 = a1 then (1 : Int32) else (0 : Int32))), .unset, .unset] [(.int (2 : Int32)), (.ref b1), (.int a2), (.int a1), (.ref b116), (.ref b116)])
    refine goLdI (.int a3) X116 hx hZ eT116 V1 (by decide) (by decide) rfl (g := (mkF m 154 #[.val (.int a1), .val (.int a2), .val (.int a3), .val (.int a4), .val (.int a5), .val (.long q6), .second, .val (.int f6), .val (.int (5 : Int32)), .val (.ref b1), .val (.ref b8), .val (.int (if f6 = a1 then (1 : Int32) else (0 : Int32))), .unset, .unset] [(.int (2 : Int32)), (.ref b1), (.int a2), (.int a1), (.ref b116), (.ref b116)])) rfl rfl (hb hby at_154) ?_
    show Goes p e below _ T116 (mkF m 155 #[.val (.int a1), .val (.int a2), .val (.int a3), .val (.int a4), .val (.int a5), .val (.long q6), .second, .val (.int f6), .val (.int (5 : Int32)), .val (.ref b1), .val (.ref b8), .val (.int (if f6 = a1 then (1 : Int32) else (0 : Int32))), .unset, .unset] [(.int a3), (.int a2), (.int a1), (.ref b116), (.ref b116)])
    refine Goes.of (fun _ => XS.aload X116.here hx rfl (hb hby at_155) rfl rfl) ?_
    show Goes p e below _ T116 (mkF m 157 #[.val (.int a1), .val (.int a2), .val (.int a3), .val (.int a4), .val (.int a5), .val (.long q6), .second, .val (.int f6), .val (.int (5 : Int32)), .val (.ref b1), .val (.ref b8), .val (.int (if f6 = a1 then (1 : Int32) else (0 : Int32))), .unset, .unset] [(.ref b1), (.int a3), (.int a2), (.int a1), (.ref b116), (.ref b116)])
    refine Goes.of (fun _ => XS.iconst X116.here hx rfl (hb hby at_157)) ?_
    show Goes p e below _ T116 (mkF m 158 #[.val (.int a1), .val (.int a2), .val (.int a3), .val (.int a4), .val (.int a5), .val (.long q6), .second, .val (.int f6), .val (.int (5 : Int32)), .val (.ref b1), .val (.ref b8), .val (.int (if f6 = a1 then (1 : Int32) else (0 : Int32))), .unset, .unset] [(.int (3 : Int32)), (.ref b1), (.int a3), (.int a2), (.int a1), (.ref b116), (.ref b116)])
    refine goLdI (.int a4) X116 hx hZ eT116 V1 (by decide) (by decide) rfl (g := (mkF m 158 #[.val (.int a1), .val (.int a2), .val (.int a3), .val (.int a4), .val (.int a5), .val (.long q6), .second, .val (.int f6), .val (.int (5 : Int32)), .val (.ref b1), .val (.ref b8), .val (.int (if f6 = a1 then (1 : Int32) else (0 : Int32))), .unset, .unset] [(.int (3 : Int32)), (.ref b1), (.int a3), (.int a2), (.int a1), (.ref b116), (.ref b116)])) rfl rfl (hb hby at_158) ?_
    show Goes p e below _ T116 (mkF m 159 #[.val (.int a1), .val (.int a2), .val (.int a3), .val (.int a4), .val (.int a5), .val (.long q6), .second, .val (.int f6), .val (.int (5 : Int32)), .val (.ref b1), .val (.ref b8), .val (.int (if f6 = a1 then (1 : Int32) else (0 : Int32))), .unset, .unset] [(.int a4), (.int a3), (.int a2), (.int a1), (.ref b116), (.ref b116)])
    refine Goes.of (fun _ => XS.aload X116.here hx rfl (hb hby at_159) rfl rfl) ?_
    show Goes p e below _ T116 (mkF m 161 #[.val (.int a1), .val (.int a2), .val (.int a3), .val (.int a4), .val (.int a5), .val (.long q6), .second, .val (.int f6), .val (.int (5 : Int32)), .val (.ref b1), .val (.ref b8), .val (.int (if f6 = a1 then (1 : Int32) else (0 : Int32))), .unset, .unset] [(.ref b1), (.int a4), (.int a3), (.int a2), (.int a1), (.ref b116), (.ref b116)])
    refine Goes.of (fun _ => XS.iconst X116.here hx rfl (hb hby at_161)) ?_
    show Goes p e below _ T116 (mkF m 162 #[.val (.int a1), .val (.int a2), .val (.int a3), .val (.int a4), .val (.int a5), .val (.long q6), .second, .val (.int f6), .val (.int (5 : Int32)), .val (.ref b1), .val (.ref b8), .val (.int (if f6 = a1 then (1 : Int32) else (0 : Int32))), .unset, .unset] [(.int (4 : Int32)), (.ref b1), (.int a4), (.int a3), (.int a2), (.int a1), (.ref b116), (.ref b116)])
    refine goLdI (.int a5) X116 hx hZ eT116 V1 (by decide) (by decide) rfl (g := (mkF m 162 #[.val (.int a1), .val (.int a2), .val (.int a3), .val (.int a4), .val (.int a5), .val (.long q6), .second, .val (.int f6), .val (.int (5 : Int32)), .val (.ref b1), .val (.ref b8), .val (.int (if f6 = a1 then (1 : Int32) else (0 : Int32))), .unset, .unset] [(.int (4 : Int32)), (.ref b1), (.int a4), (.int a3), (.int a2), (.int a1), (.ref b116), (.ref b116)])) rfl rfl (hb hby at_162) ?_
    show Goes p e below _ T116 (mkF m 163 #[.val (.int a1), .val (.int a2), .val (.int a3), .val (.int a4), .val (.int a5), .val (.long q6), .second, .val (.int f6), .val (.int (5 : Int32)), .val (.ref b1), .val (.ref b8), .val (.int (if f6 = a1 then (1 : Int32) else (0 : Int32))), .unset, .unset] [(.int a5), (.int a4), (.int a3), (.int a2), (.int a1), (.ref b116), (.ref b116)])
    refine Goes.of (fun _ => XS.aload X116.here hx rfl (hb hby at_163) rfl rfl) ?_
    show Goes p e below _ T116 (mkF m 165 #[.val (.int a1), .val (.int a2), .val (.int a3), .val (.int a4), .val (.int a5), .val (.long q6), .second, .val (.int f6), .val (.int (5 : Int32)), .val (.ref b1), .val (.ref b8), .val (.int (if f6 = a1 then (1 : Int32) else (0 : Int32))), .unset, .unset] [(.ref b1), (.int a5), (.int a4), (.int a3), (.int a2), (.int a1), (.ref b116), (.ref b116)])
    refine Goes.of (fun _ => XS.iconst X116.here hx rfl (hb hby at_165)) ?_
    show Goes p e below _ T116 (mkF m 166 #[.val (.int a1), .val (.int a2), .val (.int a3), .val (.int a4), .val (.int a5), .val (.long q6), .second, .val (.int f6), .val (.int (5 : Int32)), .val (.ref b1), .val (.ref b8), .val (.int (if f6 = a1 then (1 : Int32) else (0 : Int32))), .unset, .unset] [(.int (5 : Int32)), (.ref b1), (.int a5), (.int a4), (.int a3), (.int a2), (.int a1), (.ref b116), (.ref b116)])
    refine goLdI (.int f6) X116 hx hZ eT116 V1 (by decide) (by decide) rfl (g := (mkF m 166 #[.val (.int a1), .val (.int a2), .val (.int a3), .val (.int a4), .val (.int a5), .val (.long q6), .second, .val (.int f6), .val (.int (5 : Int32)), .val (.ref b1), .val (.ref b8), .val (.int (if f6 = a1 then (1 : Int32) else (0 : Int32))), .unset, .unset] [(.int (5 : Int32)), (.ref b1), (.int a5), (.int a4), (.int a3), (.int a2), (.int a1), (.ref b116), (.ref b116)])) rfl rfl (hb hby at_166) ?_
    show Goes p e below _ T116 (mkF m 167 #[.val (.int a1), .val (.int a2), .val (.int a3), .val (.int a4), .val (.int a5), .val (.long q6), .second, .val (.int f6), .val (.int (5 : Int32)), .val (.ref b1), .val (.ref b8), .val (.int (if f6 = a1 then (1 : Int32) else (0 : Int32))), .unset, .unset] [(.int f6), (.int a5), (.int a4), (.int a3), (.int a2), (.int a1), (.ref b116), (.ref b116)])
    refine goSpecial 1 X116 hx hZ rfl hown (hw _ (List.mem_of_getElem? (i := 4) rfl)) (hw _ (List.mem_of_getElem? (i := 5) rfl)) (hw _ (List.mem_of_getElem? (i := 3) rfl)) (hw _ (List.mem_of_getElem? (i := 6) rfl)) (by decide) (rm_init l Z a0 hw b116 a1 a2 a3 a4 a5 f6 h116 n0 O0 g_b116 A116 F116_leftSideBearing F116_rightSideBearing F116_characterWidth F116_ascent F116_descent F116_attributes) eT116 (g := (mkF m 167 #[.val (.int a1), .val (.int a2), .val (.int a3), .val (.int a4), .val (.int a5), .val (.long q6), .second, .val (.int f6), .val (.int (5 : Int32)), .val (.ref b1), .val (.ref b8), .val (.int (if f6 = a1 then (1 : Int32) else (0 : Int32))), .unset, .unset] [(.int f6), (.int a5), (.int a4), (.int a3), (.int a2), (.int a1), (.ref b116), (.ref b116)])) rfl (by rw [hml]; rfl) b116 [(.int a1), (.int a2), (.int a3), (.int a4), (.int a5), (.int f6)] [(.ref b116)] (lenOf pd__IIIIII_V rfl) rfl rfl (by show 2 * 0 + _ ≤ _; exact Nat.le_of_eq rfl) (hb hby at_167) (by decide) (by decide) (by decide) (by decide) ?_
    intro v123 T123 L123 X123 q123
    obtain ⟨rfl, Nq123, Kq123, H0_123, H1_123, H2_123, H3_123, H4_123, H5_123⟩ := q123
    have N123 := Fr.app N114 Nq123
    have V1 := V1.keep Kq123 (ninS ne_b1_b116 nin0)
    have A1 := A1.keep Kq123
    have V8 := V8.keep Kq123 (ninS ne_b8_b116 nin0)
    have A8 := A8.keep Kq123
    have A116 := A116.keep Kq123
    have O0 := O0.keep Kq123 (allS g_b116 all0)
    show Goes p e below _ T123 (mkF m 170 #[.val (.int a1), .val (.int a2), .val (.int a3), .val (.int a4), .val (.int a5), .val (.long q6), .second, .val (.int f6), .val (.int (5 : Int32)), .val (.ref b1), .val (.ref b8), .val (.int (if f6 = a1 then (1 : Int32) else (0 : Int32))), .unset, .unset] [(.ref b116)])
    refine Goes.of (fun _ => XS.astore X123.here hx rfl (hb hby at_170) rfl rfl (l' := #[.val (.int a1), .val (.int a2), .val (.int a3), .val (.int a4), .val (.int a5), .val (.long q6), .second, .val (.int f6), .val (.int (5 : Int32)), .val (.ref b1), .val (.ref b8), .val (.int (if f6 = a1 then (1 : Int32) else (0 : Int32))), .val (.ref b116), .unset]) rfl) ?_
    show Goes p e below _ T123 (mkF m 172 #[.val (.int a1), .val (.int a2), .val (.int a3), .val (.int a4), .val (.int a5), .val (.long q6), .second, .val (.int f6), .val (.int (5 : Int32)), .val (.ref b1), .val (.ref b8), .val (.int (if f6 = a1 then (1 : Int32) else (0 : Int32))), .val (.ref b116), .unset] [])
    refine goNew X123 hx hZ hown (hw _ (List.mem_of_getElem? (i := 1) rfl)) (hw _ (List.mem_of_getElem? (i := 2) rfl)) (hw _ (List.mem_of_getElem? (i := 3) rfl)) (rfl : T123.heap = _) (g := (mkF m 172 #[.val (.int a1), .val (.int a2), .val (.int a3), .val (.int a4), .val (.int a5), .val (.long q6), .second, .val (.int f6), .val (.int (5 : Int32)), .val (.ref b1), .val (.ref b8), .val (.int (if f6 = a1 then (1 : Int32) else (0 : Int32))), .val (.ref b116), .unset] [])) rfl (hb hby at_172) (by decide) (by decide) ?_
    intro T124 h124 b124 X124 eT124 E124 hb124 A124 D124
    have g_b124 : n0 ≤ b124 := Nat.le_trans (oldLe O0) hb124
    have ne_b1_b124 : b1 ≠ b124 := Nat.ne_of_lt (Nat.lt_of_lt_of_le V1.lt hb124)
    have ne_b8_b124 : b8 ≠ b124 := Nat.ne_of_lt (Nat.lt_of_lt_of_le V8.lt hb124)
    have ne_b116_b124 : b116 ≠ b124 := Nat.ne_of_lt (Nat.lt_of_lt_of_le A116.lt hb124)
    have V1 := V1.ext E124
    have A1 := A1.ext E124
    have V8 := V8.ext E124
    have A8 := A8.ext E124
    have A116 := A116.ext E124
    have H0_123 := H0_123.ext E124
    have H1_123 := H1_123.ext E124
    have H2_123 := H2_123.ext E124
    have H3_123 := H3_123.ext E124
    have H4_123 := H4_123.ext E124
    have H5_123 := H5_123.ext E124
    have O0 := O0.ext E124
    have F124_leftSideBearing : Fld Z h124 b124 "com/example/casement/casement/graphics/CharMetrics" "leftSideBearing" "I" (.int (0 : Int32)) := D124 (Or.inr (hw _ (List.mem_of_getElem? (i := 11) rfl))) (ty := .int) (by decide)
    have F124_rightSideBearing : Fld Z h124 b124 "com/example/casement/casement/graphics/CharMetrics" "rightSideBearing" "I" (.int (0 : Int32)) := D124 (Or.inr (hw _ (List.mem_of_getElem? (i := 13) rfl))) (ty := .int) (by decide)
    have F124_characterWidth : Fld Z h124 b124 "com/example/casement/casement/graphics/CharMetrics" "characterWidth" "I" (.int (0 : Int32)) := D124 (Or.inr (hw _ (List.mem_of_getElem? (i := 15) rfl))) (ty := .int) (by decide)
    have F124_ascent : Fld Z h124 b124 "com/example/casement/casement/graphics/CharMetrics" "ascent" "I" (.int (0 : Int32)) := D124 (Or.inr (hw _ (List.mem_of_getElem? (i := 17) rfl))) (ty := .int) (by decide)
    have F124_descent : Fld Z h124 b124 "com/example/casement/casement/graphics/CharMetrics" "descent" "I" (.int (0 : Int32)) := D124 (Or.inr (hw _ (List.mem_of_getElem? (i := 19) rfl))) (ty := .int) (by decide)
    have F124_attributes : Fld Z h124 b124 "com/example/casement/casement/graphics/CharMetrics" "attributes" "I" (.int (0 : Int32)) := D124 (Or.inr (hw _ (List.mem_of_getElem? (i := 21) rfl))) (ty := .int) (by decide)
    show Goes p e below _ T124 (mkF m 175 #[.val (.int a1), .val (.int a2), .val (.int a3), .val (.int a4), .val (.int a5), .val (.long q6), .second, .val (.int f6), .val (.int (5 : Int32)), .val (.ref b1), .val (.ref b8), .val (.int (if f6 = a1 then (1 : Int32) else (0 : Int32))), .val (.ref b116), .unset] [(.ref b124)])
    refine Goes.of (fun _ => XS.dup X124.here hx rfl (hb hby at_175) rfl rfl) ?_
    show Goes p e below _ T124 (mkF m 176 #[.val (.int a1), .val (.int a2), .val (.int a3), .val (.int a4), .val (.int a5), .val (.long q6), .second, .val (.int f6), .val (.int (5 : Int32)), .val (.ref b1), .val (.ref b8), .val (.int (if f6 = a1 then (1 : Int32) else (0 : Int32))), .val (.ref b116), .unset] [(.ref b124), (.ref b124)])
    refine Goes.of (fun _ => XS.aload X124.here hx rfl (hb hby at_176) rfl rfl) ?_
    show Goes p e below _ T124 (mkF m 178 #[.val (.int a1), .val (.int a2), .val (.int a3), .val (.int a4), .val (.int a5), .val (.long q6), .second, .val (.int f6), .val (.int (5 : Int32)), .val (.ref b1), .val (.ref b8), .val (.int (if f6 = a1 then (1 : Int32) else (0 : Int32))), .val (.ref b116), .unset] [(.ref b8), (.ref b124), (.ref b124)])
    refine Goes.of (fun _ => XS.iconst X124.here hx rfl (hb hby at_178)) ?_
    show Goes p e below _ T124 (mkF m 179 #[.val (.int a1), .val (.int a2), .val (.int a3), .val (.int a4), .val (.int a5), .val (.long q6), .second, .val (.int f6), .val (.int (5 : Int32)), .val (.ref b1), .val (.ref b8), .val (.int (if f6 = a1 then (1 : Int32) else (0 : Int32))), .val (.ref b116), .unset] [(.int (0 : Int32)), (.ref b8), (.ref b124), (.ref b124)])
    refine goLdI (.int a1) X124 hx hZ eT124 V8 (by decide) (by decide) rfl (g := (mkF m 179 #[.val (.int a1), .val (.int a2), .val (.int a3), .val (.int a4), .val (.int a5), .val (.long q6), .second, .val (.int f6), .val (.int (5 : Int32)), .val (.ref b1), .val (.ref b8), .val (.int (if f6 = a1 then (1 : Int32) else (0 : Int32))), .val (.ref b116), .unset] [(.int (0 : Int32)), (.ref b8), (.ref b124), (.ref b124)])) rfl rfl (hb hby at_179) ?_
    show Goes p e below _ T124 (mkF m 180 #[.val (.int a1), .val (.int a2), .val (.int a3), .val (.int a4), .val (.int a5), .val (.long q6), .second, .val (.int f6), .val (.int (5 : Int32)), .val (.ref b1), .val (.ref b8), .val (.int (if f6 = a1 then (1 : Int32) else (0 : Int32))), .val (.ref b116), .unset] [(.int a1), (.ref b124), (.ref b124)])
    refine Goes.of (fun _ => XS.aload X124.here hx rfl (hb hby at_180) rfl rfl) ?_
    show Goes p e below _ T124 (mkF m 182 #[.val (.int a1), .val (.int a2), .val (.int a3), .val (.int a4), .val (.int a5), .val (.long q6), .second, .val (.int f6), .val (.int (5 : Int32)), .val (.ref b1), .val (.ref b8), .val (.int (if f6 = a1 then (1 : Int32) else (0 : Int32))), .val (.ref b116), .unset] [(.ref b8), (.int a1), (.ref b124), (.ref b124)])
    refine Goes.of (fun _ => XS.iconst X124.here hx rfl (hb hby at_182)) ?_
    show Goes p e below _ T124 (mkF m 183 #[.val (.int a1), .val (.int a2), .val (.int a3), .val (.int a4), .val (.int a5), .val (.long q6), .second, .val (.int f6), .val (.int (5 : Int32)), .val (.ref b1), .val (.ref b8), .val (.int (if f6 = a1 then (1 : Int32) else (0 : Int32))), .val (.ref b116), .unset] [(.int (1 : Int32)), (.ref b8), (.int a1), (.ref b124), (.ref b124)])
    refine goLdI (.int a2) X124 hx hZ eT124 V8 (by decide) (by decide) rfl (g := (mkF m 183 #[.val (.int a1), .val (.int a2), .val (.int a3), .val (.int a4), .val (.int a5), .val (.long q6), .second, .val (.int f6), .val (.int (5 : Int32)), .val (.ref b1), .val (.ref b8), .val (.int (if f6 = a1 then (1 : Int32) else (0 : Int32))), .val (.ref b116), .unset] [(.int (1 : Int32)), (.ref b8), (.int a1), (.ref b124), (.ref b124)])) rfl rfl (hb hby at_183) ?_
    show Goes p e below _ T124 (mkF m 184 #[.val (.int a1), .val (.int a2), .val (.int a3), .val (.int a4), .val (.int a5), .val (.long q6), .second, .val (.int f6), .val (.int (5 : Int32)), .val (.ref b1), .val (.ref b8), .val (.int (if f6 = a1 then (1 : Int32) else (0 : Int32))), .val (.ref b116), .unset] [(.int a2), (.int a1), (.ref b124), (.ref b124)])
    refine Goes.of (fun _ => XS.aload X124.here hx rfl (hb hby at_184) rfl rfl) ?_
    show Goes p e below _ T124 (mkF m 186 #[.val (.int a1), .val (.int a2), .val (.int a3), .val (.int a4), .val (.int a5), .val (.long q6), .second, .val (.int f6), .val (.int (5 : Int32)), .val (.ref b1), .val (.ref b8), .val (.int (if f6 = a1 then (1 : Int32) else (0 : Int32))), .val (.ref b116), .unset] [(.ref b8), (.int a2), (.int a1), (.ref b124), (.ref b124)])
    refine Goes.of (fun _ => XS.iconst X124.here hx rfl (hb hby at_186)) ?_
    show Goes p e below _ T124 (mkF m 187 #[.val (.int a1), .val (.int a2), .val (.int a3), .val (.int a4), .val (.int a5), .val (.long q6), .second, .val (.int f6), .val (.int (5 : Int32)), .val (.ref b1), .val (.ref b8), .val (.int (if f6 = a1 then (1 : Int32) else (0 : Int32))), .val (.ref b116), .unset] [(.int (2 : Int32)), (.ref b8), (.int a2), (.int a1), (.ref b124), (.ref b124)])
    refine goLdI (.int a3) X124 hx hZ eT124 V8 (by decide) (by decide) rfl (g := (mkF m 187 #[.val (.int a1), .val (.int a2), .val (.int a3), .val (.int a4), .val (.int a5), .val (.long q6), .second, .val (.int f6), .val (.int (5 : Int32)), .val (.ref b1), .val (.ref b8), .val (.int (if f6 = a1 then (1 : Int32) else (0 : Int32))), .val (.ref b116), .unset] [(.int (2 : Int32)), (.ref b8), (.int a2), (.int a1), (.ref b124), (.ref b124)])) rfl rfl (hb hby at_187) ?_
    show Goes p e below _ T124 (mkF m 188 #[.val (.int a1), .val (.int a2), .val (.int a3), .val (.int a4), .val (.int a5), .val (.long q6), .second, .val (.int f6), .val (.int (5 : Int32)), .val (.ref b1), .val (.ref b8), .val (.int (if f6 = a1 then (1 : Int32) else (0 : Int32))), .val (.ref b116), .unset] [(.int a3), (.int a2), (.int a1), (.ref b124), (.ref b124)])
    refine Goes.of (fun _ => XS.aload X124.here hx rfl (hb hby at_188) rfl rfl) ?_
    show Goes p e below _ T124 (mkF m 190 #[.val (.int a1), .val (.int a2), .val (.int a3), .val (.int a4), .val (.int a5), .val (.long q6), .second, .val (.int f6), .val (.int (5 : Int32)), .val (.ref b1), .val (.ref b8), .val (.int (if f6 = a1 then (1 : Int32) else (0 : Int32))), .val (.ref b116), .unset] [(.ref b8), (.int a3), (.int a2), (.int a1), (.ref b124), (.ref b124)])
    refine Goes.of (fun _ => XS.iconst X124.here hx rfl (hb hby at_190)) ?_
    show Goes p e below _ T124 (mkF m 191 #[.val (.int a1), .val (.int a2), .val (.int a3), .val (.int a4), .val (.int a5), .val (.long q6), .second, .val (.int f6), .val (.int (5 : Int32)), .val (.ref b1), .val (.ref b8), .val (.int (if f6 = a1 then (1 : Int32) else (0 : Int32))), .val (.ref b116), .unset] [(.int (3 : Int32)), (.ref b8), (.int a3), (.int a2), (.int a1), (.ref b124), (.ref b124)])
    refine goLdI (.int a4) X124 hx hZ eT124 V8 (by decide) (by decide) rfl (g := (mkF m 191 #[.val (.int a1), .val (.int a2), .val (.int a3), .val (.int a4), .val (.int a5), .val (.long q6), .second, .val (.int f6), .val (.int (5 : Int32)), .val (.ref b1), .val (.ref b8), .val (.int (if f6 = a1 then (1 : Int32) else (0 : Int32))), .val (.ref b116), .unset] [(.int (3 : Int32)), (.ref b8), (.int a3), (.int a2), (.int a1), (.ref b124), (.ref b124)])) rfl rfl (hb hby at_191) ?_
    show Goes p e below _ T124 (mkF m 192 #[.val (.int a1), .val (.int a2), .val (.int a3), .val (.int a4), .val (.int a5), .val (.long q6), .second, .val (.int f6), .val (.int (5 : Int32)), .val (.ref b1), .val (.ref b8), .val (.int (if f6 = a1 then (1 : Int32) else (0 : Int32))), .val (.ref b116), .unset] [(.int a4), (.int a3), (.int a2), (.int a1), (.ref b124), (.ref b124)])
    refine Goes.of (fun _ => XS.aload X124.here hx rfl (hb hby at_192) rfl rfl) ?_
    show Goes p e below _ T124 (mkF m 194 #[.val (.int a1), .val (.int a2), .val (.int a3), .val (.int a4), .val (.int a5), .val (.long q6), .second, .val (.int f6), .val (.int (5 : Int32)), .val (.ref b1), .val (.ref b8), .val (.int (if f6 = a1 then (1 : Int32) else (0 : Int32))), .val (.ref b116), .unset] [(.ref b8), (.int a4), (.int a3), (.int a2), (.int a1), (.ref b124), (.ref b124)])
    refine Goes.of (fun _ => XS.iconst X124.here hx rfl (hb hby at_194)) ?_
    show Goes p e below _ T124 (mkF m 195 #[.val (.int a1), .val (.int a2), .val (.int a3), .val (.int a4), .val (.int a5), .val (.long q6), .second, .val (.int f6), .val (.int (5 : Int32)), .val (.ref b1), .val (.ref b8), .val (.int (if f6 = a1 then (1 : Int32) else (0 : Int32))), .val (.ref b116), .unset] [(.int (4 : Int32)), (.ref b8), (.int a4), (.int a3), (.int a2), (.int a1), (.ref b124), (.ref b124)])
    refine goLdI (.int a5) X124 hx hZ eT124 V8 (by decide) (by decide) rfl (g := (mkF m 195 #[.val (.int a1), .val (.int a2), .val (.int a3), .val (.int a4), .val (.int a5), .val (.long q6), .second, .val (.int f6), .val (.int (5 : Int32)), .val (.ref b1), .val (.ref b8), .val (.int (if f6 = a1 then (1 : Int32) else (0 : Int32))), .val (.ref b116), .unset] [(.int (4 : Int32)), (.ref b8), (.int a4), (.int a3), (.int a2), (.int a1), (.ref b124), (.ref b124)])) rfl rfl (hb hby at_195) ?_
    show Goes p e below _ T124 (mkF m 196 #[.val (.int a1), .val (.int a2), .val (.int a3), .val (.int a4), .val (.int a5), .val (.long q6), .second, .val (.int f6), .val (.int (5 : Int32)), .val (.ref b1), .val (.ref b8), .val (.int (if f6 = a1 then (1 : Int32) else (0 : Int32))), .val (.ref b116), .unset] [(.int a5), (.int a4), (.int a3), (.int a2), (.int a1), (.ref b124), (.ref b124)])
    refine Goes.of (fun _ => XS.aload X124.here hx rfl (hb hby at_196) rfl rfl) ?_
    show Goes p e below _ T124 (mkF m 198 #[.val (.int a1), .val (.int a2), .val (.int a3), .val (.int a4), .val (.int a5), .val (.long q6), .second, .val (.int f6), .val (.int (5 : Int32)), .val (.ref b1), .val (.ref b8), .val (.int (if f6 = a1 then (1 : Int32) else (0 : Int32))), .val (.ref b116), .unset] [(.ref b8), (.int a5), (.int a4), (.int a3), (.int a2), (.int a1), (.ref b124), (.ref b124)])
    refine Goes.of (fun _ => XS.iconst X124.here hx rfl (hb hby at_198)) ?_
    show Goes p e below _ T124 (mkF m 199 #[.val (.int a1), .val (.int a2), .val (.int a3), .val (.int a4), .val (.int a5), .val (.long q6), .second, .val (.int f6), .val (.int (5 : Int32)), .val (.ref b1), .val (.ref b8), .val (.int (if f6 = a1 then (1 : Int32) else (0 : Int32))), .val (.ref b116), .unset] [(.int (5 : Int32)), (.ref b8), (.int a5), (.int a4), (.int a3), (.int a2), (.int a1), (.ref b124), (.ref b124)])
    refine goLdI (.int a1) X124 hx hZ eT124 V8 (by decide) (by decide) rfl (g := (mkF m 199 #[.val (.int a1), .val (.int a2), .val (.int a3), .val (.int a4), .val (.int a5), .val (.long q6), .second, .val (.int f6), .val (.int (5 : Int32)), .val (.ref b1), .val (.ref b8), .val (.int (if f6 = a1 then (1 : Int32) else (0 : Int32))), .val (.ref b116), .unset] [(.int (5 : Int32)), (.ref b8), (.int a5), (.int a4), (.int a3), (.int a2), (.int a1), (.ref b124), (.ref b124)])) rfl rfl (hb hby at_199) ?_
    show Goes p e below _ T124 (mkF m 200 #[.val (.int a1), .val (.int a2), .val (.int a3), .val (.int a4), .val (.int a5), .val (.long q6), .second, .val (.int f6), .val (.int (5 : Int32)), .val (.ref b1), .val (.ref b8), .val (.int (if f6 = a1 then (1 : Int32) else (0 : Int32))), .val (.ref b116), .unset] [(.int a1), (.int a5), (.int a4), (.int a3), (.int a2), (.int a1), (.ref b124), (.ref b124)])
    refine goSpecial 1 X124 hx hZ rfl hown (hw _ (List.mem_of_getElem? (i := 4) rfl)) (hw _ (List.mem_of_getElem? (i := 5) rfl)) (hw _ (List.mem_of_getElem? (i := 3) rfl)) (hw _ (List.mem_of_getElem? (i := 6) rfl)) (by decide) (rm_init l Z a0 hw b124 a1 a2 a3 a4 a5 a1 h124 n0 O0 g_b124 A124 F124_leftSideBearing F124_rightSideBearing F124_characterWidth F124_ascent F124_descent F124_attributes) eT124 (g := (mkF m 200 #[.val (.int a1), .val (.int a2), .val (.int a3), .val (.int a4), .val (.int a5), .val (.long q6), .second, .val (.int f6), .val (.int (5 : Int32)), .val (.ref b1), .val (.ref b8), .val (.int (if f6 = a1 then (1 : Int32) else (0 : Int32))), .val (.ref b116), .unset] [(.int a1), (.int a5), (.int a4), (.int a3), (.int a2), (.int a1), (.ref b124), (.ref b124)])) rfl (by rw [hml]; rfl) b124 [(.int a1), (.int a2), (.int a3), (.int a4), (.int a5), (.int a1)] [(.ref b124)] (lenOf pd__IIIIII_V rfl) rfl rfl (by show 2 * 0 + _ ≤ _; exact Nat.le_of_eq rfl) (hb hby at_200) (by decide) (by decide) (by decide) (by decide) ?_
    intro v131 T131 L131 X131 q131
    obtain ⟨rfl, Nq131, Kq131, H0_131, H1_131, H2_131, H3_131, H4_131, H5_131⟩ := q131
    have N131 := Fr.app N123 Nq131
    have V1 := V1.keep Kq131 (ninS ne_b1_b124 nin0)
    have A1 := A1.keep Kq131
    have V8 := V8.keep Kq131 (ninS ne_b8_b124 nin0)
    have A8 := A8.keep Kq131
    have A116 := A116.keep Kq131
    have H0_123 := H0_123.keep Kq131 (ninS ne_b116_b124 nin0)
    have H1_123 := H1_123.keep Kq131 (ninS ne_b116_b124 nin0)
    have H2_123 := H2_123.keep Kq131 (ninS ne_b116_b124 nin0)
    have H3_123 := H3_123.keep Kq131 (ninS ne_b116_b124 nin0)
    have H4_123 := H4_123.keep Kq131 (ninS ne_b116_b124 nin0)
    have H5_123 := H5_123.keep Kq131 (ninS ne_b116_b124 nin0)
    have A124 := A124.keep Kq131
    have O0 := O0.keep Kq131 (allS g_b124 all0)
    show Goes p e below _ T131 (mkF m 203 #[.val (.int a1), .val (.int a2), .val (.int a3), .val (.int a4), .val (.int a5), .val (.long q6), .second, .val (.int f6), .val (.int (5 : Int32)), .val (.ref b1), .val (.ref b8), .val (.int (if f6 = a1 then (1 : Int32) else (0 : Int32))), .val (.ref b116), .unset] [(.ref b124)])
    refine Goes.of (fun _ => XS.astore X131.here hx rfl (hb hby at_203) rfl rfl (l' := #[.val (.int a1), .val (.int a2), .val (.int a3), .val (.int a4), .val (.int a5), .val (.long q6), .second, .val (.int f6), .val (.int (5 : Int32)), .val (.ref b1), .val (.ref b8), .val (.int (if f6 = a1 then (1 : Int32) else (0 : Int32))), .val (.ref b116), .val (.ref b124)]) rfl) ?_
    show Goes p e below _ T131 (mkF m 205 #[.val (.int a1), .val (.int a2), .val (.int a3), .val (.int a4), .val (.int a5), .val (.long q6), .second, .val (.int f6), .val (.int (5 : Int32)), .val (.ref b1), .val (.ref b8), .val (.int (if f6 = a1 then (1 : Int32) else (0 : Int32))), .val (.ref b116), .val (.ref b124)] [])
    refine Goes.of (fun _ => XS.iload X131.here hx rfl (hb hby at_205) rfl) ?_
    show Goes p e below _ T131 (mkF m 207 #[.val (.int a1), .val (.int a2), .val (.int a3), .val (.int a4), .val (.int a5), .val (.long q6), .second, .val (.int f6), .val (.int (5 : Int32)), .val (.ref b1), .val (.ref b8), .val (.int (if f6 = a1 then (1 : Int32) else (0 : Int32))), .val (.ref b116), .val (.ref b124)] [(.int (5 : Int32))])
    refine Goes.of (fun _ => XS.bipush X131.here hx rfl (hb hby at_207)) ?_
    show Goes p e below _ T131 (mkF m 209 #[.val (.int a1), .val (.int a2), .val (.int a3), .val (.int a4), .val (.int a5), .val (.long q6), .second, .val (.int f6), .val (.int (5 : Int32)), .val (.ref b1), .val (.ref b8), .val (.int (if f6 = a1 then (1 : Int32) else (0 : Int32))), .val (.ref b116), .val (.ref b124)] [(.int (7 : Int32)), (.int (5 : Int32))])
    refine Goes.of (fun _ => XS.icmpYes X131.here hx rfl (pc0 := 209) (pc' := 249) rfl (hb hby at_209) rfl (feq (by decide)).2 (by decide) (by decide)) ?_
    show Goes p e below _ T131 (mkF m 249 #[.val (.int a1), .val (.int a2), .val (.int a3), .val (.int a4), .val (.int a5), .val (.long q6), .second, .val (.int f6), .val (.int (5 : Int32)), .val (.ref b1), .val (.ref b8), .val (.int (if f6 = a1 then (1 : Int32) else (0 : Int32))), .val (.ref b116), .val (.ref b124)] [])
    refine Goes.of (fun _ => XS.aload X131.here hx rfl (hb hby at_249) rfl rfl) ?_
    show Goes p e below _ T131 (mkF m 251 #[.val (.int a1), .val (.int a2), .val (.int a3), .val (.int a4), .val (.int a5), .val (.long q6), .second, .val (.int f6), .val (.int (5 : Int32)), .val (.ref b1), .val (.ref b8), .val (.int (if f6 = a1 then (1 : Int32) else (0 : Int32))), .val (.ref b116), .val (.ref b124)] [(.ref b116)])
    refine Goes.of (fun _ => XS.aload X131.here hx rfl (hb hby at_251) rfl rfl) ?_
    show Goes p e below _ T131 (mkF m 253 #[.val (.int a1), .val (.int a2), .val (.int a3), .val (.int a4), .val (.int a5), .val (.long q6), .second, .val (.int f6), .val (.int (5 : Int32)), .val (.ref b1), .val (.ref b8), .val (.int (if f6 = a1 then (1 : Int32) else (0 : Int32))), .val (.ref b116), .val (.ref b124)] [(.ref b124), (.ref b116)])
    refine goVirtual 0 X131 hx hZ hown (hw _ (List.mem_of_getElem? (i := 22) rfl)) (hw _ (List.mem_of_getElem? (i := 23) rfl)) (notFace_of_selects (args := #[]) (mvT hZ (hw _ (List.mem_of_getElem? (i := 25) rfl)))) (hw _ (List.mem_of_getElem? (i := 25) rfl)) (hw _ (List.mem_of_getElem? (i := 24) rfl)) (hw _ (List.mem_of_getElem? (i := 3) rfl)) (hw _ (List.mem_of_getElem? (i := 26) rfl)) (by decide) (rm_eq l Z a0 hw b116 b124 a1 a2 a3 a4 a5 f6 a1 a2 a3 a4 a5 a1 T131.heap n0 O0 A124 H0_123 H1_123 H2_123 H3_123 H4_123 H5_123 H0_131 H1_131 H2_131 H3_131 H4_131 H5_131) (rfl : T131.heap = _) A116 (g := (mkF m 253 #[.val (.int a1), .val (.int a2), .val (.int a3), .val (.int a4), .val (.int a5), .val (.long q6), .second, .val (.int f6), .val (.int (5 : Int32)), .val (.ref b1), .val (.ref b8), .val (.int (if f6 = a1 then (1 : Int32) else (0 : Int32))), .val (.ref b116), .val (.ref b124)] [(.ref b124), (.ref b116)])) rfl (by rw [hml]; rfl) [(.ref b124)] [] (lenOf pd__Ljava_lang_Object__Z rfl) rfl rfl (by show 2 * 0 + _ ≤ _; exact Nat.le_of_eq rfl) (hb hby at_253) (by decide) (by decide) (by decide) (by decide) ?_
    intro v132 T132 L132 X132 q132
    obtain ⟨rfl, Nq132, eT132⟩ := q132
    have N132 := Fr.app N131 Nq132
    show Goes p e below _ T132 (mkF m 256 #[.val (.int a1), .val (.int a2), .val (.int a3), .val (.int a4), .val (.int a5), .val (.long q6), .second, .val (.int f6), .val (.int (5 : Int32)), .val (.ref b1), .val (.ref b8), .val (.int (if f6 = a1 then (1 : Int32) else (0 : Int32))), .val (.ref b116), .val (.ref b124)] [(.int (eq6 a1 a2 a3 a4 a5 f6 a1 a2 a3 a4 a5 a1))])
    refine Goes.of (fun _ => XS.iload X132.here hx rfl (hb hby at_256) rfl) ?_
    show Goes p e below _ T132 (mkF m 258 #[.val (.int a1), .val (.int a2), .val (.int a3), .val (.int a4), .val (.int a5), .val (.long q6), .second, .val (.int f6), .val (.int (5 : Int32)), .val (.ref b1), .val (.ref b8), .val (.int (if f6 = a1 then (1 : Int32) else (0 : Int32))), .val (.ref b116), .val (.ref b124)] [(.int (if f6 = a1 then (1 : Int32) else (0 : Int32))), (.int (eq6 a1 a2 a3 a4 a5 f6 a1 a2 a3 a4 a5 a1))])
    refine Goes.of (fun _ => XS.icmpNo X132.here hx rfl (hb hby at_258) rfl (teq (by by_cases hh : f6 = a1 <;> simp [eq6, hh, eq_comm])).2) ?_
    show Goes p e below _ T132 (mkF m 261 #[.val (.int a1), .val (.int a2), .val (.int a3), .val (.int a4), .val (.int a5), .val (.long q6), .second, .val (.int f6), .val (.int (5 : Int32)), .val (.ref b1), .val (.ref b8), .val (.int (if f6 = a1 then (1 : Int32) else (0 : Int32))), .val (.ref b116), .val (.ref b124)] [])
    refine Goes.of (fun _ => XS.aload X132.here hx rfl (hb hby at_261) rfl rfl) ?_
    show Goes p e below _ T132 (mkF m 263 #[.val (.int a1), .val (.int a2), .val (.int a3), .val (.int a4), .val (.int a5), .val (.long q6), .second, .val (.int f6), .val (.int (5 : Int32)), .val (.ref b1), .val (.ref b8), .val (.int (if f6 = a1 then (1 : Int32) else (0 : Int32))), .val (.ref b116), .val (.ref b124)] [(.ref b124)])
    refine Goes.of (fun _ => XS.aload X132.here hx rfl (hb hby at_263) rfl rfl) ?_
    show Goes p e below _ T132 (mkF m 265 #[.val (.int a1), .val (.int a2), .val (.int a3), .val (.int a4), .val (.int a5), .val (.long q6), .second, .val (.int f6), .val (.int (5 : Int32)), .val (.ref b1), .val (.ref b8), .val (.int (if f6 = a1 then (1 : Int32) else (0 : Int32))), .val (.ref b116), .val (.ref b124)] [(.ref b116), (.ref b124)])
    refine goVirtual 0 X132 hx hZ hown (hw _ (List.mem_of_getElem? (i := 22) rfl)) (hw _ (List.mem_of_getElem? (i := 23) rfl)) (notFace_of_selects (args := #[]) (mvT hZ (hw _ (List.mem_of_getElem? (i := 25) rfl)))) (hw _ (List.mem_of_getElem? (i := 25) rfl)) (hw _ (List.mem_of_getElem? (i := 24) rfl)) (hw _ (List.mem_of_getElem? (i := 3) rfl)) (hw _ (List.mem_of_getElem? (i := 26) rfl)) (by decide) (rm_eq l Z a0 hw b124 b116 a1 a2 a3 a4 a5 a1 a1 a2 a3 a4 a5 f6 T131.heap n0 O0 A116 H0_131 H1_131 H2_131 H3_131 H4_131 H5_131 H0_123 H1_123 H2_123 H3_123 H4_123 H5_123) eT132 A124 (g := (mkF m 265 #[.val (.int a1), .val (.int a2), .val (.int a3), .val (.int a4), .val (.int a5), .val (.long q6), .second, .val (.int f6), .val (.int (5 : Int32)), .val (.ref b1), .val (.ref b8), .val (.int (if f6 = a1 then (1 : Int32) else (0 : Int32))), .val (.ref b116), .val (.ref b124)] [(.ref b116), (.ref b124)])) rfl (by rw [hml]; rfl) [(.ref b116)] [] (lenOf pd__Ljava_lang_Object__Z rfl) rfl rfl (by show 2 * 0 + _ ≤ _; exact Nat.le_of_eq rfl) (hb hby at_265) (by decide) (by decide) (by decide) (by decide) ?_
    intro v133 T133 L133 X133 q133
    obtain ⟨rfl, Nq133, eT133⟩ := q133
    have N133 := Fr.app N132 Nq133
    show Goes p e below _ T133 (mkF m 268 #[.val (.int a1), .val (.int a2), .val (.int a3), .val (.int a4), .val (.int a5), .val (.long q6), .second, .val (.int f6), .val (.int (5 : Int32)), .val (.ref b1), .val (.ref b8), .val (.int (if f6 = a1 then (1 : Int32) else (0 : Int32))), .val (.ref b116), .val (.ref b124)] [(.int (eq6 a1 a2 a3 a4 a5 a1 a1 a2 a3 a4 a5 f6))])
    refine Goes.of (fun _ => XS.iload X133.here hx rfl (hb hby at_268) rfl) ?_
    show Goes p e below _ T133 (mkF m 270 #[.val (.int a1), .val (.int a2), .val (.int a3), .val (.int a4), .val (.int a5), .val (.long q6), .second, .val (.int f6), .val (.int (5 : Int32)), .val (.ref b1), .val (.ref b8), .val (.int (if f6 = a1 then (1 : Int32) else (0 : Int32))), .val (.ref b116), .val (.ref b124)] [(.int (if f6 = a1 then (1 : Int32) else (0 : Int32))), (.int (eq6 a1 a2 a3 a4 a5 a1 a1 a2 a3 a4 a5 f6))])
    refine Goes.of (fun _ => XS.icmpNo X133.here hx rfl (hb hby at_270) rfl (teq (by by_cases hh : f6 = a1; (· simp [eq6, hh]); (· simp [eq6, hh, Ne.symm hh]))).2) ?_
    show Goes p e below _ T133 (mkF m 273 #[.val (.int a1), .val (.int a2), .val (.int a3), .val (.int a4), .val (.int a5), .val (.long q6), .second, .val (.int f6), .val (.int (5 : Int32)), .val (.ref b1), .val (.ref b8), .val (.int (if f6 = a1 then (1 : Int32) else (0 : Int32))), .val (.ref b116), .val (.ref b124)] [])
    refine Goes.of (fun _ => XS.iconst X133.here hx rfl (hb hby at_273)) ?_
    show Goes p e below _ T133 (mkF m 274 #[.val (.int a1), .val (.int a2), .val (.int a3), .val (.int a4), .val (.int a5), .val (.long q6), .second, .val (.int f6), .val (.int (5 : Int32)), .val (.ref b1), .val (.ref b8), .val (.int (if f6 = a1 then (1 : Int32) else (0 : Int32))), .val (.ref b116), .val (.ref b124)] [(.int (1 : Int32))])
    refine Goes.of (fun _ => XS.goto X133.here hx rfl (pc0 := 274) (pc' := 278) rfl (hb hby at_274) (by decide) (by decide)) ?_
    show Goes p e below _ T133 (mkF m 278 #[.val (.int a1), .val (.int a2), .val (.int a3), .val (.int a4), .val (.int a5), .val (.long q6), .second, .val (.int f6), .val (.int (5 : Int32)), .val (.ref b1), .val (.ref b8), .val (.int (if f6 = a1 then (1 : Int32) else (0 : Int32))), .val (.ref b116), .val (.ref b124)] [(.int (1 : Int32))])
    exact retZ (t := .boolean) X133 hx hret hlk (by simp) (hb hby at_278) eT133 (by decide) (by decide) ⟨rfl, N133⟩
  · show Goes p e below _ T14 (mkF m 80 #[.val (.int a1), .val (.int a2), .val (.int a3), .val (.int a4), .val (.int a5), .val (.long q6), .second, .val (.int f6), .val (.int (6 : Int32)), .val (.ref b1), .val (.ref b8), .unset, .unset, .unset] [])
    refine Goes.of (fun _ => XS.iload X14.here hx rfl (hb hby at_80) rfl) ?_
    show Goes p e below _ T14 (mkF m 82 #[.val (.int a1), .val (.int a2), .val (.int a3), .val (.int a4), .val (.int a5), .val (.long q6), .second, .val (.int f6), .val (.int (6 : Int32)), .val (.ref b1), .val (.ref b8), .unset, .unset, .unset] [(.int (6 : Int32))])
    refine Goes.of (fun _ => XS.ifYes X14.here hx rfl (pc0 := 82) (pc' := 105) rfl (hb hby at_82) rfl ((if0 _ _).trans (feq (by decide)).2) (by decide) (by decide)) ?_
    show Goes p e below _ T14 (mkF m 105 #[.val (.int a1), .val (.int a2), .val (.int a3), .val (.int a4), .val (.int a5), .val (.long q6), .second, .val (.int f6), .val (.int (6 : Int32)), .val (.ref b1), .val (.ref b8), .unset, .unset, .unset] [])
    refine Goes.of (fun _ => XS.iload X14.here hx rfl (hb hby at_105) rfl) ?_
    show Goes p e below _ T14 (mkF m 107 #[.val (.int a1), .val (.int a2), .val (.int a3), .val (.int a4), .val (.int a5), .val (.long q6), .second, .val (.int f6), .val (.int (6 : Int32)), .val (.ref b1), .val (.ref b8), .unset, .unset, .unset] [(.int (6 : Int32))])
    refine Goes.of (fun _ => XS.iconst X14.here hx rfl (hb hby at_107)) ?_
    show Goes p e below _ T14 (mkF m 108 #[.val (.int a1), .val (.int a2), .val (.int a3), .val (.int a4), .val (.int a5), .val (.long q6), .second, .val (.int f6), .val (.int (6 : Int32)), .val (.ref b1), .val (.ref b8), .unset, .unset, .unset] [(.int (5 : Int32)), (.int (6 : Int32))])
    refine Goes.of (fun _ => XS.icmpYes X14.here hx rfl (pc0 := 108) (pc' := 136) rfl (hb hby at_108) rfl (tlt (by decide)).2.2.1 (by decide) (by decide)) ?_
    show Goes p e below _ T14 (mkF m 136 #[.val (.int a1), .val (.int a2), .val (.int a3), .val (.int a4), .val (.int a5), .val (.long q6), .second, .val (.int f6), .val (.int (6 : Int32)), .val (.ref b1), .val (.ref b8), .unset, .unset, .unset] [])
    refine Goes.of (fun _ => XS.iconst X14.here hx rfl (hb hby at_136)) ?_
    show Goes p e below _ T14 (mkF m 137 #[.val (.int a1), .val (.int a2), .val (.int a3), .val (.int a4), .val (.int a5), .val (.long q6), .second, .val (.int f6), .val (.int (6 : Int32)), .val (.ref b1), .val (.ref b8), .unset, .unset, .unset] [(.int (1 : Int32))])
    refine Goes.of (fun _ => XS.istore X14.here hx rfl (hb hby at_137) rfl (l' := #[.val (.int a1), .val (.int a2), .val (.int a3), .val (.int a4), .val (.int a5), .val (.long q6), .second, .val (.int f6), .val (.int (6 : Int32)), .val (.ref b1), .val (.ref b8), .val (.int (1 : Int32)), .unset, .unset]) rfl) ?_
    show Goes p e below _ T14 (mkF m 139 #[.val (.int a1), .val (.int a2), .val (.int a3), .val (.int a4), .val (.int a5), .val (.long q6), .second, .val (.int f6), .val (.int (6 : Int32)), .val (.ref b1), .val (.ref b8), .val (.int (1 : Int32)), .unset, .unset] [])
    refine goNew X14 hx hZ hown (hw _ (List.mem_of_getElem? (i := 1) rfl)) (hw _ (List.mem_of_getElem? (i := 2) rfl)) (hw _ (List.mem_of_getElem? (i := 3) rfl)) eT14 (g := (mkF m 139 #[.val (.int a1), .val (.int a2), .val (.int a3), .val (.int a4), .val (.int a5), .val (.long q6), .second, .val (.int f6), .val (.int (6 : Int32)), .val (.ref b1), .val (.ref b8), .val (.int (1 : Int32)), .unset, .unset] [])) rfl (hb hby at_139) (by decide) (by decide) ?_
    intro T134 h134 b134 X134 eT134 E134 hb134 A134 D134
    have g_b134 : n0 ≤ b134 := Nat.le_trans (oldLe O0) hb134
    have ne_b1_b134 : b1 ≠ b134 := Nat.ne_of_lt (Nat.lt_of_lt_of_le V1.lt hb134)
    have ne_b8_b134 : b8 ≠ b134 := Nat.ne_of_lt (Nat.lt_of_lt_of_le V8.lt hb134)
    have V1 := V1.ext E134
    have A1 := A1.ext E134
    have V8 := V8.ext E134
    have A8 := A8.ext E134
    have O0 := O0.ext E134
    have F134_leftSideBearing : Fld Z h134 b134 "com/example/casement/casement/graphics/CharMetrics" "leftSideBearing" "I" (.int (0 : Int32)) := D134 (Or.inr (hw _ (List.mem_of_getElem? (i := 11) rfl))) (ty := .int) (by decide)
    have F134_rightSideBearing : Fld Z h134 b134 "com/example/casement/casement/graphics/CharMetrics" "rightSideBearing" "I" (.int (0 : Int32)) := D134 (Or.inr (hw _ (List.mem_of_getElem? (i := 13) rfl))) (ty := .int) (by decide)
    have F134_characterWidth : Fld Z h134 b134 "com/example/casement/casement/graphics/CharMetrics" "characterWidth" "I" (.int (0 : Int32)) := D134 (Or.inr (hw _ (List.mem_of_getElem? (i := 15) rfl))) (ty := .int) (by decide)
    have F134_ascent : Fld Z h134 b134 "com/example/casement/casement/graphics/CharMetrics" "ascent" "I" (.int (0 : Int32)) := D134 (Or.inr (hw _ (List.mem_of_getElem? (i := 17) rfl))) (ty := .int) (by decide)
    have F134_descent : Fld Z h134 b134 "com/example/casement/casement/graphics/CharMetrics" "descent" "I" (.int (0 : Int32)) := D134 (Or.inr (hw _ (List.mem_of_getElem? (i := 19) rfl))) (ty := .int) (by decide)
    have F134_attributes : Fld Z h134 b134 "com/example/casement/casement/graphics/CharMetrics" "attributes" "I" (.int (0 : Int32)) := D134 (Or.inr (hw _ (List.mem_of_getElem? (i := 21) rfl))) (ty := .int) (by decide)
    show Goes p e below _ T134 (mkF m 142 #[.val (.int a1), .val (.int a2), .val (.int a3), .val (.int a4), .val (.int a5), .val (.long q6), .second, .val (.int f6), .val (.int (6 : Int32)), .val (.ref b1), .val (.ref b8), .val (.int (1 : Int32)), .unset, .unset] [(.ref b134)])
    refine Goes.of (fun _ => XS.dup X134.here hx rfl (hb hby at_142) rfl rfl) ?_
    show Goes p e below _ T134 (mkF m 143 #[.val (.int a1), .val (.int a2), .val (.int a3), .val (.int a4), .val (.int a5), .val (.long q6), .second, .val (.int f6), .val (.int (6 : Int32)), .val (.ref b1), .val (.ref b8), .val (.int (1 : Int32)), .unset, .unset] [(.ref b134), (.ref b134)])
    refine Goes.of (fun _ => XS.aload X134.here hx rfl (hb hby at_143) rfl rfl) ?_
    show Goes p e below _ T134 (mkF m 145 #[.val (.int a1), .val (.int a2), .val (.int a3), .val (.int a4), .val (.int a5), .val (.long q6), .second, .val (.int f6), .val (.int (6 : Int32)), .val (.ref b1), .val (.ref b8), .val (.int (1 : Int32)), .unset, .unset] [(.ref b1), (.ref b134), (.ref b134)])
    refine Goes.of (fun _ => XS.iconst X134.here hx rfl (hb hby at_145)) ?_
    show Goes p e below _ T134 (mkF m 146 #[.val (.int a1), .val (.int a2), .val (.int a3), .val (.int a4), .val (.int a5), .val (.long q6), .second, .val (.int f6), .val (.int (6 : Int32)), .val (.ref b1), .val (.ref b8), .val (.int (1 : Int32)), .unset, .unset] [(.int (0 : Int32)), (.ref b1), (.ref b134), (.ref b134)])
    refine goLdI (.int a1) X134 hx hZ eT134 V1 (by decide) (by decide) rfl (g := (mkF m 146 #[.val (.int a1), .val (.int a2), .val (.int a3), .val (.int a4), .val (.int a5), .val (.long q6), .second, .val (.int f6), .val (.int (6 : Int32)), .val (.ref b1), .val (.ref b8), .val (.int (1 : Int32)), .unset, .unset] [(.int (0 : Int32)), (.ref b1), (.ref b134), (.ref b134)])) rfl rfl (hb hby at_146) ?_
    show Goes p e below _ T134 (mkF m 147 #[.val (.int a1), .val (.int a2), .val (.int a3), .val (.int a4), .val (.int a5), .val (.long q6), .second, .val (.int f6), .val (.int (6 : Int32)), .val (.ref b1), .val (.ref b8), .val (.int (1 : Int32)), .unset, .unset] [(.int a1), (.ref b134), (.ref b134)])
    refine Goes.of (fun _ => XS.aload X134.here hx rfl (hb hby at_147) rfl rfl) ?_
    show Goes p e below _ T134 (mkF m 149 #[.val (.int a1), .val (.int a2), .val (.int a3), .val (.int a4), .val (.int a5), .val (.long q6), .second, .val (.int f6), .val (.int (6 : Int32)), .val (.ref b1), .val (.ref b8), .val (.int (1 : Int32)), .unset, .unset] [(.ref b1), (.int a1), (.ref b134), (.ref b134)])
    refine Goes.of (fun _ => XS.iconst X134.here hx rfl (hb hby at_149)) ?_
    show Goes p e below _ T134 (mkF m 150 #[.val (.int a1), .val (.int a2), .val (.int a3), .val (.int a4), .val (.int a5), .val (.long q6), .second, .val (.int f6), .val (.int (6 : Int32)), .val (.ref b1), .val (.ref b8), .val (.int (1 : Int32)), .unset, .unset] [(.int (1 : Int32)), (.ref b1), (.int a1), (.ref b134), (.ref b134)])
    refine goLdI (.int a2) X134 hx hZ eT134 V1 (by decide) (by decide) rfl (g := (mkF m 150 #[.val (.int a1), .val (.int a2), .val (.int a3), .val (.int a4), .val (.int a5), .val (.long q6), .second, .val (.int f6), .val (.int (6 : Int32)), .val (.ref b1), .val (.ref b8), .val (.int (1 : Int32)), .unset, .unset] [(.int (1 : Int32)), (.ref b1), (.int a1), (.ref b134), (.ref b134)])) rfl rfl (hb hby at_150) ?_
    show Goes p e below _ T134 (mkF m 151 #[.val (.int a1), .val (.int a2), .val (.int a3), .val (.int a4), .val (.int a5), .val (.long q6), .second, .val (.int f6), .val (.int (6 : Int32)), .val (.ref b1), .val (.ref b8), .val (.int (1 : Int32)), .unset, .unset] [(.int a2), (.int a1), (.ref b134), (.ref b134)])
    refine Goes.of (fun _ => XS.aload X134.here hx rfl (hb hby at_151) rfl rfl) ?_
    show Goes p e below _ T134 (mkF m 153 #[.val (.int a1), .val (.int a2), .val (.int a3), .val (.int a4), .val (.int a5), .val (.long q6), .second, .val (.int f6), .val (.int (6 : Int32)), .val (.ref b1), .val (.ref b8), .val (.int (1 : Int32)), .unset, .unset] [(.ref b1), (.int a2), (.int a1), (.ref b134), (.ref b134)])
    refine Goes.of (fun _ => XS.iconst X134.here hx rfl (hb hby at_153)) ?_
    show Goes p e below _ T134 (mkF m 154 #[.val (.int a1), .val (.int a2), .val (.int a3), .val (.int a4), .val (.int a5), .val (.long q6), .second, .val (.int f6), .val (.int (6 : Int32)), .val (.ref b1), .val (.ref b8), .val (.int (1 : Int32)), .unset, .unset] [(.int (2 : Int32)), (.ref b1), (.int a2), (.int a1), (.ref b134), (.ref b134)])
    refine goLdI (.int a3) X134 hx hZ eT134 V1 (by decide) (by decide) rfl (g := (mkF m 154 #[.val (.int a1), .val (.int a2), .val (.int a3), .val (.int a4), .val (.int a5), .val (.long q6), .second, .val (.int f6), .val (.int (6 : Int32)), .val (.ref b1), .val (.ref b8), .val (.int (1 : Int32)), .unset, .unset] [(.int (2 : Int32)), (.ref b1), (.int a2), (.int a1), (.ref b134), (.ref b134)])) rfl rfl (hb hby at_154) ?_
    show Goes p e below _ T134 (mkF m 155 #[.val (.int a1), .val (.int a2), .val (.int a3), .val (.int a4), .val (.int a5), .val (.long q6), .second, .val (.int f6), .val (.int (6 : Int32)), .val (.ref b1), .val (.ref b8), .val (.int (1 : Int32)), .unset, .unset] [(.int a3), (.int a2), (.int a1), (.ref b134), (.ref b134)])
    refine Goes.of (fun _ => XS.aload X134.here hx rfl (hb hby at_155) rfl rfl) ?_
    show Goes p e below _ T134 (mkF m 157 #[.val (.int a1), .val (.int a2), .val (.int a3), .val (.int a4), .val (.int a5), .val (.long q6), .second, .val (.int f6), .val (.int (6 : Int32)), .val (.ref b1), .val (.ref b8), .val (.int (1 : Int32)), .unset, .unset] [(.ref b1), (.int a3), (.int a2), (.int a1), (.ref b134), (.ref b134)])
    refine Goes.of (fun _ => XS.iconst X134.here hx rfl (hb hby at_157)) ?_
    show Goes p e below _ T134 (mkF m 158 #[.val (.int a1), .val (.int a2), .val (.int a3), .val (.int a4), .val (.int a5), .val (.long q6), .second, .val (.int f6), .val (.int (6 : Int32)), .val (.ref b1), .val (.ref b8), .val (.int (1 : Int32)), .unset, .unset] [(.int (3 : Int32)), (.ref b1), (.int a3), (.int a2), (.int a1), (.ref b134), (.ref b134)])
    refine goLdI (.int a4) X134 hx hZ eT134 V1 (by decide) (by decide) rfl (g := (mkF m 158 #[.val (.int a1), .val (.int a2), .val (.int a3), .val (.int a4), .val (.int a5), .val (.long q6), .second, .val (.int f6), .val (.int (6 : Int32)), .val (.ref b1), .val (.ref b8), .val (.int (1 : Int32)), .unset, .unset] [(.int (3 : Int32)), (.ref b1), (.int a3), (.int a2), (.int a1), (.ref b134), (.ref b134)])) rfl rfl (hb hby at_158) ?_
    show Goes p e below _ T134 (mkF m 159 #[.val (.int a1), .val (.int a2), .val (.int a3), .val (.int a4), .val (.int a5), .val (.long q6), .second, .val (.int f6), .val (.int (6 : Int32)), .val (.ref b1), .val (.ref b8), .val (.int (1 : Int32)), .unset, .unset] [(.int a4), (.int a3), (.int a2), (.int a1), (.ref b134), (.ref b134)])
    refine Goes.of (fun _ => XS.aload X134.here hx rfl (hb hby at_159) rfl rfl) ?_
    show Goes p e below _ T134 (mkF m 161 #[.val (.int a1), .val (.int a2), .val (.int a3), .val (.int a4), .val (.int a5), .val (.long q6), .second, .val (.int f6), .val (.int (6 : Int32)), .val (.ref b1), .val (.ref b8), .val (.int (1 : Int32)), .unset, .unset] [(.ref b1), (.int a4), (.int a3), (.int a2), (.int a1), (.ref b134), (.ref b134)])
    refine Goes.of (fun _ => XS.iconst X134.here hx rfl (hb hby at_161)) ?_
    show Goes p e below _ T134 (mkF m 162 #[.val (.int a1), .val (.int a2), .val (.int a3), .val (.int a4), .val (.int a5), .val (.long q6), .second, .val (.int f6), .val (.int (6 : Int32)), .val (.ref b1), .val (.ref b8), .val (.int (1 : Int32)), .unset, .unset] [(.int (4 : Int32)), (.ref b1), (.int a4), (.int a3), (.int a2), (.int a1), (.ref b134), (.ref b134)])
    refine goLdI (.int a5) X134 hx hZ eT134 V1 (by decide) (by decide) rfl (g := (mkF m 162 #[.val (.int a1), .val (.int a2), .val (.int a3), .val (.int a4), .val (.int a5), .val (.long q6), .second, .val (.int f6), .val (.int (6 : Int32)), .val (.ref b1), .val (.ref b8), .val (.int (1 : Int32)), .unset, .unset] [(.int (4 : Int32)), (.ref b1), (.int a4), (.int a3), (.int a2), (.int a1), (.ref b134), (.ref b134)])) rfl rfl (hb hby at_162) ?_
    show Goes p e below _ T134 (mkF m 163 #[.val (.int a1), .val (.int a2), .val (.int a3), .val (.int a4), .val (.int a5), .val (.long q6), .second, .val (.int f6), .val (.int (6 : Int32)), .val (.ref b1), .val (.ref b8), .val (.int (1 : Int32)), .unset, .unset] [(.int a5), (.int a4), (.int a3), (.int a2), (.int a1), (.ref b134), (.ref b134)])
    refine Goes.of (fun _ => XS.aload X134.here hx rfl (hb hby at_163) rfl rfl) ?_
    show Goes p e below _ T134 (mkF m 165 #[.val (.int a1), .val (.int a2), .val (.int a3), .val (.int a4), .val (.int a5), .val (.long q6), .second, .val (.int f6), .val (.int (6 : Int32)), .val (.ref b1), .val (.ref b8), .val (.int (1 : Int32)), .unset, .unset] [(.ref b1), (.int a5), (.int a4), (.int a3), (.int a2), (.int a1), (.ref b134), (.ref b134)])
    refine Goes.of (fun _ => XS.iconst X134.here hx rfl (hb hby at_165)) ?_
    show Goes p e below _ T134 (mkF m 166 #[.val (.int a1), .val (.int a2), .val (.int a3), .val (.int a4), .val (.int a5), .val (.long q6), .second, .val (.int f6), .val (.int (6 : Int32)), .val (.ref b1), .val (.ref b8), .val (.int (1 : Int32)), .unset, .unset] [(.int (5 : Int32)), (.ref b1), (.int a5), (.int a4), (.int a3), (.int a2), (.int a1), (.ref b134), (.ref b134)])
    refine goLdI (.int f6) X134 hx hZ eT134 V1 (by decide) (by decide) rfl (g := (mkF m 166 #[.val (.int a1), .val (.int a2), .val (.int a3), .val (.int a4), .val (.int a5), .val (.long q6), .second, .val (.int f6), .val (.int (6 : Int32)), .val (.ref b1), .val (.ref b8), .val (.int (1 : Int32)), .unset, .unset] [(.int (5 : Int32)), (.ref b1), (.int a5), (.int a4), (.int a3), (.int a2), (.int a1), (.ref b134), (.ref b134)])) rfl rfl (hb hby at_166) ?_
    show Goes p e below _ T134 (mkF m 167 #[.val (.int a1), .val (.int a2), .val (.int a3), .val (.int a4), .val (.int a5), .val (.long q6), .second, .val (.int f6), .val (.int (6 : Int32)), .val (.ref b1), .val (.ref b8), .val (.int (1 : Int32)), .unset, .unset] [(.int f6), (.int a5), (.int a4), (.int a3), (.int a2), (.int a1), (.ref b134), (.ref b134)])
    refine goSpecial 1 X134 hx hZ rfl hown (hw _ (List.mem_of_getElem? (i := 4) rfl)) (hw _ (List.mem_of_getElem? (i := 5) rfl)) (hw _ (List.mem_of_getElem? (i := 3) rfl)) (hw _ (List.mem_of_getElem? (i := 6) rfl)) (by decide) (rm_init l Z a0 hw b134 a1 a2 a3 a4 a5 f6 h134 n0 O0 g_b134 A134 F134_leftSideBearing F134_rightSideBearing F134_characterWidth F134_ascent F134_descent F134_attributes) eT134 (g := (mkF m 167 #[.val (.int a1), .val (.int a2), .val (.int a3), .val (.int a4), .val (.int a5), .val (.long q6), .second, .val (.int f6), .val (.int (6 : Int32)), .val (.ref b1), .val (.ref b8), .val (.int (1 : Int32)), .unset, .unset] [(.int f6), (.int a5), (.int a4), (.int a3), (.int a2), (.int a1), (.ref b134), (.ref b134)])) rfl (by rw [hml]; rfl) b134 [(.int a1), (.int a2), (.int a3), (.int a4), (.int a5), (.int f6)] [(.ref b134)] (lenOf pd__IIIIII_V rfl) rfl rfl (by show 2 * 0 + _ ≤ _; exact Nat.le_of_eq rfl) (hb hby at_167) (by decide) (by decide) (by decide) (by decide) ?_
    intro v141 T141 L141 X141 q141
    obtain ⟨rfl, Nq141, Kq141, H0_141, H1_141, H2_141, H3_141, H4_141, H5_141⟩ := q141
    have N141 := Fr.app N14 Nq141
    have V1 := V1.keep Kq141 (ninS ne_b1_b134 nin0)
    have A1 := A1.keep Kq141
    have V8 := V8.keep Kq141 (ninS ne_b8_b134 nin0)
    have A8 := A8.keep Kq141
    have A134 := A134.keep Kq141
    have O0 := O0.keep Kq141 (allS g_b134 all0)
    show Goes p e below _ T141 (mkF m 170 #[.val (.int a1), .val (.int a2), .val (.int a3), .val (.int a4), .val (.int a5), .val (.long q6), .second, .val (.int f6), .val (.int (6 : Int32)), .val (.ref b1), .val (.ref b8), .val (.int (1 : Int32)), .unset, .unset] [(.ref b134)])
    refine Goes.of (fun _ => XS.astore X141.here hx rfl (hb hby at_170) rfl rfl (l' := #[.val (.int a1), .val (.int a2), .val (.int a3), .val (.int a4), .val (.int a5), .val (.long q6), .second, .val (.int f6), .val (.int (6 : Int32)), .val (.ref b1), .val (.ref b8), .val (.int (1 : Int32)), .val (.ref b134), .unset]) rfl) ?_
    show Goes p e below _ T141 (mkF m 172 #[.val (.int a1), .val (.int a2), .val (.int a3), .val (.int a4), .val (.int a5), .val (.long q6), .second, .val (.int f6), .val (.int (6 : Int32)), .val (.ref b1), .val (.ref b8), .val (.int (1 : Int32)), .val (.ref b134), .unset] [])
    refine goNew X141 hx hZ hown (hw _ (List.mem_of_getElem? (i := 1) rfl)) (hw _ (List.mem_of_getElem? (i := 2) rfl)) (hw _ (List.mem_of_getElem? (i := 3) rfl)) (rfl : T141.heap = _) (g := (mkF m 172 #[.val (.int a1), .val (.int a2), .val (.int a3), .val (.int a4), .val (.int a5), .val (.long q6), .second, .val (.int f6), .val (.int (6 : Int32)), .val (.ref b1), .val (.ref b8), .val (.int (1 : Int32)), .val (.ref b134), .unset] [])) rfl (hb hby at_172) (by decide) (by decide) ?_
    intro T142 h142 b142 X142 eT142 E142 hb142 A142 D142
    have g_b142 : n0 ≤ b142 := Nat.le_trans (oldLe O0) hb142
    have ne_b1_b142 : b1 ≠ b142 := Nat.ne_of_lt (Nat.lt_of_lt_of_le V1.lt hb142)
    have ne_b8_b142 : b8 ≠ b142 := Nat.ne_of_lt (Nat.lt_of_lt_of_le V8.lt hb142)
    have ne_b134_b142 : b134 ≠ b142 := Nat.ne_of_lt (Nat.lt_of_lt_of_le A134.lt hb142)
    have V1 := V1.ext E142
    have A1 := A1.ext E142
    have V8 := V8.ext E142
    have A8 := A8.ext E142
    have A134 := A134.ext E142
    have H0_141 := H0_141.ext E142
    have H1_141 := H1_141.ext E142
    have H2_141 := H2_141.ext E142
    have H3_141 := H3_141.ext E142
    have H4_141 := H4_141.ext E142
    have H5_141 := H5_141.ext E142
    have O0 := O0.ext E142
    have F142_leftSideBearing : Fld Z h142 b142 "com/example/casement/casement/graphics/CharMetrics" "leftSideBearing" "I" (.int (0 : Int32)) := D142 (Or.inr (hw _ (List.mem_of_getElem? (i := 11) rfl))) (ty := .int) (by decide)
    have F142_rightSideBearing : Fld Z h142 b142 "com/example/casement/casement/graphics/CharMetrics" "rightSideBearing" "I" (.int (0 : Int32)) := D142 (Or.inr (hw _ (List.mem_of_getElem? (i := 13) rfl))) (ty := .int) (by decide)
    have F142_characterWidth : Fld Z h142 b142 "com/example/casement/casement/graphics/CharMetrics" "characterWidth" "I" (.int (0 : Int32)) := D142 (Or.inr (hw _ (List.mem_of_getElem? (i := 15) rfl))) (ty := .int) (by decide)
    have F142_ascent : Fld Z h142 b142 "com/example/casement/casement/graphics/CharMetrics" "ascent" "I" (.int (0 : Int32)) := D142 (Or.inr (hw _ (List.mem_of_getElem? (i := 17) rfl))) (ty := .int) (by decide)
    have F142_descent : Fld Z h142 b142 "com/example/casement/casement/graphics/CharMetrics" "descent" "I" (.int (0 : Int32)) := D142 (Or.inr (hw _ (List.mem_of_getElem? (i := 19) rfl))) (ty := .int) (by decide)
    have F142_attributes : Fld Z h142 b142 "com/example/casement/casement/graphics/CharMetrics" "attributes" "I" (.int (0 : Int32)) := D142 (Or.inr (hw _ (List.mem_of_getElem? (i := 21) rfl))) (ty := .int) (by decide)
    show Goes p e below _ T142 (mkF m 175 #[.val (.int a1), .val (.int a2), .val (.int a3), .val (.int a4), .val (.int a5), .val (.long q6), .second, .val (.int f6), .val (.int (6 : Int32)), .val (.ref b1), .val (.ref b8), .val (.int (1 : Int32)), .val (.ref b134), .unset] [(.ref b142)])
    refine Goes.of (fun _ => XS.dup X142.here hx rfl (hb hby at_175) rfl rfl) ?_
    show Goes p e below _ T142 (mkF m 176 #[.val (.int a1), .val (.int a2), .val (.int a3), .val (.int a4), .val (.int a5), .val (.long q6), .second, .val (.int f6), .val (.int (6 : Int32)), .val (.ref b1), .val (.ref b8), .val (.int (1 : Int32)), .val (.ref b134), .unset] [(.ref b142), (.ref b142)])
    refine Goes.of (fun _ => XS.aload X142.here hx rfl (hb hby at_176) rfl rfl) ?_
    show Goes p e below _ T142 (mkF m 178 #[.val (.int a1), .val (.int a2), .val (.int a3), .val (.int a4), .val (.int a5), .val (.long q6), .second, .val (.int f6), .val (.int (6 : Int32)), .val (.ref b1), .val (.ref b8), .val (.int (1 : Int32)), .val (.ref b134), .unset] [(.ref b8), (.ref b142), (.ref b142)])
    refine Goes.of (fun _ => XS.iconst X142.here hx rfl (hb hby at_178)) ?_
    show Goes p e below _ T142 (mkF m 179 #[.val (.int a1), .val (.int a2), .val (.int a3), .val (.int a4), .val (.int a5), .val (.long q6), .second, .val (.int f6), .val (.int (6 : Int32)), .val (.ref b1), .val (.ref b8), .val (.int (1 : Int32)), .val (.ref b134), .unset] [(.int (0 : Int32)), (.ref b8), (.ref b142), (.ref b142)])
    refine goLdI (.int a1) X142 hx hZ eT142 V8 (by decide) (by decide) rfl (g := (mkF m 179 #[.val (.int a1), .val (.int a2), .val (.int a3), .val (.int a4), .val (.int a5), .val (.long q6), .second, .val (.int f6), .val (.int (6 : Int32)), .val (.ref b1), .val (.ref b8), .val (.int (1 : Int32)), .val (.ref b134), .unset] [(.int (0 : Int32)), (.ref b8), (.ref b142), (.ref b142)])) rfl rfl (hb hby at_179) ?_
    show Goes p e below _ T142 (mkF m 180 #[.val (.int a1), .val (.int a2), .val (.int a3), .val (.int a4), .val (.int a5), .val (.long q6), .second, .val (.int f6), .val (.int (6 : Int32)), .val (.ref b1), .val (.ref b8), .val (.int (1 : Int32)), .val (.ref b134), .unset] [(.int a1), (.ref b142), (.ref b142)])
    refine Goes.of (fun _ => XS.aload X142.here hx rfl (hb hby at_180) rfl rfl) ?_
    show Goes p e below _ T142 (mkF m 182 #[.val (.int a1), .val (.int a2), .val (.int a3), .val (.int a4), .val (.int a5), .val (.long q6), .second, .val (.int f6), .val (.int (6 : Int32)), .val (.ref b1), .val (.ref b8), .val (.int (1 : Int32)), .val (.ref b134), .unset] [(.ref b8), (.int a1), (.ref b142), (.ref b142)])
    refine Goes.of (fun _ => XS.iconst X142.here hx rfl (hb hby at_182)) ?_
    show Goes p e below _ T142 (mkF m 183 #[.val (.int a1), .val (.int a2), .val (.int a3), .val (.int a4), .val (.int a5), .val (.long q6), .second, .val (.int f6), .val (.int (6 : Int32)), .val (.ref b1), .val (.ref b8), .val (.int (1 : Int32)), .val (.ref b134), .unset] [(.int (1 : Int32)), (.ref b8), (.int a1), (.ref b142), (.ref b142)])
    refine goLdI (.int a2) X142 hx hZ eT142 V8 (by decide) (by decide) rfl (g := (mkF m 183 #[.val (.int a1), .val (.int a2), .val (.int a3), .val (.int a4), .val (.int a5), .val (.long q6), .second, .val (.int f6), .val (.int (6 : Int32)), .val (.ref b1), .val (.ref b8), .val (.int (1 : Int32)), .val (.ref b134), .unset] [(.int (1 : Int32)), (.ref b8), (.int a1), (.ref b142), (.ref b142)])) rfl rfl (hb hby at_183) ?_
    show Goes p e below _ T142 (mkF m 184 #[.val (.int a1), .val (.int a2), .val (.int a3), .val (.int a4), .val (.int a5), .val (.long q6), .second, .val (.int f6), .val (.int (6 : Int32)), .val (.ref b1), .val (.ref b8), .val (.int (1 : Int32)), .val (.ref b134), .unset] [(.int a2), (.int a1), (.ref b142), (.ref b142)])
    refine Goes.of (fun _ => XS.aload X142.here hx rfl (hb hby at_184) rfl rfl) ?_
    show Goes p e below _ T142 (mkF m 186 #[.val (.int a1), .val (.int a2), .val (.int a3), .val (.int a4), .val (.int a5), .val (.long q6), .second, .val (.int f6), .val (.int (6 : Int32)), .val (.ref b1), .val (.ref b8), .val (.int (1 : Int32)), .val (.ref b134), .unset] [(.ref b8), (.int a2), (.int a1), (.ref b142), (.ref b142)])
    refine Goes.of (fun _ => XS.iconst X142.here hx rfl (hb hby at_186)) ?_
    show Goes p e below _ T142 (mkF m 187 #[.val (.int a1), .val (.int a2), .val (.int a3), .val (.int a4), .val (.int a5), .val (.long q6), .second, .val (.int f6), .val (.int (6 : Int32)), .val (.ref b1), .val (.ref b8), .val (.int (1 : Int32)), .val (.ref b134), .unset] [(.int (2 : Int32)), (.ref b8), (.int a2), (.int a1), (.ref b142), (.ref b142)])
    refine goLdI (.int a3) X142 hx hZ eT142 V8 (by decide) (by decide) rfl (g := (mkF m 187 #[.val (.int a1), .val (.int a2), .val (.int a3), .val (.int a4), .val (.int a5), .val (.long q6), .second, .val (.int f6), .val (.int (6 : Int32)), .val (.ref b1), .val (.ref b8), .val (.int (1 : Int32)), .val (.ref b134), .unset] [(.int (2 : Int32)), (.ref b8), (.int a2), (.int a1), (.ref b142), (.ref b142)])) rfl rfl (hb hby at_187) ?_
    show Goes p e below _ T142 (mkF m 188 #[.val (.int a1), .val (.int a2), .val (.int a3), .val (.int a4), .val (.int a5), .val (.long q6), .second, .val (.int f6), .val (.int (6 : Int32)), .val (.ref b1), .val (.ref b8), .val (.int (1 : Int32)), .val (.ref b134), .unset] [(.int a3), (.int a2), (.int a1), (.ref b142), (.ref b142)])
    refine Goes.of (fun _ => XS.aload X142.here hx rfl (hb hby at_188) rfl rfl) ?_
    show Goes p e below _ T142 (mkF m 190 #[.val (.int a1), .val (.int a2), .val (.int a3), .val (.int a4), .val (.int a5), .val (.long q6), .second, .val (.int f6), .val (.int (6 : Int32)), .val (.ref b1), .val (.ref b8), .val (.int (1 : Int32)), .val (.ref b134), .unset] [(.ref b8), (.int a3), (.int a2), (.int a1), (.ref b142), (.ref b142)])
    refine Goes.of (fun _ => XS.iconst X142.here hx rfl (hb hby at_190)) ?_
    show Goes p e below _ T142 (mkF m 191 #[.val (.int a1), .val (.int a2), .val (.int a3), .val (.int a4), .val (.int a5), .val (.long q6), .second, .val (.int f6), .val (.int (6 : Int32)), .val (.ref b1), .val (.ref b8), .val (.int (1 : Int32)), .val (.ref b134), .unset] [(.int (3 : Int32)), (.ref b8), (.int a3), (.int a2), (.int a1), (.ref b142), (.ref b142)])
    refine goLdI (.int a4) X142 hx hZ eT142 V8 (by decide) (by decide) rfl (g := (mkF m 191 #[.val (.int a1), .val (.int a2), .val (.int a3), .val (.int a4), .val (.int a5), .val (.long q6), .second, .val (.int f6), .val (.int (6 : Int32)), .val (.ref b1), .val (.ref b8), .val (.int (1 : Int32)), .val (.ref b134), .unset] [(.int (3 : Int32)), (.ref b8), (.int a3), (.int a2), (.int a1), (.ref b142), (.ref b142)])) rfl rfl (hb hby at_191) ?_
    show Goes p e below _ T142 (mkF m 192 #[.val (.int a1), .val (.int a2), .val (.int a3), .val (.int a4), .val (.int a5), .val (.long q6), .second, .val (.int f6), .val (.int (6 : Int32)), .val (.ref b1), .val (.ref b8), .val (.int (1 : Int32)), .val (.ref b134), .unset] [(.int a4), (.int a3), (.int a2), (.int a1), (.ref b142), (.ref b142)])
    refine Goes.of (fun _ => XS.aload X142.here hx rfl (hb hby at_192) rfl rfl) ?_
    show Goes p e below _ T142 (mkF m 194 #[.val (.int a1), .val (.int a2), .val (.int a3), .val (.int a4), .val (.int a5), .val (.long q6), .second, .val (.int f6), .val (.int (6 : Int32)), .val (.ref b1), .val (.ref b8), .val (.int (1 : Int32)), .val (.ref b134), .unset] [(.ref b8), (.int a4), (.int a3), (.int a2), (.int a1), (.ref b142), (.ref b142)])
    refine Goes.of (fun _ => XS.iconst X142.here hx rfl (hb hby at_194)) ?_
    show Goes p e below _ T142 (mkF m 195 #[.val (.int a1), .val (.int a2), .val (.int a3), .val (.int a4), .val (.int a5), .val (.long q6), .second, .val (.int f6), .val (.int (6 : Int32)), .val (.ref b1), .val (.ref b8), .val (.int (1 : Int32)), .val (.ref b134), .unset] [(.int (4 : Int32)), (.ref b8), (.int a4), (.int a3), (.int a2), (.int a1), (.ref b142), (.ref b142)])
    refine goLdI (.int a5) X142 hx hZ eT142 V8 (by decide) (by decide) rfl (g := (mkF m 195 #[.val (.int a1), .val (.int a2), .val (.int a3), .val (.int a4), .val (.int a5), .val (.long q6), .second, .val (.int f6), .val (.int (6 : Int32)), .val (.ref b1), .val (.ref b8), .val (.int (1 : Int32)), .val (.ref b134), .unset] [(.int (4 : Int32)), (.ref b8), (.int a4), (.int a3), (.int a2), (.int a1), (.ref b142), (.ref b142)])) rfl rfl (hb hby at_195) ?_
    show Goes p e below _ T142 (mkF m 196 #[.val (.int a1), .val (.int a2), .val (.int a3), .val (.int a4), .val (.int a5), .val (.long q6), .second, .val (.int f6), .val (.int (6 : Int32)), .val (.ref b1), .val (.ref b8), .val (.int (1 : Int32)), .val (.ref b134), .unset] [(.int a5), (.int a4), (.int a3), (.int a2), (.int a1), (.ref b142), (.ref b142)])
    refine Goes.of (fun _ => XS.aload X142.here hx rfl (hb hby at_196) rfl rfl) ?_
    show Goes p e below _ T142 (mkF m 198 #[.val (.int a1), .val (.int a2), .val (.int a3), .val (.int a4), .val (.int a5), .val (.long q6), .second, .val (.int f6), .val (.int (6 : Int32)), .val (.ref b1), .val (.ref b8), .val (.int (1 : Int32)), .val (.ref b134), .unset] [(.ref b8), (.int a5), (.int a4), (.int a3), (.int a2), (.int a1), (.ref b142), (.ref b142)])
    refine Goes.of (fun _ => XS.iconst X142.here hx rfl (hb hby at_198)) ?_
    show Goes p e below _ T142 (mkF m 199 #[.val (.int a1), .val (.int a2), .val (.int a3), .val (.int a4), .val (.int a5), .val (.long q6), .second, .val (.int f6), .val (.int (6 : Int32)), .val (.ref b1), .val (.ref b8), .val (.int (1 : Int32)), .val (.ref b134), .unset] [(.int (5 : Int32)), (.ref b8), (.int a5), (.int a4), (.int a3), (.int a2), (.int a1), (.ref b142), (.ref b142)])
    refine goLdI (.int f6) X142 hx hZ eT142 V8 (by decide) (by decide) rfl (g := (mkF m 199 #[.val (.int a1), .val (.int a2), .val (.int a3), .val (.int a4), .val (.int a5), .val (.long q6), .second, .val (.int f6), .val (.int (6 : Int32)), .val (.ref b1), .val (.ref b8), .val (.int (1 : Int32)), .val (.ref b134), .unset] [(.int (5 : Int32)), (.ref b8), (.int a5), (.int a4), (.int a3), (.int a2), (.int a1), (.ref b142), (.ref b142)])) rfl rfl (hb hby at_199) ?_
    show Goes p e below _ T142 (mkF m 200 #[.val (.int a1), .val (.int a2), .val (.int a3), .val (.int a4), .val (.int a5), .val (.long q6), .second, .val (.int f6), .val (.int (6 : Int32)), .val (.ref b1), .val (.ref b8), .val (.int (1 : Int32)), .val (.ref b134), .unset] [(.int f6), (.int a5), (.int a4), (.int a3), (.int a2), (.int a1), (.ref b142), (.ref b142)])
    refine goSpecial 1 X142 hx hZ rfl hown (hw _ (List.mem_of_getElem? (i := 4) rfl)) (hw _ (List.mem_of_getElem? (i := 5) rfl)) (hw _ (List.mem_of_getElem? (i := 3) rfl)) (hw _ (List.mem_of_getElem? (i := 6) rfl)) (by decide) (rm_init l Z a0 hw b142 a1 a2 a3 a4 a5 f6 h142 n0 O0 g_b142 A142 F142_leftSideBearing F142_rightSideBearing F142_characterWidth F142_ascent F142_descent F142_attributes) eT142 (g := (mkF m 200 #[.val (.int a1), .val (.int a2), .val (.int a3), .val (.int a4), .val (.int a5), .val (.long q6), .second, .val (.int f6), .val (.int (6 : Int32)), .val (.ref b1), .val (.ref b8), .val (.int (1 : Int32)), .val (.ref b134), .unset] [(.int f6), (.int a5), (.int a4), (.int a3), (.int a2), (.int a1), (.ref b142), (.ref b142)])) rfl (by rw [hml]; rfl) b142 [(.int a1), (.int a2), (.int a3), (.int a4), (.int a5), (.int f6)] [(.ref b142)] (lenOf pd__IIIIII_V rfl) rfl rfl (by show 2 * 0 + _ ≤ _; exact Nat.le_of_eq rfl) (hb hby at_200) (by decide) (by decide) (by decide) (by decide) ?_
    intro v149 T149 L149 X149 q149
    obtain ⟨rfl, Nq149, Kq149, H0_149, H1_149, H2_149, H3_149, H4_149, H5_149⟩ := q149
    have N149 := Fr.app N141 Nq149
    have V1 := V1.keep Kq149 (ninS ne_b1_b142 nin0)
    have A1 := A1.keep Kq149
    have V8 := V8.keep Kq149 (ninS ne_b8_b142 nin0)
    have A8 := A8.keep Kq149
    have A134 := A134.keep Kq149
    have H0_141 := H0_141.keep Kq149 (ninS ne_b134_b142 nin0)
    have H1_141 := H1_141.keep Kq149 (ninS ne_b134_b142 nin0)
    have H2_141 := H2_141.keep Kq149 (ninS ne_b134_b142 nin0)
    have H3_141 := H3_141.keep Kq149 (ninS ne_b134_b142 nin0)
    have H4_141 := H4_141.keep Kq149 (ninS ne_b134_b142 nin0)
    have H5_141 := H5_141.keep Kq149 (ninS ne_b134_b142 nin0)
    have A142 := A142.keep Kq149
    have O0 := O0.keep Kq149 (allS g_b142 all0)
    show Goes p e below _ T149 (mkF m 203 #[.val (.int a1), .val (.int a2), .val (.int a3), .val (.int a4), .val (.int a5), .val (.long q6), .second, .val (.int f6), .val (.int (6 : Int32)), .val (.ref b1), .val (.ref b8), .val (.int (1 : Int32)), .val (.ref b134), .unset] [(.ref b142)])
    refine Goes.of (fun _ => XS.astore X149.here hx rfl (hb hby at_203) rfl rfl (l' := #[.val (.int a1), .val (.int a2), .val (.int a3), .val (.int a4), .val (.int a5), .val (.long q6), .second, .val (.int f6), .val (.int (6 : Int32)), .val (.ref b1), .val (.ref b8), .val (.int (1 : Int32)), .val (.ref b134), .val (.ref b142)]) rfl) ?_
    show Goes p e below _ T149 (mkF m 205 #[.val (.int a1), .val (.int a2), .val (.int a3), .val (.int a4), .val (.int a5), .val (.long q6), .second, .val (.int f6), .val (.int (6 : Int32)), .val (.ref b1), .val (.ref b8), .val (.int (1 : Int32)), .val (.ref b134), .val (.ref b142)] [])
    refine Goes.of (fun _ => XS.iload X149.here hx rfl (hb hby at_205) rfl) ?_
    show Goes p e below _ T149 (mkF m 207 #[.val (.int a1), .val (.int a2), .val (.int a3), .val (.int a4), .val (.int a5), .val (.long q6), .second, .val (.int f6), .val (.int (6 : Int32)), .val (.ref b1), .val (.ref b8), .val (.int (1 : Int32)), .val (.ref b134), .val (.ref b142)] [(.int (6 : Int32))])
    refine Goes.of (fun _ => XS.bipush X149.here hx rfl (hb hby at_207)) ?_
    show Goes p e below _ T149 (mkF m 209 #[.val (.int a1), .val (.int a2), .val (.int a3), .val (.int a4), .val (.int a5), .val (.long q6), .second, .val (.int f6), .val (.int (6 : Int32)), .val (.ref b1), .val (.ref b8), .val (.int (1 : Int32)), .val (.ref b134), .val (.ref b142)] [(.int (7 : Int32)), (.int (6 : Int32))])
    refine Goes.of (fun _ => XS.icmpYes X149.here hx rfl (pc0 := 209) (pc' := 249) rfl (hb hby at_209) rfl (feq (by decide)).2 (by decide) (by decide)) ?_
    show Goes p e below _ T149 (mkF m 249 #[.val (.int a1), .val (.int a2), .val (.int a3), .val (.int a4), .val (.int a5), .val (.long q6), .second, .val (.int f6), .val (.int (6 : Int32)), .val (.ref b1), .val (.ref b8), .val (.int (1 : Int32)), .val (.ref b134), .val (.ref b142)] [])
    refine Goes.of (fun _ => XS.aload X149.here hx rfl (hb hby at_249) rfl rfl) ?_
    show Goes p e below _ T149 (mkF m 251 #[.val (.int a1), .val (.int a2), .val (.int a3), .val (.int a4), .val (.int a5), .val (.long q6), .second, .val (.int f6), .val (.int (6 : Int32)), .val (.ref b1), .val (.ref b8), .val (.int (1 : Int32)), .val (.ref b134), .val (.ref b142)] [(.ref b134)])
    refine Goes.of (fun _ => XS.aload X149.here hx rfl (hb hby at_251) rfl rfl) ?_
    show Goes p e below _ T149 (mkF m 253 #[.val (.int a1), .val (.int a2), .val (.int a3), .val (.int a4), .val (.int a5), .val (.long q6), .second, .val (.int f6), .val (.int (6 : Int32)), .val (.ref b1), .val (.ref b8), .val (.int (1 : Int32)), .val (.ref b134), .val (.ref b142)] [(.ref b142), (.ref b134)])
    refine goVirtual 0 X149 hx hZ hown (hw _ (List.mem_of_getElem? (i := 22) rfl)) (hw _ (List.mem_of_getElem? (i := 23) rfl)) (notFace_of_selects (args := #[]) (mvT hZ (hw _ (List.mem_of_getElem? (i := 25) rfl)))) (hw _ (List.mem_of_getElem? (i := 25) rfl)) (hw _ (List.mem_of_getElem? (i := 24) rfl)) (hw _ (List.mem_of_getElem? (i := 3) rfl)) (hw _ (List.mem_of_getElem? (i := 26) rfl)) (by decide) (rm_eq l Z a0 hw b134 b142 a1 a2 a3 a4 a5 f6 a1 a2 a3 a4 a5 f6 T149.heap n0 O0 A142 H0_141 H1_141 H2_141 H3_141 H4_141 H5_141 H0_149 H1_149 H2_149 H3_149 H4_149 H5_149) (rfl : T149.heap = _) A134 (g := (mkF m 253 #[.val (.int a1), .val (.int a2), .val (.int a3), .val (.int a4), .val (.int a5), .val (.long q6), .second, .val (.int f6), .val (.int (6 : Int32)), .val (.ref b1), .val (.ref b8), .val (.int (1 : Int32)), .val (.ref b134), .val (.ref b142)] [(.ref b142), (.ref b134)])) rfl (by rw [hml]; rfl) [(.ref b142)] [] (lenOf pd__Ljava_lang_Object__Z rfl) rfl rfl (by show 2 * 0 + _ ≤ _; exact Nat.le_of_eq rfl) (hb hby at_253) (by decide) (by decide) (by decide) (by decide) ?_
    intro v150 T150 L150 X150 q150
    obtain ⟨rfl, Nq150, eT150⟩ := q150
    have N150 := Fr.app N149 Nq150
    show Goes p e below _ T150 (mkF m 256 #[.val (.int a1), .val (.int a2), .val (.int a3), .val (.int a4), .val (.int a5), .val (.long q6), .second, .val (.int f6), .val (.int (6 : Int32)), .val (.ref b1), .val (.ref b8), .val (.int (1 : Int32)), .val (.ref b134), .val (.ref b142)] [(.int (eq6 a1 a2 a3 a4 a5 f6 a1 a2 a3 a4 a5 f6))])
    refine Goes.of (fun _ => XS.iload X150.here hx rfl (hb hby at_256) rfl) ?_
    show Goes p e below _ T150 (mkF m 258 #[.val (.int a1), .val (.int a2), .val (.int a3), .val (.int a4), .val (.int a5), .val (.long q6), .second, .val (.int f6), .val (.int (6 : Int32)), .val (.ref b1), .val (.ref b8), .val (.int (1 : Int32)), .val (.ref b134), .val (.ref b142)] [(.int (1 : Int32)), (.int (eq6 a1 a2 a3 a4 a5 f6 a1 a2 a3 a4 a5 f6))])
    refine Goes.of (fun _ => XS.icmpNo X150.here hx rfl (hb hby at_258) rfl (teq (by simp [eq6])).2) ?_
    show Goes p e below _ T150 (mkF m 261 #[.val (.int a1), .val (.int a2), .val (.int a3), .val (.int a4), .val (.int a5), .val (.long q6), .second, .val (.int f6), .val (.int (6 : Int32)), .val (.ref b1), .val (.ref b8), .val (.int (1 : Int32)), .val (.ref b134), .val (.ref b142)] [])
    refine Goes.of (fun _ => XS.aload X150.here hx rfl (hb hby at_261) rfl rfl) ?_
    show Goes p e below _ T150 (mkF m 263 #[.val (.int a1), .val (.int a2), .val (.int a3), .val (.int a4), .val (.int a5), .val (.long q6), .second, .val (.int f6), .val (.int (6 : Int32)), .val (.ref b1), .val (.ref b8), .val (.int (1 : Int32)), .val (.ref b134), .val (.ref b142)] [(.ref b142)])
    refine Goes.of (fun _ => XS.aload X150.here hx rfl (hb hby at_263) rfl rfl) ?_
    show Goes p e below _ T150 (mkF m 265 #[.val (.int a1), .val (.int a2), .val (.int a3), .val (.int a4), .val (.int a5), .val (.long q6), .second, .val (.int f6), .val (.int (6 : Int32)), .val (.ref b1), .val (.ref b8), .val (.int (1 : Int32)), .val (.ref b134), .val (.ref b142)] [(.ref b134), (.ref b142)])
    refine goVirtual 0 X150 hx hZ hown (hw _ (List.mem_of_getElem? (i := 22) rfl)) (hw _ (List.mem_of_getElem? (i := 23) rfl)) (notFace_of_selects (args := #[]) (mvT hZ (hw _ (List.mem_of_getElem? (i := 25) rfl)))) (hw _ (List.mem_of_getElem? (i := 25) rfl)) (hw _ (List.mem_of_getElem? (i := 24) rfl)) (hw _ (List.mem_of_getElem? (i := 3) rfl)) (hw _ (List.mem_of_getElem? (i := 26) rfl)) (by decide) (rm_eq l Z a0 hw b142 b134 a1 a2 a3 a4 a5 f6 a1 a2 a3 a4 a5 f6 T149.heap n0 O0 A134 H0_149 H1_149 H2_149 H3_149 H4_149 H5_149 H0_141 H1_141 H2_141 H3_141 H4_141 H5_141) eT150 A142 (g := (mkF m 265 #[.val (.int a1), .val (.int a2), .val (.int a3), .val (.int a4), .val (.int a5), .val (.long q6), .second, .val (.int f6), .val (.int (6 : Int32)), .val (.ref b1), .val (.ref b8), .val (.int (1 : Int32)), .val (.ref b134), .val (.ref b142)] [(.ref b134), (.ref b142)])) rfl (by rw [hml]; rfl) [(.ref b134)] [] (lenOf pd__Ljava_lang_Object__Z rfl) rfl rfl (by show 2 * 0 + _ ≤ _; exact Nat.le_of_eq rfl) (hb hby at_265) (by decide) (by decide) (by decide) (by decide) ?_
    intro v151 T151 L151 X151 q151
    obtain ⟨rfl, Nq151, eT151⟩ := q151
    have N151 := Fr.app N150 Nq151
    show Goes p e below _ T151 (mkF m 268 #[.val (.int a1), .val (.int a2), .val (.int a3), .val (.int a4), .val (.int a5), .val (.long q6), .second, .val (.int f6), .val (.int (6 : Int32)), .val (.ref b1), .val (.ref b8), .val (.int (1 : Int32)), .val (.ref b134), .val (.ref b142)] [(.int (eq6 a1 a2 a3 a4 a5 f6 a1 a2 a3 a4 a5 f6))])
    refine Goes.of (fun _ => XS.iload X151.here hx rfl (hb hby at_268) rfl) ?_
    show Goes p e below _ T151 (mkF m 270 #[.val (.int a1), .val (.int a2), .val (.int a3), .val (.int a4), .val (.int a5), .val (.long q6), .second, .val (.int f6), .val (.int (6 : Int32)), .val (.ref b1), .val (.ref b8), .val (.int (1 : Int32)), .val (.ref b134), .val (.ref b142)] [(.int (1 : Int32)), (.int (eq6 a1 a2 a3 a4 a5 f6 a1 a2 a3 a4 a5 f6))])
    refine Goes.of (fun _ => XS.icmpNo X151.here hx rfl (hb hby at_270) rfl (teq (by simp [eq6])).2) ?_
    show Goes p e below _ T151 (mkF m 273 #[.val (.int a1), .val (.int a2), .val (.int a3), .val (.int a4), .val (.int a5), .val (.long q6), .second, .val (.int f6), .val (.int (6 : Int32)), .val (.ref b1), .val (.ref b8), .val (.int (1 : Int32)), .val (.ref b134), .val (.ref b142)] [])
    refine Goes.of (fun _ => XS.iconst X151.here hx rfl (hb hby at_273)) ?_
    show Goes p e below _ T151 (mkF m 274 #[.val (.int a1), .val (.int a2), .val (.int a3), .val (.int a4), .val (.int a5), .val (.long q6), .second, .val (.int f6), .val (.int (6 : Int32)), .val (.ref b1), .val (.ref b8), .val (.int (1 : Int32)), .val (.ref b134), .val (.ref b142)] [(.int (1 : Int32))])
    refine Goes.of (fun _ => XS.goto X151.here hx rfl (pc0 := 274) (pc' := 278) rfl (hb hby at_274) (by decide) (by decide)) ?_
    show Goes p e below _ T151 (mkF m 278 #[.val (.int a1), .val (.int a2), .val (.int a3), .val (.int a4), .val (.int a5), .val (.long q6), .second, .val (.int f6), .val (.int (6 : Int32)), .val (.ref b1), .val (.ref b8), .val (.int (1 : Int32)), .val (.ref b134), .val (.ref b142)] [(.int (1 : Int32))])
    exact retZ (t := .boolean) X151 hx hret hlk (by simp) (hb hby at_278) eT151 (by decide) (by decide) ⟨rfl, N151⟩
  · show Goes p e below _ T14 (mkF m 80 #[.val (.int a1), .val (.int a2), .val (.int a3), .val (.int a4), .val (.int a5), .val (.long q6), .second, .val (.int f6), .val (.int (7 : Int32)), .val (.ref b1), .val (.ref b8), .unset, .unset, .unset] [])
    refine Goes.of (fun _ => XS.iload X14.here hx rfl (hb hby at_80) rfl) ?_
    show Goes p e below _ T14 (mkF m 82 #[.val (.int a1), .val (.int a2), .val (.int a3), .val (.int a4), .val (.int a5), .val (.long q6), .second, .val (.int f6), .val (.int (7 : Int32)), .val (.ref b1), .val (.ref b8), .unset, .unset, .unset] [(.int (7 : Int32))])
    refine Goes.of (fun _ => XS.ifYes X14.here hx rfl (pc0 := 82) (pc' := 105) rfl (hb hby at_82) rfl ((if0 _ _).trans (feq (by decide)).2) (by decide) (by decide)) ?_
    show Goes p e below _ T14 (mkF m 105 #[.val (.int a1), .val (.int a2), .val (.int a3), .val (.int a4), .val (.int a5), .val (.long q6), .second, .val (.int f6), .val (.int (7 : Int32)), .val (.ref b1), .val (.ref b8), .unset, .unset, .unset] [])
    refine Goes.of (fun _ => XS.iload X14.here hx rfl (hb hby at_105) rfl) ?_
    show Goes p e below _ T14 (mkF m 107 #[.val (.int a1), .val (.int a2), .val (.int a3), .val (.int a4), .val (.int a5), .val (.long q6), .second, .val (.int f6), .val (.int (7 : Int32)), .val (.ref b1), .val (.ref b8), .unset, .unset, .unset] [(.int (7 : Int32))])
    refine Goes.of (fun _ => XS.iconst X14.here hx rfl (hb hby at_107)) ?_
    show Goes p e below _ T14 (mkF m 108 #[.val (.int a1), .val (.int a2), .val (.int a3), .val (.int a4), .val (.int a5), .val (.long q6), .second, .val (.int f6), .val (.int (7 : Int32)), .val (.ref b1), .val (.ref b8), .unset, .unset, .unset] [(.int (5 : Int32)), (.int (7 : Int32))])
    refine Goes.of (fun _ => XS.icmpYes X14.here hx rfl (pc0 := 108) (pc' := 136) rfl (hb hby at_108) rfl (tlt (by decide)).2.2.1 (by decide) (by decide)) ?_
    show Goes p e below _ T14 (mkF m 136 #[.val (.int a1), .val (.int a2), .val (.int a3), .val (.int a4), .val (.int a5), .val (.long q6), .second, .val (.int f6), .val (.int (7 : Int32)), .val (.ref b1), .val (.ref b8), .unset, .unset, .unset] [])
    refine Goes.of (fun _ => XS.iconst X14.here hx rfl (hb hby at_136)) ?_
    show Goes p e below _ T14 (mkF m 137 #[.val (.int a1), .val (.int a2), .val (.int a3), .val (.int a4), .val (.int a5), .val (.long q6), .second, .val (.int f6), .val (.int (7 : Int32)), .val (.ref b1), .val (.ref b8), .unset, .unset, .unset] [(.int (1 : Int32))])
    refine Goes.of (fun _ => XS.istore X14.here hx rfl (hb hby at_137) rfl (l' := #[.val (.int a1), .val (.int a2), .val (.int a3), .val (.int a4), .val (.int a5), .val (.long q6), .second, .val (.int f6), .val (.int (7 : Int32)), .val (.ref b1), .val (.ref b8), .val (.int (1 : Int32)), .unset, .unset]) rfl) ?_
    show Goes p e below _ T14 (mkF m 139 #[.val (.int a1), .val (.int a2), .val (.int a3), .val (.int a4), .val (.int a5), .val (.long q6), .second, .val (.int f6), .val (.int (7 : Int32)), .val (.ref b1), .val (.ref b8), .val (.int (1 : Int32)), .unset, .unset] [])
    refine goNew X14 hx hZ hown (hw _ (List.mem_of_getElem? (i := 1) rfl)) (hw _ (List.mem_of_getElem? (i := 2) rfl)) (hw _ (List.mem_of_getElem? (i := 3) rfl)) eT14 (g := (mkF m 139 #[.val (.int a1), .val (.int a2), .val (.int a3), .val (.int a4), .val (.int a5), .val (.long q6), .second, .val (.int f6), .val (.int (7 : Int32)), .val (.ref b1), .val (.ref b8), .val (.int (1 : Int32)), .unset, .unset] [])) rfl (hb hby at_139) (by decide) (by decide) ?_
    intro T152 h152 b152 X152 eT152 E152 hb152 A152 D152
    have g_b152 : n0 ≤ b152 := Nat.le_trans (oldLe O0) hb152
    have ne_b1_b152 : b1 ≠ b152 := Nat.ne_of_lt (Nat.lt_of_lt_of_le V1.lt hb152)
    have ne_b8_b152 : b8 ≠ b152 := Nat.ne_of_lt (Nat.lt_of_lt_of_le V8.lt hb152)
    have V1 := V1.ext E152
    have A1 := A1.ext E152
    have V8 := V8.ext E152
    have A8 := A8.ext E152
    have O0 := O0.ext E152
    have F152_leftSideBearing : Fld Z h152 b152 "com/example/casement/casement/graphics/CharMetrics" "leftSideBearing" "I" (.int (0 : Int32)) := D152 (Or.inr (hw _ (List.mem_of_getElem? (i := 11) rfl))) (ty := .int) (by decide)
    have F152_rightSideBearing : Fld Z h152 b152 "com/example/casement/casement/graphics/CharMetrics" "rightSideBearing" "I" (.int (0 : Int32)) := D152 (Or.inr (hw _ (List.mem_of_getElem? (i := 13) rfl))) (ty := .int) (by decide)
    have F152_characterWidth : Fld Z h152 b152 "com/example/casement/casement/graphics/CharMetrics" "characterWidth" "I" (.int (0 : Int32)) := D152 (Or.inr (hw _ (List.mem_of_getElem? (i := 15) rfl))) (ty := .int) (by decide)
    have F152_ascent : Fld Z h152 b152 "com/example/casement/casement/graphics/CharMetrics" "ascent" "I" (.int (0 : Int32)) := D152 (Or.inr (hw _ (List.mem_of_getElem? (i := 17) rfl))) (ty := .int) (by decide)
    have F152_descent : Fld Z h152 b152 "com/example/casement/casement/graphics/CharMetrics" "descent" "I" (.int (0 : Int32)) := D152 (Or.inr (hw _ (List.mem_of_getElem? (i := 19) rfl))) (ty := .int) (by decide)
    have F152_attributes : Fld Z h152 b152 "com/example/casement/casement/graphics/CharMetrics" "attributes" "I" (.int (0 : Int32)) := D152 (Or.inr (hw _ (List.mem_of_getElem? (i := 21) rfl))) (ty := .int) (by decide)
    show Goes p e below _ T152 (mkF m 142 #[.val (.int a1), .val (.int a2), .val (.int a3), .val (.int a4), .val (.int a5), .val (.long q6), .second, .val (.int f6), .val (.int (7 : Int32)), .val (.ref b1), .val (.ref b8), .val (.int (1 : Int32)), .unset, .unset] [(.ref b152)])
    refine Goes.of (fun _ => XS.dup X152.here hx rfl (hb hby at_142) rfl rfl) ?_
    show Goes p e below _ T152 (mkF m 143 #[.val (.int a1), .val (.int a2), .val (.int a3), .val (.int a4), .val (.int a5), .val (.long q6), .second, .val (.int f6), .val (.int (7 : Int32)), .val (.ref b1), .val (.ref b8), .val (.int (1 : Int32)), .unset, .unset] [(.ref b152), (.ref b152)])
    refine Goes.of (fun _ => XS.aload X152.here hx rfl (hb hby at_143) rfl rfl) ?_
    show Goes p e below _ T152 (mkF m 145 #[.val (.int a1), .val (.int a2), .val (.int a3), .val (.int a4), .val (.int a5), .val (.long q6), .second, .val (.int f6), .val (.int (7 : Int32)), .val (.ref b1), .val (.ref b8), .val (.int (1 : Int32)), .unset, .unset] [(.ref b1), (.ref b152), (.ref b152)])
    refine Goes.of (fun _ => XS.iconst X152.here hx rfl (hb hby at_145)) ?_
    show Goes p e below _ T152 (mkF m 146 #[.val (.int a1), .val (.int a2), .val (.int a3), .val (.int a4), .val (.int a5), .val (.long q6), .second, .val (.int f6), .val (.int (7 : Int32)), .val (.ref b1), .val (.ref b8), .val (.int (1 : Int32)), .unset, .unset] [(.int (0 : Int32)), (.ref b1), (.ref b152), (.ref b152)])
    refine goLdI (.int a1) X152 hx hZ eT152 V1 (by decide) (by decide) rfl (g := (mkF m 146 #[.val (.int a1), .val (.int a2), .val (.int a3), .val (.int a4), .val (.int a5), .val (.long q6), .second, .val (.int f6), .val (.int (7 : Int32)), .val (.ref b1), .val (.ref b8), .val (.int (1 : Int32)), .unset, .unset] [(.int (0 : Int32)), (.ref b1), (.ref b152), (.ref b152)])) rfl rfl (hb hby at_146) ?_
    show Goes p e below _ T152 (mkF m 147 #[.val (.int a1), .val (.int a2), .val (.int a3), .val (.int a4), .val (.int a5), .val (.long q6), .second, .val (.int f6), .val (.int (7 : Int32)), .val (.ref b1), .val (.ref b8), .val (.int (1 : Int32)), .unset, .unset] [(.int a1), (.ref b152), (.ref b152)])
    refine Goes.of (fun _ => XS.aload X152.here hx rfl (hb hby at_147) rfl rfl) ?_
    show Goes p e below _ T152 (mkF m 149 #[.val (.int a1), .val (.int a2), .val (.int a3), .val (.int a4), .val (.int a5), .val (.long q6), .second, .val (.int f6), .val (.int (7 : Int32)), .val (.ref b1), .val (.ref b8), .val (.int (1 : Int32)), .unset, .unset] [(.ref b1), (.int a1), (.ref b152), (.ref b152)])
    refine Goes.of (fun _ => XS.iconst X152.here hx rfl (hb hby at_149)) ?_
    show Goes p e below _ T152 (mkF m 150 #[.val (.int a1), .val (.int a2), .val (.int a3), .val (.int a4), .val (.int a5), .val (.long q6), .second, .val (.int f6), .val (.int (7 : Int32)), .val (.ref b1), .val (.ref b8), .val (.int (1 : Int32)), .unset, .unset] [(.int (1 : Int32)), (.ref b1), (.int a1), (.ref b152), (.ref b152)])
    refine goLdI (.int a2) X152 hx hZ eT152 V1 (by decide) (by decide) rfl (g := (mkF m 150 #[.val (.int a1), .val (.int a2), .val (.int a3), .val (.int a4), .val (.int a5), .val (.long q6), .second, .val (.int f6), .val (.int (7 : Int32)), .val (.ref b1), .val (.ref b8), .val (.int (1 : Int32)), .unset, .unset] [(.int (1 : Int32)), (.ref b1), (.int a1), (.ref b152), (.ref b152)])) rfl rfl (hb hby at_150) ?_
    show Goes p e below _ T152 (mkF m 151 #[.val (.int a1), .val (.int a2), .val (.int a3), .val (.int a4), .val (.int a5), .val (.long q6), .second, .val (.int f6), .val (.int (7 : Int32)), .val (.ref b1), .val (.ref b8), .val (.int (1 : Int32)), .unset, .unset] [(.int a2), (.int a1), (.ref b152), (.ref b152)])
    refine Goes.of (fun _ => XS.aload X152.here hx rfl (hb hby at_151) rfl rfl) ?_
    show Goes p e below _ T152 (mkF m 153 #[.val (.int a1), .val (.int a2), .val (.int a3), .val (.int a4), .val (.int a5), .val (.long q6), .second, .val (.int f6), .val (.int (7 : Int32)), .val (.ref b1), .val (.ref b8), .val (.int (1 : Int32)), .unset, .unset] [(.ref b1), (.int a2), (.int a1), (.ref b152), (.ref b152)])
    refine Goes.of (fun _ => XS.iconst X152.here hx rfl (hb hby at_153)) ?_
    show Goes p e below _ T152 (mkF m 154 #[.val (.int a1), .val (.int a2), .val (.int a3), .val (.int a4), .val (.int a5), .val (.long q6), .second, .val (.int f6), .val (.int (7 : Int32)), .val (.ref b1), .val (.ref b8), .val (.int (1 : Int32)), .unset, .unset] [(.int (2 : Int32)), (.ref b1), (.int a2), (.int a1), (.ref b152), (.ref b152)])
    refine goLdI (.int a3) X152 hx hZ eT152 V1 (by decide) (by decide) rfl (g := (mkF m 154 #[.val (.int a1), .val (.int a2), .val (.int a3), .val (.int a4), .val (.int a5), .val (.long q6), .second, .val (.int f6), .val (.int (7 : Int32)), .val (.ref b1), .val (.ref b8), .val (.int (1 : Int32)), .unset, .unset] [(.int (2 : Int32)), (.ref b1), (.int a2), (.int a1), (.ref b152), (.ref b152)])) rfl rfl (hb hby at_154) ?_
    show Goes p e below _ T152 (mkF m 155 #[.val (.int a1), .val (.int a2), .val (.int a3), .val (.int a4), .val (.int a5), .val (.long q6), .second, .val (.int f6), .val (.int (7 : Int32)), .val (.ref b1), .val (.ref b8), .val (.int (1 : Int32)), .unset, .unset] [(.int a3), (.int a2), (.int a1), (.ref b152), (.ref b152)])
    refine Goes.of (fun _ => XS.aload X152.here hx rfl (hb hby at_155) rfl rfl) ?_
    show Goes p e below _ T152 (mkF m 157 #[.val (.int a1), .val (.int a2), .val (.int a3), .val (.int a4), .val (.int a5), .val (.long q6), .second, .val (.int f6), .val (.int (7 : Int32)), .val (.ref b1), .val (.ref b8), .val (.int (1 : Int32)), .unset, .unset] [(.ref b1), (.int a3), (.int a2), (.int a1), (.ref b152), (.ref b152)])
    refine Goes.of (fun _ => XS.iconst X152.here hx rfl (hb hby at_157)) ?_
    show Goes p e below _ T152 (mkF m 158 #[.val (.int a1), .val (.int a2), .val (.int a3), .val (.int a4), .val (.int a5), .val (.long q6), .second, .val (.int f6), .val (.int (7 : Int32)), .val (.ref b1), .val (.ref b8), .val (.int (1 : Int32)), .unset, .unset] [(.int (3 : Int32)), (.ref b1), (.int a3), (.int a2), (.int a1), (.ref b152), (.ref b152)])
    refine goLdI (.int a4) X152 hx hZ eT152 V1 (by decide) (by decide) rfl (g := (mkF m 158 #[.val (.int a1), .val (.int a2), .val (.int a3), .val (.int a4), .val (.int a5), .val (.long q6), .second, .val (.int f6), .val (.int (7 : Int32)), .val (.ref b1), .val (.ref b8), .val (.int (1 : Int32)), .unset, .unset] [(.int (3 : Int32)), (.ref b1), (.int a3), (.int a2), (.int a1), (.ref b152), (.ref b152)])) rfl rfl (hb hby at_158) ?_
    show Goes p e below _ T152 (mkF m 159 #[.val (.int a1), .val (.int a2), .val (.int a3), .val (.int a4), .val (.int a5), .val (.long q6), .second, .val (.int f6), .val (.int (7 : Int32)), .val (.ref b1), .val (.ref b8), .val (.int (1 : Int32)), .unset, .unset] [(.int a4), (.int a3), (.int a2), (.int a1), (.ref b152), (.ref b152)])
    refine Goes.of (fun _ => XS.aload X152.here hx rfl (hb hby at_159) rfl rfl) ?_
    show Goes p e below _ T152 (mkF m 161 #[.val (.int a1), .val (.int a2), .val (.int a3), .val (.int a4), .val (.int a5), .val (.long q6), .second, .val (.int f6), .val (.int (7 : Int32)), .val (.ref b1), .val (.ref b8), .val (.int (1 : Int32)), .unset, .unset] [(.ref b1), (.int a4), (.int a3), (.int a2), (.int a1), (.ref b152), (.ref b152)])
    refine Goes.of (fun _ => XS.iconst X152.here hx rfl (hb hby at_161)) ?_
    show Goes p e below _ T152 (mkF m 162 #[.val (.int a1), .val (.int a2), .val (.int a3), .val (.int a4), .val (.int a5), .val (.long q6), .second, .val (.int f6), .val (.int (7 : Int32)), .val (.ref b1), .val (.ref b8), .val (.int (1 : Int32)), .unset, .unset] [(.int (4 : Int32)), (.ref b1), (.int a4), (.int a3), (.int a2), (.int a1), (.ref b152), (.ref b152)])
    refine goLdI (.int a5) X152 hx hZ eT152 V1 (by decide) (by decide) rfl (g := (mkF m 162 #[.val (.int a1), .val (.int a2), .val (.int a3), .val (.int a4), .val (.int a5), .val (.long q6), .second, .val (.int f6), .val (.int (7 : Int32)), .val (.ref b1), .val (.ref b8), .val (.int (1 : Int32)), .unset, .unset] [(.int (4 : Int32)), (.ref b1), (.int a4), (.int a3), (.int a2), (.int a1), (.ref b152), (.ref b152)])) rfl rfl (hb hby at_162) ?_
    show Goes p e below _ T152 (mkF m 163 #[.val (.int a1), .val (.int a2), .val (.int a3), .val (.int a4), .val (.int a5), .val (.long q6), .second, .val (.int f6), .val (.int (7 : Int32)), .val (.ref b1), .val (.ref b8), .val (.int (1 : Int32)), .unset, .unset] [(.int a5), (.int a4), (.int a3), (.int a2), (.int a1), (.ref b152), (.ref b152)])
    refine Goes.of (fun _ => XS.aload X152.here hx rfl (hb hby at_163) rfl rfl) ?_
    show Goes p e below _ T152 (mkF m 165 #[.val (.int a1), .val (.int a2), .val (.int a3), .val (.int a4), .val (.int a5), .val (.long q6), .second, .val (.int f6), .val (.int (7 : Int32)), .val (.ref b1), .val (.ref b8), .val (.int (1 : Int32)), .unset, .unset] [(.ref b1), (.int a5), (.int a4), (.int a3), (.int a2), (.int a1), (.ref b152), (.ref b152)])
    refine Goes.of (fun _ => XS.iconst X152.here hx rfl (hb hby at_165)) ?_
    show Goes p e below _ T152 (mkF m 166 #[.val (.int a1), .val (.int a2), .val (.int a3), .val (.int a4), .val (.int a5), .val (.long q6), .second, .val (.int f6), .val (.int (7 : Int32)), .val (.ref b1), .val (.ref b8), .val (.int (1 : Int32)), .unset, .unset] [(.int (5 : Int32)), (.ref b1), (.int a5), (.int a4), (.int a3), (.int a2), (.int a1), (.ref b152), (.ref b152)])
    refine goLdI (.int f6) X152 hx hZ eT152 V1 (by decide) (by decide) rfl (g := (mkF m 166 #[.val (.int a1), .val (.int a2), .val (.int a3), .val (.int a4), .val (.int a5), .val (.long q6), .second, .val (.int f6), .val (.int (7 : Int32)), .val (.ref b1), .val (.ref b8), .val (.int (1 : Int32)), .unset, .unset] [(.int (5 : Int32)), (.ref b1), (.int a5), (.int a4), (.int a3), (.int a2), (.int a1), (.ref b152), (.ref b152)])) rfl rfl (hb hby at_166) ?_
    show Goes p e below _ T152 (mkF m 167 #[.val (.int a1), .val (.int a2), .val (.int a3), .val (.int a4), .val (.int a5), .val (.long q6), .second, .val (.int f6), .val (.int (7 : Int32)), .val (.ref b1), .val (.ref b8), .val (.int (1 : Int32)), .unset, .unset] [(.int f6), (.int a5), (.int a4), (.int a3), (.int a2), (.int a1), (.ref b152), (.ref b152)])
    refine goSpecial 1 X152 hx hZ rfl hown (hw _ (List.mem_of_getElem? (i := 4) rfl)) (hw _ (List.mem_of_getElem? (i := 5) rfl)) (hw _ (List.mem_of_getElem? (i := 3) rfl)) (hw _ (List.mem_of_getElem? (i := 6) rfl)) (by decide) (rm_init l Z a0 hw b152 a1 a2 a3 a4 a5 f6 h152 n0 O0 g_b152 A152 F152_leftSideBearing F152_rightSideBearing F152_characterWidth F152_ascent F152_descent F152_attributes) eT152 (g := (mkF m 167 #[.val (.int a1), .val (.int a2), .val (.int a3), .val (.int a4), .val (.int a5), .val (.long q6), .second, .val (.int f6), .val (.int (7 : Int32)), .val (.ref b1), .val (.ref b8), .val (.int (1 : Int32)), .unset, .unset] [(.int f6), (.int a5), (.int a4), (.int a3), (.int a2), (.int a1), (.ref b152), (.ref b152)])) rfl (by rw [hml]; rfl) b152 [(.int a1), (.int a2), (.int a3), (.int a4), (.int a5), (.int f6)] [(.ref b152)] (lenOf pd__IIIIII_V rfl) rfl rfl (by show 2 * 0 + _ ≤ _; exact Nat.le_of_eq rfl) (hb hby at_167) (by decide) (by decide) (by decide) (by decide) ?_
    intro v159 T159 L159 X159 q159
    obtain ⟨rfl, Nq159, Kq159, H0_159, H1_159, H2_159, H3_159, H4_159, H5_159⟩ := q159
    have N159 := Fr.app N14 Nq159
    have V1 := V1.keep Kq159 (ninS ne_b1_b152 nin0)
    have A1 := A1.keep Kq159
    have V8 := V8.keep Kq159 (ninS ne_b8_b152 nin0)
    have A8 := A8.keep Kq159
    have A152 := A152.keep Kq159
    have O0 := O0.keep Kq159 (allS g_b152 all0)
    show Goes p e below _ T159 (mkF m 170 #[.val (.int a1), .val (.int a2), .val (.int a3), .val (.int a4), .val (.int a5), .val (.long q6), .second, .val (.int f6), .val (.int (7 : Int32)), .val (.ref b1), .val (.ref b8), .val (.int (1 : Int32)), .unset, .unset] [(.ref b152)])
    refine Goes.of (fun _ => XS.astore X159.here hx rfl (hb hby at_170) rfl rfl (l' := #[.val (.int a1), .val (.int a2), .val (.int a3), .val (.int a4), .val (.int a5), .val (.long q6), .second, .val (.int f6), .val (.int (7 : Int32)), .val (.ref b1), .val (.ref b8), .val (.int (1 : Int32)), .val (.ref b152), .unset]) rfl) ?_
    show Goes p e below _ T159 (mkF m 172 #[.val (.int a1), .val (.int a2), .val (.int a3), .val (.int a4), .val (.int a5), .val (.long q6), .second, .val (.int f6), .val (.int (7 : Int32)), .val (.ref b1), .val (.ref b8), .val (.int (1 : Int32)), .val (.ref b152), .unset] [])
    refine goNew X159 hx hZ hown (hw _ (List.mem_of_getElem? (i := 1) rfl)) (hw _ (List.mem_of_getElem? (i := 2) rfl)) (hw _ (List.mem_of_getElem? (i := 3) rfl)) (rfl : T159.heap = _) (g := (mkF m 172 #[.val (.int a1), .val (.int a2), .val (.int a3), .val (.int a4), .val (.int a5), .val (.long q6), .second, .val (.int f6), .val (.int (7 : Int32)), .val (.ref b1), .val (.ref b8), .val (.int (1 : Int32)), .val (.ref b152), .unset] [])) rfl (hb hby at_172) (by decide) (by decide) ?_
    intro T160 h160 b160 X160 eT160 E160 hb160 A160 D160
    have g_b160 : n0 ≤ b160 := Nat.le_trans (oldLe O0) hb160
    have ne_b1_b160 : b1 ≠ b160 := Nat.ne_of_lt (Nat.lt_of_lt_of_le V1.lt hb160)
    have ne_b8_b160 : b8 ≠ b160 := Nat.ne_of_lt (Nat.lt_of_lt_of_le V8.lt hb160)
    have ne_b152_b160 : b152 ≠ b160 := Nat.ne_of_lt (Nat.lt_of_lt_of_le A152.lt hb160)
    have V1 := V1.ext E160
    have A1 := A1.ext E160
    have V8 := V8.ext E160
    have A8 := A8.ext E160
    have A152 := A152.ext E160
    have H0_159 := H0_159.ext E160
    have H1_159 := H1_159.ext E160
    have H2_159 := H2_159.ext E160
    have H3_159 := H3_159.ext E160
    have H4_159 := H4_159.ext E160
    have H5_159 := H5_159.ext E160
    have O0 := O0.ext E160
    have F160_leftSideBearing : Fld Z h160 b160 "com/example/casement/casement/graphics/CharMetrics" "leftSideBearing" "I" (.int (0 : Int32)) := D160 (Or.inr (hw _ (List.mem_of_getElem? (i := 11) rfl))) (ty := .int) (by decide)
    have F160_rightSideBearing : Fld Z h160 b160 "com/example/casement/casement/graphics/CharMetrics" "rightSideBearing" "I" (.int (0 : Int32)) := D160 (Or.inr (hw _ (List.mem_of_getElem? (i := 13) rfl))) (ty := .int) (by decide)
    have F160_characterWidth : Fld Z h160 b160 "com/example/casement/casement/graphics/CharMetrics" "characterWidth" "I" (.int (0 : Int32)) := D160 (Or.inr (hw _ (List.mem_of_getElem? (i := 15) rfl))) (ty := .int) (by decide)
    have F160_ascent : Fld Z h160 b160 "com/example/casement/casement/graphics/CharMetrics" "ascent" "I" (.int (0 : Int32)) := D160 (Or.inr (hw _ (List.mem_of_getElem? (i := 17) rfl))) (ty := .int) (by decide)
    have F160_descent : Fld Z h160 b160 "com/example/casement/casement/graphics/CharMetrics" "descent" "I" (.int (0 : Int32)) := D160 (Or.inr (hw _ (List.mem_of_getElem? (i := 19) rfl))) (ty := .int) (by decide)
    have F160_attributes : Fld Z h160 b160 "com/example/casement/casement/graphics/CharMetrics" "attributes" "I" (.int (0 : Int32)) := D160 (Or.inr (hw _ (List.mem_of_getElem? (i := 21) rfl))) (ty := .int) (by decide)
    show Goes p e below _ T160 (mkF m 175 #[.val (.int a1), .val (.int a2), .val (.int a3), .val (.int a4), .val (.int a5), .val (.long q6), .second, .val (.int f6), .val (.int (7 : Int32)), .val (.ref b1), .val (.ref b8), .val (.int (1 : Int32)), .val (.ref b152), .unset] [(.ref b160)])
    refine Goes.of (fun _ => XS.dup X160.here hx rfl (hb hby at_175) rfl rfl) ?_
    show Goes p e below _ T160 (mkF m 176 #[.val (.int a1), .val (.int a2), .val (.int a3), .val (.int a4), .val (.int a5), .val (.long q6), .second, .val (.int f6), .val (.int (7 : Int32)), .val (.ref b1), .val (.ref b8), .val (.int (1 : Int32)), .val (.ref b152), .unset] [(.ref b160), (.ref b160)])
    refine Goes.of (fun _ => XS.aload X160.here hx rfl (hb hby at_176) rfl rfl) ?_
    show Goes p e below _ T160 (mkF m 178 #[.val (.int a1), .val (.int a2), .val (.int a3), .val (.int a4), .val (.int a5), .val (.long q6), .second, .val (.int f6), .val (.int (7 : Int32)), .val (.ref b1), .val (.ref b8), .val (.int (1 : Int32)), .val (.ref b152), .unset] [(.ref b8), (.ref b160), (.ref b160)])
    refine Goes.of (fun _ => XS.iconst X160.here hx rfl (hb hby at_178)) ?_
    show Goes p e below _ T160 (mkF m 179 #[.val (.int a1), .val (.int a2), .val (.int a3), .val (.int a4), .val (.int a5), .val (.long q6), .second, .val (.int f6), .val (.int (7 : Int32)), .val (.ref b1), .val (.ref b8), .val (.int (1 : Int32)), .val (.ref b152), .unset] [(.int (0 : Int32)), (.ref b8), (.ref b160), (.ref b160)])
    refine goLdI (.int a1) X160 hx hZ eT160 V8 (by decide) (by decide) rfl (g := (mkF m 179 #[.val (.int a1), .val (.int a2), .val (.int a3), .val (.int a4), .val (.int a5), .val (.long q6), .second, .val (.int f6), .val (.int (7 : Int32)), .val (.ref b1), .val (.ref b8), .val (.int (1 : Int32)), .val (.ref b152), .unset] [(.int (0 : Int32)), (.ref b8), (.ref b160), (.ref b160)])) rfl rfl (hb hby at_179) ?_
    show Goes p e below _ T160 (mkF m 180 #[.val (.int a1), .val (.int a2), .val (.int a3), .val (.int a4), .val (.int a5), .val (.long q6), .second, .val (.int f6), .val (.int (7 : Int32)), .val (.ref b1), .val (.ref b8), .val (.int (1 : Int32)), .val (.ref b152), .unset] [(.int a1), (.ref b160), (.ref b160)])
    refine Goes.of (fun _ => XS.aload X160.here hx rfl (hb hby at_180) rfl rfl) ?_
    show Goes p e below _ T160 (mkF m 182 #[.val (.int a1), .val (.int a2), .val (.int a3), .val (.int a4), .val (.int a5), .val (.long q6), .second, .val (.int f6), .val (.int (7 : Int32)), .val (.ref b1), .val (.ref b8), .val (.int (1 : Int32)), .val (.ref b152), .unset] [(.ref b8), (.int a1), (.ref b160), (.ref b160)])
    refine Goes.of (fun _ => XS.iconst X160.here hx rfl (hb hby at_182)) ?_
    show Goes p e below _ T160 (mkF m 183 #[.val (.int a1), .val (.int a2), .val (.int a3), .val (.int a4), .val (.int a5), .val (.long q6), .second, .val (.int f6), .val (.int (7 : Int32)), .val (.ref b1), .val (.ref b8), .val (.int (1 : Int32)), .val (.ref b152), .unset] [(.int (1 : Int32)), (.ref b8), (.int a1), (.ref b160), (.ref b160)])
    refine goLdI (.int a2) X160 hx hZ eT160 V8 (by decide) (by decide) rfl (g := (mkF m 183 #[.val (.int a1), .val (.int a2), .val (.int a3), .val (.int a4), .val (.int a5), .val (.long q6), .second, .val (.int f6), .val (.int (7 : Int32)), .val (.ref b1), .val (.ref b8), .val (.int (1 : Int32)), .val (.ref b152), .unset] [(.int (1 : Int32)), (.ref b8), (.int a1), (.ref b160), (.ref b160)])) rfl rfl (hb hby at_183) ?_
    show Goes p e below _ T160 (mkF m 184 #[.val (.int a1), .val (.int a2), .val (.int a3), .val (.int a4), .val (.int a5), .val (.long q6), .second, .val (.int f6), .val (.int (7 : Int32)), .val (.ref b1), .val (.ref b8), .val (.int (1 : Int32)), .val (.ref b152), .unset] [(.int a2), (.int a1), (.ref b160), (.ref b160)])
    refine Goes.of (fun _ => XS.aload X160.here hx rfl (hb hby at_184) rfl rfl) ?_
    show Goes p e below _ T160 (mkF m 186 #[.val (.int a1), .val (.int a2), .val (.int a3), .val (.int a4), .val (.int a5), .val (.long q6), .second, .val (.int f6), .val (.int (7 : Int32)), .val (.ref b1), .val (.ref b8), .val (.int (1 : Int32)), .val (.ref b152), .unset] [(.ref b8), (.int a2), (.int a1), (.ref b160), (.ref b160)])
    refine Goes.of (fun _ => XS.iconst X160.here hx rfl (hb hby at_186)) ?_
    show Goes p e below _ T160 (mkF m 187 #[.val (.int a1), .val (.int a2), .val (.int a3), .val (.int a4), .val (.int a5), .val (.long q6), .second, .val (.int f6), .val (.int (7 : Int32)), .val (.ref b1), .val (.ref b8), .val (.int (1 : Int32)), .val (.ref b152), .unset] [(.int (2 : Int32)), (.ref b8), (.int a2), (.int a1), (.ref b160), (.ref b160)])
    refine goLdI (.int a3) X160 hx hZ eT160 V8 (by decide) (by decide) rfl (g := (mkF m 187 #[.val (.int a1), .val (.int a2), .val (.int a3), .val (.int a4), .val (.int a5), .val (.long q6), .second, .val (.int f6), .val (.int (7 : Int32)), .val (.ref b1), .val (.ref b8), .val (.int (1 : Int32)), .val (.ref b152), .unset] [(.int (2 : Int32)), (.ref b8), (.int a2), (.int a1), (.ref b160), (.ref b160)])) rfl rfl (hb hby at_187) ?_
    show Goes p e below _ T160 (mkF m 188 #[.val (.int a1), .val (.int a2), .val (.int a3), .val (.int a4), .val (.int a5), .val (.long q6), .second, .val (.int f6), .val (.int (7 : Int32)), .val (.ref b1), .val (.ref b8), .val (.int (1 : Int32)), .val (.ref b152), .unset] [(.int a3), (.int a2), (.int a1), (.ref b160), (.ref b160)])
    refine Goes.of (fun _ => XS.aload X160.here hx rfl (hb hby at_188) rfl rfl) ?_
    show Goes p e below _ T160 (mkF m 190 #[.val (.int a1), .val (.int a2), .val (.int a3), .val (.int a4), .val (.int a5), .val (.long q6), .second, .val (.int f6), .val (.int (7 : Int32)), .val (.ref b1), .val (.ref b8), .val (.int (1 : Int32)), .val (.ref b152), .unset] [(.ref b8), (.int a3), (.int a2), (.int a1), (.ref b160), (.ref b160)])
    refine Goes.of (fun _ => XS.iconst X160.here hx rfl (hb hby at_190)) ?_
    show Goes p e below _ T160 (mkF m 191 #[.val (.int a1), .val (.int a2), .val (.int a3), .val (.int a4), .val (.int a5), .val (.long q6), .second, .val (.int f6), .val (.int (7 : Int32)), .val (.ref b1), .val (.ref b8), .val (.int (1 : Int32)), .val (.ref b152), .unset] [(.int (3 : Int32)), (.ref b8), (.int a3), (.int a2), (.int a1), (.ref b160), (.ref b160)])
    refine goLdI (.int a4) X160 hx hZ eT160 V8 (by decide) (by decide) rfl (g := (mkF m 191 #[.val (.int a1), .val (.int a2), .val (.int a3), .val (.int a4), .val (.int a5), .val (.long q6), .second, .val (.int f6), .val (.int (7 : Int32)), .val (.ref b1), .val (.ref b8), .val (.int (1 : Int32)), .val (.ref b152), .unset] [(.int (3 : Int32)), (.ref b8), (.int a3), (.int a2), (.int a1), (.ref b160), (.ref b160)])) rfl rfl (hb hby at_191) ?_
    show Goes p e below _ T160 (mkF m 192 #[.val (.int a1), .val (.int a2), .val (.int a3), .val (.int a4), .val (.int a5), .val (.long q6), .second, .val (.int f6), .val (.int (7 : Int32)), .val (.ref b1), .val (.ref b8), .val (.int (1 : Int32)), .val (.ref b152), .unset] [(.int a4), (.int a3), (.int a2), (.int a1), (.ref b160), (.ref b160)])
    refine Goes.of (fun _ => XS.aload X160.here hx rfl (hb hby at_192) rfl rfl) ?_
    show Goes p e below _ T160 (mkF m 194 #[.val (.int a1), .val (.int a2), .val (.int a3), .val (.int a4), .val (.int a5), .val (.long q6), .second, .val (.int f6), .val (.int (7 : Int32)), .val (.ref b1), .val (.ref b8), .val (.int (1 : Int32)), .val (.ref b152), .unset] [(.ref b8), (.int a4), (.int a3), (.int a2), (.int a1), (.ref b160), (.ref b160)])
    refine Goes.of (fun _ => XS.iconst X160.here hx rfl (hb hby at_194)) ?_
    show Goes p e below _ T160 (mkF m 195 #[.val (.int a1), .val (.int a2), .val (.int a3), .val (.int a4), .val (.int a5), .val (.long q6), .second, .val (.int f6), .val (.int (7 : Int32)), .val (.ref b1), .val (.ref b8), .val (.int (1 : Int32)), .val (.ref b152), .unset] [(.int (4 : Int32)), (.ref b8), (.int a4), (.int a3), (.int a2), (.int a1), (.ref b160), (.ref b160)])
    refine goLdI (.int a5) X160 hx hZ eT160 V8 (by decide) (by decide) rfl (g := (mkF m 195 #[.val (.int a1), .val (.int a2), .val (.int a3), .val (.int a4), .val (.int a5), .val (.long q6), .second, .val (.int f6), .val (.int (7 : Int32)), .val (.ref b1), .val (.ref b8), .val (.int (1 : Int32)), .val (.ref b152), .unset] [(.int (4 : Int32)), (.ref b8), (.int a4), (.int a3), (.int a2), (.int a1), (.ref b160), (.ref b160)])) rfl rfl (hb hby at_195) ?_
    show Goes p e below _ T160 (mkF m 196 #[.val (.int a1), .val (.int a2), .val (.int a3), .val (.int a4), .val (.int a5), .val (.long q6), .second, .val (.int f6), .val (.int (7 : Int32)), .val (.ref b1), .val (.ref b8), .val (.int (1 : Int32)), .val (.ref b152), .unset] [(.int a5), (.int a4), (.int a3), (.int a2), (.int a1), (.ref b160), (.ref b160)])
    refine Goes.of (fun _ => XS.aload X160.here hx rfl (hb hby at_196) rfl rfl) ?_
    show Goes p e below _ T160 (mkF m 198 #[.val (.int a1), .val (.int a2), .val (.int a3), .val (.int a4), .val (.int a5), .val (.long q6), .second, .val (.int f6), .val (.int (7 : Int32)), .val (.ref b1), .val (.ref b8), .val (.int (1 : Int32)), .val (.ref b152), .unset] [(.ref b8), (.int a5), (.int a4), (.int a3), (.int a2), (.int a1), (.ref b160), (.ref b160)])
    refine Goes.of (fun _ => XS.iconst X160.here hx rfl (hb hby at_198)) ?_
    show Goes p e below _ T160 (mkF m 199 #[.val (.int a1), .val (.int a2), .val (.int a3), .val (.int a4), .val (.int a5), .val (.long q6), .second, .val (.int f6), .val (.int (7 : Int32)), .val (.ref b1), .val (.ref b8), .val (.int (1 : Int32)), .val (.ref b152), .unset] [(.int (5 : Int32)), (.ref b8), (.int a5), (.int a4), (.int a3), (.int a2), (.int a1), (.ref b160), (.ref b160)])
    refine goLdI (.int f6) X160 hx hZ eT160 V8 (by decide) (by decide) rfl (g := (mkF m 199 #[.val (.int a1), .val (.int a2), .val (.int a3), .val (.int a4), .val (.int a5), .val (.long q6), .second, .val (.int f6), .val (.int (7 : Int32)), .val (.ref b1), .val (.ref b8), .val (.int (1 : Int32)), .val (.ref b152), .unset] [(.int (5 : Int32)), (.ref b8), (.int a5), (.int a4), (.int a3), (.int a2), (.int a1), (.ref b160), (.ref b160)])) rfl rfl (hb hby at_199) ?_
    show Goes p e below _ T160 (mkF m 200 #[.val (.int a1), .val (.int a2), .val (.int a3), .val (.int a4), .val (.int a5), .val (.long q6), .second, .val (.int f6), .val (.int (7 : Int32)), .val (.ref b1), .val (.ref b8), .val (.int (1 : Int32)), .val (.ref b152), .unset] [(.int f6), (.int a5), (.int a4), (.int a3), (.int a2), (.int a1), (.ref b160), (.ref b160)])
    refine goSpecial 1 X160 hx hZ rfl hown (hw _ (List.mem_of_getElem? (i := 4) rfl)) (hw _ (List.mem_of_getElem? (i := 5) rfl)) (hw _ (List.mem_of_getElem? (i := 3) rfl)) (hw _ (List.mem_of_getElem? (i := 6) rfl)) (by decide) (rm_init l Z a0 hw b160 a1 a2 a3 a4 a5 f6 h160 n0 O0 g_b160 A160 F160_leftSideBearing F160_rightSideBearing F160_characterWidth F160_ascent F160_descent F160_attributes) eT160 (g := (mkF m 200 #[.val (.int a1), .val (.int a2), .val (.int a3), .val (.int a4), .val (.int a5), .val (.long q6), .second, .val (.int f6), .val (.int (7 : Int32)), .val (.ref b1), .val (.ref b8), .val (.int (1 : Int32)), .val (.ref b152), .unset] [(.int f6), (.int a5), (.int a4), (.int a3), (.int a2), (.int a1), (.ref b160), (.ref b160)])) rfl (by rw [hml]; rfl) b160 [(.int a1), (.int a2), (.int a3), (.int a4), (.int a5), (.int f6)] [(.ref b160)] (lenOf pd__IIIIII_V rfl) rfl rfl (by show 2 * 0 + _ ≤ _; exact Nat.le_of_eq rfl) (hb hby at_200) (by decide) (by decide) (by decide) (by decide) ?_
    intro v167 T167 L167 X167 q167
    obtain ⟨rfl, Nq167, Kq167, H0_167, H1_167, H2_167, H3_167, H4_167, H5_167⟩ := q167
    have N167 := Fr.app N159 Nq167
    have V1 := V1.keep Kq167 (ninS ne_b1_b160 nin0)
    have A1 := A1.keep Kq167
    have V8 := V8.keep Kq167 (ninS ne_b8_b160 nin0)
    have A8 := A8.keep Kq167
    have A152 := A152.keep Kq167
    have H0_159 := H0_159.keep Kq167 (ninS ne_b152_b160 nin0)
    have H1_159 := H1_159.keep Kq167 (ninS ne_b152_b160 nin0)
    have H2_159 := H2_159.keep Kq167 (ninS ne_b152_b160 nin0)
    have H3_159 := H3_159.keep Kq167 (ninS ne_b152_b160 nin0)
    have H4_159 := H4_159.keep Kq167 (ninS ne_b152_b160 nin0)
    have H5_159 := H5_159.keep Kq167 (ninS ne_b152_b160 nin0)
    have A160 := A160.keep Kq167
    have O0 := O0.keep Kq167 (allS g_b160 all0)
    show Goes p e below _ T167 (mkF m 203 #[.val (.int a1), .val (.int a2), .val (.int a3), .val (.int a4), .val (.int a5), .val (.long q6), .second, .val (.int f6), .val (.int (7 : Int32)), .val (.ref b1), .val (.ref b8), .val (.int (1 : Int32)), .val (.ref b152), .unset] [(.ref b160)])
    refine Goes.of (fun _ => XS.astore X167.here hx rfl (hb hby at_203) rfl rfl (l' := #[.val (.int a1), .val (.int a2), .val (.int a3), .val (.int a4), .val (.int a5), .val (.long q6), .second, .val (.int f6), .val (.int (7 : Int32)), .val (.ref b1), .val (.ref b8), .val (.int (1 : Int32)), .val (.ref b152), .val (.ref b160)]) rfl) ?_
    show Goes p e below _ T167 (mkF m 205 #[.val (.int a1), .val (.int a2), .val (.int a3), .val (.int a4), .val (.int a5), .val (.long q6), .second, .val (.int f6), .val (.int (7 : Int32)), .val (.ref b1), .val (.ref b8), .val (.int (1 : Int32)), .val (.ref b152), .val (.ref b160)] [])
    refine Goes.of (fun _ => XS.iload X167.here hx rfl (hb hby at_205) rfl) ?_
    show Goes p e below _ T167 (mkF m 207 #[.val (.int a1), .val (.int a2), .val (.int a3), .val (.int a4), .val (.int a5), .val (.long q6), .second, .val (.int f6), .val (.int (7 : Int32)), .val (.ref b1), .val (.ref b8), .val (.int (1 : Int32)), .val (.ref b152), .val (.ref b160)] [(.int (7 : Int32))])
    refine Goes.of (fun _ => XS.bipush X167.here hx rfl (hb hby at_207)) ?_
    show Goes p e below _ T167 (mkF m 209 #[.val (.int a1), .val (.int a2), .val (.int a3), .val (.int a4), .val (.int a5), .val (.long q6), .second, .val (.int f6), .val (.int (7 : Int32)), .val (.ref b1), .val (.ref b8), .val (.int (1 : Int32)), .val (.ref b152), .val (.ref b160)] [(.int (7 : Int32)), (.int (7 : Int32))])
    refine Goes.of (fun _ => XS.icmpNo X167.here hx rfl (hb hby at_209) rfl (teq (by decide)).2) ?_
    show Goes p e below _ T167 (mkF m 212 #[.val (.int a1), .val (.int a2), .val (.int a3), .val (.int a4), .val (.int a5), .val (.long q6), .second, .val (.int f6), .val (.int (7 : Int32)), .val (.ref b1), .val (.ref b8), .val (.int (1 : Int32)), .val (.ref b152), .val (.ref b160)] [])
    refine Goes.of (fun _ => XS.aload X167.here hx rfl (hb hby at_212) rfl rfl) ?_
    show Goes p e below _ T167 (mkF m 214 #[.val (.int a1), .val (.int a2), .val (.int a3), .val (.int a4), .val (.int a5), .val (.long q6), .second, .val (.int f6), .val (.int (7 : Int32)), .val (.ref b1), .val (.ref b8), .val (.int (1 : Int32)), .val (.ref b152), .val (.ref b160)] [(.ref b152)])
    refine Goes.of (fun _ => XS.aconstNull X167.here hx rfl (hb hby at_214)) ?_
    show Goes p e below _ T167 (mkF m 215 #[.val (.int a1), .val (.int a2), .val (.int a3), .val (.int a4), .val (.int a5), .val (.long q6), .second, .val (.int f6), .val (.int (7 : Int32)), .val (.ref b1), .val (.ref b8), .val (.int (1 : Int32)), .val (.ref b152), .val (.ref b160)] [.null, (.ref b152)])
    refine goVirtual 0 X167 hx hZ hown (hw _ (List.mem_of_getElem? (i := 22) rfl)) (hw _ (List.mem_of_getElem? (i := 23) rfl)) (notFace_of_selects (args := #[]) (mvT hZ (hw _ (List.mem_of_getElem? (i := 25) rfl)))) (hw _ (List.mem_of_getElem? (i := 25) rfl)) (hw _ (List.mem_of_getElem? (i := 24) rfl)) (hw _ (List.mem_of_getElem? (i := 3) rfl)) (hw _ (List.mem_of_getElem? (i := 26) rfl)) (by decide) (rm_eqnull l Z a0 hw b152 T167.heap n0 O0) (rfl : T167.heap = _) A152 (g := (mkF m 215 #[.val (.int a1), .val (.int a2), .val (.int a3), .val (.int a4), .val (.int a5), .val (.long q6), .second, .val (.int f6), .val (.int (7 : Int32)), .val (.ref b1), .val (.ref b8), .val (.int (1 : Int32)), .val (.ref b152), .val (.ref b160)] [.null, (.ref b152)])) rfl (by rw [hml]; rfl) [.null] [] (lenOf pd__Ljava_lang_Object__Z rfl) rfl rfl (by show 2 * 0 + _ ≤ _; exact Nat.le_of_eq rfl) (hb hby at_215) (by decide) (by decide) (by decide) (by decide) ?_
    intro v168 T168 L168 X168 q168
    obtain ⟨rfl, Nq168, eT168⟩ := q168
    have N168 := Fr.app N167 Nq168
    show Goes p e below _ T168 (mkF m 218 #[.val (.int a1), .val (.int a2), .val (.int a3), .val (.int a4), .val (.int a5), .val (.long q6), .second, .val (.int f6), .val (.int (7 : Int32)), .val (.ref b1), .val (.ref b8), .val (.int (1 : Int32)), .val (.ref b152), .val (.ref b160)] [(.int (0 : Int32))])
    refine Goes.of (fun _ => XS.ifNo X168.here hx rfl (hb hby at_218) rfl ((if0 _ _).trans (teq (by decide)).2)) ?_
    show Goes p e below _ T168 (mkF m 221 #[.val (.int a1), .val (.int a2), .val (.int a3), .val (.int a4), .val (.int a5), .val (.long q6), .second, .val (.int f6), .val (.int (7 : Int32)), .val (.ref b1), .val (.ref b8), .val (.int (1 : Int32)), .val (.ref b152), .val (.ref b160)] [])
    refine Goes.of (fun _ => XS.aload X168.here hx rfl (hb hby at_221) rfl rfl) ?_
    show Goes p e below _ T168 (mkF m 223 #[.val (.int a1), .val (.int a2), .val (.int a3), .val (.int a4), .val (.int a5), .val (.long q6), .second, .val (.int f6), .val (.int (7 : Int32)), .val (.ref b1), .val (.ref b8), .val (.int (1 : Int32)), .val (.ref b152), .val (.ref b160)] [(.ref b152)])
    refine Goes.of (fun _ => XS.iloadN X168.here hx rfl (hb hby at_223) rfl) ?_
    show Goes p e below _ T168 (mkF m 224 #[.val (.int a1), .val (.int a2), .val (.int a3), .val (.int a4), .val (.int a5), .val (.long q6), .second, .val (.int f6), .val (.int (7 : Int32)), .val (.ref b1), .val (.ref b8), .val (.int (1 : Int32)), .val (.ref b152), .val (.ref b160)] [(.int a1), (.ref b152)])
    refine goStatic 1 X168 hx hZ hown (hw _ (List.mem_of_getElem? (i := 29) rfl)) (hw _ (List.mem_of_getElem? (i := 30) rfl)) (hw _ (List.mem_of_getElem? (i := 31) rfl)) (hw _ (List.mem_of_getElem? (i := 32) rfl)) (by decide) (rm_valueOf l Z a0 hw a1 ca cl T167.heap n0 O0 IC0) eT168 (g := (mkF m 224 #[.val (.int a1), .val (.int a2), .val (.int a3), .val (.int a4), .val (.int a5), .val (.long q6), .second, .val (.int f6), .val (.int (7 : Int32)), .val (.ref b1), .val (.ref b8), .val (.int (1 : Int32)), .val (.ref b152), .val (.ref b160)] [(.int a1), (.ref b152)])) rfl (by rw [hml]; rfl) [(.int a1)] [(.ref b152)] (lenOf pd__I_Ljava_lang_Integer_ rfl) rfl rfl (by show 2 * 0 + _ ≤ _; exact Nat.le_of_eq rfl) (hb hby at_224) (by decide) (by decide) (by decide) (by decide) ?_
    intro v169 T169 L169 X169 q169
    obtain ⟨ib169, rfl, Nq169, Kq169, Ei169⟩ := q169
    have N169 := Fr.app N168 Nq169
    have V1 := V1.keep Kq169 nin0
    have A1 := A1.keep Kq169
    have V8 := V8.keep Kq169 nin0
    have A8 := A8.keep Kq169
    have A152 := A152.keep Kq169
    have H0_159 := H0_159.keep Kq169 nin0
    have H1_159 := H1_159.keep Kq169 nin0
    have H2_159 := H2_159.keep Kq169 nin0
    have H3_159 := H3_159.keep Kq169 nin0
    have H4_159 := H4_159.keep Kq169 nin0
    have H5_159 := H5_159.keep Kq169 nin0
    have A160 := A160.keep Kq169
    have H0_167 := H0_167.keep Kq169 nin0
    have H1_167 := H1_167.keep Kq169 nin0
    have H2_167 := H2_167.keep Kq169 nin0
    have H3_167 := H3_167.keep Kq169 nin0
    have H4_167 := H4_167.keep Kq169 nin0
    have H5_167 := H5_167.keep Kq169 nin0
    have O0 := O0.keep Kq169 all0
    show Goes p e below _ T169 (mkF m 227 #[.val (.int a1), .val (.int a2), .val (.int a3), .val (.int a4), .val (.int a5), .val (.long q6), .second, .val (.int f6), .val (.int (7 : Int32)), .val (.ref b1), .val (.ref b8), .val (.int (1 : Int32)), .val (.ref b152), .val (.ref b160)] [(.ref ib169), (.ref b152)])
    refine goVirtual 0 X169 hx hZ hown (hw _ (List.mem_of_getElem? (i := 22) rfl)) (hw _ (List.mem_of_getElem? (i := 23) rfl)) (notFace_of_selects (args := #[]) (mvT hZ (hw _ (List.mem_of_getElem? (i := 25) rfl)))) (hw _ (List.mem_of_getElem? (i := 25) rfl)) (hw _ (List.mem_of_getElem? (i := 24) rfl)) (hw _ (List.mem_of_getElem? (i := 3) rfl)) (hw _ (List.mem_of_getElem? (i := 26) rfl)) (by decide) (rm_eqint l Z a0 hw b152 ib169 T169.heap n0 O0 Ei169) (rfl : T169.heap = _) A152 (g := (mkF m 227 #[.val (.int a1), .val (.int a2), .val (.int a3), .val (.int a4), .val (.int a5), .val (.long q6), .second, .val (.int f6), .val (.int (7 : Int32)), .val (.ref b1), .val (.ref b8), .val (.int (1 : Int32)), .val (.ref b152), .val (.ref b160)] [(.ref ib169), (.ref b152)])) rfl (by rw [hml]; rfl) [(.ref ib169)] [] (lenOf pd__Ljava_lang_Object__Z rfl) rfl rfl (by show 2 * 0 + _ ≤ _; exact Nat.le_of_eq rfl) (hb hby at_227) (by decide) (by decide) (by decide) (by decide) ?_
    intro v170 T170 L170 X170 q170
    obtain ⟨rfl, Nq170, eT170⟩ := q170
    have N170 := Fr.app N169 Nq170
    show Goes p e below _ T170 (mkF m 230 #[.val (.int a1), .val (.int a2), .val (.int a3), .val (.int a4), .val (.int a5), .val (.long q6), .second, .val (.int f6), .val (.int (7 : Int32)), .val (.ref b1), .val (.ref b8), .val (.int (1 : Int32)), .val (.ref b152), .val (.ref b160)] [(.int (0 : Int32))])
    refine Goes.of (fun _ => XS.ifNo X170.here hx rfl (hb hby at_230) rfl ((if0 _ _).trans (teq (by decide)).2)) ?_
    show Goes p e below _ T170 (mkF m 233 #[.val (.int a1), .val (.int a2), .val (.int a3), .val (.int a4), .val (.int a5), .val (.long q6), .second, .val (.int f6), .val (.int (7 : Int32)), .val (.ref b1), .val (.ref b8), .val (.int (1 : Int32)), .val (.ref b152), .val (.ref b160)] [])
    refine Goes.of (fun _ => XS.aload X170.here hx rfl (hb hby at_233) rfl rfl) ?_
    show Goes p e below _ T170 (mkF m 235 #[.val (.int a1), .val (.int a2), .val (.int a3), .val (.int a4), .val (.int a5), .val (.long q6), .second, .val (.int f6), .val (.int (7 : Int32)), .val (.ref b1), .val (.ref b8), .val (.int (1 : Int32)), .val (.ref b152), .val (.ref b160)] [(.ref b152)])
    refine Goes.of (fun _ => XS.aload X170.here hx rfl (hb hby at_235) rfl rfl) ?_
    show Goes p e below _ T170 (mkF m 237 #[.val (.int a1), .val (.int a2), .val (.int a3), .val (.int a4), .val (.int a5), .val (.long q6), .second, .val (.int f6), .val (.int (7 : Int32)), .val (.ref b1), .val (.ref b8), .val (.int (1 : Int32)), .val (.ref b152), .val (.ref b160)] [(.ref b152), (.ref b152)])
    refine goVirtual 0 X170 hx hZ hown (hw _ (List.mem_of_getElem? (i := 22) rfl)) (hw _ (List.mem_of_getElem? (i := 23) rfl)) (notFace_of_selects (args := #[]) (mvT hZ (hw _ (List.mem_of_getElem? (i := 25) rfl)))) (hw _ (List.mem_of_getElem? (i := 25) rfl)) (hw _ (List.mem_of_getElem? (i := 24) rfl)) (hw _ (List.mem_of_getElem? (i := 3) rfl)) (hw _ (List.mem_of_getElem? (i := 26) rfl)) (by decide) (rm_eq l Z a0 hw b152 b152 a1 a2 a3 a4 a5 f6 a1 a2 a3 a4 a5 f6 T169.heap n0 O0 A152 H0_159 H1_159 H2_159 H3_159 H4_159 H5_159 H0_159 H1_159 H2_159 H3_159 H4_159 H5_159) eT170 A152 (g := (mkF m 237 #[.val (.int a1), .val (.int a2), .val (.int a3), .val (.int a4), .val (.int a5), .val (.long q6), .second, .val (.int f6), .val (.int (7 : Int32)), .val (.ref b1), .val (.ref b8), .val (.int (1 : Int32)), .val (.ref b152), .val (.ref b160)] [(.ref b152), (.ref b152)])) rfl (by rw [hml]; rfl) [(.ref b152)] [] (lenOf pd__Ljava_lang_Object__Z rfl) rfl rfl (by show 2 * 0 + _ ≤ _; exact Nat.le_of_eq rfl) (hb hby at_237) (by decide) (by decide) (by decide) (by decide) ?_
    intro v171 T171 L171 X171 q171
    obtain ⟨rfl, Nq171, eT171⟩ := q171
    have N171 := Fr.app N170 Nq171
    show Goes p e below _ T171 (mkF m 240 #[.val (.int a1), .val (.int a2), .val (.int a3), .val (.int a4), .val (.int a5), .val (.long q6), .second, .val (.int f6), .val (.int (7 : Int32)), .val (.ref b1), .val (.ref b8), .val (.int (1 : Int32)), .val (.ref b152), .val (.ref b160)] [(.int (eq6 a1 a2 a3 a4 a5 f6 a1 a2 a3 a4 a5 f6))])
    refine Goes.of (fun _ => XS.ifNo X171.here hx rfl (hb hby at_240) rfl ((if0 _ _).trans (feq (by simp [eq6] : ¬ (eq6 a1 a2 a3 a4 a5 f6 a1 a2 a3 a4 a5 f6) = (0 : Int32))).1)) ?_
    show Goes p e below _ T171 (mkF m 243 #[.val (.int a1), .val (.int a2), .val (.int a3), .val (.int a4), .val (.int a5), .val (.long q6), .second, .val (.int f6), .val (.int (7 : Int32)), .val (.ref b1), .val (.ref b8), .val (.int (1 : Int32)), .val (.ref b152), .val (.ref b160)] [])
    refine Goes.of (fun _ => XS.iconst X171.here hx rfl (hb hby at_243)) ?_
    show Goes p e below _ T171 (mkF m 244 #[.val (.int a1), .val (.int a2), .val (.int a3), .val (.int a4), .val (.int a5), .val (.long q6), .second, .val (.int f6), .val (.int (7 : Int32)), .val (.ref b1), .val (.ref b8), .val (.int (1 : Int32)), .val (.ref b152), .val (.ref b160)] [(.int (1 : Int32))])
    refine Goes.of (fun _ => XS.goto X171.here hx rfl (pc0 := 244) (pc' := 248) rfl (hb hby at_244) (by decide) (by decide)) ?_
    show Goes p e below _ T171 (mkF m 248 #[.val (.int a1), .val (.int a2), .val (.int a3), .val (.int a4), .val (.int a5), .val (.long q6), .second, .val (.int f6), .val (.int (7 : Int32)), .val (.ref b1), .val (.ref b8), .val (.int (1 : Int32)), .val (.ref b152), .val (.ref b160)] [(.int (1 : Int32))])
    exact retZ (t := .boolean) X171 hx hret hlk (by simp) (hb hby at_248) eT171 (by decide) (by decide) ⟨rfl, N171⟩
set_option maxRecDepth 65536 in
set_option maxHeartbeats 40000000 in
theorem comes_1 {Post : Tables → Env → Array Value → State → Outcome → State → Prop} (hpost : ∀ tb e args s v u, (limb_1_1.after args s (.returned v) u = true ∧ limb_1_2.after args s (.returned v) u = true ∧ True) → FrameEnd s (.returned v) u (Jvm.fieldLocs frame_1_writes args s ++ Jvm.arrayLocs frame_1_arrays args s ++ Jvm.staticLocs frame_1_statics s) 24 128 → Post tb e args s (.returned v) u) :
    ArmFor flags0 classFile x code maxLocals ret World_1 tables_1 room_1 Calls_1 rest_1 Pre_1 Post := by
  intro l hfl _ _ p e ha hc hk s m args below hf hA hF happ hP
  obtain ⟨hcalls, hrest, hpre⟩ := hP
  obtain ⟨-, -, -, hnamed, -, -, -, hat⟩ := (Spec.applies_iff hf).mp happ
  obtain ⟨hg, hn⟩ := and_e (Cond.before_iff.mp (show (Jvm.Cond.and given_1 narrow_1).before args s = true from hpre))
  obtain ⟨hcount, hg0⟩ := and_e hg
  obtain ⟨hv0, hg1⟩ := and_e hg0
  obtain ⟨hv1, hg2⟩ := and_e hg1
  obtain ⟨hv2, hg3⟩ := and_e hg2
  obtain ⟨hv3, hg4⟩ := and_e hg3
  obtain ⟨hv4, hg5⟩ := and_e hg4
  have hv5 := hg5
  obtain ⟨w0, w1, w2, w3, w4, w5, rfl⟩ : ∃ w0 w1 w2 w3 w4 w5 : Value, args = #[w0, w1, w2, w3, w4, w5] := by
    have hs : args.size = 6 := by simpa [Cond.value, given_1] using hcount
    obtain ⟨L⟩ := args
    match L, hs with
    | [w0, w1, w2, w3, w4, w5], _ => exact ⟨w0, w1, w2, w3, w4, w5, rfl⟩
  have hw := fun d (hd : d ∈ tables_1) => atoms_spec (ws := Jvm.Cond.code x code maxLocals ret :: tables_1) hat d (List.mem_cons_of_mem _ hd)
  have hfit : Fit s := fun {y c} hc i hi => by
    obtain ⟨ha, rfl⟩ := Array.getElem?_eq_some_iff.mp hc
    have q := List.all_eq_true.mp ((Array.all_eq_true_iff_forall_mem.mp hF) _ (Array.getElem_mem ha)) i (List.mem_range.mpr hi)
    simpa [Array.getElem?_eq_getElem hi] using q
  obtain ⟨hsets, hown0⟩ := atoms_of _ (rest_1_c_eq ▸ (show rest_1_c.before _ s = true from hrest))
  obtain ⟨i0, ei0⟩ := is_v hv0
  obtain rfl : w0 = (.int i0) := Option.some.inj ei0
  obtain ⟨i1, ei1⟩ := is_v hv1
  obtain rfl : w1 = (.int i1) := Option.some.inj ei1
  obtain ⟨i2, ei2⟩ := is_v hv2
  obtain rfl : w2 = (.int i2) := Option.some.inj ei2
  obtain ⟨i3, ei3⟩ := is_v hv3
  obtain rfl : w3 = (.int i3) := Option.some.inj ei3
  obtain ⟨i4, ei4⟩ := is_v hv4
  obtain rfl : w4 = (.int i4) := Option.some.inj ei4
  obtain ⟨i5, ei5⟩ := isL_v hv5
  obtain rfl : w5 = (.long i5) := Option.some.inj ei5
  obtain ⟨ca, evc⟩ := arr_v (Cond.before_iff.mp (hsets _ (List.mem_of_getElem? (i := 4) rfl)))
  obtain ⟨cl, Acl⟩ := Arr.start evc (Cond.before_iff.mp (hsets _ (List.mem_of_getElem? (i := 4) rfl)))
  have IC0 : IntC s ca cl := intC_of (hw _ (List.mem_of_getElem? (i := 52) rfl)) (hsets _ (List.mem_of_getElem? (i := 0) rfl)) (hsets _ (List.mem_of_getElem? (i := 2) rfl)) (hsets _ (List.mem_of_getElem? (i := 3) rfl)) (hsets _ (List.mem_of_getElem? (i := 6) rfl)) (hsets _ (List.mem_of_getElem? (i := 7) rfl)) rfl evc Acl
  obtain ⟨n, o, h1, h2, h3, _, L, rfl, ⟨rfl, N⟩, hq⟩ := rm_law l s _ hw tables_1 i0 i1 i2 i3 i4 i5 ca cl s.heap s.heap.size (Old.start s) IC0 p e ha hc hk s m _ below hf ((Spec.applies_iff_loose hf).mp happ).1 ⟨rfl, State.Warmed39.refl s, rfl⟩ trivial
  refine ⟨n, _, h1, h2, h3, hpost _ _ _ _ _ _ ⟨Cond.after_iff.mpr rfl, Cond.after_iff.mpr (eq_i res_at (Term.int_eval (1)) rfl), trivial⟩ ⟨hq.1, hq.2.1, (hq.2.2.sift fun y hy => Or.inr (N y hy)).mono (by decide) (by decide)⟩⟩
theorem main_1_1 : Claimed_1_1 := comes_1 fun _ _ _ _ _ _ h hF => ⟨h.1, hF⟩
theorem main_1_2 : Claimed_1_2 := comes_1 fun _ _ _ _ _ _ h hF => ⟨h.2.1, hF⟩
end Jvm.Pilot.@@N@@
namespace Jvm.Pilot.@@N@@
open Jvm Jvm.ClassFile Sem Op Lib Jvm.Free Jvm.Stand Jvm.Pilot.@@N@@.Jvm.D
/-! MADE BY PROGRAM (witnessworld.py) out of the Statement's table words and the real class files: 16 classes; the members and pool entries that the words name. The judged class is class 1, her method 1. -/
namespace start1
open Jvm.ClassFile
def u (s : String) : CpInfo := .utf8 (stringToUtf16 s)
/-- a pool by its gaps: so many unusable entries, then the entry; so many at the end -/
def gap : Nat → List CpInfo → List CpInfo
  | 0, r => r
  | n + 1, r => .unusable :: gap n r
def poolList (es : List (Nat × CpInfo)) (last : Nat) : List CpInfo := es.foldr (fun e r => gap e.1 (e.2 :: r)) (gap last [])
def pool (es : List (Nat × CpInfo)) (last : Nat) : Array CpInfo := ⟨poolList es last⟩
def fileOf (pool : Array CpInfo) (this : Nat) (attrs : Array Attribute := #[]) (ms : Array MethodInfo := #[]) (fl : Nat := 33) (sup : Nat := 0) (ifs : Array Nat := #[]) (fds : Array FieldInfo := #[]) : ClassFile where
  minorVersion := 0
  majorVersion := 65
  constantPool := pool
  accessFlags := fl
  thisClass := this
  superClass := sup
  interfaces := ifs
  fields := fds
  methods := ms
  attributes := attrs
def plain (name : String) (sup : Option ClassId) : Class where
  name := name
  kind := .ordinary
  loader := none
  accessFlags := 33
  super := sup
  interfaces := #[]
  cf := none
  fields := #[]
  methods := #[]
  instanceTypes := #[]
  staticTypes := #[]
  resolved := #[]
  callSites := []
  init := .initialized
  statics := none
  mirror := none

def pool0 : Array CpInfo := pool [(5, u "<init>"), (0, u "()V"), (1, .class_ 10), (1, u "java/lang/Object")] 113

def k0c0 : Code := { maxStack := 0, maxLocals := 1, code := object_method_1_code, exceptionTable := #[], attributes := #[] }
def k0m0 : Method := { name := "<init>", desc := "()V", sig := { parameters := [], returnType := none }, accessFlags := 1, code := some k0c0 }
/-- java/lang/Object -/
def k0 : Class := { plain "java/lang/Object" none with
  accessFlags := 33
  interfaces := #[]
  cf := some (fileOf pool0 8 #[] #[{ accessFlags := 1, nameIndex := 5, descriptorIndex := 6, attributes := #[] }] 33 0 #[] #[])
  fields := #[]
  methods := #[k0m0]
  instanceTypes := #[]
  staticTypes := #[]
  resolved := Array.replicate 124 none
  statics := none }

def pool1 : Array CpInfo := pool [(2, .class_ 4), (1, u "java/lang/Object"), (0, u "<init>"), (0, u "()V"), (0, .class_ 8), (0, u "com/example/casement/casement/graphics/CharMetrics"), (0, .methodref 7 10), (0, .nameAndType 5 11), (0, u "(IIIIII)V"), (0, .methodref 7 13), (0, .nameAndType 14 15), (0, u "equals"), (0, u "(Ljava/lang/Object;)Z"), (0, .methodref 17 18), (0, .class_ 19), (0, .nameAndType 20 21), (0, u "java/lang/Integer"), (0, u "valueOf"), (0, u "(I)Ljava/lang/Integer;"), (0, .class_ 23), (0, u "com/example/casement/casement/graphics/CharMetricsEqualsPinLaw"), (2, u "law"), (0, u "(IIIIIJ)Z")] 5

def k1m0 : Method := { name := "<init>", desc := "()V", sig := { parameters := [], returnType := none }, accessFlags := 1, code := none }
def k1c1 : Code := { maxStack := 9, maxLocals := 14, code := code, exceptionTable := #[], attributes := #[] }
def k1m1 : Method := { name := "law", desc := "(IIIIIJ)Z", sig := { parameters := [.int, .int, .int, .int, .int, .long], returnType := some .boolean }, accessFlags := 9, code := some k1c1 }
/-- com/example/casement/casement/graphics/CharMetricsEqualsPinLaw -/
def k1 : Class := { plain "com/example/casement/casement/graphics/CharMetricsEqualsPinLaw" (some 0) with
  accessFlags := 49
  interfaces := #[]
  cf := some (fileOf pool1 22 #[] #[{ accessFlags := 1, nameIndex := 5, descriptorIndex := 6, attributes := #[] }, { accessFlags := 9, nameIndex := 26, descriptorIndex := 27, attributes := #[] }] 49 2 #[] #[])
  fields := #[]
  methods := #[k1m0, k1m1]
  instanceTypes := #[]
  staticTypes := #[]
  resolved := Array.replicate 33 none
  statics := none }

def pool2 : Array CpInfo := pool [(1, .methodref 2 3), (0, .class_ 4), (0, .nameAndType 5 6), (0, u "java/lang/Object"), (0, u "<init>"), (0, u "()V"), (0, .fieldref 8 9), (0, .class_ 10), (0, .nameAndType 11 12), (0, u "com/example/casement/casement/graphics/CharMetrics"), (0, u "leftSideBearing"), (0, u "I"), (0, .fieldref 8 14), (0, .nameAndType 15 12), (0, u "rightSideBearing"), (0, .fieldref 8 17), (0, .nameAndType 18 12), (0, u "characterWidth"), (0, .fieldref 8 20), (0, .nameAndType 21 12), (0, u "ascent"), (0, .fieldref 8 23), (0, .nameAndType 24 12), (0, u "descent"), (0, .fieldref 8 26), (0, .nameAndType 27 12), (0, u "attributes"), (18, u "(IIIIII)V"), (2, u "NONE"), (0, u "Lcom/example/casement/casement/graphics/CharMetrics;"), (11, u "equals"), (0, u "(Ljava/lang/Object;)Z")] 22

def k2c0 : Code := { maxStack := 2, maxLocals := 7, code := prog_7_method_1_code, exceptionTable := #[], attributes := #[] }
def k2m0 : Method := { name := "<init>", desc := "(IIIIII)V", sig := { parameters := [.int, .int, .int, .int, .int, .int], returnType := none }, accessFlags := 1, code := some k2c0 }
def k2c1 : Code := { maxStack := 2, maxLocals := 3, code := prog_7_method_9_code, exceptionTable := #[], attributes := #[] }
def k2m1 : Method := { name := "equals", desc := "(Ljava/lang/Object;)Z", sig := { parameters := [(.object "java/lang/Object")], returnType := some .boolean }, accessFlags := 1, code := some k2c1 }
/-- com/example/casement/casement/graphics/CharMetrics -/
def k2 : Class := { plain "com/example/casement/casement/graphics/CharMetrics" (some 0) with
  accessFlags := 49
  interfaces := #[]
  cf := some (fileOf pool2 8 #[] #[{ accessFlags := 1, nameIndex := 5, descriptorIndex := 46, attributes := #[] }, { accessFlags := 1, nameIndex := 62, descriptorIndex := 63, attributes := #[] }] 49 2 #[] #[{ accessFlags := 25, nameIndex := 49, descriptorIndex := 50, attributes := #[] }, { accessFlags := 18, nameIndex := 11, descriptorIndex := 12, attributes := #[] }, { accessFlags := 18, nameIndex := 15, descriptorIndex := 12, attributes := #[] }, { accessFlags := 18, nameIndex := 18, descriptorIndex := 12, attributes := #[] }, { accessFlags := 18, nameIndex := 21, descriptorIndex := 12, attributes := #[] }, { accessFlags := 18, nameIndex := 24, descriptorIndex := 12, attributes := #[] }, { accessFlags := 18, nameIndex := 27, descriptorIndex := 12, attributes := #[] }])
  fields := #[{ name := "NONE", type := (.object "com/example/casement/casement/graphics/CharMetrics"), accessFlags := 25, slot := 0, constantValue := 0 }, { name := "leftSideBearing", type := .int, accessFlags := 18, slot := 0, constantValue := 0 }, { name := "rightSideBearing", type := .int, accessFlags := 18, slot := 1, constantValue := 0 }, { name := "characterWidth", type := .int, accessFlags := 18, slot := 2, constantValue := 0 }, { name := "ascent", type := .int, accessFlags := 18, slot := 3, constantValue := 0 }, { name := "descent", type := .int, accessFlags := 18, slot := 4, constantValue := 0 }, { name := "attributes", type := .int, accessFlags := 18, slot := 5, constantValue := 0 }]
  methods := #[k2m0, k2m1]
  instanceTypes := #[.int, .int, .int, .int, .int, .int]
  staticTypes := #[(.object "com/example/casement/casement/graphics/CharMetrics")]
  resolved := Array.replicate 86 none
  statics := none }

def pool3 : Array CpInfo := pool [(1, .class_ 2), (0, u "java/io/Serializable"), (0, .class_ 4), (0, u "java/lang/Object")] 2

/-- java/io/Serializable -/
def k3 : Class := { plain "java/io/Serializable" (some 0) with
  accessFlags := 1537
  interfaces := #[]
  cf := some (fileOf pool3 1 #[] #[] 1537 3 #[] #[])
  fields := #[]
  methods := #[]
  instanceTypes := #[]
  staticTypes := #[]
  resolved := Array.replicate 7 none
  statics := none }

def pool4 : Array CpInfo := pool [(1, .methodref 2 3), (0, .class_ 4), (0, .nameAndType 5 6), (0, u "java/lang/Object"), (0, u "<init>"), (0, u "()V"), (1, .class_ 10), (1, u "java/lang/Number"), (2, .class_ 14), (0, u "java/io/Serializable"), (0, u "serialVersionUID"), (0, u "J")] 20

def k4c0 : Code := { maxStack := 1, maxLocals := 1, code := jdk_18_method_1_code, exceptionTable := #[], attributes := #[] }
def k4m0 : Method := { name := "<init>", desc := "()V", sig := { parameters := [], returnType := none }, accessFlags := 1, code := some k4c0 }
/-- java/lang/Number -/
def k4 : Class := { plain "java/lang/Number" (some 0) with
  accessFlags := 1057
  interfaces := #[3]
  cf := some (fileOf pool4 8 #[] #[{ accessFlags := 1, nameIndex := 5, descriptorIndex := 6, attributes := #[] }] 1057 2 #[13] #[{ accessFlags := 26, nameIndex := 15, descriptorIndex := 16, attributes := #[] }])
  fields := #[{ name := "serialVersionUID", type := .long, accessFlags := 26, slot := 0, constantValue := 0 }]
  methods := #[k4m0]
  instanceTypes := #[]
  staticTypes := #[.long]
  resolved := Array.replicate 37 none
  statics := none }

def pool5 : Array CpInfo := pool [(1, .class_ 2), (0, u "java/lang/Comparable"), (0, .class_ 4), (0, u "java/lang/Object")] 7

/-- java/lang/Comparable -/
def k5 : Class := { plain "java/lang/Comparable" (some 0) with
  accessFlags := 1537
  interfaces := #[]
  cf := some (fileOf pool5 1 #[] #[] 1537 3 #[] #[])
  fields := #[]
  methods := #[]
  instanceTypes := #[]
  staticTypes := #[]
  resolved := Array.replicate 12 none
  statics := none }

def pool6 : Array CpInfo := pool [(1, .class_ 2), (0, u "java/lang/constant/Constable"), (0, .class_ 4), (0, u "java/lang/Object")] 6

/-- java/lang/constant/Constable -/
def k6 : Class := { plain "java/lang/constant/Constable" (some 0) with
  accessFlags := 1537
  interfaces := #[]
  cf := some (fileOf pool6 1 #[] #[] 1537 3 #[] #[])
  fields := #[]
  methods := #[]
  instanceTypes := #[]
  staticTypes := #[]
  resolved := Array.replicate 11 none
  statics := none }

def pool7 : Array CpInfo := pool [(1, .class_ 2), (0, u "java/lang/constant/ConstantDesc"), (0, .class_ 4), (0, u "java/lang/Object")] 32

/-- java/lang/constant/ConstantDesc -/
def k7 : Class := { plain "java/lang/constant/ConstantDesc" (some 0) with
  accessFlags := 1537
  interfaces := #[]
  cf := some (fileOf pool7 1 #[] #[] 1537 3 #[] #[])
  fields := #[]
  methods := #[]
  instanceTypes := #[]
  staticTypes := #[]
  resolved := Array.replicate 37 none
  statics := none }

def pool8 : Array CpInfo := pool [(1, .class_ 2), (0, u "java/lang/Integer"), (16, u "digits"), (0, u "[C"), (46, u "<init>"), (17, u "DigitOnes"), (0, u "[B"), (2, u "DigitTens"), (10, .nameAndType 67 101), (0, u "()V"), (85, u "valueOf"), (0, u "(I)Ljava/lang/Integer;"), (0, .class_ 190), (0, u "java/lang/Integer$IntegerCache"), (0, .fieldref 189 192), (0, .nameAndType 193 194), (0, u "high"), (0, u "I"), (0, .fieldref 189 196), (0, .nameAndType 197 198), (0, u "cache"), (0, u "[Ljava/lang/Integer;"), (0, .methodref 1 200), (0, .nameAndType 67 201), (0, u "(I)V"), (0, .methodref 203 100), (0, .class_ 204), (0, u "java/lang/Number"), (0, .fieldref 1 206), (0, .nameAndType 207 194), (0, u "value"), (94, u "TYPE"), (0, u "Ljava/lang/Class;"), (0, .class_ 305), (0, u "java/lang/Comparable"), (0, .class_ 307), (0, u "java/lang/constant/Constable"), (0, .class_ 309), (0, u "java/lang/constant/ConstantDesc"), (0, u "MIN_VALUE"), (1, u "MAX_VALUE"), (3, u "SIZE"), (1, u "BYTES"), (1, u "serialVersionUID"), (0, u "J")] 131

def k8c0 : Code := { maxStack := 3, maxLocals := 1, code := jdk_33_method_22_code, exceptionTable := #[], attributes := #[] }
def k8m0 : Method := { name := "valueOf", desc := "(I)Ljava/lang/Integer;", sig := { parameters := [.int], returnType := some (.object "java/lang/Integer") }, accessFlags := 9, code := some k8c0 }
def k8c1 : Code := { maxStack := 2, maxLocals := 2, code := jdk_33_method_23_code, exceptionTable := #[], attributes := #[] }
def k8m1 : Method := { name := "<init>", desc := "(I)V", sig := { parameters := [.int], returnType := none }, accessFlags := 1, code := some k8c1 }
/-- java/lang/Integer -/
def k8 : Class := { plain "java/lang/Integer" (some 4) with
  accessFlags := 49
  interfaces := #[5, 6, 7]
  cf := some (fileOf pool8 1 #[.nestMembers #[189]] #[{ accessFlags := 9, nameIndex := 187, descriptorIndex := 188, attributes := #[] }, { accessFlags := 1, nameIndex := 67, descriptorIndex := 201, attributes := #[] }] 49 203 #[304, 306, 308] #[{ accessFlags := 25, nameIndex := 310, descriptorIndex := 194, attributes := #[] }, { accessFlags := 25, nameIndex := 312, descriptorIndex := 194, attributes := #[] }, { accessFlags := 25, nameIndex := 302, descriptorIndex := 303, attributes := #[] }, { accessFlags := 24, nameIndex := 19, descriptorIndex := 20, attributes := #[] }, { accessFlags := 24, nameIndex := 89, descriptorIndex := 86, attributes := #[] }, { accessFlags := 24, nameIndex := 85, descriptorIndex := 86, attributes := #[] }, { accessFlags := 18, nameIndex := 207, descriptorIndex := 194, attributes := #[] }, { accessFlags := 25, nameIndex := 316, descriptorIndex := 194, attributes := #[] }, { accessFlags := 25, nameIndex := 318, descriptorIndex := 194, attributes := #[] }, { accessFlags := 26, nameIndex := 320, descriptorIndex := 321, attributes := #[] }])
  fields := #[{ name := "MIN_VALUE", type := .int, accessFlags := 25, slot := 0, constantValue := 0 }, { name := "MAX_VALUE", type := .int, accessFlags := 25, slot := 1, constantValue := 0 }, { name := "TYPE", type := (.object "java/lang/Class"), accessFlags := 25, slot := 2, constantValue := 0 }, { name := "digits", type := (.array .char), accessFlags := 24, slot := 3, constantValue := 0 }, { name := "DigitTens", type := (.array .byte), accessFlags := 24, slot := 4, constantValue := 0 }, { name := "DigitOnes", type := (.array .byte), accessFlags := 24, slot := 5, constantValue := 0 }, { name := "value", type := .int, accessFlags := 18, slot := 0, constantValue := 0 }, { name := "SIZE", type := .int, accessFlags := 25, slot := 6, constantValue := 0 }, { name := "BYTES", type := .int, accessFlags := 25, slot := 7, constantValue := 0 }, { name := "serialVersionUID", type := .long, accessFlags := 26, slot := 8, constantValue := 0 }]
  methods := #[k8m0, k8m1]
  instanceTypes := #[.int]
  staticTypes := #[.int, .int, (.object "java/lang/Class"), (.array .char), (.array .byte), (.array .byte), .int, .int, .long]
  resolved := Array.replicate 453 none
  statics := none }

def pool9 : Array CpInfo := pool [(2, .class_ 4), (1, u "java/lang/Object"), (0, u "<init>"), (0, u "()V"), (0, .class_ 8), (0, u "java/lang/Integer"), (7, .class_ 18), (1, u "java/lang/Integer$IntegerCache"), (0, u "$assertionsDisabled"), (0, u "Z"), (26, u "high"), (0, u "I"), (8, u "archivedCache"), (0, u "[Ljava/lang/Integer;"), (12, u "cache"), (0, u "low")] 27

def k9m0 : Method := { name := "<init>", desc := "()V", sig := { parameters := [], returnType := none }, accessFlags := 2, code := none }
/-- java/lang/Integer$IntegerCache -/
def k9 : Class := { plain "java/lang/Integer$IntegerCache" (some 0) with
  accessFlags := 48
  interfaces := #[]
  cf := some (fileOf pool9 16 #[.nestHost 7] #[{ accessFlags := 2, nameIndex := 5, descriptorIndex := 6, attributes := #[] }] 48 2 #[] #[{ accessFlags := 24, nameIndex := 72, descriptorIndex := 48, attributes := #[] }, { accessFlags := 24, nameIndex := 47, descriptorIndex := 48, attributes := #[] }, { accessFlags := 24, nameIndex := 71, descriptorIndex := 58, attributes := #[] }, { accessFlags := 8, nameIndex := 57, descriptorIndex := 58, attributes := #[] }, { accessFlags := 4120, nameIndex := 19, descriptorIndex := 20, attributes := #[] }])
  fields := #[{ name := "low", type := .int, accessFlags := 24, slot := 0, constantValue := 0 }, { name := "high", type := .int, accessFlags := 24, slot := 1, constantValue := 0 }, { name := "cache", type := (.array (.object "java/lang/Integer")), accessFlags := 24, slot := 2, constantValue := 0 }, { name := "archivedCache", type := (.array (.object "java/lang/Integer")), accessFlags := 8, slot := 3, constantValue := 0 }, { name := "$assertionsDisabled", type := .boolean, accessFlags := 4120, slot := 4, constantValue := 0 }]
  methods := #[k9m0]
  instanceTypes := #[]
  staticTypes := #[.int, .int, (.array (.object "java/lang/Integer")), (.array (.object "java/lang/Integer")), .boolean]
  resolved := Array.replicate 100 none
  statics := some 0 }

def pool10 : Array CpInfo := pool [(1, u "java/lang/Cloneable"), (0, .class_ 1), (0, u "java/lang/Object"), (0, .class_ 3)] 3

/-- java/lang/Cloneable -/
def k10 : Class := { plain "java/lang/Cloneable" (some 0) with
  accessFlags := 1537
  interfaces := #[]
  cf := some (fileOf pool10 2 #[] #[] 1537 4 #[] #[])
  fields := #[]
  methods := #[]
  instanceTypes := #[]
  staticTypes := #[]
  resolved := Array.replicate 8 none
  statics := none }

/-- the primitive byte -/
def k11 : Class := { plain "byte" none with kind := .primitive 'B', accessFlags := 0x411 }
/-- [B -/
def k12 : Class := { plain "[B" (some 0) with kind := .array 11 .byte, interfaces := #[10, 3], accessFlags := 1041 }

/-- the primitive int -/
def k13 : Class := { plain "int" none with kind := .primitive 'I', accessFlags := 0x411 }
/-- [I -/
def k14 : Class := { plain "[I" (some 0) with kind := .array 13 .int, interfaces := #[10, 3], accessFlags := 1041 }

/-- [Ljava/lang/Integer; -/
def k15 : Class := { plain "[Ljava/lang/Integer;" (some 0) with kind := .array 8 (.object "java/lang/Integer"), interfaces := #[10, 3], accessFlags := 1041 }

def heap : Heap := #[{ cls := 9, slots := #[.int 0, .int 127, .ref 1, .null, .int 0], vm := .statics 9 },
  { cls := 15, slots := #[.ref 2, .ref 3, .ref 4, .ref 5, .ref 6, .ref 7, .ref 8, .ref 9, .ref 10, .ref 11, .ref 12, .ref 13, .ref 14, .ref 15, .ref 16, .ref 17, .ref 18, .ref 19, .ref 20, .ref 21, .ref 22, .ref 23, .ref 24, .ref 25, .ref 26, .ref 27, .ref 28, .ref 29, .ref 30, .ref 31, .ref 32, .ref 33, .ref 34, .ref 35, .ref 36, .ref 37, .ref 38, .ref 39, .ref 40, .ref 41, .ref 42, .ref 43, .ref 44, .ref 45, .ref 46, .ref 47, .ref 48, .ref 49, .ref 50, .ref 51, .ref 52, .ref 53, .ref 54, .ref 55, .ref 56, .ref 57, .ref 58, .ref 59, .ref 60, .ref 61, .ref 62, .ref 63, .ref 64, .ref 65, .ref 66, .ref 67, .ref 68, .ref 69, .ref 70, .ref 71, .ref 72, .ref 73, .ref 74, .ref 75, .ref 76, .ref 77, .ref 78, .ref 79, .ref 80, .ref 81, .ref 82, .ref 83, .ref 84, .ref 85, .ref 86, .ref 87, .ref 88, .ref 89, .ref 90, .ref 91, .ref 92, .ref 93, .ref 94, .ref 95, .ref 96, .ref 97, .ref 98, .ref 99, .ref 100, .ref 101, .ref 102, .ref 103, .ref 104, .ref 105, .ref 106, .ref 107, .ref 108, .ref 109, .ref 110, .ref 111, .ref 112, .ref 113, .ref 114, .ref 115, .ref 116, .ref 117, .ref 118, .ref 119, .ref 120, .ref 121, .ref 122, .ref 123, .ref 124, .ref 125, .ref 126, .ref 127, .ref 128, .ref 129, .ref 130, .ref 131, .ref 132, .ref 133, .ref 134, .ref 135, .ref 136, .ref 137, .ref 138, .ref 139, .ref 140, .ref 141, .ref 142, .ref 143, .ref 144, .ref 145, .ref 146, .ref 147, .ref 148, .ref 149, .ref 150, .ref 151, .ref 152, .ref 153, .ref 154, .ref 155, .ref 156, .ref 157, .ref 158, .ref 159, .ref 160, .ref 161, .ref 162, .ref 163, .ref 164, .ref 165, .ref 166, .ref 167, .ref 168, .ref 169, .ref 170, .ref 171, .ref 172, .ref 173, .ref 174, .ref 175, .ref 176, .ref 177, .ref 178, .ref 179, .ref 180, .ref 181, .ref 182, .ref 183, .ref 184, .ref 185, .ref 186, .ref 187, .ref 188, .ref 189, .ref 190, .ref 191, .ref 192, .ref 193, .ref 194, .ref 195, .ref 196, .ref 197, .ref 198, .ref 199, .ref 200, .ref 201, .ref 202, .ref 203, .ref 204, .ref 205, .ref 206, .ref 207, .ref 208, .ref 209, .ref 210, .ref 211, .ref 212, .ref 213, .ref 214, .ref 215, .ref 216, .ref 217, .ref 218, .ref 219, .ref 220, .ref 221, .ref 222, .ref 223, .ref 224, .ref 225, .ref 226, .ref 227, .ref 228, .ref 229, .ref 230, .ref 231, .ref 232, .ref 233, .ref 234, .ref 235, .ref 236, .ref 237, .ref 238, .ref 239, .ref 240, .ref 241, .ref 242, .ref 243, .ref 244, .ref 245, .ref 246, .ref 247, .ref 248, .ref 249, .ref 250, .ref 251, .ref 252, .ref 253, .ref 254, .ref 255, .ref 256, .ref 257], vm := .none },
  { cls := 8, slots := #[.int (-128)], vm := .none },
  { cls := 8, slots := #[.int (-127)], vm := .none },
  { cls := 8, slots := #[.int (-126)], vm := .none },
  { cls := 8, slots := #[.int (-125)], vm := .none },
  { cls := 8, slots := #[.int (-124)], vm := .none },
  { cls := 8, slots := #[.int (-123)], vm := .none },
  { cls := 8, slots := #[.int (-122)], vm := .none },
  { cls := 8, slots := #[.int (-121)], vm := .none },
  { cls := 8, slots := #[.int (-120)], vm := .none },
  { cls := 8, slots := #[.int (-119)], vm := .none },
  { cls := 8, slots := #[.int (-118)], vm := .none },
  { cls := 8, slots := #[.int (-117)], vm := .none },
  { cls := 8, slots := #[.int (-116)], vm := .none },
  { cls := 8, slots := #[.int (-115)], vm := .none },
  { cls := 8, slots := #[.int (-114)], vm := .none },
  { cls := 8, slots := #[.int (-113)], vm := .none },
  { cls := 8, slots := #[.int (-112)], vm := .none },
  { cls := 8, slots := #[.int (-111)], vm := .none },
  { cls := 8, slots := #[.int (-110)], vm := .none },
  { cls := 8, slots := #[.int (-109)], vm := .none },
  { cls := 8, slots := #[.int (-108)], vm := .none },
  { cls := 8, slots := #[.int (-107)], vm := .none },
  { cls := 8, slots := #[.int (-106)], vm := .none },
  { cls := 8, slots := #[.int (-105)], vm := .none },
  { cls := 8, slots := #[.int (-104)], vm := .none },
  { cls := 8, slots := #[.int (-103)], vm := .none },
  { cls := 8, slots := #[.int (-102)], vm := .none },
  { cls := 8, slots := #[.int (-101)], vm := .none },
  { cls := 8, slots := #[.int (-100)], vm := .none },
  { cls := 8, slots := #[.int (-99)], vm := .none },
  { cls := 8, slots := #[.int (-98)], vm := .none },
  { cls := 8, slots := #[.int (-97)], vm := .none },
  { cls := 8, slots := #[.int (-96)], vm := .none },
  { cls := 8, slots := #[.int (-95)], vm := .none },
  { cls := 8, slots := #[.int (-94)], vm := .none },
  { cls := 8, slots := #[.int (-93)], vm := .none },
  { cls := 8, slots := #[.int (-92)], vm := .none },
  { cls := 8, slots := #[.int (-91)], vm := .none },
  { cls := 8, slots := #[.int (-90)], vm := .none },
  { cls := 8, slots := #[.int (-89)], vm := .none },
  { cls := 8, slots := #[.int (-88)], vm := .none },
  { cls := 8, slots := #[.int (-87)], vm := .none },
  { cls := 8, slots := #[.int (-86)], vm := .none },
  { cls := 8, slots := #[.int (-85)], vm := .none },
  { cls := 8, slots := #[.int (-84)], vm := .none },
  { cls := 8, slots := #[.int (-83)], vm := .none },
  { cls := 8, slots := #[.int (-82)], vm := .none },
  { cls := 8, slots := #[.int (-81)], vm := .none },
  { cls := 8, slots := #[.int (-80)], vm := .none },
  { cls := 8, slots := #[.int (-79)], vm := .none },
  { cls := 8, slots := #[.int (-78)], vm := .none },
  { cls := 8, slots := #[.int (-77)], vm := .none },
  { cls := 8, slots := #[.int (-76)], vm := .none },
  { cls := 8, slots := #[.int (-75)], vm := .none },
  { cls := 8, slots := #[.int (-74)], vm := .none },
  { cls := 8, slots := #[.int (-73)], vm := .none },
  { cls := 8, slots := #[.int (-72)], vm := .none },
  { cls := 8, slots := #[.int (-71)], vm := .none },
  { cls := 8, slots := #[.int (-70)], vm := .none },
  { cls := 8, slots := #[.int (-69)], vm := .none },
  { cls := 8, slots := #[.int (-68)], vm := .none },
  { cls := 8, slots := #[.int (-67)], vm := .none },
  { cls := 8, slots := #[.int (-66)], vm := .none },
  { cls := 8, slots := #[.int (-65)], vm := .none },
  { cls := 8, slots := #[.int (-64)], vm := .none },
  { cls := 8, slots := #[.int (-63)], vm := .none },
  { cls := 8, slots := #[.int (-62)], vm := .none },
  { cls := 8, slots := #[.int (-61)], vm := .none },
  { cls := 8, slots := #[.int (-60)], vm := .none },
  { cls := 8, slots := #[.int (-59)], vm := .none },
  { cls := 8, slots := #[.int (-58)], vm := .none },
  { cls := 8, slots := #[.int (-57)], vm := .none },
  { cls := 8, slots := #[.int (-56)], vm := .none },
  { cls := 8, slots := #[.int (-55)], vm := .none },
  { cls := 8, slots := #[.int (-54)], vm := .none },
  { cls := 8, slots := #[.int (-53)], vm := .none },
  { cls := 8, slots := #[.int (-52)], vm := .none },
  { cls := 8, slots := #[.int (-51)], vm := .none },
  { cls := 8, slots := #[.int (-50)], vm := .none },
  { cls := 8, slots := #[.int (-49)], vm := .none },
  { cls := 8, slots := #[.int (-48)], vm := .none },
  { cls := 8, slots := #[.int (-47)], vm := .none },
  { cls := 8, slots := #[.int (-46)], vm := .none },
  { cls := 8, slots := #[.int (-45)], vm := .none },
  { cls := 8, slots := #[.int (-44)], vm := .none },
  { cls := 8, slots := #[.int (-43)], vm := .none },
  { cls := 8, slots := #[.int (-42)], vm := .none },
  { cls := 8, slots := #[.int (-41)], vm := .none },
  { cls := 8, slots := #[.int (-40)], vm := .none },
  { cls := 8, slots := #[.int (-39)], vm := .none },
  { cls := 8, slots := #[.int (-38)], vm := .none },
  { cls := 8, slots := #[.int (-37)], vm := .none },
  { cls := 8, slots := #[.int (-36)], vm := .none },
  { cls := 8, slots := #[.int (-35)], vm := .none },
  { cls := 8, slots := #[.int (-34)], vm := .none },
  { cls := 8, slots := #[.int (-33)], vm := .none },
  { cls := 8, slots := #[.int (-32)], vm := .none },
  { cls := 8, slots := #[.int (-31)], vm := .none },
  { cls := 8, slots := #[.int (-30)], vm := .none },
  { cls := 8, slots := #[.int (-29)], vm := .none },
  { cls := 8, slots := #[.int (-28)], vm := .none },
  { cls := 8, slots := #[.int (-27)], vm := .none },
  { cls := 8, slots := #[.int (-26)], vm := .none },
  { cls := 8, slots := #[.int (-25)], vm := .none },
  { cls := 8, slots := #[.int (-24)], vm := .none },
  { cls := 8, slots := #[.int (-23)], vm := .none },
  { cls := 8, slots := #[.int (-22)], vm := .none },
  { cls := 8, slots := #[.int (-21)], vm := .none },
  { cls := 8, slots := #[.int (-20)], vm := .none },
  { cls := 8, slots := #[.int (-19)], vm := .none },
  { cls := 8, slots := #[.int (-18)], vm := .none },
  { cls := 8, slots := #[.int (-17)], vm := .none },
  { cls := 8, slots := #[.int (-16)], vm := .none },
  { cls := 8, slots := #[.int (-15)], vm := .none },
  { cls := 8, slots := #[.int (-14)], vm := .none },
  { cls := 8, slots := #[.int (-13)], vm := .none },
  { cls := 8, slots := #[.int (-12)], vm := .none },
  { cls := 8, slots := #[.int (-11)], vm := .none },
  { cls := 8, slots := #[.int (-10)], vm := .none },
  { cls := 8, slots := #[.int (-9)], vm := .none },
  { cls := 8, slots := #[.int (-8)], vm := .none },
  { cls := 8, slots := #[.int (-7)], vm := .none },
  { cls := 8, slots := #[.int (-6)], vm := .none },
  { cls := 8, slots := #[.int (-5)], vm := .none },
  { cls := 8, slots := #[.int (-4)], vm := .none },
  { cls := 8, slots := #[.int (-3)], vm := .none },
  { cls := 8, slots := #[.int (-2)], vm := .none },
  { cls := 8, slots := #[.int (-1)], vm := .none },
  { cls := 8, slots := #[.int 0], vm := .none },
  { cls := 8, slots := #[.int 1], vm := .none },
  { cls := 8, slots := #[.int 2], vm := .none },
  { cls := 8, slots := #[.int 3], vm := .none },
  { cls := 8, slots := #[.int 4], vm := .none },
  { cls := 8, slots := #[.int 5], vm := .none },
  { cls := 8, slots := #[.int 6], vm := .none },
  { cls := 8, slots := #[.int 7], vm := .none },
  { cls := 8, slots := #[.int 8], vm := .none },
  { cls := 8, slots := #[.int 9], vm := .none },
  { cls := 8, slots := #[.int 10], vm := .none },
  { cls := 8, slots := #[.int 11], vm := .none },
  { cls := 8, slots := #[.int 12], vm := .none },
  { cls := 8, slots := #[.int 13], vm := .none },
  { cls := 8, slots := #[.int 14], vm := .none },
  { cls := 8, slots := #[.int 15], vm := .none },
  { cls := 8, slots := #[.int 16], vm := .none },
  { cls := 8, slots := #[.int 17], vm := .none },
  { cls := 8, slots := #[.int 18], vm := .none },
  { cls := 8, slots := #[.int 19], vm := .none },
  { cls := 8, slots := #[.int 20], vm := .none },
  { cls := 8, slots := #[.int 21], vm := .none },
  { cls := 8, slots := #[.int 22], vm := .none },
  { cls := 8, slots := #[.int 23], vm := .none },
  { cls := 8, slots := #[.int 24], vm := .none },
  { cls := 8, slots := #[.int 25], vm := .none },
  { cls := 8, slots := #[.int 26], vm := .none },
  { cls := 8, slots := #[.int 27], vm := .none },
  { cls := 8, slots := #[.int 28], vm := .none },
  { cls := 8, slots := #[.int 29], vm := .none },
  { cls := 8, slots := #[.int 30], vm := .none },
  { cls := 8, slots := #[.int 31], vm := .none },
  { cls := 8, slots := #[.int 32], vm := .none },
  { cls := 8, slots := #[.int 33], vm := .none },
  { cls := 8, slots := #[.int 34], vm := .none },
  { cls := 8, slots := #[.int 35], vm := .none },
  { cls := 8, slots := #[.int 36], vm := .none },
  { cls := 8, slots := #[.int 37], vm := .none },
  { cls := 8, slots := #[.int 38], vm := .none },
  { cls := 8, slots := #[.int 39], vm := .none },
  { cls := 8, slots := #[.int 40], vm := .none },
  { cls := 8, slots := #[.int 41], vm := .none },
  { cls := 8, slots := #[.int 42], vm := .none },
  { cls := 8, slots := #[.int 43], vm := .none },
  { cls := 8, slots := #[.int 44], vm := .none },
  { cls := 8, slots := #[.int 45], vm := .none },
  { cls := 8, slots := #[.int 46], vm := .none },
  { cls := 8, slots := #[.int 47], vm := .none },
  { cls := 8, slots := #[.int 48], vm := .none },
  { cls := 8, slots := #[.int 49], vm := .none },
  { cls := 8, slots := #[.int 50], vm := .none },
  { cls := 8, slots := #[.int 51], vm := .none },
  { cls := 8, slots := #[.int 52], vm := .none },
  { cls := 8, slots := #[.int 53], vm := .none },
  { cls := 8, slots := #[.int 54], vm := .none },
  { cls := 8, slots := #[.int 55], vm := .none },
  { cls := 8, slots := #[.int 56], vm := .none },
  { cls := 8, slots := #[.int 57], vm := .none },
  { cls := 8, slots := #[.int 58], vm := .none },
  { cls := 8, slots := #[.int 59], vm := .none },
  { cls := 8, slots := #[.int 60], vm := .none },
  { cls := 8, slots := #[.int 61], vm := .none },
  { cls := 8, slots := #[.int 62], vm := .none },
  { cls := 8, slots := #[.int 63], vm := .none },
  { cls := 8, slots := #[.int 64], vm := .none },
  { cls := 8, slots := #[.int 65], vm := .none },
  { cls := 8, slots := #[.int 66], vm := .none },
  { cls := 8, slots := #[.int 67], vm := .none },
  { cls := 8, slots := #[.int 68], vm := .none },
  { cls := 8, slots := #[.int 69], vm := .none },
  { cls := 8, slots := #[.int 70], vm := .none },
  { cls := 8, slots := #[.int 71], vm := .none },
  { cls := 8, slots := #[.int 72], vm := .none },
  { cls := 8, slots := #[.int 73], vm := .none },
  { cls := 8, slots := #[.int 74], vm := .none },
  { cls := 8, slots := #[.int 75], vm := .none },
  { cls := 8, slots := #[.int 76], vm := .none },
  { cls := 8, slots := #[.int 77], vm := .none },
  { cls := 8, slots := #[.int 78], vm := .none },
  { cls := 8, slots := #[.int 79], vm := .none },
  { cls := 8, slots := #[.int 80], vm := .none },
  { cls := 8, slots := #[.int 81], vm := .none },
  { cls := 8, slots := #[.int 82], vm := .none },
  { cls := 8, slots := #[.int 83], vm := .none },
  { cls := 8, slots := #[.int 84], vm := .none },
  { cls := 8, slots := #[.int 85], vm := .none },
  { cls := 8, slots := #[.int 86], vm := .none },
  { cls := 8, slots := #[.int 87], vm := .none },
  { cls := 8, slots := #[.int 88], vm := .none },
  { cls := 8, slots := #[.int 89], vm := .none },
  { cls := 8, slots := #[.int 90], vm := .none },
  { cls := 8, slots := #[.int 91], vm := .none },
  { cls := 8, slots := #[.int 92], vm := .none },
  { cls := 8, slots := #[.int 93], vm := .none },
  { cls := 8, slots := #[.int 94], vm := .none },
  { cls := 8, slots := #[.int 95], vm := .none },
  { cls := 8, slots := #[.int 96], vm := .none },
  { cls := 8, slots := #[.int 97], vm := .none },
  { cls := 8, slots := #[.int 98], vm := .none },
  { cls := 8, slots := #[.int 99], vm := .none },
  { cls := 8, slots := #[.int 100], vm := .none },
  { cls := 8, slots := #[.int 101], vm := .none },
  { cls := 8, slots := #[.int 102], vm := .none },
  { cls := 8, slots := #[.int 103], vm := .none },
  { cls := 8, slots := #[.int 104], vm := .none },
  { cls := 8, slots := #[.int 105], vm := .none },
  { cls := 8, slots := #[.int 106], vm := .none },
  { cls := 8, slots := #[.int 107], vm := .none },
  { cls := 8, slots := #[.int 108], vm := .none },
  { cls := 8, slots := #[.int 109], vm := .none },
  { cls := 8, slots := #[.int 110], vm := .none },
  { cls := 8, slots := #[.int 111], vm := .none },
  { cls := 8, slots := #[.int 112], vm := .none },
  { cls := 8, slots := #[.int 113], vm := .none },
  { cls := 8, slots := #[.int 114], vm := .none },
  { cls := 8, slots := #[.int 115], vm := .none },
  { cls := 8, slots := #[.int 116], vm := .none },
  { cls := 8, slots := #[.int 117], vm := .none },
  { cls := 8, slots := #[.int 118], vm := .none },
  { cls := 8, slots := #[.int 119], vm := .none },
  { cls := 8, slots := #[.int 120], vm := .none },
  { cls := 8, slots := #[.int 121], vm := .none },
  { cls := 8, slots := #[.int 122], vm := .none },
  { cls := 8, slots := #[.int 123], vm := .none },
  { cls := 8, slots := #[.int 124], vm := .none },
  { cls := 8, slots := #[.int 125], vm := .none },
  { cls := 8, slots := #[.int 126], vm := .none },
  { cls := 8, slots := #[.int 127], vm := .none }]
def classes : Array Class := #[k0, k1, k2, k3, k4, k5, k6, k7, k8, k9, k10, k11, k12, k13, k14, k15]
def interned : List (Array UInt16 × Addr) := []
def slotsUsed : Nat := 517
def theMethod : MethodId := ⟨1, 1⟩
def args0 : Array Value := #[.int 5, .int 1, .int 3, .int 4, .int 5, .long 6]
def aboutOver (below : List Frame) : State where
  vm := { classes := classes, interned := interned.toArray }
  heap := heap
  slotsUsed := slotsUsed
  threads := #[{ frames := .invoking theMethod args0 :: below }]
def below0 : List Frame := [.native { method := ⟨0, 0⟩, args := #[] }]
def about1 : State := aboutOver below0
def p0 : Program := .bare "" "" ""
def e0 : Env := launch0.env 0 0 0
theorem w_frames : about1.frames = Frame.invoking theMethod args0 :: below0 := rfl
set_option maxRecDepth 65536 in
theorem w_args : argsFit about1.vm theMethod args0 = true := by decide +kernel
set_option maxRecDepth 65536 in
theorem w_heap : heapFits about1 = true := by decide +kernel
set_option maxRecDepth 65536 in
theorem w_runnable : about1.curStatus? = some .runnable := by decide +kernel
set_option maxRecDepth 65536 in
theorem w_alone : about1.alone = true := by decide +kernel
set_option maxRecDepth 65536 in
theorem w_named : about1.methodNamed? x = some theMethod := by decide +kernel
set_option maxRecDepth 65536 in
theorem w_hears : about1.hears theMethod below0 = true := by decide +kernel
set_option maxRecDepth 65536 in
theorem w_ripe : about1.ripe theMethod args0 below0 = true := by decide +kernel
theorem w_running : about1.status = .running := rfl
set_option maxRecDepth 65536 in
theorem w_room : about1.hasRoom e0.platform room_1 = true :=
  launch0.hasRoom_least _ room_1 (by decide +kernel) (by decide +kernel) (by decide +kernel) (by decide +kernel) (by decide +kernel) (by decide +kernel)
theorem allAtoms_all (ts : List Jvm.Cond) (a : Array Jvm.Value) (st : Jvm.State) : (allAtoms ts).before a st = ts.all (fun c => c.before a st) := by
  induction ts with
  | nil => rfl
  | cons c t ih =>
    show (Jvm.Cond.and c (allAtoms t)).before a st = _
    rw [Jvm.Cond.before_and, ih, List.all_cons]
def words1 : List Jvm.Cond := Jvm.Cond.code x code maxLocals ret :: tables_1
/-- a 'code' word, met by the world's own term for the bytes: nothing is compared byte by byte -/
theorem code_word {y : MethodName} {bytes : ByteArray} {mx : Nat} {rt : Option FieldType} {a : Array Value} {s : State} {m : MethodId} {meth : Method} {c : Code} (h1 : s.methodNamed? y = some m) (h2 : s.vm.method? m = some meth) (h3 : meth.code = some c) (h4 : c.code = bytes)
    (h5 : (c.maxLocals == mx && c.exceptionTable.isEmpty && decide (c.maxStack ≤ mostOperands) && decide (meth.sig.returnType = rt) && !meth.locks && decide (parseMethodDescriptor y.desc = some meth.sig)) = true) : (Jvm.Cond.code y bytes mx rt).before a s = true := by
  simp only [Bool.and_eq_true, beq_iff_eq, Bool.not_eq_true', decide_eq_true_eq] at h5
  obtain ⟨⟨⟨⟨⟨g1, g2⟩, g3⟩, g4⟩, g5⟩, g6⟩ := h5
  simp [Cond.before, Cond.holds, Cond.value, h1, h2, h3, h4, g1, g2, g3, g4, g5, g6]
def isCode : Jvm.Cond → Bool
  | .code _ _ _ _ => true
  | _ => false
theorem all_split {L : List Jvm.Cond} {P : Jvm.Cond → Bool} (h1 : L.all (fun c => isCode c || P c) = true) (h2 : ∀ c ∈ L.filter isCode, P c = true) : L.all P = true := by
  refine List.all_eq_true.mpr fun c hc => ?_
  have h := List.all_eq_true.mp h1 c hc
  rcases Bool.eq_false_or_eq_true (isCode c) with hi | hi
  · exact h2 c (List.mem_filter.mpr ⟨hc, hi⟩)
  · simpa [hi] using h
set_option maxRecDepth 65536 in
theorem w_c0 : (Jvm.Cond.code x code maxLocals ret).before args0 about1 = true := code_word (m := ⟨1, 1⟩) (meth := k1m1) (c := k1c1) (by decide +kernel) rfl rfl rfl (by decide +kernel)
set_option maxRecDepth 65536 in
theorem w_c1 : (Jvm.Cond.code ({ cls := "com/example/casement/casement/graphics/CharMetrics", name := "<init>", desc := "(IIIIII)V" } : Jvm.MethodName) prog_7_method_1_code (7 : Nat) (Option.none : Option Jvm.ClassFile.FieldType)).before args0 about1 = true := code_word (m := ⟨2, 0⟩) (meth := k2m0) (c := k2c0) (by decide +kernel) rfl rfl rfl (by decide +kernel)
set_option maxRecDepth 65536 in
theorem w_c2 : (Jvm.Cond.code ({ cls := "java/lang/Object", name := "<init>", desc := "()V" } : Jvm.MethodName) object_method_1_code (1 : Nat) (Option.none : Option Jvm.ClassFile.FieldType)).before args0 about1 = true := code_word (m := ⟨0, 0⟩) (meth := k0m0) (c := k0c0) (by decide +kernel) rfl rfl rfl (by decide +kernel)
set_option maxRecDepth 65536 in
theorem w_c3 : (Jvm.Cond.code ({ cls := "com/example/casement/casement/graphics/CharMetrics", name := "equals", desc := "(Ljava/lang/Object;)Z" } : Jvm.MethodName) prog_7_method_9_code (3 : Nat) (Option.some Jvm.ClassFile.FieldType.boolean)).before args0 about1 = true := code_word (m := ⟨2, 1⟩) (meth := k2m1) (c := k2c1) (by decide +kernel) rfl rfl rfl (by decide +kernel)
set_option maxRecDepth 65536 in
theorem w_c4 : (Jvm.Cond.code ({ cls := "java/lang/Integer", name := "valueOf", desc := "(I)Ljava/lang/Integer;" } : Jvm.MethodName) jdk_33_method_22_code (1 : Nat) (Option.some (Jvm.ClassFile.FieldType.object "java/lang/Integer"))).before args0 about1 = true := code_word (m := ⟨8, 0⟩) (meth := k8m0) (c := k8c0) (by decide +kernel) rfl rfl rfl (by decide +kernel)
set_option maxRecDepth 65536 in
theorem w_c5 : (Jvm.Cond.code ({ cls := "java/lang/Integer", name := "<init>", desc := "(I)V" } : Jvm.MethodName) jdk_33_method_23_code (2 : Nat) (Option.none : Option Jvm.ClassFile.FieldType)).before args0 about1 = true := code_word (m := ⟨8, 1⟩) (meth := k8m1) (c := k8c1) (by decide +kernel) rfl rfl rfl (by decide +kernel)
set_option maxRecDepth 65536 in
theorem w_c6 : (Jvm.Cond.code ({ cls := "java/lang/Number", name := "<init>", desc := "()V" } : Jvm.MethodName) jdk_18_method_1_code (1 : Nat) (Option.none : Option Jvm.ClassFile.FieldType)).before args0 about1 = true := code_word (m := ⟨4, 0⟩) (meth := k4m0) (c := k4c0) (by decide +kernel) rfl rfl rfl (by decide +kernel)
def codes1 : List Jvm.Cond := [Jvm.Cond.code x code maxLocals ret, Jvm.Cond.code ({ cls := "com/example/casement/casement/graphics/CharMetrics", name := "<init>", desc := "(IIIIII)V" } : Jvm.MethodName) prog_7_method_1_code (7 : Nat) (Option.none : Option Jvm.ClassFile.FieldType), Jvm.Cond.code ({ cls := "java/lang/Object", name := "<init>", desc := "()V" } : Jvm.MethodName) object_method_1_code (1 : Nat) (Option.none : Option Jvm.ClassFile.FieldType), Jvm.Cond.code ({ cls := "com/example/casement/casement/graphics/CharMetrics", name := "equals", desc := "(Ljava/lang/Object;)Z" } : Jvm.MethodName) prog_7_method_9_code (3 : Nat) (Option.some Jvm.ClassFile.FieldType.boolean), Jvm.Cond.code ({ cls := "java/lang/Integer", name := "valueOf", desc := "(I)Ljava/lang/Integer;" } : Jvm.MethodName) jdk_33_method_22_code (1 : Nat) (Option.some (Jvm.ClassFile.FieldType.object "java/lang/Integer")), Jvm.Cond.code ({ cls := "java/lang/Integer", name := "<init>", desc := "(I)V" } : Jvm.MethodName) jdk_33_method_23_code (2 : Nat) (Option.none : Option Jvm.ClassFile.FieldType), Jvm.Cond.code ({ cls := "java/lang/Number", name := "<init>", desc := "()V" } : Jvm.MethodName) jdk_18_method_1_code (1 : Nat) (Option.none : Option Jvm.ClassFile.FieldType)]
set_option maxRecDepth 65536 in
theorem codes_eq : words1.filter isCode = codes1 := rfl
theorem w_codes : ∀ c ∈ words1.filter isCode, c.before args0 about1 = true := by
  rw [codes_eq]
  intro c hc
  simp only [codes1, List.mem_cons, List.not_mem_nil, or_false] at hc
  rcases hc with rfl | rfl | rfl | rfl | rfl | rfl | rfl
  · exact w_c0
  · exact w_c1
  · exact w_c2
  · exact w_c3
  · exact w_c4
  · exact w_c5
  · exact w_c6
set_option maxRecDepth 65536 in
theorem w_t1 : (words1.take 24).all (fun c => isCode c || c.before args0 about1) = true := by decide +kernel
set_option maxRecDepth 65536 in
theorem w_t2 : ((words1.drop 24).take 24).all (fun c => isCode c || c.before args0 about1) = true := by decide +kernel
set_option maxRecDepth 65536 in
theorem w_t3 : ((words1.drop 24).drop 24).all (fun c => isCode c || c.before args0 about1) = true := by decide +kernel
theorem w_tables : (allAtoms (Jvm.Cond.code x code maxLocals ret :: tables_1)).before args0 about1 = true := by
  rw [allAtoms_all]
  show words1.all (fun c => c.before args0 about1) = true
  refine all_split ?_ w_codes
  rw [← List.take_append_drop 24 words1, List.all_append, w_t1, ← List.take_append_drop 24 (words1.drop 24), List.all_append, w_t2, w_t3]
  rfl
set_option maxRecDepth 65536 in
theorem w_rest : rest_1_c.before args0 about1 = true := by decide +kernel
set_option maxRecDepth 65536 in
theorem w_case : (Jvm.Cond.and given_1 narrow_1).before args0 about1 = true := by decide +kernel
theorem w_applies : (headSpec (Jvm.Cond.code x code maxLocals ret :: tables_1) room_1).applies x e0.platform about1 = true :=
  (Spec.applies_iff w_frames).mpr ⟨w_running, w_runnable, w_alone, w_named, w_hears, w_ripe, w_room, w_tables⟩
theorem atStart : AtStart classFile x code maxLocals ret World_1 tables_1 room_1 Calls_1 rest_1 Pre_1 launch0 p0 e0 about1 theMethod args0 below0 :=
  ⟨lists_1, trivial, launch0.admits_env _ _ _, launch0.least_env, fairChoices_fair.cas, fairChoices_fair.clock, w_frames, w_args, w_heap, w_applies, trivial, w_rest, w_case⟩
end start1
theorem witness_1 : WitnessClaimed_1 := ⟨start1.p0, start1.e0, start1.about1, start1.theMethod, start1.args0, start1.below0, start1.atStart⟩
end Jvm.Pilot.@@N@@
