import JvmDerived
import JvmDerived.Pilot.@@N@@Statement
import JvmDerived.Pilot.@@N@@Code
set_option linter.unusedVariables false
set_option linter.unusedSimpArgs false
namespace Jvm.Own
open Jvm Sem ClassFile Op Lib Jvm.Stand Jvm.Free Jvm.LawKit Jvm.RoadKit
/-- from this state and frame the run comes to an end that E says -/
def Goes (p : Program) (e : Env) (below : List Frame) (E : Outcome → State → Prop) (T : State) (f : JFrame) : Prop :=
  ∃ s₂ o, Steps p.tables e below (T.setTop f) s₂ ∧ s₂.status = .running ∧ Ended s₂ below o ∧ E o s₂
/-- the end of a walk that interns nothing -/
def EndN (s : State) (Q : Option Value → Heap → List Loc → Prop) (K N : Nat) (o : Outcome) (U : State) : Prop :=
  ∃ v L, o = .returned v ∧ Q v U.heap L ∧ FrameEnd s o U L K N
/-- a body's contract -/
def Rm (l : Launch) (y : MethodName) (bytes : ByteArray) (maxL : Nat) (ret : Option FieldType) (rm : Room) (ws : List Jvm.Cond) (Z : State) (as' : Array Value) (h : Heap) (Q : Option Value → Heap → List Loc → Prop) : Prop :=
  MetFree l y (head1 (Jvm.Cond.code y bytes maxL ret :: ws) rm) (fun a U => a = as' ∧ Z.Warmed39 U.vm ∧ U.heap = h) (fun _ _ _ _ _ => True) (fun _ U o U' => ∃ v L, o = .returned v ∧ Q v U'.heap L ∧ FrameEnd U o U' L rm.cells rm.slots)
section Own1
variable {p : Program} {l : Launch} {e : Env} {R : Room} {s : State} {m : MethodId} {args : Array Value} {below : List Frame} {meth : Method} {c : Code} {T : State} {locs : List Loc} {cells slots : Nat} {Z : State} {a0 : Array Value} {h : Heap} {E : Outcome → State → Prop}
theorem Goes.of {T T' : State} {f f' : JFrame} (st : ∀ t, Steps p.tables e below (T'.setTop f') t → Steps p.tables e below (T.setTop f) t) (k : Goes p e below E T' f') : Goes p e below E T f := by
  obtain ⟨s₂, o, h1, h2⟩ := k
  exact ⟨s₂, o, st _ h1, h2⟩
theorem Goes.cast {T : State} {f f' : JFrame} (q : f = f') (k : Goes p e below E T f') : Goes p e below E T f := q ▸ k
theorem oldLe {n0 : Nat} (O : Old Z n0 h) : n0 ≤ h.size := O.1 ▸ O.2.1
theorem goRet {Q : Option Value → Heap → List Loc → Prop} {K N : Nat} {g : JFrame} {v : Option Value} (X : Stand p l e R s m args below meth c T locs cells slots) (hv : meth.sig.returnType = none → v = none) (hlocks : meth.locks = false) (eT : T.heap = h) (hQ : Q v h locs) (hK : cells ≤ K) (hN : slots ≤ N)
    (st : ∀ fs, (∀ (f : JFrame) (acts : List Action), f.method = m → f.locked = none → f.entered = [] → (doReturn e (T.setTop f) acts v).1 = T.setFrames fs) → Steps p.tables e below (T.setTop g) (T.setFrames fs)) : Goes p e below (EndN s Q K N) T g := by
  obtain ⟨fs, hr, hrun, hended, hW, hsame⟩ := X.leave (v := v) hv hlocks
  subst eT
  exact ⟨_, _, st fs hr, hrun, hended, _, _, rfl, hQ, ⟨_, rfl⟩, hW, hsame.mono hK hN⟩
theorem retZ {Q : Option Value → Heap → List Loc → Prop} {K N pc : Nat} {Ls : Array Slot} {z : Int32} {t : FieldType} {rest : List Value} (X : Stand p l e R s m args below meth c T locs cells slots) (hx : p.tables.exec = Jvm.exec) (hret : meth.sig.returnType = some t) (hlocks : meth.locks = false) (ht : t = .boolean ∨ t = .byte ∨ t = .char ∨ t = .short)
    (hd : decode c.code pc = .ok (.ireturn, 1)) (eT : T.heap = h) (hK : cells ≤ K) (hN : slots ≤ N) (hQ : Q (some (.int (nar t z))) h locs) : Goes p e below (EndN s Q K N) T (mkF m pc Ls (.int z :: rest)) :=
  goRet X (fun q => by rw [hret] at q; cases q) hlocks eT hQ hK hN fun fs hr => retN X hx hret ht hd hr
theorem retInt {Q : Option Value → Heap → List Loc → Prop} {K N pc : Nat} {Ls : Array Slot} {z : Int32} {rest : List Value} (X : Stand p l e R s m args below meth c T locs cells slots) (hx : p.tables.exec = Jvm.exec) (hret : meth.sig.returnType = some .int) (hlocks : meth.locks = false)
    (hd : decode c.code pc = .ok (.ireturn, 1)) (eT : T.heap = h) (hK : cells ≤ K) (hN : slots ≤ N) (hQ : Q (some (.int z)) h locs) : Goes p e below (EndN s Q K N) T (mkF m pc Ls (.int z :: rest)) :=
  goRet X (fun q => by rw [hret] at q; cases q) hlocks eT hQ hK hN fun fs hr => by
    have hm' : T.vm.method? m = some meth := X.method'
    have hn : narrow .int (.int z) = .int z := rfl
    show Steps p.tables e below (T.setTop { method := m, pc := pc, locals := Ls, stack := _ :: rest, locked := none }) _
    jvm_step X.here [X.here.top, hx, hd, hm', hret, hn]
    first | (intro acts; rw [hr _ acts rfl rfl rfl]) | rw [hr _ _ rfl rfl rfl]
    exact Steps.refl _
theorem retLong {Q : Option Value → Heap → List Loc → Prop} {K N pc : Nat} {Ls : Array Slot} {z : Int64} {rest : List Value} (X : Stand p l e R s m args below meth c T locs cells slots) (hx : p.tables.exec = Jvm.exec) (hret : meth.sig.returnType = some .long) (hlocks : meth.locks = false)
    (hd : decode c.code pc = .ok (.lreturn, 1)) (eT : T.heap = h) (hK : cells ≤ K) (hN : slots ≤ N) (hQ : Q (some (.long z)) h locs) : Goes p e below (EndN s Q K N) T (mkF m pc Ls (.long z :: rest)) :=
  goRet X (fun q => by rw [hret] at q; cases q) hlocks eT hQ hK hN fun fs hr => by
    have hm' : T.vm.method? m = some meth := X.method'
    show Steps p.tables e below (T.setTop { method := m, pc := pc, locals := Ls, stack := _ :: rest, locked := none }) _
    jvm_step X.here [X.here.top, hx, hd, hm', hret, narrow]
    first | (intro acts; rw [hr _ acts rfl rfl rfl]) | rw [hr _ _ rfl rfl rfl]
    exact Steps.refl _
theorem retRef {Q : Option Value → Heap → List Loc → Prop} {K N pc : Nat} {Ls : Array Slot} {z : Value} {t : FieldType} {rest : List Value} (X : Stand p l e R s m args below meth c T locs cells slots) (hx : p.tables.exec = Jvm.exec) (hret : meth.sig.returnType = some t) (hlocks : meth.locks = false) (ht : t.isReference = true) (hz : z.isRef = true)
    (hd : decode c.code pc = .ok (.areturn, 1)) (eT : T.heap = h) (hK : cells ≤ K) (hN : slots ≤ N) (hQ : Q (some z) h locs) : Goes p e below (EndN s Q K N) T (mkF m pc Ls (z :: rest)) :=
  goRet X (fun q => by rw [hret] at q; cases q) hlocks eT hQ hK hN fun fs hr => by
    have hm' : T.vm.method? m = some meth := X.method'
    show Steps p.tables e below (T.setTop { method := m, pc := pc, locals := Ls, stack := _ :: rest, locked := none }) _
    rcases ref_cases hz with rfl | ⟨_, rfl⟩
    all_goals
      jvm_step X.here [X.here.top, hx, hd, hm', hret, ht, Value.isRef]
      first | (intro acts; rw [hr _ acts rfl rfl rfl]) | rw [hr _ _ rfl rfl rfl]
      exact Steps.refl _
theorem retVoid {Q : Option Value → Heap → List Loc → Prop} {K N pc : Nat} {Ls : Array Slot} {rest : List Value} (X : Stand p l e R s m args below meth c T locs cells slots) (hx : p.tables.exec = Jvm.exec) (hret : meth.sig.returnType = none) (hlocks : meth.locks = false)
    (hd : decode c.code pc = .ok (.return_, 1)) (eT : T.heap = h) (hK : cells ≤ K) (hN : slots ≤ N) (hQ : Q none h locs) : Goes p e below (EndN s Q K N) T (mkF m pc Ls rest) :=
  goRet X (fun _ => rfl) hlocks eT hQ hK hN fun fs hr => by
    have hm' : T.vm.method? m = some meth := X.method'
    show Steps p.tables e below (T.setTop { method := m, pc := pc, locals := Ls, stack := rest, locked := none }) _
    jvm_step X.here [X.here.top, hx, hd, hm', hret]
    first | (intro acts; rw [hr _ acts rfl rfl rfl]) | rw [hr _ _ rfl rfl rfl]
    exact Steps.refl _
/-- a body's contract out of its walk -/
theorem Rm.of {ws : List Jvm.Cond} {y : MethodName} {bytes : ByteArray} {maxL : Nat} {ret : Option FieldType} {rm : Room} {as' : Array Value} {h : Heap} {Q : Option Value → Heap → List Loc → Prop} (hp : plainFor y = true)
    (body : ∀ (p : Program) (e : Env) (s : State) (m : MethodId) (below : List Frame) (meth : Method) (c : Code) (T : State), Stand p l e rm s m as' below meth c T [] 0 0 → p.tables.exec = Jvm.exec → Z.Warmed39 s.vm → c.code = bytes → c.maxLocals = maxL → s.vm.findClass y.cls = some m.cls → meth.name = y.name → meth.sig.returnType = ret → meth.locks = false → T.heap = h →
      Goes p e below (EndN s Q rm.cells rm.slots) T (entryFrame m as' maxL)) : Rm l y bytes maxL ret rm ws Z as' h Q := by
  refine MetFree.of_bodySF hp hisR ?_
  intro p e s m args below meth c s₁ Bd hml0 hP hK
  obtain ⟨rfl, hZ, hh⟩ := hP
  exact body p e s m below meth c s₁ (Stand.of_body Bd) Bd.exec hZ Bd.bytes hml0 (findClass_of_methodNamed Bd.named) (name_of_methodNamed Bd.named Bd.method).1 Bd.returns Bd.notSynchronized (by rw [← hh, Bd.state]; rfl)
theorem goStatic {own : String} {index : Nat} {y : MethodName} {bytes : ByteArray} {maxL : Nat} {ret : Option FieldType} {rm : Room} {as' : Array Value} {Q : Option Value → Heap → List Loc → Prop} (W : Nat)
    (X : Stand p l e R s m args below meth c T locs cells slots) (hx : p.tables.exec = Jvm.exec) (hZ : Z.Warmed39 s.vm) (hown : s.vm.findClass own = some m.cls) (w1 : (Jvm.Cond.methodLink own index y).before a0 Z = true) (w2 : (Jvm.Cond.static y).before a0 Z = true) (w3 : (Jvm.Cond.initialized y.cls).before a0 Z = true) (w4 : (Jvm.Cond.code y bytes maxL ret).before a0 Z = true)
    (hy : y.cls ≠ "java/lang/invoke/MethodHandle" ∧ y.cls ≠ "java/lang/invoke/VarHandle") (r : Rm l y bytes maxL ret rm [] Z as' h Q) (eT : T.heap = h) {g : JFrame} (hg : g.method = m) (hsize : g.locals.size = c.maxLocals) (argsL rest : List Value) (hlen : ∀ sig, parseMethodDescriptor y.desc = some sig → argsL.length = sig.parameters.length)
    (hstack : g.stack = argsL.reverse ++ rest) (has : argsL.toArray = as') (hW : 2 * g.monitorRoom + (rest.map fun v => v.category).sum ≤ W) (hd : decode c.code g.pc = .ok (.invokestatic index, 3)) (hf : rm.frames + 1 ≤ R.frames) (hl : W + (maxL + 11) + rm.locals ≤ R.locals) (hc : cells + rm.cells ≤ R.cells) (hs : slots + rm.slots ≤ R.slots)
    (k : ∀ v T' L, Stand p l e R s m args below meth c T' (locs ++ L) (cells + rm.cells) (slots + rm.slots) → Q v T'.heap L → Goes p e below E T' { g with pc := g.pc + 3, stack := v.toList ++ rest }) : Goes p e below E T g := by
  obtain ⟨v, vm₁, ⟨T', L', k', n'⟩, -, X', ⟨L, hQ, q1, q2, q3⟩, st⟩ := Jvm.LawKit.callS X hx (y := y) hown (mvT hZ w1) (mvT hZ w2) (mvT hZ w3) (mvT hZ w4) hy (backOf (W := W) r hZ w4 w3 hf hl) hg hsize hlen hstack hW hd (fun _ _ => ⟨has, eT, hc, hs⟩)
  dsimp only [Pt.U, Pt.locs, Pt.cells, Pt.slots] at X' q1 q2 q3 st hQ
  subst q1 q2 q3
  exact Goes.of st (k v T' L X' hQ)
theorem goSpecial {own : String} {index : Nat} {y : MethodName} {bytes : ByteArray} {maxL : Nat} {rm : Room} {as' : Array Value} {Q : Option Value → Heap → List Loc → Prop} (W : Nat)
    (X : Stand p l e R s m args below meth c T locs cells slots) (hx : p.tables.exec = Jvm.exec) (hZ : Z.Warmed39 s.vm) (hy1 : y.name = "<init>") (hown : s.vm.findClass own = some m.cls) (w1 : (Jvm.Cond.methodLink own index y).before a0 Z = true) (w2 : (Jvm.Cond.instanceMethod y).before a0 Z = true) (w3 : (Jvm.Cond.initialized y.cls).before a0 Z = true) (w4 : (Jvm.Cond.code y bytes maxL none).before a0 Z = true)
    (hy : y.cls ≠ "java/lang/invoke/MethodHandle" ∧ y.cls ≠ "java/lang/invoke/VarHandle") (r : Rm l y bytes maxL none rm [] Z as' h Q) (eT : T.heap = h) {g : JFrame} (hg : g.method = m) (hsize : g.locals.size = c.maxLocals) (a : Addr) (argsL rest : List Value) (hlen : ∀ sig, parseMethodDescriptor y.desc = some sig → argsL.length = sig.parameters.length)
    (hstack : g.stack = argsL.reverse ++ .ref a :: rest) (has : (.ref a :: argsL).toArray = as') (hW : 2 * g.monitorRoom + (rest.map fun v => v.category).sum ≤ W) (hd : decode c.code g.pc = .ok (.invokespecial index, 3)) (hf : rm.frames + 1 ≤ R.frames) (hl : W + (maxL + 11) + rm.locals ≤ R.locals) (hc : cells + rm.cells ≤ R.cells) (hs : slots + rm.slots ≤ R.slots)
    (k : ∀ v T' L, Stand p l e R s m args below meth c T' (locs ++ L) (cells + rm.cells) (slots + rm.slots) → Q v T'.heap L → Goes p e below E T' { g with pc := g.pc + 3, stack := v.toList ++ rest }) : Goes p e below E T g := by
  obtain ⟨v, vm₁, ⟨T', L', k', n'⟩, -, X', ⟨L, hQ, q1, q2, q3⟩, st⟩ := X.specialBack hx (y := y) hy1 hown (mvT hZ w1) (mvT hZ w2) (mvT hZ w4) hy (backOf (W := W) r hZ w4 w3 hf hl) hg hsize (Steps.refl _) (a := a) hlen hstack hW hd (fun _ _ => ⟨has, eT, hc, hs⟩)
  dsimp only [Pt.U, Pt.locs, Pt.cells, Pt.slots] at X' q1 q2 q3 st hQ
  subst q1 q2 q3
  exact Goes.of (fun _ => st.trans) (k v T' L X' hQ)
theorem goVirtual {own C : String} {index : Nat} {y z : MethodName} {bytes : ByteArray} {maxL : Nat} {ret : Option FieldType} {rm : Room} {as' : Array Value} {Q : Option Value → Heap → List Loc → Prop} (W : Nat)
    (X : Stand p l e R s m args below meth c T locs cells slots) (hx : p.tables.exec = Jvm.exec) (hZ : Z.Warmed39 s.vm) (hown : s.vm.findClass own = some m.cls) (w1 : (Jvm.Cond.methodLink own index y).before a0 Z = true) (w2 : (Jvm.Cond.declares y).before a0 Z = true) (hnf : NotFace s y) (w3 : (Jvm.Cond.selects C y z).before a0 Z = true) (w4 : (Jvm.Cond.instanceMethod z).before a0 Z = true) (w5 : (Jvm.Cond.initialized z.cls).before a0 Z = true) (w6 : (Jvm.Cond.code z bytes maxL ret).before a0 Z = true)
    (hy : y.cls ≠ "java/lang/invoke/MethodHandle" ∧ y.cls ≠ "java/lang/invoke/VarHandle") (r : Rm l z bytes maxL ret rm [] Z as' h Q) (eT : T.heap = h) {a : Addr} (F : Exa Z h a C) {g : JFrame} (hg : g.method = m) (hsize : g.locals.size = c.maxLocals) (argsL rest : List Value) (hlen : ∀ sig, parseMethodDescriptor y.desc = some sig → argsL.length = sig.parameters.length)
    (hstack : g.stack = argsL.reverse ++ .ref a :: rest) (has : (.ref a :: argsL).toArray = as') (hW : 2 * g.monitorRoom + (rest.map fun v => v.category).sum ≤ W) (hd : decode c.code g.pc = .ok (.invokevirtual index, 3)) (hf : rm.frames + 1 ≤ R.frames) (hl : W + (maxL + 11) + rm.locals ≤ R.locals) (hc : cells + rm.cells ≤ R.cells) (hs : slots + rm.slots ≤ R.slots)
    (k : ∀ v T' L, Stand p l e R s m args below meth c T' (locs ++ L) (cells + rm.cells) (slots + rm.slots) → Q v T'.heap L → Goes p e below E T' { g with pc := g.pc + 3, stack := v.toList ++ rest }) : Goes p e below E T g := by
  obtain ⟨cq, kq, qa, qb, qc⟩ := isOf hZ eT F
  obtain ⟨v, vm₁, ⟨T', L', k', n'⟩, -, X', ⟨L, hQ, q1, q2, q3⟩, st⟩ := X.virtualBack hx (y := y) (z := z) hown (mvT hZ w1) (mvT hZ w2) hnf (mvT hZ w3) (mvT hZ w4) hy (backOf (W := W) r hZ w6 w5 hf hl) qa qc hg hsize (Steps.refl _) hlen hstack hW hd (fun _ _ => ⟨has, eT, hc, hs⟩)
  dsimp only [Pt.U, Pt.locs, Pt.cells, Pt.slots] at X' q1 q2 q3 st hQ
  subst q1 q2 q3
  exact Goes.of (fun _ => st.trans) (k v T' L X' hQ)
theorem goNew {own C : String} {index n : Nat} (X : Stand p l e R s m args below meth c T locs cells slots) (hx : p.tables.exec = Jvm.exec) (hZ : Z.Warmed39 s.vm) (hown : s.vm.findClass own = some m.cls) (w : (Jvm.Cond.classLink own index C).before a0 Z = true) (wi : (Jvm.Cond.instantiable C n).before a0 Z = true) (wz : (Jvm.Cond.initialized C).before a0 Z = true) (eT : T.heap = h)
    {g : JFrame} (hg : g.method = m) (hd : decode c.code g.pc = .ok (.new index, 3)) (hc : cells + 1 ≤ R.cells) (hl : slots + n ≤ R.slots)
    (k : ∀ T' h' b, Stand p l e R s m args below meth c T' locs (cells + 1) (slots + n) → T'.heap = h' → Ext h h' → h.size ≤ b → Exa Z h' b C → (∀ {O nm d : String} {ty : FieldType}, Laid Z a0 C O nm d → parseFieldDescriptor d = some ty → Fld Z h' b O nm d (defaultValue ty)) → Goes p e below E T' { g with pc := g.pc + 3, stack := .ref b :: g.stack }) : Goes p e below E T g := by
  obtain ⟨T', h', X', e', E', A', D', -, st⟩ := newO X hx hZ hown w wi wz eT hg hd hc hl
  exact Goes.of st (k T' h' _ X' e' E' (Nat.le_refl _) A' D')
theorem goInitO {own : String} {idx : Nat} (W : Nat) (X : Stand p l e R s m args below meth c T locs cells slots) (hx : p.tables.exec = Jvm.exec) (hZ : Z.Warmed39 s.vm) (hown : s.vm.findClass own = some m.cls) (w1 : (Jvm.Cond.methodLink own idx Lib.objectInit).before a0 Z = true) (w2 : (Jvm.Cond.instanceMethod Lib.objectInit).before a0 Z = true)
    (w3 : (Jvm.Cond.code Lib.objectInit ⟨#[0xb1]⟩ 1 none).before a0 Z = true) (eT : T.heap = h) {g : JFrame} (hg : g.method = m) (hsize : g.locals.size = c.maxLocals) {a : Addr} {rest : List Value} (hs : g.stack = .ref a :: rest) (hd : decode c.code g.pc = .ok (.invokespecial idx, 3))
    (hf : 1 ≤ R.frames) (hW : 2 * g.monitorRoom + (rest.map fun v => v.category).sum ≤ W) (hl : W + 12 ≤ R.locals) (k : ∀ T', Stand p l e R s m args below meth c T' locs cells slots → T'.heap = h → Goes p e below E T' { g with pc := g.pc + 3, stack := rest }) : Goes p e below E T g := by
  obtain ⟨T', X', e', st⟩ := initO X hx hZ hown w1 w2 w3 eT hg hsize hs hd hf hW hl
  exact Goes.of st (k T' X' e')
theorem goGet {own R0 O n d host : String} {index : Nat} (X : Stand p l e R s m args below meth c T locs cells slots) (hx : p.tables.exec = Jvm.exec) (hZ : Z.Warmed39 s.vm) (hown : s.vm.findClass own = some m.cls) (w : (Jvm.Cond.fieldLink own index R0 n d).before a0 Z = true ∨ (Jvm.Cond.fieldLinkNest own index R0 n d host).before a0 Z = true) (via : Via Z R0 O n d)
    (eT : T.heap = h) {a : Addr} {v : Value} (F : Fld Z h a O n d v) {g : JFrame} (hg : g.method = m) {rest : List Value} (hs : g.stack = .ref a :: rest) (hd : decode c.code g.pc = .ok (.getfield index, 3))
    (k : ∀ T', Stand p l e R s m args below meth c T' locs cells slots → T'.heap = h → Goes p e below E T' { g with pc := g.pc + 3, stack := v :: rest }) : Goes p e below E T g := by
  obtain ⟨T', X', e', st⟩ := getF X hx hZ hown w via eT F hg hs hd
  exact Goes.of st (k T' X' e')
theorem goGetS {own R0 O n d host : String} {index : Nat} (X : Stand p l e R s m args below meth c T locs cells slots) (hx : p.tables.exec = Jvm.exec) (hZ : Z.Warmed39 s.vm) (hown : s.vm.findClass own = some m.cls) (w : (Jvm.Cond.fieldLink own index R0 n d).before a0 Z = true ∨ (Jvm.Cond.fieldLinkNest own index R0 n d host).before a0 Z = true) (via : Via Z R0 O n d)
    (eT : T.heap = h) {v : Value} (F : Sta Z h O n d v) {g : JFrame} (hg : g.method = m) (hd : decode c.code g.pc = .ok (.getstatic index, 3))
    (k : ∀ T', Stand p l e R s m args below meth c T' locs cells slots → T'.heap = h → Goes p e below E T' { g with pc := g.pc + 3, stack := v :: g.stack }) : Goes p e below E T g := by
  obtain ⟨T', X', e', st⟩ := getS2 X hx hZ hown w via eT F hg hd
  exact Goes.of st (k T' X' e')
theorem goPut {own R0 O n d host C : String} {index kk : Nat} {ty : FieldType} (X : Stand p l e R s m args below meth c T locs cells slots) (hx : p.tables.exec = Jvm.exec) (hZ : Z.Warmed39 s.vm) (hown : s.vm.findClass own = some m.cls) (w : (Jvm.Cond.fieldLink own index R0 n d).before a0 Z = true ∨ (Jvm.Cond.fieldLinkNest own index R0 n d host).before a0 Z = true) (via : Via Z R0 O n d)
    (eT : T.heap = h) {a : Addr} {v old : Value} (F : Fld Z h a O n d old) (Ex : Exa Z h a C) (L : (Jvm.Cond.lays C O n d).before a0 Z = true ∨ ((Jvm.Cond.laysFinal C O n d).before a0 Z = true ∧ own = O ∧ meth.name = "<init>")) (wi : (Jvm.Cond.instantiable C kk).before a0 Z = true)
    (hty : parseFieldDescriptor d = some ty) (hn : narrow ty v = v) (hf : fits ty v = true) {g : JFrame} (hg : g.method = m) {rest : List Value} (hs : g.stack = v :: .ref a :: rest) (hd : decode c.code g.pc = .ok (.putfield index, 3))
    (k : ∀ T' h', Stand p l e R s m args below meth c T' (locs ++ [⟨a, Jvm.RoadKit.slotOf Z O n d⟩]) cells slots → T'.heap = h' → Wr h h' a (Jvm.RoadKit.slotOf Z O n d) v → Goes p e below E T' { g with pc := g.pc + 3, stack := rest }) : Goes p e below E T g := by
  obtain ⟨T', h', X', e', W', st⟩ := putF X hx hZ hown w via eT F Ex L wi hty hn hf hg hs hd
  exact Goes.of st (k T' h' X' e' W')
theorem goCast {own K : String} {index : Nat} (X : Stand p l e R s m args below meth c T locs cells slots) (hx : p.tables.exec = Jvm.exec) (hZ : Z.Warmed39 s.vm) (hown : s.vm.findClass own = some m.cls) (w : (Jvm.Cond.classLink own index K).before a0 Z = true) (eT : T.heap = h) {a : Addr} (F : Ins Z h a K true)
    {g : JFrame} (hg : g.method = m) {rest : List Value} (hs : g.stack = .ref a :: rest) (hd : decode c.code g.pc = .ok (.checkcast index, 3))
    (k : ∀ T', Stand p l e R s m args below meth c T' locs cells slots → T'.heap = h → Goes p e below E T' { g with pc := g.pc + 3 }) : Goes p e below E T g := by
  obtain ⟨T', X', e', st⟩ := castY X hx hZ hown w eT F hg hs hd
  exact Goes.of st (k T' X' e')
theorem goInstY {own K : String} {index : Nat} (X : Stand p l e R s m args below meth c T locs cells slots) (hx : p.tables.exec = Jvm.exec) (hZ : Z.Warmed39 s.vm) (hown : s.vm.findClass own = some m.cls) (w : (Jvm.Cond.classLink own index K).before a0 Z = true) (eT : T.heap = h) {a : Addr} (F : Ins Z h a K true)
    {g : JFrame} (hg : g.method = m) {rest : List Value} (hs : g.stack = .ref a :: rest) (hd : decode c.code g.pc = .ok (.instanceof index, 3))
    (k : ∀ T', Stand p l e R s m args below meth c T' locs cells slots → T'.heap = h → Goes p e below E T' { g with pc := g.pc + 3, stack := .int 1 :: rest }) : Goes p e below E T g := by
  obtain ⟨T', X', e', st⟩ := instY X hx hZ hown w eT F hg hs hd
  exact Goes.of st (k T' X' e')
theorem goInstN {own K C : String} {index : Nat} (X : Stand p l e R s m args below meth c T locs cells slots) (hx : p.tables.exec = Jvm.exec) (hZ : Z.Warmed39 s.vm) (hown : s.vm.findClass own = some m.cls) (w : (Jvm.Cond.classLink own index K).before a0 Z = true) (eT : T.heap = h) {a : Addr} (Ex : Exa Z h a C) (F : ∃ c t, Z.vm.findClass C = some c ∧ Z.vm.findClass K = some t ∧ Z.vm.assignable c t = false)
    {g : JFrame} (hg : g.method = m) {rest : List Value} (hs : g.stack = .ref a :: rest) (hd : decode c.code g.pc = .ok (.instanceof index, 3))
    (k : ∀ T', Stand p l e R s m args below meth c T' locs cells slots → T'.heap = h → Goes p e below E T' { g with pc := g.pc + 3, stack := .int 0 :: rest }) : Goes p e below E T g := by
  obtain ⟨T', X', e', st⟩ := Jvm.RoadKit.instNo X hx hZ hown w eT Ex F hg hs hd
  exact Goes.of st (k T' X' e')
theorem goNewP {aty : ArrayType} (cap : Nat) (X : Stand p l e R s m args below meth c T locs cells slots) (hx : p.tables.exec = Jvm.exec) (hZ : Z.Warmed39 s.vm) (w : (Jvm.Cond.arrayClass (newarray.typeOf aty)).before a0 Z = true) (eT : T.heap = h) {g : JFrame} (hg : g.method = m) (hd : decode c.code g.pc = .ok (.newarray aty, 2)) {n : Int32} {rest : List Value} (hs : g.stack = .int n :: rest)
    (hn : ¬ n < 0) (hcap : n.toNatClampNeg ≤ cap) (hb : cap * 8 ≤ 536870912) (hc : cells + 1 ≤ R.cells) (hl : slots + cap ≤ R.slots) {ad : String} (had : "[" ++ (newarray.typeOf aty).toString = ad) 
    (k : ∀ T' h' b cA, Stand p l e R s m args below meth c T' locs (cells + 1) (slots + cap) → T'.heap = h' → Ext h h' → h.size ≤ b → Arv Z h' b cA (newarray.typeOf aty) n (List.replicate cap (defaultValue (newarray.typeOf aty))) (defaultValue (newarray.typeOf aty)) → Exa Z h' b ad → Goes p e below E T' { g with pc := g.pc + 2, stack := .ref b :: rest }) : Goes p e below E T g := by
  obtain ⟨T', h', cA, X', e', E', A', Ex', st⟩ := newPE X hx hZ w eT hg hd hs hn hcap hb hc hl had
  exact Goes.of st (k T' h' _ cA X' e' E' (Nat.le_refl _) ((Arv.new A' hn).pad (pad_rep [] _ cap)) Ex')
theorem goNewR {own C : String} {index : Nat} (cap : Nat) (X : Stand p l e R s m args below meth c T locs cells slots) (hx : p.tables.exec = Jvm.exec) (hZ : Z.Warmed39 s.vm) (hown : s.vm.findClass own = some m.cls) (w1 : (Jvm.Cond.classLink own index C).before a0 Z = true) (w2 : (Jvm.Cond.arrayOver (.object C)).before a0 Z = true) (eT : T.heap = h) {g : JFrame} (hg : g.method = m) (hd : decode c.code g.pc = .ok (.anewarray index, 3)) {n : Int32} {rest : List Value} (hs : g.stack = .int n :: rest)
    (hn : ¬ n < 0) (hcap : n.toNatClampNeg ≤ cap) (hb : cap * 8 ≤ 536870912) (hc : cells + 1 ≤ R.cells) (hl : slots + cap ≤ R.slots)
    (k : ∀ T' h' b cA, Stand p l e R s m args below meth c T' locs (cells + 1) (slots + cap) → T'.heap = h' → Ext h h' → h.size ≤ b → Arv Z h' b cA (.object C) n (List.replicate cap .null) .null → Ovr Z cA C → Goes p e below E T' { g with pc := g.pc + 3, stack := .ref b :: rest }) : Goes p e below E T g := by
  obtain ⟨T', h', cA, X', e', E', A', O', st⟩ := newR X hx hZ hown w1 w2 eT hg hd hs hn hcap hb hc hl
  exact Goes.of st (k T' h' _ cA X' e' E' (Nat.le_refl _) ((Arv.new A' hn).pad (pad_rep [] _ cap)) O')
theorem inbV {cl : Cell} {z j : Int32} (S : cl.slots.size = z.toNatClampNeg) (hj : ¬ j < 0) (hj' : j < z) : ¬ (j < 0 ∨ cl.slots.size ≤ j.toNatClampNeg) := inb_of S ⟨hj, hj'⟩
theorem goStI {a : Addr} {kc : ClassId} {z j x : Int32} {vs : List Value} {dv : Value} (i : Nat) (X : Stand p l e R s m args below meth c T locs cells slots) (hx : p.tables.exec = Jvm.exec) (hZ : Z.Warmed39 s.vm) (eT : T.heap = h) (V : Arv Z h a kc .int z vs dv) (hj : ¬ j < 0) (hj' : j < z) (hi : j.toNatClampNeg = i) (hl : i < vs.length)
    {g : JFrame} (hg : g.method = m) {rest : List Value} (hs : g.stack = .int x :: .int j :: .ref a :: rest) (hd : decode c.code g.pc = .ok (.iastore, 1))
    (k : ∀ T' h', Stand p l e R s m args below meth c T' (locs ++ [⟨a, j.toNatClampNeg⟩]) cells slots → T'.heap = h' → Wr h h' a j.toNatClampNeg (.int x) → Arv Z h' a kc .int z (vs.set i (.int x)) dv → Goes p e below E T' { g with pc := g.pc + 1, stack := rest }) : Goes p e below E T g := by
  obtain ⟨cl, A, q1, S, q3, H, G⟩ := V
  obtain ⟨T', h', X', e', W', st⟩ := stI X hx hZ eT A (inbV S hj hj') hg hs hd
  exact Goes.of st (k T' h' X' e' W' (Arv.set A q1 S q3 H G rfl W' i hi hl))
theorem goStJ {a : Addr} {kc : ClassId} {z j : Int32} {x : Int64} {vs : List Value} {dv : Value} (i : Nat) (X : Stand p l e R s m args below meth c T locs cells slots) (hx : p.tables.exec = Jvm.exec) (hZ : Z.Warmed39 s.vm) (eT : T.heap = h) (V : Arv Z h a kc .long z vs dv) (hj : ¬ j < 0) (hj' : j < z) (hi : j.toNatClampNeg = i) (hl : i < vs.length)
    {g : JFrame} (hg : g.method = m) {rest : List Value} (hs : g.stack = .long x :: .int j :: .ref a :: rest) (hd : decode c.code g.pc = .ok (.lastore, 1))
    (k : ∀ T' h', Stand p l e R s m args below meth c T' (locs ++ [⟨a, j.toNatClampNeg⟩]) cells slots → T'.heap = h' → Wr h h' a j.toNatClampNeg (.long x) → Arv Z h' a kc .long z (vs.set i (.long x)) dv → Goes p e below E T' { g with pc := g.pc + 1, stack := rest }) : Goes p e below E T g := by
  obtain ⟨cl, A, q1, S, q3, H, G⟩ := V
  obtain ⟨T', h', X', e', W', st⟩ := stJ X hx hZ eT A (inbV S hj hj') hg hs hd
  exact Goes.of st (k T' h' X' e' W' (Arv.set A q1 S q3 H G rfl W' i hi hl))
theorem goStC {a : Addr} {kc : ClassId} {z j x : Int32} {vs : List Value} {dv : Value} (i : Nat) (X : Stand p l e R s m args below meth c T locs cells slots) (hx : p.tables.exec = Jvm.exec) (hZ : Z.Warmed39 s.vm) (eT : T.heap = h) (V : Arv Z h a kc .char z vs dv) (hj : ¬ j < 0) (hj' : j < z) (hi : j.toNatClampNeg = i) (hl : i < vs.length)
    {g : JFrame} (hg : g.method = m) {rest : List Value} (hs : g.stack = .int x :: .int j :: .ref a :: rest) (hd : decode c.code g.pc = .ok (.castore, 1))
    (k : ∀ T' h', Stand p l e R s m args below meth c T' (locs ++ [⟨a, j.toNatClampNeg⟩]) cells slots → T'.heap = h' → Wr h h' a j.toNatClampNeg (.int (nar .char x)) → Arv Z h' a kc .char z (vs.set i (.int (nar .char x))) dv → Goes p e below E T' { g with pc := g.pc + 1, stack := rest }) : Goes p e below E T g := by
  obtain ⟨cl, A, q1, S, q3, H, G⟩ := V
  obtain ⟨T', h', X', e', W', st⟩ := stC X hx hZ eT A (inbV S hj hj') hg hs hd
  exact Goes.of st (k T' h' X' e' W' (Arv.set A q1 S q3 H G (fits_nar_char _) W' i hi hl))
theorem goStB {a : Addr} {kc : ClassId} {z j x : Int32} {vs : List Value} {dv : Value} (i : Nat) (X : Stand p l e R s m args below meth c T locs cells slots) (hx : p.tables.exec = Jvm.exec) (hZ : Z.Warmed39 s.vm) (eT : T.heap = h) (V : Arv Z h a kc .byte z vs dv) (hj : ¬ j < 0) (hj' : j < z) (hi : j.toNatClampNeg = i) (hl : i < vs.length)
    {g : JFrame} (hg : g.method = m) {rest : List Value} (hs : g.stack = .int x :: .int j :: .ref a :: rest) (hd : decode c.code g.pc = .ok (.bastore, 1))
    (k : ∀ T' h', Stand p l e R s m args below meth c T' (locs ++ [⟨a, j.toNatClampNeg⟩]) cells slots → T'.heap = h' → Wr h h' a j.toNatClampNeg (.int (nar .byte x)) → Arv Z h' a kc .byte z (vs.set i (.int (nar .byte x))) dv → Goes p e below E T' { g with pc := g.pc + 1, stack := rest }) : Goes p e below E T g := by
  obtain ⟨cl, A, q1, S, q3, H, G⟩ := V
  obtain ⟨T', h', X', e', W', st⟩ := stB X hx hZ eT A (inbV S hj hj') hg hs hd
  exact Goes.of st (k T' h' X' e' W' (Arv.set A q1 S q3 H G (fits_nar_byte _) W' i hi hl))
theorem goStZ {a : Addr} {kc : ClassId} {z j x : Int32} {vs : List Value} {dv : Value} (i : Nat) (X : Stand p l e R s m args below meth c T locs cells slots) (hx : p.tables.exec = Jvm.exec) (hZ : Z.Warmed39 s.vm) (eT : T.heap = h) (V : Arv Z h a kc .boolean z vs dv) (hj : ¬ j < 0) (hj' : j < z) (hi : j.toNatClampNeg = i) (hl : i < vs.length)
    {g : JFrame} (hg : g.method = m) {rest : List Value} (hs : g.stack = .int x :: .int j :: .ref a :: rest) (hd : decode c.code g.pc = .ok (.bastore, 1))
    (k : ∀ T' h', Stand p l e R s m args below meth c T' (locs ++ [⟨a, j.toNatClampNeg⟩]) cells slots → T'.heap = h' → Wr h h' a j.toNatClampNeg (.int (nar .boolean x)) → Arv Z h' a kc .boolean z (vs.set i (.int (nar .boolean x))) dv → Goes p e below E T' { g with pc := g.pc + 1, stack := rest }) : Goes p e below E T g := by
  obtain ⟨cl, A, q1, S, q3, H, G⟩ := V
  obtain ⟨T', h', X', e', W', st⟩ := stZ X hx hZ eT A (inbV S hj hj') hg hs hd
  exact Goes.of st (k T' h' X' e' W' (Arv.set A q1 S q3 H G (fits_nar_bool _) W' i hi hl))
theorem goStR {a y : Addr} {C : String} {kc : ClassId} {z j : Int32} {vs : List Value} {dv : Value} (i : Nat) (X : Stand p l e R s m args below meth c T locs cells slots) (hx : p.tables.exec = Jvm.exec) (hZ : Z.Warmed39 s.vm) (eT : T.heap = h) (V : Arv Z h a kc (.object C) z vs dv) (O : Ovr Z kc C) (I : Ins Z h y C true) (hj : ¬ j < 0) (hj' : j < z) (hi : j.toNatClampNeg = i) (hl : i < vs.length)
    {g : JFrame} (hg : g.method = m) {rest : List Value} (hs : g.stack = .ref y :: .int j :: .ref a :: rest) (hd : decode c.code g.pc = .ok (.aastore, 1))
    (k : ∀ T' h', Stand p l e R s m args below meth c T' (locs ++ [⟨a, j.toNatClampNeg⟩]) cells slots → T'.heap = h' → Wr h h' a j.toNatClampNeg (.ref y) → Arv Z h' a kc (.object C) z (vs.set i (.ref y)) dv → Goes p e below E T' { g with pc := g.pc + 1, stack := rest }) : Goes p e below E T g := by
  obtain ⟨cl, A, q1, S, q3, H, G⟩ := V
  obtain ⟨T', h', X', e', W', st⟩ := stR X hx hZ eT A (inbV S hj hj') rfl (Sto.ofV A q1 O I) hg hs hd
  exact Goes.of st (k T' h' X' e' W' (Arv.set A q1 S q3 H G rfl W' i hi hl))
theorem goLdI {a : Addr} {kc : ClassId} {z j : Int32} {vs : List Value} {dv : Value} (v : Value) (X : Stand p l e R s m args below meth c T locs cells slots) (hx : p.tables.exec = Jvm.exec) (hZ : Z.Warmed39 s.vm) (eT : T.heap = h) (V : Arv Z h a kc .int z vs dv) (hj : ¬ j < 0) (hj' : j < z) (hv : vs.getD j.toNatClampNeg dv = v)
    {g : JFrame} (hg : g.method = m) {rest : List Value} (hs : g.stack = .int j :: .ref a :: rest) (hd : decode c.code g.pc = .ok (.iaload, 1)) (k : Goes p e below E T { g with pc := g.pc + 1, stack := v :: rest }) : Goes p e below E T g := by
  obtain ⟨cl, A, q1, S, q3, H, G⟩ := V
  exact Goes.of (fun t q => X.iaload hx (by rw [eT]; exact A.1) (State.isArrayOf_alike hZ.alike A.2.1) A.2.2 (inbV S hj hj') (H.at (inbV S hj hj') hv) hg hs hd t q) k
theorem goLdJ {a : Addr} {kc : ClassId} {z j : Int32} {vs : List Value} {dv : Value} (v : Value) (X : Stand p l e R s m args below meth c T locs cells slots) (hx : p.tables.exec = Jvm.exec) (hZ : Z.Warmed39 s.vm) (eT : T.heap = h) (V : Arv Z h a kc .long z vs dv) (hj : ¬ j < 0) (hj' : j < z) (hv : vs.getD j.toNatClampNeg dv = v)
    {g : JFrame} (hg : g.method = m) {rest : List Value} (hs : g.stack = .int j :: .ref a :: rest) (hd : decode c.code g.pc = .ok (.laload, 1)) (k : Goes p e below E T { g with pc := g.pc + 1, stack := v :: rest }) : Goes p e below E T g := by
  obtain ⟨cl, A, q1, S, q3, H, G⟩ := V
  exact Goes.of (fun t q => X.laload hx (by rw [eT]; exact A.1) (State.isArrayOf_alike hZ.alike A.2.1) A.2.2 (inbV S hj hj') (H.at (inbV S hj hj') hv) hg hs hd t q) k
theorem goLdC {a : Addr} {kc : ClassId} {z j : Int32} {vs : List Value} {dv : Value} (v : Value) (X : Stand p l e R s m args below meth c T locs cells slots) (hx : p.tables.exec = Jvm.exec) (hZ : Z.Warmed39 s.vm) (eT : T.heap = h) (V : Arv Z h a kc .char z vs dv) (hj : ¬ j < 0) (hj' : j < z) (hv : vs.getD j.toNatClampNeg dv = v)
    {g : JFrame} (hg : g.method = m) {rest : List Value} (hs : g.stack = .int j :: .ref a :: rest) (hd : decode c.code g.pc = .ok (.caload, 1)) (k : Goes p e below E T { g with pc := g.pc + 1, stack := v :: rest }) : Goes p e below E T g := by
  obtain ⟨cl, A, q1, S, q3, H, G⟩ := V
  exact Goes.of (fun t q => X.caload hx (by rw [eT]; exact A.1) (State.isArrayOf_alike hZ.alike A.2.1) A.2.2 (inbV S hj hj') (H.at (inbV S hj hj') hv) hg hs hd t q) k
theorem goLdB {a : Addr} {kc : ClassId} {z j : Int32} {vs : List Value} {dv : Value} (v : Value) (X : Stand p l e R s m args below meth c T locs cells slots) (hx : p.tables.exec = Jvm.exec) (hZ : Z.Warmed39 s.vm) (eT : T.heap = h) (V : Arv Z h a kc .byte z vs dv) (hj : ¬ j < 0) (hj' : j < z) (hv : vs.getD j.toNatClampNeg dv = v)
    {g : JFrame} (hg : g.method = m) {rest : List Value} (hs : g.stack = .int j :: .ref a :: rest) (hd : decode c.code g.pc = .ok (.baload, 1)) (k : Goes p e below E T { g with pc := g.pc + 1, stack := v :: rest }) : Goes p e below E T g := by
  obtain ⟨cl, A, q1, S, q3, H, G⟩ := V
  exact Goes.of (fun t q => X.baloadBytes hx (by rw [eT]; exact A.1) (State.isArrayOf_alike hZ.alike A.2.1) A.2.2 (inbV S hj hj') (H.at (inbV S hj hj') hv) hg hs hd t q) k
theorem goLdZ {a : Addr} {kc : ClassId} {z j : Int32} {vs : List Value} {dv : Value} (v : Value) (X : Stand p l e R s m args below meth c T locs cells slots) (hx : p.tables.exec = Jvm.exec) (hZ : Z.Warmed39 s.vm) (eT : T.heap = h) (V : Arv Z h a kc .boolean z vs dv) (hj : ¬ j < 0) (hj' : j < z) (hv : vs.getD j.toNatClampNeg dv = v)
    {g : JFrame} (hg : g.method = m) {rest : List Value} (hs : g.stack = .int j :: .ref a :: rest) (hd : decode c.code g.pc = .ok (.baload, 1)) (k : Goes p e below E T { g with pc := g.pc + 1, stack := v :: rest }) : Goes p e below E T g := by
  obtain ⟨cl, A, q1, S, q3, H, G⟩ := V
  exact Goes.of (fun t q => X.baloadBooleans hx (by rw [eT]; exact A.1) (State.isArrayOf_alike hZ.alike A.2.1) A.2.2 (inbV S hj hj') (H.at (inbV S hj hj') hv) hg hs hd t q) k
theorem goLdR {a : Addr} {C : String} {kc : ClassId} {z j : Int32} {vs : List Value} {dv : Value} (v : Value) (X : Stand p l e R s m args below meth c T locs cells slots) (hx : p.tables.exec = Jvm.exec) (hZ : Z.Warmed39 s.vm) (eT : T.heap = h) (V : Arv Z h a kc (.object C) z vs dv) (hj : ¬ j < 0) (hj' : j < z) (hv : vs.getD j.toNatClampNeg dv = v)
    {g : JFrame} (hg : g.method = m) {rest : List Value} (hs : g.stack = .int j :: .ref a :: rest) (hd : decode c.code g.pc = .ok (.aaload, 1)) (k : Goes p e below E T { g with pc := g.pc + 1, stack := v :: rest }) : Goes p e below E T g := by
  obtain ⟨cl, A, q1, S, q3, H, G⟩ := V
  exact Goes.of (fun t q => X.aaload hx (by rw [eT]; exact A.1) (State.isArrayOf_alike hZ.alike A.2.1) rfl A.2.2 (inbV S hj hj') (H.at (inbV S hj hj') hv) hg hs hd t q) k
theorem goLen {a : Addr} {kc : ClassId} {ty : FieldType} {z : Int32} {vs : List Value} {dv : Value} (X : Stand p l e R s m args below meth c T locs cells slots) (hx : p.tables.exec = Jvm.exec) (hZ : Z.Warmed39 s.vm) (eT : T.heap = h) (V : Arv Z h a kc ty z vs dv)
    {g : JFrame} (hg : g.method = m) {rest : List Value} (hs : g.stack = .ref a :: rest) (hd : decode c.code g.pc = .ok (.arraylength, 1)) (k : Goes p e below E T { g with pc := g.pc + 1, stack := .int z :: rest }) : Goes p e below E T g := by
  obtain ⟨cl, A, q1, S, q3, H, G⟩ := V
  exact Goes.of (fun t q => X.arraylength hx (by rw [eT]; exact A.1) (State.isArrayOf_alike hZ.alike A.2.1) hg hs hd t (by rw [len_of S q3]; exact q)) k
/-- a start fact out of a case's word -/
theorem fld_of_eq {args : Array Value} {t u : Term} {C n d : String} {a : Addr} {v : Value} (ev : t.eval args s none [] s = some (.ref a)) (hu : u.eval args s none [] s = some v) (h : (Jvm.Cond.eq (.field t C n d) u).value args s none s [] = some true) : Fld s s.heap a C n d v := by
  refine Fld.start ?_
  simp only [Jvm.Cond.value, fld_at ev, hu] at h
  cases hf : s.fieldOf? a C n d with
  | none => simp [hf] at h
  | some x => cases x <;> cases v <;> simp [hf] at h ⊢ <;> exact h
theorem sta_at {args : Array Value} {C n d : String} {v : Value} (ev : (Term.static C n d).eval args s none [] s = some v) (w1 : (Jvm.Cond.initialized C).before args s = true) (w2 : (Jvm.Cond.laysStatic C n d).before args s = true) : Sta s s.heap C n d v := Sta.start ev (Or.inr ⟨w1, w2⟩)
/-- an enum constant: the static, the object's class, its ordinal -/
def Con (Z : State) (C f : String) (d : String) (k : Int32) (a : Addr) : Prop := Sta Z Z.heap C f d (.ref a) ∧ Exa Z Z.heap a C ∧ Fld Z Z.heap a "java/lang/Enum" "ordinal" "I" (.int k)
theorem con_of {args : Array Value} {C f d : String} {k : Int32} (h1 : (Jvm.Cond.exactly (.static C f d) C).value args s none s [] = some true) (h2 : (Jvm.Cond.eq (.field (.static C f d) "java/lang/Enum" "ordinal" "I") (.int k)).value args s none s [] = some true)
    (w1 : (Jvm.Cond.initialized C).before args s = true) (w2 : (Jvm.Cond.laysStatic C f d).before args s = true) : ∃ a, Con s C f d k a ∧ (Term.static C f d).eval args s none [] s = some (.ref a) := by
  obtain ⟨a, ev⟩ := exa_v h1
  exact ⟨a, ⟨sta_at ev w1 w2, Exa.start ev h1, fld_of_eq ev (Term.int_eval k) h2⟩, ev⟩
theorem Con.ne {C f d C' f' d' : String} {k k' : Int32} {a b : Addr} (F : Con Z C f d k a) (G : Con Z C' f' d' k' b) (q : k ≠ k') : a ≠ b := Fld.ne F.2.2 G.2.2 (fun h => q (Value.int.inj h))
theorem mask31 (x : Int32) : (x &&& (2147483647 : Int32)).toInt = x.toInt % 2147483648 := c_mask x _ 31 (by decide) (by decide)
theorem div_pos (x y : Int32) {k : Int} (hx : ¬ x < 0) (hy : y.toInt = k) (h1 : y ≠ -1) : (x / y).toInt = x.toInt / k := (c_idiv x y k hy h1).1 (by rw [Int32.lt_iff_toInt_lt] at hx; have : (0 : Int32).toInt = 0 := rfl; omega)
theorem rem_pos {x y : Int32} {k : Int} (h : 0 ≤ x.toInt) (hy : y.toInt = k) : (x - (x / y) * y).toInt = x.toInt % k := by
  rw [irem_eq_mod]; exact (c_irem x y k hy).1 h
theorem rem31 (x y : Int32) {k : Int} (hy : y.toInt = k) : ((x &&& (2147483647 : Int32)) - ((x &&& (2147483647 : Int32)) / y) * y).toInt = (x.toInt % 2147483648) % k := by
  have e := mask31 x
  rw [rem_pos (by omega) hy, e]
def Cst (Z : State) (C f : String) (d : String) (a : Addr) : Prop := Sta Z Z.heap C f d (.ref a) ∧ Exa Z Z.heap a C
theorem cst_of {args : Array Value} {C f d : String} (h1 : (Jvm.Cond.exactly (.static C f d) C).value args s none s [] = some true)
    (w1 : (Jvm.Cond.initialized C).before args s = true) (w2 : (Jvm.Cond.laysStatic C f d).before args s = true) : ∃ a, Cst s C f d a ∧ (Term.static C f d).eval args s none [] s = some (.ref a) := by
  obtain ⟨a, ev⟩ := exa_v h1
  exact ⟨a, ⟨sta_at ev w1 w2, Exa.start ev h1⟩, ev⟩
theorem goClone {own ad : String} {index : Nat} {ty : FieldType} {a : Addr} {kc : ClassId} {z : Int32} {vs : List Value} {dv : Value} (W cap : Nat) (X : Stand p l e R s m args below meth c T locs cells slots) (hx : p.tables.exec = Jvm.exec) (hZ : Z.Warmed39 s.vm) (hown : s.vm.findClass own = some m.cls)
    (w1 : (Jvm.Cond.methodLink own index ⟨ad, "clone", "()Ljava/lang/Object;"⟩).before a0 Z = true) (w2 : (Jvm.Cond.sameMethod ad "java/lang/Object" "clone" "()Ljava/lang/Object;").before a0 Z = true) (w3 : (Jvm.Cond.native ⟨"java/lang/Object", "clone", "()Ljava/lang/Object;"⟩).before a0 Z = true)
    (w4 : (Jvm.Cond.instanceMethod ⟨"java/lang/Object", "clone", "()Ljava/lang/Object;"⟩).before a0 Z = true) (w5 : (Jvm.Cond.selects ad ⟨ad, "clone", "()Ljava/lang/Object;"⟩ ⟨"java/lang/Object", "clone", "()Ljava/lang/Object;"⟩).before a0 Z = true) (w6 : (Jvm.Cond.castable ad "java/lang/Cloneable").before a0 Z = true)
    (eT : T.heap = h) (V : Arv Z h a kc ty z vs dv) (Ex : Exa Z h a ad) {g : JFrame} (hg : g.method = m) (hsize : g.locals.size = c.maxLocals) {rest : List Value} (hst : g.stack = .ref a :: rest) (hd : decode c.code g.pc = .ok (.invokevirtual index, 3))
    (hf : 1 ≤ R.frames) (hW : 2 * g.monitorRoom + (rest.map fun v => v.category).sum ≤ W) (hl : W + 14 ≤ R.locals) (hcap : z.toNatClampNeg ≤ cap) (hc : cells + 1 ≤ R.cells) (hsl : slots + cap ≤ R.slots)
    (k : ∀ T' h' b, Stand p l e R s m args below meth c T' locs (cells + 1) (slots + cap) → T'.heap = h' → Ext h h' → h.size ≤ b → Arv Z h' b kc ty z vs dv → Exa Z h' b ad → Goes p e below E T' { g with pc := g.pc + 3, stack := .ref b :: rest }) : Goes p e below E T g := by
  obtain ⟨T', h', X', e', E', A', Ex', st⟩ := cloneH X hx hZ hown w1 w2 w3 w4 w5 w6 eT V.arh Ex hg hsize hst hd hf hW hl hcap hc hsl
  exact Goes.of st (k T' h' _ X' e' E' (Nat.le_refl _) A' Ex')
theorem nsRoot {O K : String} {n : Nat} (w : (Jvm.Cond.noSuperclass O).before a0 Z = true) (wk : (Jvm.Cond.instantiable K n).before a0 Z = true) (hn : O ≠ K) : NS Z O K := by
  obtain ⟨c, k, h1, h2, h3, -, -⟩ := Cond.noSuperclass_spec w
  obtain ⟨t, kt, g1, -⟩ := Cond.instantiable_spec wk
  have ne := ids_ne h1 g1 hn
  refine ⟨c, t, h1, g1, fun fuel => ?_⟩
  cases fuel with
  | zero => rfl
  | succ f => simp [Vm.isSubclassAux, ne, h2, h3]
theorem nsNo {C S K : String} {n : Nat} (w : (Jvm.Cond.superclass C S).before a0 Z = true) (wk : (Jvm.Cond.instantiable K n).before a0 Z = true) (q : NS Z C K) (hn : C ≠ K) : ∃ c t, Z.vm.findClass C = some c ∧ Z.vm.findClass K = some t ∧ Z.vm.assignable c t = false := by
  obtain ⟨c, t, h0, g0, n3⟩ := q
  obtain ⟨p, k, kp, h1, h2, h3, h4, h5, -, h7⟩ := Cond.superclass_spec h0 w
  obtain ⟨t', kt, g1, g2, g5, g7, -⟩ := Cond.instantiable_spec wk
  cases g0.symm.trans g1
  have g8 : kt.isInterface = false := by simp only [Bool.or_eq_false_iff] at g7; exact g7.1
  have ne := ids_ne h0 g0 hn
  refine ⟨c, t, h0, g0, ?_⟩
  show Z.vm.assignableAux (255 + 1) c t = false
  simp [Vm.assignableAux, ne, h2, g2, h5, g5, g8, Vm.isSubclass, n3]
/-- what is known of Integer's cache at the start -/
def IntC (Z : State) (ca : Addr) (cl : Cell) : Prop := Sta Z Z.heap "java/lang/Integer$IntegerCache" "high" "I" (.int 127) ∧ Sta Z Z.heap "java/lang/Integer$IntegerCache" "cache" "[Ljava/lang/Integer;" (.ref ca) ∧ Arr Z Z.heap ca cl (.object "java/lang/Integer") ∧ cl.slots.size = 256 ∧ ∀ j, j < 256 → ∃ b, cl.slots[j]? = some (.ref b) ∧ Exa Z Z.heap b "java/lang/Integer"
theorem ne_of_not {args : Array Value} {t : Term} {x : Int32} (ev : t.eval args s none [] s = some (.int x)) (h : (Jvm.Cond.not (.eq t (.int 0))).before args s = true) : ¬ x = 0 := by
  intro q
  subst q
  have e := Cond.before_iff.mp h
  simp [Jvm.Cond.value, ev, Term.eval] at e
end Own1
end Jvm.Own
namespace Jvm.Pilot.@@N@@
open Jvm Jvm.ClassFile Sem Op Lib Jvm.Free Jvm.Stand Jvm.LawKit Jvm.RoadKit Jvm.Own Bundle Jvm.Pilot.@@N@@.Jvm.D
theorem ef_6 (m : MethodId) (x0 : Addr) : entryFrame m #[(.ref x0)] 1 = mkF m 0 #[.val (.ref x0)] [] := by first | (simp [entryFrame, mkF, argsToLocals, Value.category]; done) | rfl
theorem d6_0 : decode jdk_18_method_1_code 0 = .ok (.aload_n 0, 1) := by decide +kernel
theorem d6_1 : decode jdk_18_method_1_code 1 = .ok (.invokespecial 1, 3) := by decide +kernel
theorem d6_4 : decode jdk_18_method_1_code 4 = .ok (.return_, 1) := by decide +kernel
theorem pn_java_lang_Number : plainName "java/lang/Number" = true := by first | (simp [plainName, overriddenIn]; done) | decide +kernel
theorem ef_5 (m : MethodId) (x0 : Addr) (x1 : Int32) : entryFrame m #[(.ref x0), (.int x1)] 2 = mkF m 0 #[.val (.ref x0), .val (.int x1)] [] := by first | (simp [entryFrame, mkF, argsToLocals, Value.category]; done) | rfl
theorem d5_0 : decode jdk_33_method_23_code 0 = .ok (.aload_n 0, 1) := by decide +kernel
theorem d5_1 : decode jdk_33_method_23_code 1 = .ok (.invokespecial 202, 3) := by decide +kernel
theorem pd___V : parseMethodDescriptor "()V" = some ⟨[], none⟩ := by decide +kernel
theorem d5_4 : decode jdk_33_method_23_code 4 = .ok (.aload_n 0, 1) := by decide +kernel
theorem d5_5 : decode jdk_33_method_23_code 5 = .ok (.iload_n 1, 1) := by decide +kernel
theorem d5_6 : decode jdk_33_method_23_code 6 = .ok (.putfield 205, 3) := by decide +kernel
theorem d5_9 : decode jdk_33_method_23_code 9 = .ok (.return_, 1) := by decide +kernel
theorem pn_java_lang_Integer : plainName "java/lang/Integer" = true := by first | (simp [plainName, overriddenIn]; done) | decide +kernel
theorem ef_3 (m : MethodId) (x0 : Int32) : entryFrame m #[(.int x0)] 1 = mkF m 0 #[.val (.int x0)] [] := by first | (simp [entryFrame, mkF, argsToLocals, Value.category]; done) | rfl
theorem d3_0 : decode jdk_33_method_22_code 0 = .ok (.iload_n 0, 1) := by decide +kernel
theorem d3_1 : decode jdk_33_method_22_code 1 = .ok (.bipush (-128), 2) := by decide +kernel
theorem d3_3 : decode jdk_33_method_22_code 3 = .ok (.if_icmp .lt 20, 3) := by decide +kernel
theorem d3_23 : decode jdk_33_method_22_code 23 = .ok (.new 1, 3) := by decide +kernel
theorem d3_26 : decode jdk_33_method_22_code 26 = .ok (.dup, 1) := by decide +kernel
theorem d3_27 : decode jdk_33_method_22_code 27 = .ok (.iload_n 0, 1) := by decide +kernel
theorem d3_28 : decode jdk_33_method_22_code 28 = .ok (.invokespecial 199, 3) := by decide +kernel
theorem pd__I_V : parseMethodDescriptor "(I)V" = some ⟨[.int], none⟩ := by decide +kernel
theorem d3_31 : decode jdk_33_method_22_code 31 = .ok (.areturn, 1) := by decide +kernel
theorem d3_6 : decode jdk_33_method_22_code 6 = .ok (.iload_n 0, 1) := by decide +kernel
theorem d3_7 : decode jdk_33_method_22_code 7 = .ok (.getstatic 191, 3) := by decide +kernel
theorem d3_10 : decode jdk_33_method_22_code 10 = .ok (.if_icmp .gt 13, 3) := by decide +kernel
theorem d3_13 : decode jdk_33_method_22_code 13 = .ok (.getstatic 195, 3) := by decide +kernel
theorem d3_16 : decode jdk_33_method_22_code 16 = .ok (.iload_n 0, 1) := by decide +kernel
theorem d3_17 : decode jdk_33_method_22_code 17 = .ok (.sipush 128, 3) := by decide +kernel
theorem d3_20 : decode jdk_33_method_22_code 20 = .ok (.iadd, 1) := by decide +kernel
theorem d3_21 : decode jdk_33_method_22_code 21 = .ok (.aaload, 1) := by decide +kernel
theorem d3_22 : decode jdk_33_method_22_code 22 = .ok (.areturn, 1) := by decide +kernel
theorem ef_1 (m : MethodId) (x0 : Addr) (x1 : Int64) (x2 : Int64) (x3 : Int32) (x4 : Int32) : entryFrame m #[(.ref x0), (.long x1), (.long x2), (.int x3), (.int x4)] 7 = mkF m 0 #[.val (.ref x0), .val (.long x1), .second, .val (.long x2), .second, .val (.int x3), .val (.int x4)] [] := by first | (simp [entryFrame, mkF, argsToLocals, Value.category]; done) | rfl
theorem d1_0 : decode prog_13_method_1_code 0 = .ok (.aload_n 0, 1) := by decide +kernel
theorem d1_1 : decode prog_13_method_1_code 1 = .ok (.invokespecial 1, 3) := by decide +kernel
theorem d1_4 : decode prog_13_method_1_code 4 = .ok (.aload_n 0, 1) := by decide +kernel
theorem d1_5 : decode prog_13_method_1_code 5 = .ok (.lload_n 1, 1) := by decide +kernel
theorem d1_6 : decode prog_13_method_1_code 6 = .ok (.putfield 7, 3) := by decide +kernel
theorem d1_9 : decode prog_13_method_1_code 9 = .ok (.aload_n 0, 1) := by decide +kernel
theorem d1_10 : decode prog_13_method_1_code 10 = .ok (.lload_n 3, 1) := by decide +kernel
theorem d1_11 : decode prog_13_method_1_code 11 = .ok (.putfield 13, 3) := by decide +kernel
theorem d1_14 : decode prog_13_method_1_code 14 = .ok (.aload_n 0, 1) := by decide +kernel
theorem d1_15 : decode prog_13_method_1_code 15 = .ok (.iload 5, 2) := by decide +kernel
theorem d1_17 : decode prog_13_method_1_code 17 = .ok (.i2l, 1) := by decide +kernel
theorem d1_18 : decode prog_13_method_1_code 18 = .ok (.putfield 16, 3) := by decide +kernel
theorem d1_21 : decode prog_13_method_1_code 21 = .ok (.aload_n 0, 1) := by decide +kernel
theorem d1_22 : decode prog_13_method_1_code 22 = .ok (.iload 6, 2) := by decide +kernel
theorem d1_24 : decode prog_13_method_1_code 24 = .ok (.i2l, 1) := by decide +kernel
theorem d1_25 : decode prog_13_method_1_code 25 = .ok (.putfield 19, 3) := by decide +kernel
theorem d1_28 : decode prog_13_method_1_code 28 = .ok (.aload_n 0, 1) := by decide +kernel
theorem d1_29 : decode prog_13_method_1_code 29 = .ok (.lload_n 1, 1) := by decide +kernel
theorem d1_30 : decode prog_13_method_1_code 30 = .ok (.iload 5, 2) := by decide +kernel
theorem d1_32 : decode prog_13_method_1_code 32 = .ok (.i2l, 1) := by decide +kernel
theorem d1_33 : decode prog_13_method_1_code 33 = .ok (.ladd, 1) := by decide +kernel
theorem d1_34 : decode prog_13_method_1_code 34 = .ok (.l2d, 1) := by decide +kernel
theorem d1_35 : decode prog_13_method_1_code 35 = .ok (.ldc2_w 22, 3) := by decide +kernel
theorem d1_38 : decode prog_13_method_1_code 38 = .ok (.ddiv, 1) := by decide +kernel
theorem d1_39 : decode prog_13_method_1_code 39 = .ok (.putfield 24, 3) := by decide +kernel
theorem d1_42 : decode prog_13_method_1_code 42 = .ok (.aload_n 0, 1) := by decide +kernel
theorem d1_43 : decode prog_13_method_1_code 43 = .ok (.lload_n 3, 1) := by decide +kernel
theorem d1_44 : decode prog_13_method_1_code 44 = .ok (.iload 6, 2) := by decide +kernel
theorem d1_46 : decode prog_13_method_1_code 46 = .ok (.i2l, 1) := by decide +kernel
theorem d1_47 : decode prog_13_method_1_code 47 = .ok (.ladd, 1) := by decide +kernel
theorem d1_48 : decode prog_13_method_1_code 48 = .ok (.l2d, 1) := by decide +kernel
theorem d1_49 : decode prog_13_method_1_code 49 = .ok (.ldc2_w 22, 3) := by decide +kernel
theorem d1_52 : decode prog_13_method_1_code 52 = .ok (.ddiv, 1) := by decide +kernel
theorem d1_53 : decode prog_13_method_1_code 53 = .ok (.putfield 28, 3) := by decide +kernel
theorem d1_56 : decode prog_13_method_1_code 56 = .ok (.return_, 1) := by decide +kernel
theorem pn_com_example_casement_casement_graphics_Ellipse : plainName "com/example/casement/casement/graphics/Ellipse" = true := by first | (simp [plainName, overriddenIn]; done) | decide +kernel
theorem ef_4 (m : MethodId) (x0 : Addr) (x1 : Addr) : entryFrame m #[(.ref x0), (.ref x1)] 3 = mkF m 0 #[.val (.ref x0), .val (.ref x1), .unset] [] := by first | (simp [entryFrame, mkF, argsToLocals, Value.category]; done) | rfl
theorem d4_0 : decode prog_13_method_12_code 0 = .ok (.aload_n 1, 1) := by decide +kernel
theorem d4_1 : decode prog_13_method_12_code 1 = .ok (.instanceof 8, 3) := by decide +kernel
theorem d4_4 : decode prog_13_method_12_code 4 = .ok (.ifCond .eq 60, 3) := by decide +kernel
theorem d4_7 : decode prog_13_method_12_code 7 = .ok (.aload_n 1, 1) := by decide +kernel
theorem d4_8 : decode prog_13_method_12_code 8 = .ok (.checkcast 8, 3) := by decide +kernel
theorem d4_11 : decode prog_13_method_12_code 11 = .ok (.astore_n 2, 1) := by decide +kernel
theorem d4_12 : decode prog_13_method_12_code 12 = .ok (.aload_n 0, 1) := by decide +kernel
theorem d4_13 : decode prog_13_method_12_code 13 = .ok (.getfield 7, 3) := by decide +kernel
theorem d4_16 : decode prog_13_method_12_code 16 = .ok (.aload_n 2, 1) := by decide +kernel
theorem d4_17 : decode prog_13_method_12_code 17 = .ok (.getfield 7, 3) := by decide +kernel
theorem d4_20 : decode prog_13_method_12_code 20 = .ok (.lcmp, 1) := by decide +kernel
theorem d4_21 : decode prog_13_method_12_code 21 = .ok (.ifCond .ne 43, 3) := by decide +kernel
theorem d4_24 : decode prog_13_method_12_code 24 = .ok (.aload_n 0, 1) := by decide +kernel
theorem d4_25 : decode prog_13_method_12_code 25 = .ok (.getfield 13, 3) := by decide +kernel
theorem d4_28 : decode prog_13_method_12_code 28 = .ok (.aload_n 2, 1) := by decide +kernel
theorem d4_29 : decode prog_13_method_12_code 29 = .ok (.getfield 13, 3) := by decide +kernel
theorem d4_32 : decode prog_13_method_12_code 32 = .ok (.lcmp, 1) := by decide +kernel
theorem d4_33 : decode prog_13_method_12_code 33 = .ok (.ifCond .ne 31, 3) := by decide +kernel
theorem d4_36 : decode prog_13_method_12_code 36 = .ok (.aload_n 0, 1) := by decide +kernel
theorem d4_37 : decode prog_13_method_12_code 37 = .ok (.getfield 16, 3) := by decide +kernel
theorem d4_40 : decode prog_13_method_12_code 40 = .ok (.aload_n 2, 1) := by decide +kernel
theorem d4_41 : decode prog_13_method_12_code 41 = .ok (.getfield 16, 3) := by decide +kernel
theorem d4_44 : decode prog_13_method_12_code 44 = .ok (.lcmp, 1) := by decide +kernel
theorem d4_45 : decode prog_13_method_12_code 45 = .ok (.ifCond .ne 19, 3) := by decide +kernel
theorem d4_48 : decode prog_13_method_12_code 48 = .ok (.aload_n 0, 1) := by decide +kernel
theorem d4_49 : decode prog_13_method_12_code 49 = .ok (.getfield 19, 3) := by decide +kernel
theorem d4_52 : decode prog_13_method_12_code 52 = .ok (.aload_n 2, 1) := by decide +kernel
theorem d4_53 : decode prog_13_method_12_code 53 = .ok (.getfield 19, 3) := by decide +kernel
theorem d4_56 : decode prog_13_method_12_code 56 = .ok (.lcmp, 1) := by decide +kernel
theorem d4_60 : decode prog_13_method_12_code 60 = .ok (.iconst 1, 1) := by decide +kernel
theorem d4_61 : decode prog_13_method_12_code 61 = .ok (.goto 4, 3) := by decide +kernel
theorem d4_64 : decode prog_13_method_12_code 64 = .ok (.iconst 0, 1) := by decide +kernel
theorem d4_57 : decode prog_13_method_12_code 57 = .ok (.ifCond .ne 7, 3) := by decide +kernel
theorem d4_65 : decode prog_13_method_12_code 65 = .ok (.ireturn, 1) := by decide +kernel
theorem ef_4n1 (m : MethodId) (x0 : Addr) : entryFrame m #[(.ref x0), .null] 3 = mkF m 0 #[.val (.ref x0), .val .null, .unset] [] := by first | (simp [entryFrame, mkF, argsToLocals, Value.category]; done) | rfl
theorem ef_0 (m : MethodId) (x0 : Int64) (x1 : Int64) (x2 : Int32) (x3 : Int32) (x4 : Int32) (x5 : Int64) : entryFrame m #[(.long x0), (.long x1), (.int x2), (.int x3), (.int x4), (.long x5)] maxLocals = mkF m 0 #[.val (.long x0), .second, .val (.long x1), .second, .val (.int x2), .val (.int x3), .val (.int x4), .val (.long x5), .second, .unset, .unset, .unset, .unset, .unset, .unset, .unset, .unset, .unset, .unset] [] := by first | (simp [entryFrame, mkF, argsToLocals, Value.category, maxLocals]; done) | rfl
theorem pd__JJII_V : parseMethodDescriptor "(JJII)V" = some ⟨[.long, .long, .int, .int], none⟩ := by decide +kernel
theorem pd__I_Ljava_lang_Integer_ : parseMethodDescriptor "(I)Ljava/lang/Integer;" = some ⟨[.int], some (.object "java/lang/Integer")⟩ := by decide +kernel
theorem pd__Ljava_lang_Object__Z : parseMethodDescriptor "(Ljava/lang/Object;)Z" = some ⟨[(.object "java/lang/Object")], some .boolean⟩ := by decide +kernel
theorem pn_com_example_casement_casement_graphics_EllipseEqualsPinLaw : plainName "com/example/casement/casement/graphics/EllipseEqualsPinLaw" = true := by first | (simp [plainName, overriddenIn]; done) | decide +kernel
theorem len_lt {args : Array Value} {s : State} {t : Term} {v : Value} {x : Addr} {cl : Cell} (h : (Term.length t).eval args s none [] s = some v) (ht : t.eval args s none [] s = some (.ref x)) (ha : s.arrayAt? x = some cl) : cl.slots.size < 2 ^ 31 := by
  simp only [Term.eval, Option.bind_eq_bind, ht, Option.bind_some, ha] at h
  split at h
  · assumption
  · cases h
theorem intC_of {s : State} {args : Array Value} {ca : Addr} {cl : Cell} (w0 : (Jvm.Cond.initialized "java/lang/Integer$IntegerCache").before args s = true) (w1 : (Jvm.Cond.laysStatic "java/lang/Integer$IntegerCache" "high" "I").before args s = true) (w2 : (Jvm.Cond.laysStatic "java/lang/Integer$IntegerCache" "cache" "[Ljava/lang/Integer;").before args s = true)
    (w3 : (Jvm.Cond.eq (.static "java/lang/Integer$IntegerCache" "high" "I") (.int 127)).before args s = true) (w6 : (Jvm.Cond.eq (.length (.static "java/lang/Integer$IntegerCache" "cache" "[Ljava/lang/Integer;")) (.int 256)).before args s = true)
    {c : Jvm.Cond} (w7 : (Jvm.Cond.all (.static "java/lang/Integer$IntegerCache" "cache" "[Ljava/lang/Integer;") (.and (.exactly (.elem (.static "java/lang/Integer$IntegerCache" "cache" "[Ljava/lang/Integer;") (.index 0)) "java/lang/Integer") c)).before args s = true) (_ : True = True)
    (evc : (Term.static "java/lang/Integer$IntegerCache" "cache" "[Ljava/lang/Integer;").eval args s none [] s = some (.ref ca)) (A : Arr s s.heap ca cl (.object "java/lang/Integer")) : IntC s ca cl := by
  have hat : s.arrayAt? ca = some cl := IntBox.arrayAt_of A.1 A.2.1 A.2.2
  have hsz : cl.slots.size = 256 := by
    have hl := Cond.eq_int (n := 256) w6 (Term.int_eval _)
    have hlt := len_lt hl evc hat
    have h1 := len_toInt hlt
    have h0 := (len_f evc hat hlt).symm.trans hl
    rw [Value.int.inj (Option.some.inj h0)] at h1
    have h2 : (256 : Int32).toInt = 256 := rfl
    omega
  refine ⟨Sta.start (v := .int 127) ?_ (Or.inr ⟨w0, w1⟩), Sta.start evc (Or.inr ⟨w0, w2⟩), A, hsz, fun j hj => ?_⟩
  · exact Cond.eq_int w3 (Term.int_eval _)
  · have hj' : j < cl.slots.size := by rw [hsz]; exact hj
    have ha := Cond.all_elim evc hat (by simpa [Jvm.Cond.before, Jvm.Cond.holds] using w7) j hj'
    have ha2 := (and_e ha).1
    obtain ⟨b, eb⟩ := exa_v ha2
    have evi : (Term.static "java/lang/Integer$IntegerCache" "cache" "[Ljava/lang/Integer;").eval args s none [j] s = some (.ref ca) := evc
    obtain ⟨hnn, hback⟩ := Jvm.Free.IntBox.place_nonneg j hj
    have ee : (Term.elem (.static "java/lang/Integer$IntegerCache" "cache" "[Ljava/lang/Integer;") (.index 0)).eval args s none [j] s = cl.slots[j]? := by
      rw [elem_f evi (j := j.toInt32) rfl hat hnn, hback]
    exact ⟨b, ee.symm.trans eb, exa_at eb ha2⟩
def eq4 (x0 x1 x2 x3 y0 y1 y2 y3 : Int64) : Int32 := if x0 = y0 then if x1 = y1 then if x2 = y2 then if x3 = y3 then (1 : Int32) else (0 : Int32) else (0 : Int32) else (0 : Int32) else (0 : Int32)
theorem half_nn (v : Int64) : Jvm.Free.Fl.NoNaN64 (Jvm.FP.ddiv (Jvm.FP.l2d v) (4611686018427387904 : UInt64)) :=
  ((ddiv_mag (L := 1024) (Jvm.Free.Fl.l2d_mag v) (by unfold Big64; decide) (by decide) (by decide)).fin (by decide)).noNaN
theorem i64inj {x y : Int32} : x.toInt64 = y.toInt64 ↔ x = y := by
  constructor
  · intro h
    have := congrArg Int64.toInt h
    rw [Int32.toInt_toInt64, Int32.toInt_toInt64] at this
    exact Int32.toInt_inj.mp this
  · intro h; rw [h]
theorem eqE (q1 q2 u1 u2 : Int64) (p3 p4 u3 u4 : Int32) : eq4 q1 q2 p3.toInt64 p4.toInt64 u1 u2 u3.toInt64 u4.toInt64 = (if u1 = q1 then (if u2 = q2 then (if u3 = p3 then (if u4 = p4 then (1 : Int32) else (0 : Int32)) else (0 : Int32)) else (0 : Int32)) else (0 : Int32)) := by
  unfold eq4
  simp only [i64inj, eq_comm (a := q1), eq_comm (a := q2), eq_comm (a := p3), eq_comm (a := p4)]
theorem eqF (q1 q2 u1 u2 : Int64) (p3 p4 u3 u4 : Int32) : eq4 u1 u2 u3.toInt64 u4.toInt64 q1 q2 p3.toInt64 p4.toInt64 = (if u1 = q1 then (if u2 = q2 then (if u3 = p3 then (if u4 = p4 then (1 : Int32) else (0 : Int32)) else (0 : Int32)) else (0 : Int32)) else (0 : Int32)) := by
  unfold eq4
  simp only [i64inj]
set_option maxRecDepth 65536 in
set_option maxHeartbeats 40000000 in
theorem rm_number (l : Launch) (Z : State) (a0 : Array Value) (hw : ∀ d ∈ tables_1, d.before a0 Z = true) (a : Addr) (h0 : Heap) (n0 : Nat) (O0 : Old Z n0 h0)  :
    Rm l (⟨"java/lang/Number", "<init>", "()V"⟩ : MethodName) jdk_18_method_1_code 1 none ({ frames := 1, cells := 0, slots := 0, locals := 12 } : Room) [] Z #[(.ref a)] h0 (fun v h L => v = none ∧ Fr n0 L ∧ h = h0) := by
  refine Rm.of (plainFor_of_name pn_java_lang_Number) ?_
  intro p e s m below meth cod T X hx hZ hby hml hown hnm hret hlk eT0
  have hown : s.vm.findClass "java/lang/Number" = some m.cls := hown
  have hnm : meth.name = "<init>" := hnm
  have N0 := Fr.nil n0
  refine Goes.cast (ef_6 m a) ?_
  show Goes p e below _ T (mkF m 0 #[.val (.ref a)] [])
  refine Goes.of (fun _ => XS.aloadN X.here hx rfl (hb hby d6_0) rfl rfl) ?_
  show Goes p e below _ T (mkF m 1 #[.val (.ref a)] [(.ref a)])
  refine goInitO 0 X hx hZ hown (hw _ (List.mem_of_getElem? (i := 51) rfl)) (hw _ (List.mem_of_getElem? (i := 7) rfl)) (hw _ (List.mem_of_getElem? (i := 8) rfl)) eT0 (g := (mkF m 1 #[.val (.ref a)] [(.ref a)])) rfl (by rw [hml]; rfl) rfl (hb hby d6_1) (by decide) (by show 2 * 0 + _ ≤ _; exact Nat.le_of_eq rfl) (by decide) ?_
  intro T1 X1 eT1
  show Goes p e below _ T1 (mkF m 4 #[.val (.ref a)] [])
  exact retVoid X1 hx hret hlk (hb hby d6_4) eT1 (by decide) (by decide) ⟨rfl, N0, rfl⟩
set_option maxRecDepth 65536 in
set_option maxHeartbeats 40000000 in
theorem rm_intinit (l : Launch) (Z : State) (a0 : Array Value) (hw : ∀ d ∈ tables_1, d.before a0 Z = true) (a : Addr) (i : Int32) (h0 : Heap) (n0 : Nat) (O0 : Old Z n0 h0) (g_a : n0 ≤ a) (Ex : Exa Z h0 a "java/lang/Integer") (F0 : Fld Z h0 a "java/lang/Integer" "value" "I" (.int (0 : Int32))) :
    Rm l (⟨"java/lang/Integer", "<init>", "(I)V"⟩ : MethodName) jdk_33_method_23_code 2 none ({ frames := 2, cells := 0, slots := 0, locals := 24 } : Room) [] Z #[(.ref a), (.int i)] h0 (fun v h L => v = none ∧ Fr n0 L ∧ Keep h0 h [a]) := by
  refine Rm.of (plainFor_of_name pn_java_lang_Integer) ?_
  intro p e s m below meth cod T X hx hZ hby hml hown hnm hret hlk eT0
  have hown : s.vm.findClass "java/lang/Integer" = some m.cls := hown
  have hnm : meth.name = "<init>" := hnm
  have N0 := Fr.nil n0
  have Kp := Keep.refl h0 [a]
  refine Goes.cast (ef_5 m a i) ?_
  show Goes p e below _ T (mkF m 0 #[.val (.ref a), .val (.int i)] [])
  refine Goes.of (fun _ => XS.aloadN X.here hx rfl (hb hby d5_0) rfl rfl) ?_
  show Goes p e below _ T (mkF m 1 #[.val (.ref a), .val (.int i)] [(.ref a)])
  refine goSpecial 0 X hx hZ rfl hown (hw _ (List.mem_of_getElem? (i := 45) rfl)) (hw _ (List.mem_of_getElem? (i := 46) rfl)) (hw _ (List.mem_of_getElem? (i := 49) rfl)) (hw _ (List.mem_of_getElem? (i := 50) rfl)) (by decide) (rm_number l Z a0 hw a h0 n0 O0) eT0 (g := (mkF m 1 #[.val (.ref a), .val (.int i)] [(.ref a)])) rfl (by rw [hml]; rfl) a [] [] (lenOf pd___V rfl) rfl rfl (by show 2 * 0 + _ ≤ _; exact Nat.le_of_eq rfl) (hb hby d5_1) (by decide) (by decide) (by decide) (by decide) ?_
  intro v1 T1 L1 X1 q1
  obtain ⟨rfl, Nq1, eT1⟩ := q1
  have N1 := Fr.app N0 Nq1
  show Goes p e below _ T1 (mkF m 4 #[.val (.ref a), .val (.int i)] [])
  refine Goes.of (fun _ => XS.aloadN X1.here hx rfl (hb hby d5_4) rfl rfl) ?_
  show Goes p e below _ T1 (mkF m 5 #[.val (.ref a), .val (.int i)] [(.ref a)])
  refine Goes.of (fun _ => XS.iloadN X1.here hx rfl (hb hby d5_5) rfl) ?_
  show Goes p e below _ T1 (mkF m 6 #[.val (.ref a), .val (.int i)] [(.int i), (.ref a)])
  refine goPut (ty := .int) X1 hx hZ hown (host := "") (Or.inl (hw _ (List.mem_of_getElem? (i := 52) rfl))) Via.refl eT1 F0 Ex (Or.inr ⟨(hw _ (List.mem_of_getElem? (i := 53) rfl)), rfl, hnm⟩) (hw _ (List.mem_of_getElem? (i := 40) rfl)) (by decide) rfl rfl (g := (mkF m 6 #[.val (.ref a), .val (.int i)] [(.int i), (.ref a)])) rfl rfl (hb hby d5_6) ?_
  intro T2 h2 X2 eT2 W2
  have F0 := Fld.same W2 F0
  have N2 := Fr.snoc X2 N1 g_a
  have Ex := Ex.wr W2
  have Kp := Kp.wr W2 (Or.inl (List.mem_of_getElem? (i := 0) rfl))
  have O0 := O0.wr W2 g_a
  show Goes p e below _ T2 (mkF m 9 #[.val (.ref a), .val (.int i)] [])
  exact retVoid X2 hx hret hlk (hb hby d5_9) eT2 (by decide) (by decide) ⟨rfl, N2, Kp⟩
set_option maxRecDepth 65536 in
set_option maxHeartbeats 40000000 in
theorem rm_valueOf (l : Launch) (Z : State) (a0 : Array Value) (hw : ∀ d ∈ tables_1, d.before a0 Z = true) (i : Int32) (ca : Addr) (cl : Cell) (h0 : Heap) (n0 : Nat) (O0 : Old Z n0 h0) (IC0 : IntC Z ca cl) :
    Rm l (⟨"java/lang/Integer", "valueOf", "(I)Ljava/lang/Integer;"⟩ : MethodName) jdk_33_method_22_code 1 (some (.object "java/lang/Integer")) ({ frames := 3, cells := 1, slots := 1, locals := 38 } : Room) [] Z #[(.int i)] h0 (fun v h L => ∃ b, v = some (.ref b) ∧ Fr n0 L ∧ Keep h0 h [] ∧ Exa Z h b "java/lang/Integer") := by
  refine Rm.of (plainFor_of_name pn_java_lang_Integer) ?_
  intro p e s m below meth cod T X hx hZ hby hml hown hnm hret hlk eT0
  have hown : s.vm.findClass "java/lang/Integer" = some m.cls := hown
  have hnm : meth.name = "valueOf" := hnm
  have N0 := Fr.nil n0
  have Kp := Keep.refl h0 []
  refine Goes.cast (ef_3 m i) ?_
  show Goes p e below _ T (mkF m 0 #[.val (.int i)] [])
  refine Goes.of (fun _ => XS.iloadN X.here hx rfl (hb hby d3_0) rfl) ?_
  show Goes p e below _ T (mkF m 1 #[.val (.int i)] [(.int i)])
  refine Goes.of (fun _ => XS.bipush X.here hx rfl (hb hby d3_1)) ?_
  show Goes p e below _ T (mkF m 3 #[.val (.int i)] [(.int (-128 : Int32)), (.int i)])
  by_cases hpc3 : i < (-128 : Int32)
  · refine Goes.of (fun _ => XS.icmpYes X.here hx rfl (pc0 := 3) (pc' := 23) rfl (hb hby d3_3) rfl (tlt hpc3).1 (by decide) (by decide)) ?_
    show Goes p e below _ T (mkF m 23 #[.val (.int i)] [])
    refine goNew X hx hZ hown (hw _ (List.mem_of_getElem? (i := 39) rfl)) (hw _ (List.mem_of_getElem? (i := 40) rfl)) (hw _ (List.mem_of_getElem? (i := 24) rfl)) eT0 (g := (mkF m 23 #[.val (.int i)] [])) rfl (hb hby d3_23) (by decide) (by decide) ?_
    intro T1 h1 b1 X1 eT1 E1 hb1 A1 D1
    have g_b1 : n0 ≤ b1 := Nat.le_trans (oldLe O0) hb1
    have sz_b1 : h0.size ≤ b1 := Nat.le_trans Kp.1 hb1
    have Kp := Kp.ext E1
    have O0 := O0.ext E1
    have F1_value : Fld Z h1 b1 "java/lang/Integer" "value" "I" (.int (0 : Int32)) := D1 (Or.inr (hw _ (List.mem_of_getElem? (i := 53) rfl))) (ty := .int) (by decide)
    show Goes p e below _ T1 (mkF m 26 #[.val (.int i)] [(.ref b1)])
    refine Goes.of (fun _ => XS.dup X1.here hx rfl (hb hby d3_26) rfl rfl) ?_
    show Goes p e below _ T1 (mkF m 27 #[.val (.int i)] [(.ref b1), (.ref b1)])
    refine Goes.of (fun _ => XS.iloadN X1.here hx rfl (hb hby d3_27) rfl) ?_
    show Goes p e below _ T1 (mkF m 28 #[.val (.int i)] [(.int i), (.ref b1), (.ref b1)])
    refine goSpecial 1 X1 hx hZ rfl hown (hw _ (List.mem_of_getElem? (i := 41) rfl)) (hw _ (List.mem_of_getElem? (i := 42) rfl)) (hw _ (List.mem_of_getElem? (i := 24) rfl)) (hw _ (List.mem_of_getElem? (i := 44) rfl)) (by decide) (rm_intinit l Z a0 hw b1 i h1 n0 O0 g_b1 A1 F1_value) eT1 (g := (mkF m 28 #[.val (.int i)] [(.int i), (.ref b1), (.ref b1)])) rfl (by rw [hml]; rfl) b1 [(.int i)] [(.ref b1)] (lenOf pd__I_V rfl) rfl rfl (by show 2 * 0 + _ ≤ _; exact Nat.le_of_eq rfl) (hb hby d3_28) (by decide) (by decide) (by decide) (by decide) ?_
    intro v2 T2 L2 X2 q2
    obtain ⟨rfl, Nq2, Kq2⟩ := q2
    have N2 := Fr.app N0 Nq2
    have A1 := A1.keep Kq2
    have Kp := Kp.trans Kq2 (allS (Or.inr sz_b1) all0)
    have O0 := O0.keep Kq2 (allS g_b1 all0)
    show Goes p e below _ T2 (mkF m 31 #[.val (.int i)] [(.ref b1)])
    exact retRef X2 hx hret hlk rfl rfl (hb hby d3_31) (rfl : T2.heap = _) (by decide) (by decide) ⟨b1, rfl, N2, Kp, A1⟩
  · refine Goes.of (fun _ => XS.icmpNo X.here hx rfl (hb hby d3_3) rfl (flt hpc3).1) ?_
    show Goes p e below _ T (mkF m 6 #[.val (.int i)] [])
    refine Goes.of (fun _ => XS.iloadN X.here hx rfl (hb hby d3_6) rfl) ?_
    show Goes p e below _ T (mkF m 7 #[.val (.int i)] [(.int i)])
    refine goGetS X hx hZ hown (host := "") (Or.inl (hw _ (List.mem_of_getElem? (i := 26) rfl))) Via.refl eT0 (IC0.1.ext O0.2) (g := (mkF m 7 #[.val (.int i)] [(.int i)])) rfl (hb hby d3_7) ?_
    intro T3 X3 eT3
    show Goes p e below _ T3 (mkF m 10 #[.val (.int i)] [(.int (127 : Int32)), (.int i)])
    by_cases hpc10 : (127 : Int32) < i
    · refine Goes.of (fun _ => XS.icmpYes X3.here hx rfl (pc0 := 10) (pc' := 23) rfl (hb hby d3_10) rfl (tlt hpc10).2.2.1 (by decide) (by decide)) ?_
      show Goes p e below _ T3 (mkF m 23 #[.val (.int i)] [])
      refine goNew X3 hx hZ hown (hw _ (List.mem_of_getElem? (i := 39) rfl)) (hw _ (List.mem_of_getElem? (i := 40) rfl)) (hw _ (List.mem_of_getElem? (i := 24) rfl)) eT3 (g := (mkF m 23 #[.val (.int i)] [])) rfl (hb hby d3_23) (by decide) (by decide) ?_
      intro T4 h4 b4 X4 eT4 E4 hb4 A4 D4
      have g_b4 : n0 ≤ b4 := Nat.le_trans (oldLe O0) hb4
      have sz_b4 : h0.size ≤ b4 := Nat.le_trans Kp.1 hb4
      have Kp := Kp.ext E4
      have O0 := O0.ext E4
      have F4_value : Fld Z h4 b4 "java/lang/Integer" "value" "I" (.int (0 : Int32)) := D4 (Or.inr (hw _ (List.mem_of_getElem? (i := 53) rfl))) (ty := .int) (by decide)
      show Goes p e below _ T4 (mkF m 26 #[.val (.int i)] [(.ref b4)])
      refine Goes.of (fun _ => XS.dup X4.here hx rfl (hb hby d3_26) rfl rfl) ?_
      show Goes p e below _ T4 (mkF m 27 #[.val (.int i)] [(.ref b4), (.ref b4)])
      refine Goes.of (fun _ => XS.iloadN X4.here hx rfl (hb hby d3_27) rfl) ?_
      show Goes p e below _ T4 (mkF m 28 #[.val (.int i)] [(.int i), (.ref b4), (.ref b4)])
      refine goSpecial 1 X4 hx hZ rfl hown (hw _ (List.mem_of_getElem? (i := 41) rfl)) (hw _ (List.mem_of_getElem? (i := 42) rfl)) (hw _ (List.mem_of_getElem? (i := 24) rfl)) (hw _ (List.mem_of_getElem? (i := 44) rfl)) (by decide) (rm_intinit l Z a0 hw b4 i h4 n0 O0 g_b4 A4 F4_value) eT4 (g := (mkF m 28 #[.val (.int i)] [(.int i), (.ref b4), (.ref b4)])) rfl (by rw [hml]; rfl) b4 [(.int i)] [(.ref b4)] (lenOf pd__I_V rfl) rfl rfl (by show 2 * 0 + _ ≤ _; exact Nat.le_of_eq rfl) (hb hby d3_28) (by decide) (by decide) (by decide) (by decide) ?_
      intro v5 T5 L5 X5 q5
      obtain ⟨rfl, Nq5, Kq5⟩ := q5
      have N5 := Fr.app N0 Nq5
      have A4 := A4.keep Kq5
      have Kp := Kp.trans Kq5 (allS (Or.inr sz_b4) all0)
      have O0 := O0.keep Kq5 (allS g_b4 all0)
      show Goes p e below _ T5 (mkF m 31 #[.val (.int i)] [(.ref b4)])
      exact retRef X5 hx hret hlk rfl rfl (hb hby d3_31) (rfl : T5.heap = _) (by decide) (by decide) ⟨b4, rfl, N5, Kp, A4⟩
    · refine Goes.of (fun _ => XS.icmpNo X3.here hx rfl (hb hby d3_10) rfl (flt hpc10).2.2.1) ?_
      show Goes p e below _ T3 (mkF m 13 #[.val (.int i)] [])
      refine goGetS X3 hx hZ hown (host := "") (Or.inl (hw _ (List.mem_of_getElem? (i := 28) rfl))) Via.refl eT3 (IC0.2.1.ext O0.2) (g := (mkF m 13 #[.val (.int i)] [])) rfl (hb hby d3_13) ?_
      intro T6 X6 eT6
      show Goes p e below _ T6 (mkF m 16 #[.val (.int i)] [(.ref ca)])
      refine Goes.of (fun _ => XS.iloadN X6.here hx rfl (hb hby d3_16) rfl) ?_
      show Goes p e below _ T6 (mkF m 17 #[.val (.int i)] [(.int i), (.ref ca)])
      refine Goes.of (fun _ => XS.sipush X6.here hx rfl (hb hby d3_17)) ?_
      show Goes p e below _ T6 (mkF m 20 #[.val (.int i)] [(.int (128 : Int32)), (.int i), (.ref ca)])
      refine Goes.of (fun _ => XS.iadd X6.here hx rfl (hb hby d3_20) rfl) ?_
      show Goes p e below _ T6 (mkF m 21 #[.val (.int i)] [(.int (i + (128 : Int32))), (.ref ca)])
      obtain ⟨hin, hlt⟩ := Jvm.Free.IntBox.place_ok i hpc3 hpc10
      obtain ⟨bc, hbc, Ebc⟩ := IC0.2.2.2.2 _ hlt
      refine Goes.of (X6.aaload hx (v := .ref bc) (by rw [eT6]; exact (IC0.2.2.1.ext O0.2).1) (State.isArrayOf_alike hZ.alike IC0.2.2.1.2.1) rfl IC0.2.2.1.2.2 (by rw [IC0.2.2.2.1]; exact hin) hbc (g := (mkF m 21 #[.val (.int i)] [(.int (i + (128 : Int32))), (.ref ca)])) rfl rfl (hb hby d3_21)) ?_
      show Goes p e below _ T6 (mkF m 22 #[.val (.int i)] [(.ref bc)])
      exact retRef X6 hx hret hlk rfl rfl (hb hby d3_22) eT6 (by decide) (by decide) ⟨bc, rfl, N0, Kp, (Ebc.ext O0.2)⟩
set_option maxRecDepth 65536 in
set_option maxHeartbeats 40000000 in
theorem rm_init (l : Launch) (Z : State) (a0 : Array Value) (hw : ∀ d ∈ tables_1, d.before a0 Z = true) (a : Addr) (x0 x1 : Int64) (x2 x3 : Int32) (h0 : Heap) (n0 : Nat) (O0 : Old Z n0 h0) (g_a : n0 ≤ a) (Ex : Exa Z h0 a "com/example/casement/casement/graphics/Ellipse") (F0 : Fld Z h0 a "com/example/casement/casement/graphics/Ellipse" "doubledX" "J" (.long (0 : Int64))) (F1 : Fld Z h0 a "com/example/casement/casement/graphics/Ellipse" "doubledY" "J" (.long (0 : Int64))) (F2 : Fld Z h0 a "com/example/casement/casement/graphics/Ellipse" "width" "J" (.long (0 : Int64))) (F3 : Fld Z h0 a "com/example/casement/casement/graphics/Ellipse" "height" "J" (.long (0 : Int64))) (D0 : Fld Z h0 a "com/example/casement/casement/graphics/Ellipse" "cx" "D" (.double (0 : UInt64))) (D1 : Fld Z h0 a "com/example/casement/casement/graphics/Ellipse" "cy" "D" (.double (0 : UInt64))) :
    Rm l (⟨"com/example/casement/casement/graphics/Ellipse", "<init>", "(JJII)V"⟩ : MethodName) prog_13_method_1_code 7 none ({ frames := 1, cells := 0, slots := 0, locals := 12 } : Room) [] Z #[(.ref a), (.long x0), (.long x1), (.int x2), (.int x3)] h0 (fun v h L => v = none ∧ Fr n0 L ∧ Keep h0 h [a] ∧ Fld Z h a "com/example/casement/casement/graphics/Ellipse" "doubledX" "J" (.long x0) ∧ Fld Z h a "com/example/casement/casement/graphics/Ellipse" "doubledY" "J" (.long x1) ∧ Fld Z h a "com/example/casement/casement/graphics/Ellipse" "width" "J" (.long x2.toInt64) ∧ Fld Z h a "com/example/casement/casement/graphics/Ellipse" "height" "J" (.long x3.toInt64)) := by
  refine Rm.of (plainFor_of_name pn_com_example_casement_casement_graphics_Ellipse) ?_
  intro p e s m below meth cod T X hx hZ hby hml hown hnm hret hlk eT0
  have hown : s.vm.findClass "com/example/casement/casement/graphics/Ellipse" = some m.cls := hown
  have hnm : meth.name = "<init>" := hnm
  have N0 := Fr.nil n0
  have Kp := Keep.refl h0 [a]
  refine Goes.cast (ef_1 m a x0 x1 x2 x3) ?_
  show Goes p e below _ T (mkF m 0 #[.val (.ref a), .val (.long x0), .second, .val (.long x1), .second, .val (.int x2), .val (.int x3)] [])
  refine Goes.of (fun _ => XS.aloadN X.here hx rfl (hb hby d1_0) rfl rfl) ?_
  show Goes p e below _ T (mkF m 1 #[.val (.ref a), .val (.long x0), .second, .val (.long x1), .second, .val (.int x2), .val (.int x3)] [(.ref a)])
  refine goInitO 0 X hx hZ hown (hw _ (List.mem_of_getElem? (i := 6) rfl)) (hw _ (List.mem_of_getElem? (i := 7) rfl)) (hw _ (List.mem_of_getElem? (i := 8) rfl)) eT0 (g := (mkF m 1 #[.val (.ref a), .val (.long x0), .second, .val (.long x1), .second, .val (.int x2), .val (.int x3)] [(.ref a)])) rfl (by rw [hml]; rfl) rfl (hb hby d1_1) (by decide) (by show 2 * 0 + _ ≤ _; exact Nat.le_of_eq rfl) (by decide) ?_
  intro T1 X1 eT1
  show Goes p e below _ T1 (mkF m 4 #[.val (.ref a), .val (.long x0), .second, .val (.long x1), .second, .val (.int x2), .val (.int x3)] [])
  refine Goes.of (fun _ => XS.aloadN X1.here hx rfl (hb hby d1_4) rfl rfl) ?_
  show Goes p e below _ T1 (mkF m 5 #[.val (.ref a), .val (.long x0), .second, .val (.long x1), .second, .val (.int x2), .val (.int x3)] [(.ref a)])
  refine Goes.of (fun _ => XS.lloadN X1.here hx rfl (hb hby d1_5) rfl) ?_
  show Goes p e below _ T1 (mkF m 6 #[.val (.ref a), .val (.long x0), .second, .val (.long x1), .second, .val (.int x2), .val (.int x3)] [(.long x0), (.ref a)])
  refine goPut (ty := .long) X1 hx hZ hown (host := "") (Or.inl (hw _ (List.mem_of_getElem? (i := 9) rfl))) Via.refl eT1 F0 Ex (Or.inr ⟨(hw _ (List.mem_of_getElem? (i := 10) rfl)), rfl, hnm⟩) (hw _ (List.mem_of_getElem? (i := 1) rfl)) (by decide) rfl rfl (g := (mkF m 6 #[.val (.ref a), .val (.long x0), .second, .val (.long x1), .second, .val (.int x2), .val (.int x3)] [(.long x0), (.ref a)])) rfl rfl (hb hby d1_6) ?_
  intro T2 h2 X2 eT2 W2
  have F0 := Fld.same W2 F0
  have N2 := Fr.snoc X2 N0 g_a
  have Ex := Ex.wr W2
  have F1 := F1.other W2 (Or.inr (slot_ne (Or.inr (hw _ (List.mem_of_getElem? (i := 12) rfl))) (Or.inr (hw _ (List.mem_of_getElem? (i := 10) rfl))) (by decide) (t := .long) (t' := .long) (by decide) (by decide)))
  have F2 := F2.other W2 (Or.inr (slot_ne (Or.inr (hw _ (List.mem_of_getElem? (i := 14) rfl))) (Or.inr (hw _ (List.mem_of_getElem? (i := 10) rfl))) (by decide) (t := .long) (t' := .long) (by decide) (by decide)))
  have F3 := F3.other W2 (Or.inr (slot_ne (Or.inr (hw _ (List.mem_of_getElem? (i := 16) rfl))) (Or.inr (hw _ (List.mem_of_getElem? (i := 10) rfl))) (by decide) (t := .long) (t' := .long) (by decide) (by decide)))
  have D0 := D0.other W2 (Or.inr (slot_ne (Or.inr (hw _ (List.mem_of_getElem? (i := 19) rfl))) (Or.inr (hw _ (List.mem_of_getElem? (i := 10) rfl))) (by decide) (t := .double) (t' := .long) (by decide) (by decide)))
  have D1 := D1.other W2 (Or.inr (slot_ne (Or.inr (hw _ (List.mem_of_getElem? (i := 21) rfl))) (Or.inr (hw _ (List.mem_of_getElem? (i := 10) rfl))) (by decide) (t := .double) (t' := .long) (by decide) (by decide)))
  have Kp := Kp.wr W2 (Or.inl (List.mem_of_getElem? (i := 0) rfl))
  have O0 := O0.wr W2 g_a
  show Goes p e below _ T2 (mkF m 9 #[.val (.ref a), .val (.long x0), .second, .val (.long x1), .second, .val (.int x2), .val (.int x3)] [])
  refine Goes.of (fun _ => XS.aloadN X2.here hx rfl (hb hby d1_9) rfl rfl) ?_
  show Goes p e below _ T2 (mkF m 10 #[.val (.ref a), .val (.long x0), .second, .val (.long x1), .second, .val (.int x2), .val (.int x3)] [(.ref a)])
  refine Goes.of (fun _ => XS.lloadN X2.here hx rfl (hb hby d1_10) rfl) ?_
  show Goes p e below _ T2 (mkF m 11 #[.val (.ref a), .val (.long x0), .second, .val (.long x1), .second, .val (.int x2), .val (.int x3)] [(.long x1), (.ref a)])
  refine goPut (ty := .long) X2 hx hZ hown (host := "") (Or.inl (hw _ (List.mem_of_getElem? (i := 11) rfl))) Via.refl eT2 F1 Ex (Or.inr ⟨(hw _ (List.mem_of_getElem? (i := 12) rfl)), rfl, hnm⟩) (hw _ (List.mem_of_getElem? (i := 1) rfl)) (by decide) rfl rfl (g := (mkF m 11 #[.val (.ref a), .val (.long x0), .second, .val (.long x1), .second, .val (.int x2), .val (.int x3)] [(.long x1), (.ref a)])) rfl rfl (hb hby d1_11) ?_
  intro T3 h3 X3 eT3 W3
  have F1 := Fld.same W3 F1
  have N3 := Fr.snoc X3 N2 g_a
  have Ex := Ex.wr W3
  have F0 := F0.other W3 (Or.inr (slot_ne (Or.inr (hw _ (List.mem_of_getElem? (i := 10) rfl))) (Or.inr (hw _ (List.mem_of_getElem? (i := 12) rfl))) (by decide) (t := .long) (t' := .long) (by decide) (by decide)))
  have F2 := F2.other W3 (Or.inr (slot_ne (Or.inr (hw _ (List.mem_of_getElem? (i := 14) rfl))) (Or.inr (hw _ (List.mem_of_getElem? (i := 12) rfl))) (by decide) (t := .long) (t' := .long) (by decide) (by decide)))
  have F3 := F3.other W3 (Or.inr (slot_ne (Or.inr (hw _ (List.mem_of_getElem? (i := 16) rfl))) (Or.inr (hw _ (List.mem_of_getElem? (i := 12) rfl))) (by decide) (t := .long) (t' := .long) (by decide) (by decide)))
  have D0 := D0.other W3 (Or.inr (slot_ne (Or.inr (hw _ (List.mem_of_getElem? (i := 19) rfl))) (Or.inr (hw _ (List.mem_of_getElem? (i := 12) rfl))) (by decide) (t := .double) (t' := .long) (by decide) (by decide)))
  have D1 := D1.other W3 (Or.inr (slot_ne (Or.inr (hw _ (List.mem_of_getElem? (i := 21) rfl))) (Or.inr (hw _ (List.mem_of_getElem? (i := 12) rfl))) (by decide) (t := .double) (t' := .long) (by decide) (by decide)))
  have Kp := Kp.wr W3 (Or.inl (List.mem_of_getElem? (i := 0) rfl))
  have O0 := O0.wr W3 g_a
  show Goes p e below _ T3 (mkF m 14 #[.val (.ref a), .val (.long x0), .second, .val (.long x1), .second, .val (.int x2), .val (.int x3)] [])
  refine Goes.of (fun _ => XS.aloadN X3.here hx rfl (hb hby d1_14) rfl rfl) ?_
  show Goes p e below _ T3 (mkF m 15 #[.val (.ref a), .val (.long x0), .second, .val (.long x1), .second, .val (.int x2), .val (.int x3)] [(.ref a)])
  refine Goes.of (fun _ => XS.iload X3.here hx rfl (hb hby d1_15) rfl) ?_
  show Goes p e below _ T3 (mkF m 17 #[.val (.ref a), .val (.long x0), .second, .val (.long x1), .second, .val (.int x2), .val (.int x3)] [(.int x2), (.ref a)])
  refine Goes.of (fun _ => XS.i2l X3.here hx rfl (hb hby d1_17) rfl) ?_
  show Goes p e below _ T3 (mkF m 18 #[.val (.ref a), .val (.long x0), .second, .val (.long x1), .second, .val (.int x2), .val (.int x3)] [(.long (x2.toInt64)), (.ref a)])
  refine goPut (ty := .long) X3 hx hZ hown (host := "") (Or.inl (hw _ (List.mem_of_getElem? (i := 13) rfl))) Via.refl eT3 F2 Ex (Or.inr ⟨(hw _ (List.mem_of_getElem? (i := 14) rfl)), rfl, hnm⟩) (hw _ (List.mem_of_getElem? (i := 1) rfl)) (by decide) rfl rfl (g := (mkF m 18 #[.val (.ref a), .val (.long x0), .second, .val (.long x1), .second, .val (.int x2), .val (.int x3)] [(.long (x2.toInt64)), (.ref a)])) rfl rfl (hb hby d1_18) ?_
  intro T4 h4 X4 eT4 W4
  have F2 := Fld.same W4 F2
  have N4 := Fr.snoc X4 N3 g_a
  have Ex := Ex.wr W4
  have F0 := F0.other W4 (Or.inr (slot_ne (Or.inr (hw _ (List.mem_of_getElem? (i := 10) rfl))) (Or.inr (hw _ (List.mem_of_getElem? (i := 14) rfl))) (by decide) (t := .long) (t' := .long) (by decide) (by decide)))
  have F1 := F1.other W4 (Or.inr (slot_ne (Or.inr (hw _ (List.mem_of_getElem? (i := 12) rfl))) (Or.inr (hw _ (List.mem_of_getElem? (i := 14) rfl))) (by decide) (t := .long) (t' := .long) (by decide) (by decide)))
  have F3 := F3.other W4 (Or.inr (slot_ne (Or.inr (hw _ (List.mem_of_getElem? (i := 16) rfl))) (Or.inr (hw _ (List.mem_of_getElem? (i := 14) rfl))) (by decide) (t := .long) (t' := .long) (by decide) (by decide)))
  have D0 := D0.other W4 (Or.inr (slot_ne (Or.inr (hw _ (List.mem_of_getElem? (i := 19) rfl))) (Or.inr (hw _ (List.mem_of_getElem? (i := 14) rfl))) (by decide) (t := .double) (t' := .long) (by decide) (by decide)))
  have D1 := D1.other W4 (Or.inr (slot_ne (Or.inr (hw _ (List.mem_of_getElem? (i := 21) rfl))) (Or.inr (hw _ (List.mem_of_getElem? (i := 14) rfl))) (by decide) (t := .double) (t' := .long) (by decide) (by decide)))
  have Kp := Kp.wr W4 (Or.inl (List.mem_of_getElem? (i := 0) rfl))
  have O0 := O0.wr W4 g_a
  show Goes p e below _ T4 (mkF m 21 #[.val (.ref a), .val (.long x0), .second, .val (.long x1), .second, .val (.int x2), .val (.int x3)] [])
  refine Goes.of (fun _ => XS.aloadN X4.here hx rfl (hb hby d1_21) rfl rfl) ?_
  show Goes p e below _ T4 (mkF m 22 #[.val (.ref a), .val (.long x0), .second, .val (.long x1), .second, .val (.int x2), .val (.int x3)] [(.ref a)])
  refine Goes.of (fun _ => XS.iload X4.here hx rfl (hb hby d1_22) rfl) ?_
  show Goes p e below _ T4 (mkF m 24 #[.val (.ref a), .val (.long x0), .second, .val (.long x1), .second, .val (.int x2), .val (.int x3)] [(.int x3), (.ref a)])
  refine Goes.of (fun _ => XS.i2l X4.here hx rfl (hb hby d1_24) rfl) ?_
  show Goes p e below _ T4 (mkF m 25 #[.val (.ref a), .val (.long x0), .second, .val (.long x1), .second, .val (.int x2), .val (.int x3)] [(.long (x3.toInt64)), (.ref a)])
  refine goPut (ty := .long) X4 hx hZ hown (host := "") (Or.inl (hw _ (List.mem_of_getElem? (i := 15) rfl))) Via.refl eT4 F3 Ex (Or.inr ⟨(hw _ (List.mem_of_getElem? (i := 16) rfl)), rfl, hnm⟩) (hw _ (List.mem_of_getElem? (i := 1) rfl)) (by decide) rfl rfl (g := (mkF m 25 #[.val (.ref a), .val (.long x0), .second, .val (.long x1), .second, .val (.int x2), .val (.int x3)] [(.long (x3.toInt64)), (.ref a)])) rfl rfl (hb hby d1_25) ?_
  intro T5 h5 X5 eT5 W5
  have F3 := Fld.same W5 F3
  have N5 := Fr.snoc X5 N4 g_a
  have Ex := Ex.wr W5
  have F0 := F0.other W5 (Or.inr (slot_ne (Or.inr (hw _ (List.mem_of_getElem? (i := 10) rfl))) (Or.inr (hw _ (List.mem_of_getElem? (i := 16) rfl))) (by decide) (t := .long) (t' := .long) (by decide) (by decide)))
  have F1 := F1.other W5 (Or.inr (slot_ne (Or.inr (hw _ (List.mem_of_getElem? (i := 12) rfl))) (Or.inr (hw _ (List.mem_of_getElem? (i := 16) rfl))) (by decide) (t := .long) (t' := .long) (by decide) (by decide)))
  have F2 := F2.other W5 (Or.inr (slot_ne (Or.inr (hw _ (List.mem_of_getElem? (i := 14) rfl))) (Or.inr (hw _ (List.mem_of_getElem? (i := 16) rfl))) (by decide) (t := .long) (t' := .long) (by decide) (by decide)))
  have D0 := D0.other W5 (Or.inr (slot_ne (Or.inr (hw _ (List.mem_of_getElem? (i := 19) rfl))) (Or.inr (hw _ (List.mem_of_getElem? (i := 16) rfl))) (by decide) (t := .double) (t' := .long) (by decide) (by decide)))
  have D1 := D1.other W5 (Or.inr (slot_ne (Or.inr (hw _ (List.mem_of_getElem? (i := 21) rfl))) (Or.inr (hw _ (List.mem_of_getElem? (i := 16) rfl))) (by decide) (t := .double) (t' := .long) (by decide) (by decide)))
  have Kp := Kp.wr W5 (Or.inl (List.mem_of_getElem? (i := 0) rfl))
  have O0 := O0.wr W5 g_a
  show Goes p e below _ T5 (mkF m 28 #[.val (.ref a), .val (.long x0), .second, .val (.long x1), .second, .val (.int x2), .val (.int x3)] [])
  refine Goes.of (fun _ => XS.aloadN X5.here hx rfl (hb hby d1_28) rfl rfl) ?_
  show Goes p e below _ T5 (mkF m 29 #[.val (.ref a), .val (.long x0), .second, .val (.long x1), .second, .val (.int x2), .val (.int x3)] [(.ref a)])
  refine Goes.of (fun _ => XS.lloadN X5.here hx rfl (hb hby d1_29) rfl) ?_
  show Goes p e below _ T5 (mkF m 30 #[.val (.ref a), .val (.long x0), .second, .val (.long x1), .second, .val (.int x2), .val (.int x3)] [(.long x0), (.ref a)])
  refine Goes.of (fun _ => XS.iload X5.here hx rfl (hb hby d1_30) rfl) ?_
  show Goes p e below _ T5 (mkF m 32 #[.val (.ref a), .val (.long x0), .second, .val (.long x1), .second, .val (.int x2), .val (.int x3)] [(.int x2), (.long x0), (.ref a)])
  refine Goes.of (fun _ => XS.i2l X5.here hx rfl (hb hby d1_32) rfl) ?_
  show Goes p e below _ T5 (mkF m 33 #[.val (.ref a), .val (.long x0), .second, .val (.long x1), .second, .val (.int x2), .val (.int x3)] [(.long (x2.toInt64)), (.long x0), (.ref a)])
  refine Goes.of (fun _ => XS.ladd X5.here hx rfl (hb hby d1_33) rfl) ?_
  show Goes p e below _ T5 (mkF m 34 #[.val (.ref a), .val (.long x0), .second, .val (.long x1), .second, .val (.int x2), .val (.int x3)] [(.long (x0 + (x2.toInt64))), (.ref a)])
  refine Goes.of (fun _ => XS.l2dS X5.here hx rfl (hb hby d1_34) rfl rfl) ?_
  show Goes p e below _ T5 (mkF m 35 #[.val (.ref a), .val (.long x0), .second, .val (.long x1), .second, .val (.int x2), .val (.int x3)] [(.double (Jvm.FP.l2d (x0 + (x2.toInt64)))), (.ref a)])
  refine Goes.of (fun _ => X5.ldc2DoubleC hx hown (mvT hZ (hw _ (List.mem_of_getElem? (i := 17) rfl))) (g := (mkF m 35 #[.val (.ref a), .val (.long x0), .second, .val (.long x1), .second, .val (.int x2), .val (.int x3)] [(.double (Jvm.FP.l2d (x0 + (x2.toInt64)))), (.ref a)])) rfl (hb hby d1_35) _) ?_
  show Goes p e below _ T5 (mkF m 38 #[.val (.ref a), .val (.long x0), .second, .val (.long x1), .second, .val (.int x2), .val (.int x3)] [(.double (4611686018427387904 : UInt64)), (.double (Jvm.FP.l2d (x0 + (x2.toInt64)))), (.ref a)])
  refine Goes.of (fun _ => XS.ddivS X5.here hx rfl (hb hby d1_38) rfl (half_nn _) rfl) ?_
  show Goes p e below _ T5 (mkF m 39 #[.val (.ref a), .val (.long x0), .second, .val (.long x1), .second, .val (.int x2), .val (.int x3)] [(.double (Jvm.FP.ddiv (Jvm.FP.l2d (x0 + (x2.toInt64))) (4611686018427387904 : UInt64))), (.ref a)])
  refine goPut (ty := .double) X5 hx hZ hown (host := "") (Or.inl (hw _ (List.mem_of_getElem? (i := 18) rfl))) Via.refl eT5 D0 Ex (Or.inr ⟨(hw _ (List.mem_of_getElem? (i := 19) rfl)), rfl, hnm⟩) (hw _ (List.mem_of_getElem? (i := 1) rfl)) (by decide) rfl rfl (g := (mkF m 39 #[.val (.ref a), .val (.long x0), .second, .val (.long x1), .second, .val (.int x2), .val (.int x3)] [(.double (Jvm.FP.ddiv (Jvm.FP.l2d (x0 + (x2.toInt64))) (4611686018427387904 : UInt64))), (.ref a)])) rfl rfl (hb hby d1_39) ?_
  intro T6 h6 X6 eT6 W6
  have D0 := Fld.same W6 D0
  have N6 := Fr.snoc X6 N5 g_a
  have Ex := Ex.wr W6
  have F0 := F0.other W6 (Or.inr (slot_ne (Or.inr (hw _ (List.mem_of_getElem? (i := 10) rfl))) (Or.inr (hw _ (List.mem_of_getElem? (i := 19) rfl))) (by decide) (t := .long) (t' := .double) (by decide) (by decide)))
  have F1 := F1.other W6 (Or.inr (slot_ne (Or.inr (hw _ (List.mem_of_getElem? (i := 12) rfl))) (Or.inr (hw _ (List.mem_of_getElem? (i := 19) rfl))) (by decide) (t := .long) (t' := .double) (by decide) (by decide)))
  have F2 := F2.other W6 (Or.inr (slot_ne (Or.inr (hw _ (List.mem_of_getElem? (i := 14) rfl))) (Or.inr (hw _ (List.mem_of_getElem? (i := 19) rfl))) (by decide) (t := .long) (t' := .double) (by decide) (by decide)))
  have F3 := F3.other W6 (Or.inr (slot_ne (Or.inr (hw _ (List.mem_of_getElem? (i := 16) rfl))) (Or.inr (hw _ (List.mem_of_getElem? (i := 19) rfl))) (by decide) (t := .long) (t' := .double) (by decide) (by decide)))
  have D1 := D1.other W6 (Or.inr (slot_ne (Or.inr (hw _ (List.mem_of_getElem? (i := 21) rfl))) (Or.inr (hw _ (List.mem_of_getElem? (i := 19) rfl))) (by decide) (t := .double) (t' := .double) (by decide) (by decide)))
  have Kp := Kp.wr W6 (Or.inl (List.mem_of_getElem? (i := 0) rfl))
  have O0 := O0.wr W6 g_a
  show Goes p e below _ T6 (mkF m 42 #[.val (.ref a), .val (.long x0), .second, .val (.long x1), .second, .val (.int x2), .val (.int x3)] [])
  refine Goes.of (fun _ => XS.aloadN X6.here hx rfl (hb hby d1_42) rfl rfl) ?_
  show Goes p e below _ T6 (mkF m 43 #[.val (.ref a), .val (.long x0), .second, .val (.long x1), .second, .val (.int x2), .val (.int x3)] [(.ref a)])
  refine Goes.of (fun _ => XS.lloadN X6.here hx rfl (hb hby d1_43) rfl) ?_
  show Goes p e below _ T6 (mkF m 44 #[.val (.ref a), .val (.long x0), .second, .val (.long x1), .second, .val (.int x2), .val (.int x3)] [(.long x1), (.ref a)])
  refine Goes.of (fun _ => XS.iload X6.here hx rfl (hb hby d1_44) rfl) ?_
  show Goes p e below _ T6 (mkF m 46 #[.val (.ref a), .val (.long x0), .second, .val (.long x1), .second, .val (.int x2), .val (.int x3)] [(.int x3), (.long x1), (.ref a)])
  refine Goes.of (fun _ => XS.i2l X6.here hx rfl (hb hby d1_46) rfl) ?_
  show Goes p e below _ T6 (mkF m 47 #[.val (.ref a), .val (.long x0), .second, .val (.long x1), .second, .val (.int x2), .val (.int x3)] [(.long (x3.toInt64)), (.long x1), (.ref a)])
  refine Goes.of (fun _ => XS.ladd X6.here hx rfl (hb hby d1_47) rfl) ?_
  show Goes p e below _ T6 (mkF m 48 #[.val (.ref a), .val (.long x0), .second, .val (.long x1), .second, .val (.int x2), .val (.int x3)] [(.long (x1 + (x3.toInt64))), (.ref a)])
  refine Goes.of (fun _ => XS.l2dS X6.here hx rfl (hb hby d1_48) rfl rfl) ?_
  show Goes p e below _ T6 (mkF m 49 #[.val (.ref a), .val (.long x0), .second, .val (.long x1), .second, .val (.int x2), .val (.int x3)] [(.double (Jvm.FP.l2d (x1 + (x3.toInt64)))), (.ref a)])
  refine Goes.of (fun _ => X6.ldc2DoubleC hx hown (mvT hZ (hw _ (List.mem_of_getElem? (i := 17) rfl))) (g := (mkF m 49 #[.val (.ref a), .val (.long x0), .second, .val (.long x1), .second, .val (.int x2), .val (.int x3)] [(.double (Jvm.FP.l2d (x1 + (x3.toInt64)))), (.ref a)])) rfl (hb hby d1_49) _) ?_
  show Goes p e below _ T6 (mkF m 52 #[.val (.ref a), .val (.long x0), .second, .val (.long x1), .second, .val (.int x2), .val (.int x3)] [(.double (4611686018427387904 : UInt64)), (.double (Jvm.FP.l2d (x1 + (x3.toInt64)))), (.ref a)])
  refine Goes.of (fun _ => XS.ddivS X6.here hx rfl (hb hby d1_52) rfl (half_nn _) rfl) ?_
  show Goes p e below _ T6 (mkF m 53 #[.val (.ref a), .val (.long x0), .second, .val (.long x1), .second, .val (.int x2), .val (.int x3)] [(.double (Jvm.FP.ddiv (Jvm.FP.l2d (x1 + (x3.toInt64))) (4611686018427387904 : UInt64))), (.ref a)])
  refine goPut (ty := .double) X6 hx hZ hown (host := "") (Or.inl (hw _ (List.mem_of_getElem? (i := 20) rfl))) Via.refl eT6 D1 Ex (Or.inr ⟨(hw _ (List.mem_of_getElem? (i := 21) rfl)), rfl, hnm⟩) (hw _ (List.mem_of_getElem? (i := 1) rfl)) (by decide) rfl rfl (g := (mkF m 53 #[.val (.ref a), .val (.long x0), .second, .val (.long x1), .second, .val (.int x2), .val (.int x3)] [(.double (Jvm.FP.ddiv (Jvm.FP.l2d (x1 + (x3.toInt64))) (4611686018427387904 : UInt64))), (.ref a)])) rfl rfl (hb hby d1_53) ?_
  intro T7 h7 X7 eT7 W7
  have D1 := Fld.same W7 D1
  have N7 := Fr.snoc X7 N6 g_a
  have Ex := Ex.wr W7
  have F0 := F0.other W7 (Or.inr (slot_ne (Or.inr (hw _ (List.mem_of_getElem? (i := 10) rfl))) (Or.inr (hw _ (List.mem_of_getElem? (i := 21) rfl))) (by decide) (t := .long) (t' := .double) (by decide) (by decide)))
  have F1 := F1.other W7 (Or.inr (slot_ne (Or.inr (hw _ (List.mem_of_getElem? (i := 12) rfl))) (Or.inr (hw _ (List.mem_of_getElem? (i := 21) rfl))) (by decide) (t := .long) (t' := .double) (by decide) (by decide)))
  have F2 := F2.other W7 (Or.inr (slot_ne (Or.inr (hw _ (List.mem_of_getElem? (i := 14) rfl))) (Or.inr (hw _ (List.mem_of_getElem? (i := 21) rfl))) (by decide) (t := .long) (t' := .double) (by decide) (by decide)))
  have F3 := F3.other W7 (Or.inr (slot_ne (Or.inr (hw _ (List.mem_of_getElem? (i := 16) rfl))) (Or.inr (hw _ (List.mem_of_getElem? (i := 21) rfl))) (by decide) (t := .long) (t' := .double) (by decide) (by decide)))
  have D0 := D0.other W7 (Or.inr (slot_ne (Or.inr (hw _ (List.mem_of_getElem? (i := 19) rfl))) (Or.inr (hw _ (List.mem_of_getElem? (i := 21) rfl))) (by decide) (t := .double) (t' := .double) (by decide) (by decide)))
  have Kp := Kp.wr W7 (Or.inl (List.mem_of_getElem? (i := 0) rfl))
  have O0 := O0.wr W7 g_a
  show Goes p e below _ T7 (mkF m 56 #[.val (.ref a), .val (.long x0), .second, .val (.long x1), .second, .val (.int x2), .val (.int x3)] [])
  exact retVoid X7 hx hret hlk (hb hby d1_56) eT7 (by decide) (by decide) ⟨rfl, N7, Kp, F0, F1, F2, F3⟩
set_option maxRecDepth 65536 in
set_option maxHeartbeats 40000000 in
theorem rm_eq (l : Launch) (Z : State) (a0 : Array Value) (hw : ∀ d ∈ tables_1, d.before a0 Z = true) (a b : Addr) (x0 x1 x2 x3 y0 y1 y2 y3 : Int64) (h0 : Heap) (n0 : Nat) (O0 : Old Z n0 h0) (Eb : Exa Z h0 b "com/example/casement/casement/graphics/Ellipse") (F0 : Fld Z h0 a "com/example/casement/casement/graphics/Ellipse" "doubledX" "J" (.long x0)) (F1 : Fld Z h0 a "com/example/casement/casement/graphics/Ellipse" "doubledY" "J" (.long x1)) (F2 : Fld Z h0 a "com/example/casement/casement/graphics/Ellipse" "width" "J" (.long x2)) (F3 : Fld Z h0 a "com/example/casement/casement/graphics/Ellipse" "height" "J" (.long x3)) (G0 : Fld Z h0 b "com/example/casement/casement/graphics/Ellipse" "doubledX" "J" (.long y0)) (G1 : Fld Z h0 b "com/example/casement/casement/graphics/Ellipse" "doubledY" "J" (.long y1)) (G2 : Fld Z h0 b "com/example/casement/casement/graphics/Ellipse" "width" "J" (.long y2)) (G3 : Fld Z h0 b "com/example/casement/casement/graphics/Ellipse" "height" "J" (.long y3)) :
    Rm l (⟨"com/example/casement/casement/graphics/Ellipse", "equals", "(Ljava/lang/Object;)Z"⟩ : MethodName) prog_13_method_12_code 3 (some .boolean) ({ frames := 0, cells := 0, slots := 0, locals := 0 } : Room) [] Z #[(.ref a), (.ref b)] h0 (fun v h L => v = some (.int (eq4 x0 x1 x2 x3 y0 y1 y2 y3)) ∧ Fr n0 L ∧ h = h0) := by
  refine Rm.of (plainFor_of_name pn_com_example_casement_casement_graphics_Ellipse) ?_
  intro p e s m below meth cod T X hx hZ hby hml hown hnm hret hlk eT0
  have hown : s.vm.findClass "com/example/casement/casement/graphics/Ellipse" = some m.cls := hown
  have hnm : meth.name = "equals" := hnm
  have N0 := Fr.nil n0
  refine Goes.cast (ef_4 m a b) ?_
  show Goes p e below _ T (mkF m 0 #[.val (.ref a), .val (.ref b), .unset] [])
  refine Goes.of (fun _ => XS.aloadN X.here hx rfl (hb hby d4_0) rfl rfl) ?_
  show Goes p e below _ T (mkF m 1 #[.val (.ref a), .val (.ref b), .unset] [(.ref b)])
  refine goInstY X hx hZ hown (hw _ (List.mem_of_getElem? (i := 34) rfl)) eT0 (Ins.self Eb) (g := (mkF m 1 #[.val (.ref a), .val (.ref b), .unset] [(.ref b)])) rfl rfl (hb hby d4_1) ?_
  intro T1 X1 eT1
  show Goes p e below _ T1 (mkF m 4 #[.val (.ref a), .val (.ref b), .unset] [(.int (1 : Int32))])
  refine Goes.of (fun _ => XS.ifNo X1.here hx rfl (hb hby d4_4) rfl ((if0 _ _).trans (feq (by decide)).1)) ?_
  show Goes p e below _ T1 (mkF m 7 #[.val (.ref a), .val (.ref b), .unset] [])
  refine Goes.of (fun _ => XS.aloadN X1.here hx rfl (hb hby d4_7) rfl rfl) ?_
  show Goes p e below _ T1 (mkF m 8 #[.val (.ref a), .val (.ref b), .unset] [(.ref b)])
  refine goCast X1 hx hZ hown (hw _ (List.mem_of_getElem? (i := 34) rfl)) eT1 (Ins.self Eb) (g := (mkF m 8 #[.val (.ref a), .val (.ref b), .unset] [(.ref b)])) rfl rfl (hb hby d4_8) ?_
  intro T2 X2 eT2
  show Goes p e below _ T2 (mkF m 11 #[.val (.ref a), .val (.ref b), .unset] [(.ref b)])
  refine Goes.of (fun _ => XS.astoreN X2.here hx rfl (hb hby d4_11) rfl rfl (l' := #[.val (.ref a), .val (.ref b), .val (.ref b)]) rfl) ?_
  show Goes p e below _ T2 (mkF m 12 #[.val (.ref a), .val (.ref b), .val (.ref b)] [])
  refine Goes.of (fun _ => XS.aloadN X2.here hx rfl (hb hby d4_12) rfl rfl) ?_
  show Goes p e below _ T2 (mkF m 13 #[.val (.ref a), .val (.ref b), .val (.ref b)] [(.ref a)])
  refine goGet X2 hx hZ hown (host := "") (Or.inl (hw _ (List.mem_of_getElem? (i := 9) rfl))) Via.refl eT2 F0 (g := (mkF m 13 #[.val (.ref a), .val (.ref b), .val (.ref b)] [(.ref a)])) rfl rfl (hb hby d4_13) ?_
  intro T3 X3 eT3
  show Goes p e below _ T3 (mkF m 16 #[.val (.ref a), .val (.ref b), .val (.ref b)] [(.long x0)])
  refine Goes.of (fun _ => XS.aloadN X3.here hx rfl (hb hby d4_16) rfl rfl) ?_
  show Goes p e below _ T3 (mkF m 17 #[.val (.ref a), .val (.ref b), .val (.ref b)] [(.ref b), (.long x0)])
  refine goGet X3 hx hZ hown (host := "") (Or.inl (hw _ (List.mem_of_getElem? (i := 9) rfl))) Via.refl eT3 G0 (g := (mkF m 17 #[.val (.ref a), .val (.ref b), .val (.ref b)] [(.ref b), (.long x0)])) rfl rfl (hb hby d4_17) ?_
  intro T4 X4 eT4
  show Goes p e below _ T4 (mkF m 20 #[.val (.ref a), .val (.ref b), .val (.ref b)] [(.long y0), (.long x0)])
  refine Goes.of (fun _ => XS.lcmp X4.here hx rfl (hb hby d4_20) rfl) ?_
  show Goes p e below _ T4 (mkF m 21 #[.val (.ref a), .val (.ref b), .val (.ref b)] [(.int (lcmpW x0 y0))])
  by_cases hpc21 : x0 = y0
  · refine Goes.of (fun _ => XS.ifNo X4.here hx rfl (hb hby d4_21) rfl ((if0 _ _).trans (teq ((lw_eq x0 y0).mpr hpc21)).2)) ?_
    show Goes p e below _ T4 (mkF m 24 #[.val (.ref a), .val (.ref b), .val (.ref b)] [])
    refine Goes.of (fun _ => XS.aloadN X4.here hx rfl (hb hby d4_24) rfl rfl) ?_
    show Goes p e below _ T4 (mkF m 25 #[.val (.ref a), .val (.ref b), .val (.ref b)] [(.ref a)])
    refine goGet X4 hx hZ hown (host := "") (Or.inl (hw _ (List.mem_of_getElem? (i := 11) rfl))) Via.refl eT4 F1 (g := (mkF m 25 #[.val (.ref a), .val (.ref b), .val (.ref b)] [(.ref a)])) rfl rfl (hb hby d4_25) ?_
    intro T5 X5 eT5
    show Goes p e below _ T5 (mkF m 28 #[.val (.ref a), .val (.ref b), .val (.ref b)] [(.long x1)])
    refine Goes.of (fun _ => XS.aloadN X5.here hx rfl (hb hby d4_28) rfl rfl) ?_
    show Goes p e below _ T5 (mkF m 29 #[.val (.ref a), .val (.ref b), .val (.ref b)] [(.ref b), (.long x1)])
    refine goGet X5 hx hZ hown (host := "") (Or.inl (hw _ (List.mem_of_getElem? (i := 11) rfl))) Via.refl eT5 G1 (g := (mkF m 29 #[.val (.ref a), .val (.ref b), .val (.ref b)] [(.ref b), (.long x1)])) rfl rfl (hb hby d4_29) ?_
    intro T6 X6 eT6
    show Goes p e below _ T6 (mkF m 32 #[.val (.ref a), .val (.ref b), .val (.ref b)] [(.long y1), (.long x1)])
    refine Goes.of (fun _ => XS.lcmp X6.here hx rfl (hb hby d4_32) rfl) ?_
    show Goes p e below _ T6 (mkF m 33 #[.val (.ref a), .val (.ref b), .val (.ref b)] [(.int (lcmpW x1 y1))])
    by_cases hpc33 : x1 = y1
    · refine Goes.of (fun _ => XS.ifNo X6.here hx rfl (hb hby d4_33) rfl ((if0 _ _).trans (teq ((lw_eq x1 y1).mpr hpc33)).2)) ?_
      show Goes p e below _ T6 (mkF m 36 #[.val (.ref a), .val (.ref b), .val (.ref b)] [])
      refine Goes.of (fun _ => XS.aloadN X6.here hx rfl (hb hby d4_36) rfl rfl) ?_
      show Goes p e below _ T6 (mkF m 37 #[.val (.ref a), .val (.ref b), .val (.ref b)] [(.ref a)])
      refine goGet X6 hx hZ hown (host := "") (Or.inl (hw _ (List.mem_of_getElem? (i := 13) rfl))) Via.refl eT6 F2 (g := (mkF m 37 #[.val (.ref a), .val (.ref b), .val (.ref b)] [(.ref a)])) rfl rfl (hb hby d4_37) ?_
      intro T7 X7 eT7
      show Goes p e below _ T7 (mkF m 40 #[.val (.ref a), .val (.ref b), .val (.ref b)] [(.long x2)])
      refine Goes.of (fun _ => XS.aloadN X7.here hx rfl (hb hby d4_40) rfl rfl) ?_
      show Goes p e below _ T7 (mkF m 41 #[.val (.ref a), .val (.ref b), .val (.ref b)] [(.ref b), (.long x2)])
      refine goGet X7 hx hZ hown (host := "") (Or.inl (hw _ (List.mem_of_getElem? (i := 13) rfl))) Via.refl eT7 G2 (g := (mkF m 41 #[.val (.ref a), .val (.ref b), .val (.ref b)] [(.ref b), (.long x2)])) rfl rfl (hb hby d4_41) ?_
      intro T8 X8 eT8
      show Goes p e below _ T8 (mkF m 44 #[.val (.ref a), .val (.ref b), .val (.ref b)] [(.long y2), (.long x2)])
      refine Goes.of (fun _ => XS.lcmp X8.here hx rfl (hb hby d4_44) rfl) ?_
      show Goes p e below _ T8 (mkF m 45 #[.val (.ref a), .val (.ref b), .val (.ref b)] [(.int (lcmpW x2 y2))])
      by_cases hpc45 : x2 = y2
      · refine Goes.of (fun _ => XS.ifNo X8.here hx rfl (hb hby d4_45) rfl ((if0 _ _).trans (teq ((lw_eq x2 y2).mpr hpc45)).2)) ?_
        show Goes p e below _ T8 (mkF m 48 #[.val (.ref a), .val (.ref b), .val (.ref b)] [])
        refine Goes.of (fun _ => XS.aloadN X8.here hx rfl (hb hby d4_48) rfl rfl) ?_
        show Goes p e below _ T8 (mkF m 49 #[.val (.ref a), .val (.ref b), .val (.ref b)] [(.ref a)])
        refine goGet X8 hx hZ hown (host := "") (Or.inl (hw _ (List.mem_of_getElem? (i := 15) rfl))) Via.refl eT8 F3 (g := (mkF m 49 #[.val (.ref a), .val (.ref b), .val (.ref b)] [(.ref a)])) rfl rfl (hb hby d4_49) ?_
        intro T9 X9 eT9
        show Goes p e below _ T9 (mkF m 52 #[.val (.ref a), .val (.ref b), .val (.ref b)] [(.long x3)])
        refine Goes.of (fun _ => XS.aloadN X9.here hx rfl (hb hby d4_52) rfl rfl) ?_
        show Goes p e below _ T9 (mkF m 53 #[.val (.ref a), .val (.ref b), .val (.ref b)] [(.ref b), (.long x3)])
        refine goGet X9 hx hZ hown (host := "") (Or.inl (hw _ (List.mem_of_getElem? (i := 15) rfl))) Via.refl eT9 G3 (g := (mkF m 53 #[.val (.ref a), .val (.ref b), .val (.ref b)] [(.ref b), (.long x3)])) rfl rfl (hb hby d4_53) ?_
        intro T10 X10 eT10
        show Goes p e below _ T10 (mkF m 56 #[.val (.ref a), .val (.ref b), .val (.ref b)] [(.long y3), (.long x3)])
        refine Goes.of (fun _ => XS.lcmp X10.here hx rfl (hb hby d4_56) rfl) ?_
        show Goes p e below _ T10 (mkF m 57 #[.val (.ref a), .val (.ref b), .val (.ref b)] [(.int (lcmpW x3 y3))])
        refine Goes.of (T' := T10) (f' := (mkF m 65 #[.val (.ref a), .val (.ref b), .val (.ref b)] [(.int (if x3 = y3 then (1 : Int32) else (0 : Int32)))])) (fun t kt => ?_) ?_
        · show Steps p.tables e below (T10.setTop (mkF m 57 #[.val (.ref a), .val (.ref b), .val (.ref b)] [(.int (lcmpW x3 y3))])) _
          by_cases hq57 : x3 = y3
          · simp only [if_pos hq57] at kt
            refine XS.ifNo X10.here hx rfl (hb hby d4_57) rfl ((if0 _ _).trans (teq ((lw_eq x3 y3).mpr hq57)).2) ?_
            show Steps p.tables e below (T10.setTop (mkF m 60 #[.val (.ref a), .val (.ref b), .val (.ref b)] [])) _
            refine XS.iconst X10.here hx rfl (hb hby d4_60) ?_
            show Steps p.tables e below (T10.setTop (mkF m 61 #[.val (.ref a), .val (.ref b), .val (.ref b)] [(.int (1 : Int32))])) _
            refine XS.goto X10.here hx rfl (pc0 := 61) (pc' := 65) rfl (hb hby d4_61) (by decide) (by decide) ?_
            show Steps p.tables e below (T10.setTop (mkF m 65 #[.val (.ref a), .val (.ref b), .val (.ref b)] [(.int (1 : Int32))])) _
            exact kt
          · simp only [if_neg hq57] at kt
            refine XS.ifYes X10.here hx rfl (pc0 := 57) (pc' := 64) rfl (hb hby d4_57) rfl ((if0 _ _).trans (feq (fun q => hq57 ((lw_eq x3 y3).mp q))).2) (by decide) (by decide) ?_
            show Steps p.tables e below (T10.setTop (mkF m 64 #[.val (.ref a), .val (.ref b), .val (.ref b)] [])) _
            refine XS.iconst X10.here hx rfl (hb hby d4_64) ?_
            show Steps p.tables e below (T10.setTop (mkF m 65 #[.val (.ref a), .val (.ref b), .val (.ref b)] [(.int (0 : Int32))])) _
            exact kt
        show Goes p e below _ T10 (mkF m 65 #[.val (.ref a), .val (.ref b), .val (.ref b)] [(.int (if x3 = y3 then (1 : Int32) else (0 : Int32)))])
        exact retZ (t := .boolean) X10 hx hret hlk (by simp) (hb hby d4_65) eT10 (by decide) (by decide) ⟨by unfold eq4; rw [if_pos hpc21, if_pos hpc33, if_pos hpc45]; try first | rfl | (split <;> rfl), N0, rfl⟩
      · refine Goes.of (fun _ => XS.ifYes X8.here hx rfl (pc0 := 45) (pc' := 64) rfl (hb hby d4_45) rfl ((if0 _ _).trans (feq (fun q => hpc45 ((lw_eq x2 y2).mp q))).2) (by decide) (by decide)) ?_
        show Goes p e below _ T8 (mkF m 64 #[.val (.ref a), .val (.ref b), .val (.ref b)] [])
        refine Goes.of (fun _ => XS.iconst X8.here hx rfl (hb hby d4_64)) ?_
        show Goes p e below _ T8 (mkF m 65 #[.val (.ref a), .val (.ref b), .val (.ref b)] [(.int (0 : Int32))])
        exact retZ (t := .boolean) X8 hx hret hlk (by simp) (hb hby d4_65) eT8 (by decide) (by decide) ⟨by unfold eq4; rw [if_pos hpc21, if_pos hpc33, if_neg hpc45]; try first | rfl | (split <;> rfl), N0, rfl⟩
    · refine Goes.of (fun _ => XS.ifYes X6.here hx rfl (pc0 := 33) (pc' := 64) rfl (hb hby d4_33) rfl ((if0 _ _).trans (feq (fun q => hpc33 ((lw_eq x1 y1).mp q))).2) (by decide) (by decide)) ?_
      show Goes p e below _ T6 (mkF m 64 #[.val (.ref a), .val (.ref b), .val (.ref b)] [])
      refine Goes.of (fun _ => XS.iconst X6.here hx rfl (hb hby d4_64)) ?_
      show Goes p e below _ T6 (mkF m 65 #[.val (.ref a), .val (.ref b), .val (.ref b)] [(.int (0 : Int32))])
      exact retZ (t := .boolean) X6 hx hret hlk (by simp) (hb hby d4_65) eT6 (by decide) (by decide) ⟨by unfold eq4; rw [if_pos hpc21, if_neg hpc33]; try first | rfl | (split <;> rfl), N0, rfl⟩
  · refine Goes.of (fun _ => XS.ifYes X4.here hx rfl (pc0 := 21) (pc' := 64) rfl (hb hby d4_21) rfl ((if0 _ _).trans (feq (fun q => hpc21 ((lw_eq x0 y0).mp q))).2) (by decide) (by decide)) ?_
    show Goes p e below _ T4 (mkF m 64 #[.val (.ref a), .val (.ref b), .val (.ref b)] [])
    refine Goes.of (fun _ => XS.iconst X4.here hx rfl (hb hby d4_64)) ?_
    show Goes p e below _ T4 (mkF m 65 #[.val (.ref a), .val (.ref b), .val (.ref b)] [(.int (0 : Int32))])
    exact retZ (t := .boolean) X4 hx hret hlk (by simp) (hb hby d4_65) eT4 (by decide) (by decide) ⟨by unfold eq4; rw [if_neg hpc21]; try first | rfl | (split <;> rfl), N0, rfl⟩
set_option maxRecDepth 65536 in
set_option maxHeartbeats 40000000 in
theorem rm_eqnull (l : Launch) (Z : State) (a0 : Array Value) (hw : ∀ d ∈ tables_1, d.before a0 Z = true) (a : Addr) (h0 : Heap) (n0 : Nat) (O0 : Old Z n0 h0)  :
    Rm l (⟨"com/example/casement/casement/graphics/Ellipse", "equals", "(Ljava/lang/Object;)Z"⟩ : MethodName) prog_13_method_12_code 3 (some .boolean) ({ frames := 0, cells := 0, slots := 0, locals := 0 } : Room) [] Z #[(.ref a), .null] h0 (fun v h L => v = some (.int 0) ∧ Fr n0 L ∧ h = h0) := by
  refine Rm.of (plainFor_of_name pn_com_example_casement_casement_graphics_Ellipse) ?_
  intro p e s m below meth cod T X hx hZ hby hml hown hnm hret hlk eT0
  have hown : s.vm.findClass "com/example/casement/casement/graphics/Ellipse" = some m.cls := hown
  have hnm : meth.name = "equals" := hnm
  have N0 := Fr.nil n0
  refine Goes.cast (ef_4n1 m a) ?_
  show Goes p e below _ T (mkF m 0 #[.val (.ref a), .val .null, .unset] [])
  refine Goes.of (fun _ => XS.aloadN X.here hx rfl (hb hby d4_0) rfl rfl) ?_
  show Goes p e below _ T (mkF m 1 #[.val (.ref a), .val .null, .unset] [.null])
  refine Goes.of (X.instanceofNull hx (g := (mkF m 1 #[.val (.ref a), .val .null, .unset] [.null])) rfl rfl (hb hby d4_1)) ?_
  show Goes p e below _ T (mkF m 4 #[.val (.ref a), .val .null, .unset] [(.int (0 : Int32))])
  refine Goes.of (fun _ => XS.ifYes X.here hx rfl (pc0 := 4) (pc' := 64) rfl (hb hby d4_4) rfl ((if0 _ _).trans (teq (by decide)).1) (by decide) (by decide)) ?_
  show Goes p e below _ T (mkF m 64 #[.val (.ref a), .val .null, .unset] [])
  refine Goes.of (fun _ => XS.iconst X.here hx rfl (hb hby d4_64)) ?_
  show Goes p e below _ T (mkF m 65 #[.val (.ref a), .val .null, .unset] [(.int (0 : Int32))])
  exact retZ (t := .boolean) X hx hret hlk (by simp) (hb hby d4_65) eT0 (by decide) (by decide) ⟨rfl, N0, rfl⟩
set_option maxRecDepth 65536 in
set_option maxHeartbeats 40000000 in
theorem rm_eqint (l : Launch) (Z : State) (a0 : Array Value) (hw : ∀ d ∈ tables_1, d.before a0 Z = true) (a b : Addr) (h0 : Heap) (n0 : Nat) (O0 : Old Z n0 h0) (Eb : Exa Z h0 b "java/lang/Integer") :
    Rm l (⟨"com/example/casement/casement/graphics/Ellipse", "equals", "(Ljava/lang/Object;)Z"⟩ : MethodName) prog_13_method_12_code 3 (some .boolean) ({ frames := 0, cells := 0, slots := 0, locals := 0 } : Room) [] Z #[(.ref a), (.ref b)] h0 (fun v h L => v = some (.int 0) ∧ Fr n0 L ∧ h = h0) := by
  refine Rm.of (plainFor_of_name pn_com_example_casement_casement_graphics_Ellipse) ?_
  intro p e s m below meth cod T X hx hZ hby hml hown hnm hret hlk eT0
  have hown : s.vm.findClass "com/example/casement/casement/graphics/Ellipse" = some m.cls := hown
  have hnm : meth.name = "equals" := hnm
  have N0 := Fr.nil n0
  refine Goes.cast (ef_4 m a b) ?_
  show Goes p e below _ T (mkF m 0 #[.val (.ref a), .val (.ref b), .unset] [])
  refine Goes.of (fun _ => XS.aloadN X.here hx rfl (hb hby d4_0) rfl rfl) ?_
  show Goes p e below _ T (mkF m 1 #[.val (.ref a), .val (.ref b), .unset] [(.ref b)])
  refine goInstN X hx hZ hown (hw _ (List.mem_of_getElem? (i := 34) rfl)) eT0 Eb (nsNo (hw _ (List.mem_of_getElem? (i := 36) rfl)) (hw _ (List.mem_of_getElem? (i := 1) rfl)) (NS.step (hw _ (List.mem_of_getElem? (i := 36) rfl)) (NS.step (hw _ (List.mem_of_getElem? (i := 37) rfl)) (nsRoot (hw _ (List.mem_of_getElem? (i := 38) rfl)) (hw _ (List.mem_of_getElem? (i := 1) rfl)) (by decide)) (by decide)) (by decide)) (by decide)) (g := (mkF m 1 #[.val (.ref a), .val (.ref b), .unset] [(.ref b)])) rfl rfl (hb hby d4_1) ?_
  intro T1 X1 eT1
  show Goes p e below _ T1 (mkF m 4 #[.val (.ref a), .val (.ref b), .unset] [(.int (0 : Int32))])
  refine Goes.of (fun _ => XS.ifYes X1.here hx rfl (pc0 := 4) (pc' := 64) rfl (hb hby d4_4) rfl ((if0 _ _).trans (teq (by decide)).1) (by decide) (by decide)) ?_
  show Goes p e below _ T1 (mkF m 64 #[.val (.ref a), .val (.ref b), .unset] [])
  refine Goes.of (fun _ => XS.iconst X1.here hx rfl (hb hby d4_64)) ?_
  show Goes p e below _ T1 (mkF m 65 #[.val (.ref a), .val (.ref b), .unset] [(.int (0 : Int32))])
  exact retZ (t := .boolean) X1 hx hret hlk (by simp) (hb hby d4_65) eT1 (by decide) (by decide) ⟨rfl, N0, rfl⟩
set_option maxRecDepth 65536 in
set_option maxHeartbeats 40000000 in
theorem rm_law (l : Launch) (Z : State) (a0 : Array Value) (hw : ∀ d ∈ tables_1, d.before a0 Z = true) (ws : List Jvm.Cond) (q1 q2 : Int64) (p3 p4 p5 : Int32) (q6 : Int64) (ca : Addr) (cl : Cell) (h0 : Heap) (n0 : Nat) (O0 : Old Z n0 h0) (IC0 : IntC Z ca cl) :
    Rm l x code maxLocals ret room_1 ws Z #[(.long q1), (.long q2), (.int p3), (.int p4), (.int p5), (.long q6)] h0 (fun v h L => v = some (.int 1) ∧ Fr n0 L) := by
  refine Rm.of (plainFor_of_name pn_com_example_casement_casement_graphics_EllipseEqualsPinLaw) ?_
  intro p e s m below meth cod T X hx hZ hby hml hown hnm hret hlk eT0
  have hown : s.vm.findClass "com/example/casement/casement/graphics/EllipseEqualsPinLaw" = some m.cls := hown
  have hnm : meth.name = "law" := hnm
  have N0 := Fr.nil n0
  refine Goes.cast (ef_0 m q1 q2 p3 p4 p5 q6) ?_
  show Goes p e below _ T (mkF m 0 #[.val (.long q1), .second, .val (.long q2), .second, .val (.int p3), .val (.int p4), .val (.int p5), .val (.long q6), .second, .unset, .unset, .unset, .unset, .unset, .unset, .unset, .unset, .unset, .unset] [])
  refine Goes.of (fun _ => XS.iload X.here hx rfl (hb hby at_0) rfl) ?_
  show Goes p e below _ T (mkF m 2 #[.val (.long q1), .second, .val (.long q2), .second, .val (.int p3), .val (.int p4), .val (.int p5), .val (.long q6), .second, .unset, .unset, .unset, .unset, .unset, .unset, .unset, .unset, .unset, .unset] [(.int p5)])
  refine Goes.of (fun _ => XS.iconst X.here hx rfl (hb hby at_2)) ?_
  show Goes p e below _ T (mkF m 3 #[.val (.long q1), .second, .val (.long q2), .second, .val (.int p3), .val (.int p4), .val (.int p5), .val (.long q6), .second, .unset, .unset, .unset, .unset, .unset, .unset, .unset, .unset, .unset, .unset] [(.int (1 : Int32)), (.int p5)])
  refine Goes.of (fun _ => XS.iand X.here hx rfl (hb hby at_3) rfl) ?_
  show Goes p e below _ T (mkF m 4 #[.val (.long q1), .second, .val (.long q2), .second, .val (.int p3), .val (.int p4), .val (.int p5), .val (.long q6), .second, .unset, .unset, .unset, .unset, .unset, .unset, .unset, .unset, .unset, .unset] [(.int (p5 &&& (1 : Int32)))])
  refine Goes.of (T' := T) (f' := (mkF m 13 #[.val (.long q1), .second, .val (.long q2), .second, .val (.int p3), .val (.int p4), .val (.int p5), .val (.long q6), .second, .unset, .unset, .unset, .unset, .unset, .unset, .unset, .unset, .unset, .unset] [(.long (if (p5 &&& (1 : Int32)) = (0 : Int32) then q1 else q6))])) (fun t kt => ?_) ?_
  · show Steps p.tables e below (T.setTop (mkF m 4 #[.val (.long q1), .second, .val (.long q2), .second, .val (.int p3), .val (.int p4), .val (.int p5), .val (.long q6), .second, .unset, .unset, .unset, .unset, .unset, .unset, .unset, .unset, .unset, .unset] [(.int (p5 &&& (1 : Int32)))])) _
    by_cases hq4 : (p5 &&& (1 : Int32)) = (0 : Int32)
    · simp only [if_pos hq4] at kt
      refine XS.ifYes X.here hx rfl (pc0 := 4) (pc' := 12) rfl (hb hby at_4) rfl ((if0 _ _).trans (teq hq4).1) (by decide) (by decide) ?_
      show Steps p.tables e below (T.setTop (mkF m 12 #[.val (.long q1), .second, .val (.long q2), .second, .val (.int p3), .val (.int p4), .val (.int p5), .val (.long q6), .second, .unset, .unset, .unset, .unset, .unset, .unset, .unset, .unset, .unset, .unset] [])) _
      refine XS.lloadN X.here hx rfl (hb hby at_12) rfl ?_
      show Steps p.tables e below (T.setTop (mkF m 13 #[.val (.long q1), .second, .val (.long q2), .second, .val (.int p3), .val (.int p4), .val (.int p5), .val (.long q6), .second, .unset, .unset, .unset, .unset, .unset, .unset, .unset, .unset, .unset, .unset] [(.long q1)])) _
      exact kt
    · simp only [if_neg hq4] at kt
      refine XS.ifNo X.here hx rfl (hb hby at_4) rfl ((if0 _ _).trans (feq hq4).1) ?_
      show Steps p.tables e below (T.setTop (mkF m 7 #[.val (.long q1), .second, .val (.long q2), .second, .val (.int p3), .val (.int p4), .val (.int p5), .val (.long q6), .second, .unset, .unset, .unset, .unset, .unset, .unset, .unset, .unset, .unset, .unset] [])) _
      refine XS.lload X.here hx rfl (hb hby at_7) rfl ?_
      show Steps p.tables e below (T.setTop (mkF m 9 #[.val (.long q1), .second, .val (.long q2), .second, .val (.int p3), .val (.int p4), .val (.int p5), .val (.long q6), .second, .unset, .unset, .unset, .unset, .unset, .unset, .unset, .unset, .unset, .unset] [(.long q6)])) _
      refine XS.goto X.here hx rfl (pc0 := 9) (pc' := 13) rfl (hb hby at_9) (by decide) (by decide) ?_
      show Steps p.tables e below (T.setTop (mkF m 13 #[.val (.long q1), .second, .val (.long q2), .second, .val (.int p3), .val (.int p4), .val (.int p5), .val (.long q6), .second, .unset, .unset, .unset, .unset, .unset, .unset, .unset, .unset, .unset, .unset] [(.long q6)])) _
      exact kt
  show Goes p e below _ T (mkF m 13 #[.val (.long q1), .second, .val (.long q2), .second, .val (.int p3), .val (.int p4), .val (.int p5), .val (.long q6), .second, .unset, .unset, .unset, .unset, .unset, .unset, .unset, .unset, .unset, .unset] [(.long (if (p5 &&& (1 : Int32)) = (0 : Int32) then q1 else q6))])
  refine Goes.of (fun _ => XS.lstore X.here hx rfl (hb hby at_13) rfl (l' := #[.val (.long q1), .second, .val (.long q2), .second, .val (.int p3), .val (.int p4), .val (.int p5), .val (.long q6), .second, .val (.long (if (p5 &&& (1 : Int32)) = (0 : Int32) then q1 else q6)), .second, .unset, .unset, .unset, .unset, .unset, .unset, .unset, .unset]) rfl) ?_
  show Goes p e below _ T (mkF m 15 #[.val (.long q1), .second, .val (.long q2), .second, .val (.int p3), .val (.int p4), .val (.int p5), .val (.long q6), .second, .val (.long (if (p5 &&& (1 : Int32)) = (0 : Int32) then q1 else q6)), .second, .unset, .unset, .unset, .unset, .unset, .unset, .unset, .unset] [])
  generalize hu1 : (if (p5 &&& (1 : Int32)) = (0 : Int32) then q1 else q6) = u1
  show Goes p e below _ T (mkF m 15 #[.val (.long q1), .second, .val (.long q2), .second, .val (.int p3), .val (.int p4), .val (.int p5), .val (.long q6), .second, .val (.long u1), .second, .unset, .unset, .unset, .unset, .unset, .unset, .unset, .unset] [])
  refine Goes.of (fun _ => XS.iload X.here hx rfl (hb hby at_15) rfl) ?_
  show Goes p e below _ T (mkF m 17 #[.val (.long q1), .second, .val (.long q2), .second, .val (.int p3), .val (.int p4), .val (.int p5), .val (.long q6), .second, .val (.long u1), .second, .unset, .unset, .unset, .unset, .unset, .unset, .unset, .unset] [(.int p5)])
  refine Goes.of (fun _ => XS.iconst X.here hx rfl (hb hby at_17)) ?_
  show Goes p e below _ T (mkF m 18 #[.val (.long q1), .second, .val (.long q2), .second, .val (.int p3), .val (.int p4), .val (.int p5), .val (.long q6), .second, .val (.long u1), .second, .unset, .unset, .unset, .unset, .unset, .unset, .unset, .unset] [(.int (2 : Int32)), (.int p5)])
  refine Goes.of (fun _ => XS.iand X.here hx rfl (hb hby at_18) rfl) ?_
  show Goes p e below _ T (mkF m 19 #[.val (.long q1), .second, .val (.long q2), .second, .val (.int p3), .val (.int p4), .val (.int p5), .val (.long q6), .second, .val (.long u1), .second, .unset, .unset, .unset, .unset, .unset, .unset, .unset, .unset] [(.int (p5 &&& (2 : Int32)))])
  refine Goes.of (T' := T) (f' := (mkF m 28 #[.val (.long q1), .second, .val (.long q2), .second, .val (.int p3), .val (.int p4), .val (.int p5), .val (.long q6), .second, .val (.long u1), .second, .unset, .unset, .unset, .unset, .unset, .unset, .unset, .unset] [(.long (if (p5 &&& (2 : Int32)) = (0 : Int32) then q2 else q6))])) (fun t kt => ?_) ?_
  · show Steps p.tables e below (T.setTop (mkF m 19 #[.val (.long q1), .second, .val (.long q2), .second, .val (.int p3), .val (.int p4), .val (.int p5), .val (.long q6), .second, .val (.long u1), .second, .unset, .unset, .unset, .unset, .unset, .unset, .unset, .unset] [(.int (p5 &&& (2 : Int32)))])) _
    by_cases hq19 : (p5 &&& (2 : Int32)) = (0 : Int32)
    · simp only [if_pos hq19] at kt
      refine XS.ifYes X.here hx rfl (pc0 := 19) (pc' := 27) rfl (hb hby at_19) rfl ((if0 _ _).trans (teq hq19).1) (by decide) (by decide) ?_
      show Steps p.tables e below (T.setTop (mkF m 27 #[.val (.long q1), .second, .val (.long q2), .second, .val (.int p3), .val (.int p4), .val (.int p5), .val (.long q6), .second, .val (.long u1), .second, .unset, .unset, .unset, .unset, .unset, .unset, .unset, .unset] [])) _
      refine XS.lloadN X.here hx rfl (hb hby at_27) rfl ?_
      show Steps p.tables e below (T.setTop (mkF m 28 #[.val (.long q1), .second, .val (.long q2), .second, .val (.int p3), .val (.int p4), .val (.int p5), .val (.long q6), .second, .val (.long u1), .second, .unset, .unset, .unset, .unset, .unset, .unset, .unset, .unset] [(.long q2)])) _
      exact kt
    · simp only [if_neg hq19] at kt
      refine XS.ifNo X.here hx rfl (hb hby at_19) rfl ((if0 _ _).trans (feq hq19).1) ?_
      show Steps p.tables e below (T.setTop (mkF m 22 #[.val (.long q1), .second, .val (.long q2), .second, .val (.int p3), .val (.int p4), .val (.int p5), .val (.long q6), .second, .val (.long u1), .second, .unset, .unset, .unset, .unset, .unset, .unset, .unset, .unset] [])) _
      refine XS.lload X.here hx rfl (hb hby at_22) rfl ?_
      show Steps p.tables e below (T.setTop (mkF m 24 #[.val (.long q1), .second, .val (.long q2), .second, .val (.int p3), .val (.int p4), .val (.int p5), .val (.long q6), .second, .val (.long u1), .second, .unset, .unset, .unset, .unset, .unset, .unset, .unset, .unset] [(.long q6)])) _
      refine XS.goto X.here hx rfl (pc0 := 24) (pc' := 28) rfl (hb hby at_24) (by decide) (by decide) ?_
      show Steps p.tables e below (T.setTop (mkF m 28 #[.val (.long q1), .second, .val (.long q2), .second, .val (.int p3), .val (.int p4), .val (.int p5), .val (.long q6), .second, .val (.long u1), .second, .unset, .unset, .unset, .unset, .unset, .unset, .unset, .unset] [(.long q6)])) _
      exact kt
  show Goes p e below _ T (mkF m 28 #[.val (.long q1), .second, .val (.long q2), .second, .val (.int p3), .val (.int p4), .val (.int p5), .val (.long q6), .second, .val (.long u1), .second, .unset, .unset, .unset, .unset, .unset, .unset, .unset, .unset] [(.long (if (p5 &&& (2 : Int32)) = (0 : Int32) then q2 else q6))])
  refine Goes.of (fun _ => XS.lstore X.here hx rfl (hb hby at_28) rfl (l' := #[.val (.long q1), .second, .val (.long q2), .second, .val (.int p3), .val (.int p4), .val (.int p5), .val (.long q6), .second, .val (.long u1), .second, .val (.long (if (p5 &&& (2 : Int32)) = (0 : Int32) then q2 else q6)), .second, .unset, .unset, .unset, .unset, .unset, .unset]) rfl) ?_
  show Goes p e below _ T (mkF m 30 #[.val (.long q1), .second, .val (.long q2), .second, .val (.int p3), .val (.int p4), .val (.int p5), .val (.long q6), .second, .val (.long u1), .second, .val (.long (if (p5 &&& (2 : Int32)) = (0 : Int32) then q2 else q6)), .second, .unset, .unset, .unset, .unset, .unset, .unset] [])
  generalize hu2 : (if (p5 &&& (2 : Int32)) = (0 : Int32) then q2 else q6) = u2
  show Goes p e below _ T (mkF m 30 #[.val (.long q1), .second, .val (.long q2), .second, .val (.int p3), .val (.int p4), .val (.int p5), .val (.long q6), .second, .val (.long u1), .second, .val (.long u2), .second, .unset, .unset, .unset, .unset, .unset, .unset] [])
  refine Goes.of (fun _ => XS.iload X.here hx rfl (hb hby at_30) rfl) ?_
  show Goes p e below _ T (mkF m 32 #[.val (.long q1), .second, .val (.long q2), .second, .val (.int p3), .val (.int p4), .val (.int p5), .val (.long q6), .second, .val (.long u1), .second, .val (.long u2), .second, .unset, .unset, .unset, .unset, .unset, .unset] [(.int p5)])
  refine Goes.of (fun _ => XS.iconst X.here hx rfl (hb hby at_32)) ?_
  show Goes p e below _ T (mkF m 33 #[.val (.long q1), .second, .val (.long q2), .second, .val (.int p3), .val (.int p4), .val (.int p5), .val (.long q6), .second, .val (.long u1), .second, .val (.long u2), .second, .unset, .unset, .unset, .unset, .unset, .unset] [(.int (4 : Int32)), (.int p5)])
  refine Goes.of (fun _ => XS.iand X.here hx rfl (hb hby at_33) rfl) ?_
  show Goes p e below _ T (mkF m 34 #[.val (.long q1), .second, .val (.long q2), .second, .val (.int p3), .val (.int p4), .val (.int p5), .val (.long q6), .second, .val (.long u1), .second, .val (.long u2), .second, .unset, .unset, .unset, .unset, .unset, .unset] [(.int (p5 &&& (4 : Int32)))])
  refine Goes.of (T' := T) (f' := (mkF m 45 #[.val (.long q1), .second, .val (.long q2), .second, .val (.int p3), .val (.int p4), .val (.int p5), .val (.long q6), .second, .val (.long u1), .second, .val (.long u2), .second, .unset, .unset, .unset, .unset, .unset, .unset] [(.int (if (p5 &&& (4 : Int32)) = (0 : Int32) then p3 else (q6.toInt32)))])) (fun t kt => ?_) ?_
  · show Steps p.tables e below (T.setTop (mkF m 34 #[.val (.long q1), .second, .val (.long q2), .second, .val (.int p3), .val (.int p4), .val (.int p5), .val (.long q6), .second, .val (.long u1), .second, .val (.long u2), .second, .unset, .unset, .unset, .unset, .unset, .unset] [(.int (p5 &&& (4 : Int32)))])) _
    by_cases hq34 : (p5 &&& (4 : Int32)) = (0 : Int32)
    · simp only [if_pos hq34] at kt
      refine XS.ifYes X.here hx rfl (pc0 := 34) (pc' := 43) rfl (hb hby at_34) rfl ((if0 _ _).trans (teq hq34).1) (by decide) (by decide) ?_
      show Steps p.tables e below (T.setTop (mkF m 43 #[.val (.long q1), .second, .val (.long q2), .second, .val (.int p3), .val (.int p4), .val (.int p5), .val (.long q6), .second, .val (.long u1), .second, .val (.long u2), .second, .unset, .unset, .unset, .unset, .unset, .unset] [])) _
      refine XS.iload X.here hx rfl (hb hby at_43) rfl ?_
      show Steps p.tables e below (T.setTop (mkF m 45 #[.val (.long q1), .second, .val (.long q2), .second, .val (.int p3), .val (.int p4), .val (.int p5), .val (.long q6), .second, .val (.long u1), .second, .val (.long u2), .second, .unset, .unset, .unset, .unset, .unset, .unset] [(.int p3)])) _
      exact kt
    · simp only [if_neg hq34] at kt
      refine XS.ifNo X.here hx rfl (hb hby at_34) rfl ((if0 _ _).trans (feq hq34).1) ?_
      show Steps p.tables e below (T.setTop (mkF m 37 #[.val (.long q1), .second, .val (.long q2), .second, .val (.int p3), .val (.int p4), .val (.int p5), .val (.long q6), .second, .val (.long u1), .second, .val (.long u2), .second, .unset, .unset, .unset, .unset, .unset, .unset] [])) _
      refine XS.lload X.here hx rfl (hb hby at_37) rfl ?_
      show Steps p.tables e below (T.setTop (mkF m 39 #[.val (.long q1), .second, .val (.long q2), .second, .val (.int p3), .val (.int p4), .val (.int p5), .val (.long q6), .second, .val (.long u1), .second, .val (.long u2), .second, .unset, .unset, .unset, .unset, .unset, .unset] [(.long q6)])) _
      refine XS.l2i X.here hx rfl (hb hby at_39) rfl ?_
      show Steps p.tables e below (T.setTop (mkF m 40 #[.val (.long q1), .second, .val (.long q2), .second, .val (.int p3), .val (.int p4), .val (.int p5), .val (.long q6), .second, .val (.long u1), .second, .val (.long u2), .second, .unset, .unset, .unset, .unset, .unset, .unset] [(.int (q6.toInt32))])) _
      refine XS.goto X.here hx rfl (pc0 := 40) (pc' := 45) rfl (hb hby at_40) (by decide) (by decide) ?_
      show Steps p.tables e below (T.setTop (mkF m 45 #[.val (.long q1), .second, .val (.long q2), .second, .val (.int p3), .val (.int p4), .val (.int p5), .val (.long q6), .second, .val (.long u1), .second, .val (.long u2), .second, .unset, .unset, .unset, .unset, .unset, .unset] [(.int (q6.toInt32))])) _
      exact kt
  show Goes p e below _ T (mkF m 45 #[.val (.long q1), .second, .val (.long q2), .second, .val (.int p3), .val (.int p4), .val (.int p5), .val (.long q6), .second, .val (.long u1), .second, .val (.long u2), .second, .unset, .unset, .unset, .unset, .unset, .unset] [(.int (if (p5 &&& (4 : Int32)) = (0 : Int32) then p3 else (q6.toInt32)))])
  refine Goes.of (fun _ => XS.istore X.here hx rfl (hb hby at_45) rfl (l' := #[.val (.long q1), .second, .val (.long q2), .second, .val (.int p3), .val (.int p4), .val (.int p5), .val (.long q6), .second, .val (.long u1), .second, .val (.long u2), .second, .val (.int (if (p5 &&& (4 : Int32)) = (0 : Int32) then p3 else (q6.toInt32))), .unset, .unset, .unset, .unset, .unset]) rfl) ?_
  show Goes p e below _ T (mkF m 47 #[.val (.long q1), .second, .val (.long q2), .second, .val (.int p3), .val (.int p4), .val (.int p5), .val (.long q6), .second, .val (.long u1), .second, .val (.long u2), .second, .val (.int (if (p5 &&& (4 : Int32)) = (0 : Int32) then p3 else (q6.toInt32))), .unset, .unset, .unset, .unset, .unset] [])
  generalize hu3 : (if (p5 &&& (4 : Int32)) = (0 : Int32) then p3 else (q6.toInt32)) = u3
  show Goes p e below _ T (mkF m 47 #[.val (.long q1), .second, .val (.long q2), .second, .val (.int p3), .val (.int p4), .val (.int p5), .val (.long q6), .second, .val (.long u1), .second, .val (.long u2), .second, .val (.int u3), .unset, .unset, .unset, .unset, .unset] [])
  refine Goes.of (fun _ => XS.iload X.here hx rfl (hb hby at_47) rfl) ?_
  show Goes p e below _ T (mkF m 49 #[.val (.long q1), .second, .val (.long q2), .second, .val (.int p3), .val (.int p4), .val (.int p5), .val (.long q6), .second, .val (.long u1), .second, .val (.long u2), .second, .val (.int u3), .unset, .unset, .unset, .unset, .unset] [(.int p5)])
  refine Goes.of (fun _ => XS.bipush X.here hx rfl (hb hby at_49)) ?_
  show Goes p e below _ T (mkF m 51 #[.val (.long q1), .second, .val (.long q2), .second, .val (.int p3), .val (.int p4), .val (.int p5), .val (.long q6), .second, .val (.long u1), .second, .val (.long u2), .second, .val (.int u3), .unset, .unset, .unset, .unset, .unset] [(.int (8 : Int32)), (.int p5)])
  refine Goes.of (fun _ => XS.iand X.here hx rfl (hb hby at_51) rfl) ?_
  show Goes p e below _ T (mkF m 52 #[.val (.long q1), .second, .val (.long q2), .second, .val (.int p3), .val (.int p4), .val (.int p5), .val (.long q6), .second, .val (.long u1), .second, .val (.long u2), .second, .val (.int u3), .unset, .unset, .unset, .unset, .unset] [(.int (p5 &&& (8 : Int32)))])
  refine Goes.of (T' := T) (f' := (mkF m 63 #[.val (.long q1), .second, .val (.long q2), .second, .val (.int p3), .val (.int p4), .val (.int p5), .val (.long q6), .second, .val (.long u1), .second, .val (.long u2), .second, .val (.int u3), .unset, .unset, .unset, .unset, .unset] [(.int (if (p5 &&& (8 : Int32)) = (0 : Int32) then p4 else (q6.toInt32)))])) (fun t kt => ?_) ?_
  · show Steps p.tables e below (T.setTop (mkF m 52 #[.val (.long q1), .second, .val (.long q2), .second, .val (.int p3), .val (.int p4), .val (.int p5), .val (.long q6), .second, .val (.long u1), .second, .val (.long u2), .second, .val (.int u3), .unset, .unset, .unset, .unset, .unset] [(.int (p5 &&& (8 : Int32)))])) _
    by_cases hq52 : (p5 &&& (8 : Int32)) = (0 : Int32)
    · simp only [if_pos hq52] at kt
      refine XS.ifYes X.here hx rfl (pc0 := 52) (pc' := 61) rfl (hb hby at_52) rfl ((if0 _ _).trans (teq hq52).1) (by decide) (by decide) ?_
      show Steps p.tables e below (T.setTop (mkF m 61 #[.val (.long q1), .second, .val (.long q2), .second, .val (.int p3), .val (.int p4), .val (.int p5), .val (.long q6), .second, .val (.long u1), .second, .val (.long u2), .second, .val (.int u3), .unset, .unset, .unset, .unset, .unset] [])) _
      refine XS.iload X.here hx rfl (hb hby at_61) rfl ?_
      show Steps p.tables e below (T.setTop (mkF m 63 #[.val (.long q1), .second, .val (.long q2), .second, .val (.int p3), .val (.int p4), .val (.int p5), .val (.long q6), .second, .val (.long u1), .second, .val (.long u2), .second, .val (.int u3), .unset, .unset, .unset, .unset, .unset] [(.int p4)])) _
      exact kt
    · simp only [if_neg hq52] at kt
      refine XS.ifNo X.here hx rfl (hb hby at_52) rfl ((if0 _ _).trans (feq hq52).1) ?_
      show Steps p.tables e below (T.setTop (mkF m 55 #[.val (.long q1), .second, .val (.long q2), .second, .val (.int p3), .val (.int p4), .val (.int p5), .val (.long q6), .second, .val (.long u1), .second, .val (.long u2), .second, .val (.int u3), .unset, .unset, .unset, .unset, .unset] [])) _
      refine XS.lload X.here hx rfl (hb hby at_55) rfl ?_
      show Steps p.tables e below (T.setTop (mkF m 57 #[.val (.long q1), .second, .val (.long q2), .second, .val (.int p3), .val (.int p4), .val (.int p5), .val (.long q6), .second, .val (.long u1), .second, .val (.long u2), .second, .val (.int u3), .unset, .unset, .unset, .unset, .unset] [(.long q6)])) _
      refine XS.l2i X.here hx rfl (hb hby at_57) rfl ?_
      show Steps p.tables e below (T.setTop (mkF m 58 #[.val (.long q1), .second, .val (.long q2), .second, .val (.int p3), .val (.int p4), .val (.int p5), .val (.long q6), .second, .val (.long u1), .second, .val (.long u2), .second, .val (.int u3), .unset, .unset, .unset, .unset, .unset] [(.int (q6.toInt32))])) _
      refine XS.goto X.here hx rfl (pc0 := 58) (pc' := 63) rfl (hb hby at_58) (by decide) (by decide) ?_
      show Steps p.tables e below (T.setTop (mkF m 63 #[.val (.long q1), .second, .val (.long q2), .second, .val (.int p3), .val (.int p4), .val (.int p5), .val (.long q6), .second, .val (.long u1), .second, .val (.long u2), .second, .val (.int u3), .unset, .unset, .unset, .unset, .unset] [(.int (q6.toInt32))])) _
      exact kt
  show Goes p e below _ T (mkF m 63 #[.val (.long q1), .second, .val (.long q2), .second, .val (.int p3), .val (.int p4), .val (.int p5), .val (.long q6), .second, .val (.long u1), .second, .val (.long u2), .second, .val (.int u3), .unset, .unset, .unset, .unset, .unset] [(.int (if (p5 &&& (8 : Int32)) = (0 : Int32) then p4 else (q6.toInt32)))])
  refine Goes.of (fun _ => XS.istore X.here hx rfl (hb hby at_63) rfl (l' := #[.val (.long q1), .second, .val (.long q2), .second, .val (.int p3), .val (.int p4), .val (.int p5), .val (.long q6), .second, .val (.long u1), .second, .val (.long u2), .second, .val (.int u3), .val (.int (if (p5 &&& (8 : Int32)) = (0 : Int32) then p4 else (q6.toInt32))), .unset, .unset, .unset, .unset]) rfl) ?_
  show Goes p e below _ T (mkF m 65 #[.val (.long q1), .second, .val (.long q2), .second, .val (.int p3), .val (.int p4), .val (.int p5), .val (.long q6), .second, .val (.long u1), .second, .val (.long u2), .second, .val (.int u3), .val (.int (if (p5 &&& (8 : Int32)) = (0 : Int32) then p4 else (q6.toInt32))), .unset, .unset, .unset, .unset] [])
  generalize hu4 : (if (p5 &&& (8 : Int32)) = (0 : Int32) then p4 else (q6.toInt32)) = u4
  show Goes p e below _ T (mkF m 65 #[.val (.long q1), .second, .val (.long q2), .second, .val (.int p3), .val (.int p4), .val (.int p5), .val (.long q6), .second, .val (.long u1), .second, .val (.long u2), .second, .val (.int u3), .val (.int u4), .unset, .unset, .unset, .unset] [])
  refine goNew X hx hZ hown (hw _ (List.mem_of_getElem? (i := 0) rfl)) (hw _ (List.mem_of_getElem? (i := 1) rfl)) (hw _ (List.mem_of_getElem? (i := 2) rfl)) eT0 (g := (mkF m 65 #[.val (.long q1), .second, .val (.long q2), .second, .val (.int p3), .val (.int p4), .val (.int p5), .val (.long q6), .second, .val (.long u1), .second, .val (.long u2), .second, .val (.int u3), .val (.int u4), .unset, .unset, .unset, .unset] [])) rfl (hb hby at_65) (by decide) (by decide) ?_
  intro T1 h1 b1 X1 eT1 E1 hb1 A1 D1
  have g_b1 : n0 ≤ b1 := Nat.le_trans (oldLe O0) hb1
  have O0 := O0.ext E1
  have F1_doubledX : Fld Z h1 b1 "com/example/casement/casement/graphics/Ellipse" "doubledX" "J" (.long (0 : Int64)) := D1 (Or.inr (hw _ (List.mem_of_getElem? (i := 10) rfl))) (ty := .long) (by decide)
  have F1_doubledY : Fld Z h1 b1 "com/example/casement/casement/graphics/Ellipse" "doubledY" "J" (.long (0 : Int64)) := D1 (Or.inr (hw _ (List.mem_of_getElem? (i := 12) rfl))) (ty := .long) (by decide)
  have F1_width : Fld Z h1 b1 "com/example/casement/casement/graphics/Ellipse" "width" "J" (.long (0 : Int64)) := D1 (Or.inr (hw _ (List.mem_of_getElem? (i := 14) rfl))) (ty := .long) (by decide)
  have F1_height : Fld Z h1 b1 "com/example/casement/casement/graphics/Ellipse" "height" "J" (.long (0 : Int64)) := D1 (Or.inr (hw _ (List.mem_of_getElem? (i := 16) rfl))) (ty := .long) (by decide)
  have F1_cx : Fld Z h1 b1 "com/example/casement/casement/graphics/Ellipse" "cx" "D" (.double (0 : UInt64)) := D1 (Or.inr (hw _ (List.mem_of_getElem? (i := 19) rfl))) (ty := .double) (by decide)
  have F1_cy : Fld Z h1 b1 "com/example/casement/casement/graphics/Ellipse" "cy" "D" (.double (0 : UInt64)) := D1 (Or.inr (hw _ (List.mem_of_getElem? (i := 21) rfl))) (ty := .double) (by decide)
  show Goes p e below _ T1 (mkF m 68 #[.val (.long q1), .second, .val (.long q2), .second, .val (.int p3), .val (.int p4), .val (.int p5), .val (.long q6), .second, .val (.long u1), .second, .val (.long u2), .second, .val (.int u3), .val (.int u4), .unset, .unset, .unset, .unset] [(.ref b1)])
  refine Goes.of (fun _ => XS.dup X1.here hx rfl (hb hby at_68) rfl rfl) ?_
  show Goes p e below _ T1 (mkF m 69 #[.val (.long q1), .second, .val (.long q2), .second, .val (.int p3), .val (.int p4), .val (.int p5), .val (.long q6), .second, .val (.long u1), .second, .val (.long u2), .second, .val (.int u3), .val (.int u4), .unset, .unset, .unset, .unset] [(.ref b1), (.ref b1)])
  refine Goes.of (fun _ => XS.lloadN X1.here hx rfl (hb hby at_69) rfl) ?_
  show Goes p e below _ T1 (mkF m 70 #[.val (.long q1), .second, .val (.long q2), .second, .val (.int p3), .val (.int p4), .val (.int p5), .val (.long q6), .second, .val (.long u1), .second, .val (.long u2), .second, .val (.int u3), .val (.int u4), .unset, .unset, .unset, .unset] [(.long q1), (.ref b1), (.ref b1)])
  refine Goes.of (fun _ => XS.lloadN X1.here hx rfl (hb hby at_70) rfl) ?_
  show Goes p e below _ T1 (mkF m 71 #[.val (.long q1), .second, .val (.long q2), .second, .val (.int p3), .val (.int p4), .val (.int p5), .val (.long q6), .second, .val (.long u1), .second, .val (.long u2), .second, .val (.int u3), .val (.int u4), .unset, .unset, .unset, .unset] [(.long q2), (.long q1), (.ref b1), (.ref b1)])
  refine Goes.of (fun _ => XS.iload X1.here hx rfl (hb hby at_71) rfl) ?_
  show Goes p e below _ T1 (mkF m 73 #[.val (.long q1), .second, .val (.long q2), .second, .val (.int p3), .val (.int p4), .val (.int p5), .val (.long q6), .second, .val (.long u1), .second, .val (.long u2), .second, .val (.int u3), .val (.int u4), .unset, .unset, .unset, .unset] [(.int p3), (.long q2), (.long q1), (.ref b1), (.ref b1)])
  refine Goes.of (fun _ => XS.iload X1.here hx rfl (hb hby at_73) rfl) ?_
  show Goes p e below _ T1 (mkF m 75 #[.val (.long q1), .second, .val (.long q2), .second, .val (.int p3), .val (.int p4), .val (.int p5), .val (.long q6), .second, .val (.long u1), .second, .val (.long u2), .second, .val (.int u3), .val (.int u4), .unset, .unset, .unset, .unset] [(.int p4), (.int p3), (.long q2), (.long q1), (.ref b1), (.ref b1)])
  refine goSpecial 1 X1 hx hZ rfl hown (hw _ (List.mem_of_getElem? (i := 3) rfl)) (hw _ (List.mem_of_getElem? (i := 4) rfl)) (hw _ (List.mem_of_getElem? (i := 2) rfl)) (hw _ (List.mem_of_getElem? (i := 5) rfl)) (by decide) (rm_init l Z a0 hw b1 q1 q2 p3 p4 h1 n0 O0 g_b1 A1 F1_doubledX F1_doubledY F1_width F1_height F1_cx F1_cy) eT1 (g := (mkF m 75 #[.val (.long q1), .second, .val (.long q2), .second, .val (.int p3), .val (.int p4), .val (.int p5), .val (.long q6), .second, .val (.long u1), .second, .val (.long u2), .second, .val (.int u3), .val (.int u4), .unset, .unset, .unset, .unset] [(.int p4), (.int p3), (.long q2), (.long q1), (.ref b1), (.ref b1)])) rfl (by rw [hml]; rfl) b1 [(.long q1), (.long q2), (.int p3), (.int p4)] [(.ref b1)] (lenOf pd__JJII_V rfl) rfl rfl (by show 2 * 0 + _ ≤ _; exact Nat.le_of_eq rfl) (hb hby at_75) (by decide) (by decide) (by decide) (by decide) ?_
  intro v2 T2 L2 X2 q2
  obtain ⟨rfl, Nq2, Kq2, H0_2, H1_2, H2_2, H3_2⟩ := q2
  have N2 := Fr.app N0 Nq2
  have A1 := A1.keep Kq2
  have O0 := O0.keep Kq2 (allS g_b1 all0)
  show Goes p e below _ T2 (mkF m 78 #[.val (.long q1), .second, .val (.long q2), .second, .val (.int p3), .val (.int p4), .val (.int p5), .val (.long q6), .second, .val (.long u1), .second, .val (.long u2), .second, .val (.int u3), .val (.int u4), .unset, .unset, .unset, .unset] [(.ref b1)])
  refine Goes.of (fun _ => XS.astore X2.here hx rfl (hb hby at_78) rfl rfl (l' := #[.val (.long q1), .second, .val (.long q2), .second, .val (.int p3), .val (.int p4), .val (.int p5), .val (.long q6), .second, .val (.long u1), .second, .val (.long u2), .second, .val (.int u3), .val (.int u4), .val (.ref b1), .unset, .unset, .unset]) rfl) ?_
  show Goes p e below _ T2 (mkF m 80 #[.val (.long q1), .second, .val (.long q2), .second, .val (.int p3), .val (.int p4), .val (.int p5), .val (.long q6), .second, .val (.long u1), .second, .val (.long u2), .second, .val (.int u3), .val (.int u4), .val (.ref b1), .unset, .unset, .unset] [])
  refine goNew X2 hx hZ hown (hw _ (List.mem_of_getElem? (i := 0) rfl)) (hw _ (List.mem_of_getElem? (i := 1) rfl)) (hw _ (List.mem_of_getElem? (i := 2) rfl)) (rfl : T2.heap = _) (g := (mkF m 80 #[.val (.long q1), .second, .val (.long q2), .second, .val (.int p3), .val (.int p4), .val (.int p5), .val (.long q6), .second, .val (.long u1), .second, .val (.long u2), .second, .val (.int u3), .val (.int u4), .val (.ref b1), .unset, .unset, .unset] [])) rfl (hb hby at_80) (by decide) (by decide) ?_
  intro T3 h3 b3 X3 eT3 E3 hb3 A3 D3
  have g_b3 : n0 ≤ b3 := Nat.le_trans (oldLe O0) hb3
  have ne_b1_b3 : b1 ≠ b3 := Nat.ne_of_lt (Nat.lt_of_lt_of_le A1.lt hb3)
  have A1 := A1.ext E3
  have H0_2 := H0_2.ext E3
  have H1_2 := H1_2.ext E3
  have H2_2 := H2_2.ext E3
  have H3_2 := H3_2.ext E3
  have O0 := O0.ext E3
  have F3_doubledX : Fld Z h3 b3 "com/example/casement/casement/graphics/Ellipse" "doubledX" "J" (.long (0 : Int64)) := D3 (Or.inr (hw _ (List.mem_of_getElem? (i := 10) rfl))) (ty := .long) (by decide)
  have F3_doubledY : Fld Z h3 b3 "com/example/casement/casement/graphics/Ellipse" "doubledY" "J" (.long (0 : Int64)) := D3 (Or.inr (hw _ (List.mem_of_getElem? (i := 12) rfl))) (ty := .long) (by decide)
  have F3_width : Fld Z h3 b3 "com/example/casement/casement/graphics/Ellipse" "width" "J" (.long (0 : Int64)) := D3 (Or.inr (hw _ (List.mem_of_getElem? (i := 14) rfl))) (ty := .long) (by decide)
  have F3_height : Fld Z h3 b3 "com/example/casement/casement/graphics/Ellipse" "height" "J" (.long (0 : Int64)) := D3 (Or.inr (hw _ (List.mem_of_getElem? (i := 16) rfl))) (ty := .long) (by decide)
  have F3_cx : Fld Z h3 b3 "com/example/casement/casement/graphics/Ellipse" "cx" "D" (.double (0 : UInt64)) := D3 (Or.inr (hw _ (List.mem_of_getElem? (i := 19) rfl))) (ty := .double) (by decide)
  have F3_cy : Fld Z h3 b3 "com/example/casement/casement/graphics/Ellipse" "cy" "D" (.double (0 : UInt64)) := D3 (Or.inr (hw _ (List.mem_of_getElem? (i := 21) rfl))) (ty := .double) (by decide)
  show Goes p e below _ T3 (mkF m 83 #[.val (.long q1), .second, .val (.long q2), .second, .val (.int p3), .val (.int p4), .val (.int p5), .val (.long q6), .second, .val (.long u1), .second, .val (.long u2), .second, .val (.int u3), .val (.int u4), .val (.ref b1), .unset, .unset, .unset] [(.ref b3)])
  refine Goes.of (fun _ => XS.dup X3.here hx rfl (hb hby at_83) rfl rfl) ?_
  show Goes p e below _ T3 (mkF m 84 #[.val (.long q1), .second, .val (.long q2), .second, .val (.int p3), .val (.int p4), .val (.int p5), .val (.long q6), .second, .val (.long u1), .second, .val (.long u2), .second, .val (.int u3), .val (.int u4), .val (.ref b1), .unset, .unset, .unset] [(.ref b3), (.ref b3)])
  refine Goes.of (fun _ => XS.lload X3.here hx rfl (hb hby at_84) rfl) ?_
  show Goes p e below _ T3 (mkF m 86 #[.val (.long q1), .second, .val (.long q2), .second, .val (.int p3), .val (.int p4), .val (.int p5), .val (.long q6), .second, .val (.long u1), .second, .val (.long u2), .second, .val (.int u3), .val (.int u4), .val (.ref b1), .unset, .unset, .unset] [(.long u1), (.ref b3), (.ref b3)])
  refine Goes.of (fun _ => XS.lload X3.here hx rfl (hb hby at_86) rfl) ?_
  show Goes p e below _ T3 (mkF m 88 #[.val (.long q1), .second, .val (.long q2), .second, .val (.int p3), .val (.int p4), .val (.int p5), .val (.long q6), .second, .val (.long u1), .second, .val (.long u2), .second, .val (.int u3), .val (.int u4), .val (.ref b1), .unset, .unset, .unset] [(.long u2), (.long u1), (.ref b3), (.ref b3)])
  refine Goes.of (fun _ => XS.iload X3.here hx rfl (hb hby at_88) rfl) ?_
  show Goes p e below _ T3 (mkF m 90 #[.val (.long q1), .second, .val (.long q2), .second, .val (.int p3), .val (.int p4), .val (.int p5), .val (.long q6), .second, .val (.long u1), .second, .val (.long u2), .second, .val (.int u3), .val (.int u4), .val (.ref b1), .unset, .unset, .unset] [(.int u3), (.long u2), (.long u1), (.ref b3), (.ref b3)])
  refine Goes.of (fun _ => XS.iload X3.here hx rfl (hb hby at_90) rfl) ?_
  show Goes p e below _ T3 (mkF m 92 #[.val (.long q1), .second, .val (.long q2), .second, .val (.int p3), .val (.int p4), .val (.int p5), .val (.long q6), .second, .val (.long u1), .second, .val (.long u2), .second, .val (.int u3), .val (.int u4), .val (.ref b1), .unset, .unset, .unset] [(.int u4), (.int u3), (.long u2), (.long u1), (.ref b3), (.ref b3)])
  refine goSpecial 1 X3 hx hZ rfl hown (hw _ (List.mem_of_getElem? (i := 3) rfl)) (hw _ (List.mem_of_getElem? (i := 4) rfl)) (hw _ (List.mem_of_getElem? (i := 2) rfl)) (hw _ (List.mem_of_getElem? (i := 5) rfl)) (by decide) (rm_init l Z a0 hw b3 u1 u2 u3 u4 h3 n0 O0 g_b3 A3 F3_doubledX F3_doubledY F3_width F3_height F3_cx F3_cy) eT3 (g := (mkF m 92 #[.val (.long q1), .second, .val (.long q2), .second, .val (.int p3), .val (.int p4), .val (.int p5), .val (.long q6), .second, .val (.long u1), .second, .val (.long u2), .second, .val (.int u3), .val (.int u4), .val (.ref b1), .unset, .unset, .unset] [(.int u4), (.int u3), (.long u2), (.long u1), (.ref b3), (.ref b3)])) rfl (by rw [hml]; rfl) b3 [(.long u1), (.long u2), (.int u3), (.int u4)] [(.ref b3)] (lenOf pd__JJII_V rfl) rfl rfl (by show 2 * 0 + _ ≤ _; exact Nat.le_of_eq rfl) (hb hby at_92) (by decide) (by decide) (by decide) (by decide) ?_
  intro v4 T4 L4 X4 q4
  obtain ⟨rfl, Nq4, Kq4, H0_4, H1_4, H2_4, H3_4⟩ := q4
  have N4 := Fr.app N2 Nq4
  have A1 := A1.keep Kq4
  have H0_2 := H0_2.keep Kq4 (ninS ne_b1_b3 nin0)
  have H1_2 := H1_2.keep Kq4 (ninS ne_b1_b3 nin0)
  have H2_2 := H2_2.keep Kq4 (ninS ne_b1_b3 nin0)
  have H3_2 := H3_2.keep Kq4 (ninS ne_b1_b3 nin0)
  have A3 := A3.keep Kq4
  have O0 := O0.keep Kq4 (allS g_b3 all0)
  show Goes p e below _ T4 (mkF m 95 #[.val (.long q1), .second, .val (.long q2), .second, .val (.int p3), .val (.int p4), .val (.int p5), .val (.long q6), .second, .val (.long u1), .second, .val (.long u2), .second, .val (.int u3), .val (.int u4), .val (.ref b1), .unset, .unset, .unset] [(.ref b3)])
  refine Goes.of (fun _ => XS.astore X4.here hx rfl (hb hby at_95) rfl rfl (l' := #[.val (.long q1), .second, .val (.long q2), .second, .val (.int p3), .val (.int p4), .val (.int p5), .val (.long q6), .second, .val (.long u1), .second, .val (.long u2), .second, .val (.int u3), .val (.int u4), .val (.ref b1), .val (.ref b3), .unset, .unset]) rfl) ?_
  show Goes p e below _ T4 (mkF m 97 #[.val (.long q1), .second, .val (.long q2), .second, .val (.int p3), .val (.int p4), .val (.int p5), .val (.long q6), .second, .val (.long u1), .second, .val (.long u2), .second, .val (.int u3), .val (.int u4), .val (.ref b1), .val (.ref b3), .unset, .unset] [])
  refine Goes.of (fun _ => XS.iload X4.here hx rfl (hb hby at_97) rfl) ?_
  show Goes p e below _ T4 (mkF m 99 #[.val (.long q1), .second, .val (.long q2), .second, .val (.int p3), .val (.int p4), .val (.int p5), .val (.long q6), .second, .val (.long u1), .second, .val (.long u2), .second, .val (.int u3), .val (.int u4), .val (.ref b1), .val (.ref b3), .unset, .unset] [(.int p3)])
  refine goStatic 0 X4 hx hZ hown (hw _ (List.mem_of_getElem? (i := 22) rfl)) (hw _ (List.mem_of_getElem? (i := 23) rfl)) (hw _ (List.mem_of_getElem? (i := 24) rfl)) (hw _ (List.mem_of_getElem? (i := 25) rfl)) (by decide) (rm_valueOf l Z a0 hw p3 ca cl T4.heap n0 O0 IC0) (rfl : T4.heap = _) (g := (mkF m 99 #[.val (.long q1), .second, .val (.long q2), .second, .val (.int p3), .val (.int p4), .val (.int p5), .val (.long q6), .second, .val (.long u1), .second, .val (.long u2), .second, .val (.int u3), .val (.int u4), .val (.ref b1), .val (.ref b3), .unset, .unset] [(.int p3)])) rfl (by rw [hml]; rfl) [(.int p3)] [] (lenOf pd__I_Ljava_lang_Integer_ rfl) rfl rfl (by show 2 * 0 + _ ≤ _; exact Nat.le_of_eq rfl) (hb hby at_99) (by decide) (by decide) (by decide) (by decide) ?_
  intro v5 T5 L5 X5 q5
  obtain ⟨ib5, rfl, Nq5, Kq5, Ei5⟩ := q5
  have N5 := Fr.app N4 Nq5
  have A1 := A1.keep Kq5
  have H0_2 := H0_2.keep Kq5 nin0
  have H1_2 := H1_2.keep Kq5 nin0
  have H2_2 := H2_2.keep Kq5 nin0
  have H3_2 := H3_2.keep Kq5 nin0
  have A3 := A3.keep Kq5
  have H0_4 := H0_4.keep Kq5 nin0
  have H1_4 := H1_4.keep Kq5 nin0
  have H2_4 := H2_4.keep Kq5 nin0
  have H3_4 := H3_4.keep Kq5 nin0
  have O0 := O0.keep Kq5 all0
  show Goes p e below _ T5 (mkF m 102 #[.val (.long q1), .second, .val (.long q2), .second, .val (.int p3), .val (.int p4), .val (.int p5), .val (.long q6), .second, .val (.long u1), .second, .val (.long u2), .second, .val (.int u3), .val (.int u4), .val (.ref b1), .val (.ref b3), .unset, .unset] [(.ref ib5)])
  refine Goes.of (fun _ => XS.astore X5.here hx rfl (hb hby at_102) rfl rfl (l' := #[.val (.long q1), .second, .val (.long q2), .second, .val (.int p3), .val (.int p4), .val (.int p5), .val (.long q6), .second, .val (.long u1), .second, .val (.long u2), .second, .val (.int u3), .val (.int u4), .val (.ref b1), .val (.ref b3), .val (.ref ib5), .unset]) rfl) ?_
  show Goes p e below _ T5 (mkF m 104 #[.val (.long q1), .second, .val (.long q2), .second, .val (.int p3), .val (.int p4), .val (.int p5), .val (.long q6), .second, .val (.long u1), .second, .val (.long u2), .second, .val (.int u3), .val (.int u4), .val (.ref b1), .val (.ref b3), .val (.ref ib5), .unset] [])
  refine Goes.of (fun _ => XS.lload X5.here hx rfl (hb hby at_104) rfl) ?_
  show Goes p e below _ T5 (mkF m 106 #[.val (.long q1), .second, .val (.long q2), .second, .val (.int p3), .val (.int p4), .val (.int p5), .val (.long q6), .second, .val (.long u1), .second, .val (.long u2), .second, .val (.int u3), .val (.int u4), .val (.ref b1), .val (.ref b3), .val (.ref ib5), .unset] [(.long u1)])
  refine Goes.of (fun _ => XS.lloadN X5.here hx rfl (hb hby at_106) rfl) ?_
  show Goes p e below _ T5 (mkF m 107 #[.val (.long q1), .second, .val (.long q2), .second, .val (.int p3), .val (.int p4), .val (.int p5), .val (.long q6), .second, .val (.long u1), .second, .val (.long u2), .second, .val (.int u3), .val (.int u4), .val (.ref b1), .val (.ref b3), .val (.ref ib5), .unset] [(.long q1), (.long u1)])
  refine Goes.of (fun _ => XS.lcmp X5.here hx rfl (hb hby at_107) rfl) ?_
  show Goes p e below _ T5 (mkF m 108 #[.val (.long q1), .second, .val (.long q2), .second, .val (.int p3), .val (.int p4), .val (.int p5), .val (.long q6), .second, .val (.long u1), .second, .val (.long u2), .second, .val (.int u3), .val (.int u4), .val (.ref b1), .val (.ref b3), .val (.ref ib5), .unset] [(.int (lcmpW u1 q1))])
  refine Goes.of (T' := T5) (f' := (mkF m 137 #[.val (.long q1), .second, .val (.long q2), .second, .val (.int p3), .val (.int p4), .val (.int p5), .val (.long q6), .second, .val (.long u1), .second, .val (.long u2), .second, .val (.int u3), .val (.int u4), .val (.ref b1), .val (.ref b3), .val (.ref ib5), .unset] [(.int (if u1 = q1 then (if u2 = q2 then (if u3 = p3 then (if u4 = p4 then (1 : Int32) else (0 : Int32)) else (0 : Int32)) else (0 : Int32)) else (0 : Int32)))])) (fun t kt => ?_) ?_
  · show Steps p.tables e below (T5.setTop (mkF m 108 #[.val (.long q1), .second, .val (.long q2), .second, .val (.int p3), .val (.int p4), .val (.int p5), .val (.long q6), .second, .val (.long u1), .second, .val (.long u2), .second, .val (.int u3), .val (.int u4), .val (.ref b1), .val (.ref b3), .val (.ref ib5), .unset] [(.int (lcmpW u1 q1))])) _
    by_cases hq108 : u1 = q1
    · simp only [if_pos hq108] at kt
      refine XS.ifNo X5.here hx rfl (hb hby at_108) rfl ((if0 _ _).trans (teq ((lw_eq u1 q1).mpr hq108)).2) ?_
      show Steps p.tables e below (T5.setTop (mkF m 111 #[.val (.long q1), .second, .val (.long q2), .second, .val (.int p3), .val (.int p4), .val (.int p5), .val (.long q6), .second, .val (.long u1), .second, .val (.long u2), .second, .val (.int u3), .val (.int u4), .val (.ref b1), .val (.ref b3), .val (.ref ib5), .unset] [])) _
      refine XS.lload X5.here hx rfl (hb hby at_111) rfl ?_
      show Steps p.tables e below (T5.setTop (mkF m 113 #[.val (.long q1), .second, .val (.long q2), .second, .val (.int p3), .val (.int p4), .val (.int p5), .val (.long q6), .second, .val (.long u1), .second, .val (.long u2), .second, .val (.int u3), .val (.int u4), .val (.ref b1), .val (.ref b3), .val (.ref ib5), .unset] [(.long u2)])) _
      refine XS.lloadN X5.here hx rfl (hb hby at_113) rfl ?_
      show Steps p.tables e below (T5.setTop (mkF m 114 #[.val (.long q1), .second, .val (.long q2), .second, .val (.int p3), .val (.int p4), .val (.int p5), .val (.long q6), .second, .val (.long u1), .second, .val (.long u2), .second, .val (.int u3), .val (.int u4), .val (.ref b1), .val (.ref b3), .val (.ref ib5), .unset] [(.long q2), (.long u2)])) _
      refine XS.lcmp X5.here hx rfl (hb hby at_114) rfl ?_
      show Steps p.tables e below (T5.setTop (mkF m 115 #[.val (.long q1), .second, .val (.long q2), .second, .val (.int p3), .val (.int p4), .val (.int p5), .val (.long q6), .second, .val (.long u1), .second, .val (.long u2), .second, .val (.int u3), .val (.int u4), .val (.ref b1), .val (.ref b3), .val (.ref ib5), .unset] [(.int (lcmpW u2 q2))])) _
      by_cases hq115 : u2 = q2
      · simp only [if_pos hq115] at kt
        refine XS.ifNo X5.here hx rfl (hb hby at_115) rfl ((if0 _ _).trans (teq ((lw_eq u2 q2).mpr hq115)).2) ?_
        show Steps p.tables e below (T5.setTop (mkF m 118 #[.val (.long q1), .second, .val (.long q2), .second, .val (.int p3), .val (.int p4), .val (.int p5), .val (.long q6), .second, .val (.long u1), .second, .val (.long u2), .second, .val (.int u3), .val (.int u4), .val (.ref b1), .val (.ref b3), .val (.ref ib5), .unset] [])) _
        refine XS.iload X5.here hx rfl (hb hby at_118) rfl ?_
        show Steps p.tables e below (T5.setTop (mkF m 120 #[.val (.long q1), .second, .val (.long q2), .second, .val (.int p3), .val (.int p4), .val (.int p5), .val (.long q6), .second, .val (.long u1), .second, .val (.long u2), .second, .val (.int u3), .val (.int u4), .val (.ref b1), .val (.ref b3), .val (.ref ib5), .unset] [(.int u3)])) _
        refine XS.iload X5.here hx rfl (hb hby at_120) rfl ?_
        show Steps p.tables e below (T5.setTop (mkF m 122 #[.val (.long q1), .second, .val (.long q2), .second, .val (.int p3), .val (.int p4), .val (.int p5), .val (.long q6), .second, .val (.long u1), .second, .val (.long u2), .second, .val (.int u3), .val (.int u4), .val (.ref b1), .val (.ref b3), .val (.ref ib5), .unset] [(.int p3), (.int u3)])) _
        by_cases hq122 : u3 = p3
        · simp only [if_pos hq122] at kt
          refine XS.icmpNo X5.here hx rfl (hb hby at_122) rfl (teq hq122).2 ?_
          show Steps p.tables e below (T5.setTop (mkF m 125 #[.val (.long q1), .second, .val (.long q2), .second, .val (.int p3), .val (.int p4), .val (.int p5), .val (.long q6), .second, .val (.long u1), .second, .val (.long u2), .second, .val (.int u3), .val (.int u4), .val (.ref b1), .val (.ref b3), .val (.ref ib5), .unset] [])) _
          refine XS.iload X5.here hx rfl (hb hby at_125) rfl ?_
          show Steps p.tables e below (T5.setTop (mkF m 127 #[.val (.long q1), .second, .val (.long q2), .second, .val (.int p3), .val (.int p4), .val (.int p5), .val (.long q6), .second, .val (.long u1), .second, .val (.long u2), .second, .val (.int u3), .val (.int u4), .val (.ref b1), .val (.ref b3), .val (.ref ib5), .unset] [(.int u4)])) _
          refine XS.iload X5.here hx rfl (hb hby at_127) rfl ?_
          show Steps p.tables e below (T5.setTop (mkF m 129 #[.val (.long q1), .second, .val (.long q2), .second, .val (.int p3), .val (.int p4), .val (.int p5), .val (.long q6), .second, .val (.long u1), .second, .val (.long u2), .second, .val (.int u3), .val (.int u4), .val (.ref b1), .val (.ref b3), .val (.ref ib5), .unset] [(.int p4), (.int u4)])) _
          by_cases hq129 : u4 = p4
          · simp only [if_pos hq129] at kt
            refine XS.icmpNo X5.here hx rfl (hb hby at_129) rfl (teq hq129).2 ?_
            show Steps p.tables e below (T5.setTop (mkF m 132 #[.val (.long q1), .second, .val (.long q2), .second, .val (.int p3), .val (.int p4), .val (.int p5), .val (.long q6), .second, .val (.long u1), .second, .val (.long u2), .second, .val (.int u3), .val (.int u4), .val (.ref b1), .val (.ref b3), .val (.ref ib5), .unset] [])) _
            refine XS.iconst X5.here hx rfl (hb hby at_132) ?_
            show Steps p.tables e below (T5.setTop (mkF m 133 #[.val (.long q1), .second, .val (.long q2), .second, .val (.int p3), .val (.int p4), .val (.int p5), .val (.long q6), .second, .val (.long u1), .second, .val (.long u2), .second, .val (.int u3), .val (.int u4), .val (.ref b1), .val (.ref b3), .val (.ref ib5), .unset] [(.int (1 : Int32))])) _
            refine XS.goto X5.here hx rfl (pc0 := 133) (pc' := 137) rfl (hb hby at_133) (by decide) (by decide) ?_
            show Steps p.tables e below (T5.setTop (mkF m 137 #[.val (.long q1), .second, .val (.long q2), .second, .val (.int p3), .val (.int p4), .val (.int p5), .val (.long q6), .second, .val (.long u1), .second, .val (.long u2), .second, .val (.int u3), .val (.int u4), .val (.ref b1), .val (.ref b3), .val (.ref ib5), .unset] [(.int (1 : Int32))])) _
            exact kt
          · simp only [if_neg hq129] at kt
            refine XS.icmpYes X5.here hx rfl (pc0 := 129) (pc' := 136) rfl (hb hby at_129) rfl (feq hq129).2 (by decide) (by decide) ?_
            show Steps p.tables e below (T5.setTop (mkF m 136 #[.val (.long q1), .second, .val (.long q2), .second, .val (.int p3), .val (.int p4), .val (.int p5), .val (.long q6), .second, .val (.long u1), .second, .val (.long u2), .second, .val (.int u3), .val (.int u4), .val (.ref b1), .val (.ref b3), .val (.ref ib5), .unset] [])) _
            refine XS.iconst X5.here hx rfl (hb hby at_136) ?_
            show Steps p.tables e below (T5.setTop (mkF m 137 #[.val (.long q1), .second, .val (.long q2), .second, .val (.int p3), .val (.int p4), .val (.int p5), .val (.long q6), .second, .val (.long u1), .second, .val (.long u2), .second, .val (.int u3), .val (.int u4), .val (.ref b1), .val (.ref b3), .val (.ref ib5), .unset] [(.int (0 : Int32))])) _
            exact kt
        · simp only [if_neg hq122] at kt
          refine XS.icmpYes X5.here hx rfl (pc0 := 122) (pc' := 136) rfl (hb hby at_122) rfl (feq hq122).2 (by decide) (by decide) ?_
          show Steps p.tables e below (T5.setTop (mkF m 136 #[.val (.long q1), .second, .val (.long q2), .second, .val (.int p3), .val (.int p4), .val (.int p5), .val (.long q6), .second, .val (.long u1), .second, .val (.long u2), .second, .val (.int u3), .val (.int u4), .val (.ref b1), .val (.ref b3), .val (.ref ib5), .unset] [])) _
          refine XS.iconst X5.here hx rfl (hb hby at_136) ?_
          show Steps p.tables e below (T5.setTop (mkF m 137 #[.val (.long q1), .second, .val (.long q2), .second, .val (.int p3), .val (.int p4), .val (.int p5), .val (.long q6), .second, .val (.long u1), .second, .val (.long u2), .second, .val (.int u3), .val (.int u4), .val (.ref b1), .val (.ref b3), .val (.ref ib5), .unset] [(.int (0 : Int32))])) _
          exact kt
      · simp only [if_neg hq115] at kt
        refine XS.ifYes X5.here hx rfl (pc0 := 115) (pc' := 136) rfl (hb hby at_115) rfl ((if0 _ _).trans (feq (fun q => hq115 ((lw_eq u2 q2).mp q))).2) (by decide) (by decide) ?_
        show Steps p.tables e below (T5.setTop (mkF m 136 #[.val (.long q1), .second, .val (.long q2), .second, .val (.int p3), .val (.int p4), .val (.int p5), .val (.long q6), .second, .val (.long u1), .second, .val (.long u2), .second, .val (.int u3), .val (.int u4), .val (.ref b1), .val (.ref b3), .val (.ref ib5), .unset] [])) _
        refine XS.iconst X5.here hx rfl (hb hby at_136) ?_
        show Steps p.tables e below (T5.setTop (mkF m 137 #[.val (.long q1), .second, .val (.long q2), .second, .val (.int p3), .val (.int p4), .val (.int p5), .val (.long q6), .second, .val (.long u1), .second, .val (.long u2), .second, .val (.int u3), .val (.int u4), .val (.ref b1), .val (.ref b3), .val (.ref ib5), .unset] [(.int (0 : Int32))])) _
        exact kt
    · simp only [if_neg hq108] at kt
      refine XS.ifYes X5.here hx rfl (pc0 := 108) (pc' := 136) rfl (hb hby at_108) rfl ((if0 _ _).trans (feq (fun q => hq108 ((lw_eq u1 q1).mp q))).2) (by decide) (by decide) ?_
      show Steps p.tables e below (T5.setTop (mkF m 136 #[.val (.long q1), .second, .val (.long q2), .second, .val (.int p3), .val (.int p4), .val (.int p5), .val (.long q6), .second, .val (.long u1), .second, .val (.long u2), .second, .val (.int u3), .val (.int u4), .val (.ref b1), .val (.ref b3), .val (.ref ib5), .unset] [])) _
      refine XS.iconst X5.here hx rfl (hb hby at_136) ?_
      show Steps p.tables e below (T5.setTop (mkF m 137 #[.val (.long q1), .second, .val (.long q2), .second, .val (.int p3), .val (.int p4), .val (.int p5), .val (.long q6), .second, .val (.long u1), .second, .val (.long u2), .second, .val (.int u3), .val (.int u4), .val (.ref b1), .val (.ref b3), .val (.ref ib5), .unset] [(.int (0 : Int32))])) _
      exact kt
  show Goes p e below _ T5 (mkF m 137 #[.val (.long q1), .second, .val (.long q2), .second, .val (.int p3), .val (.int p4), .val (.int p5), .val (.long q6), .second, .val (.long u1), .second, .val (.long u2), .second, .val (.int u3), .val (.int u4), .val (.ref b1), .val (.ref b3), .val (.ref ib5), .unset] [(.int (if u1 = q1 then (if u2 = q2 then (if u3 = p3 then (if u4 = p4 then (1 : Int32) else (0 : Int32)) else (0 : Int32)) else (0 : Int32)) else (0 : Int32)))])
  refine Goes.of (fun _ => XS.istore X5.here hx rfl (hb hby at_137) rfl (l' := #[.val (.long q1), .second, .val (.long q2), .second, .val (.int p3), .val (.int p4), .val (.int p5), .val (.long q6), .second, .val (.long u1), .second, .val (.long u2), .second, .val (.int u3), .val (.int u4), .val (.ref b1), .val (.ref b3), .val (.ref ib5), .val (.int (if u1 = q1 then (if u2 = q2 then (if u3 = p3 then (if u4 = p4 then (1 : Int32) else (0 : Int32)) else (0 : Int32)) else (0 : Int32)) else (0 : Int32)))]) rfl) ?_
  show Goes p e below _ T5 (mkF m 139 #[.val (.long q1), .second, .val (.long q2), .second, .val (.int p3), .val (.int p4), .val (.int p5), .val (.long q6), .second, .val (.long u1), .second, .val (.long u2), .second, .val (.int u3), .val (.int u4), .val (.ref b1), .val (.ref b3), .val (.ref ib5), .val (.int (if u1 = q1 then (if u2 = q2 then (if u3 = p3 then (if u4 = p4 then (1 : Int32) else (0 : Int32)) else (0 : Int32)) else (0 : Int32)) else (0 : Int32)))] [])
  refine Goes.of (fun _ => XS.aload X5.here hx rfl (hb hby at_139) rfl rfl) ?_
  show Goes p e below _ T5 (mkF m 141 #[.val (.long q1), .second, .val (.long q2), .second, .val (.int p3), .val (.int p4), .val (.int p5), .val (.long q6), .second, .val (.long u1), .second, .val (.long u2), .second, .val (.int u3), .val (.int u4), .val (.ref b1), .val (.ref b3), .val (.ref ib5), .val (.int (if u1 = q1 then (if u2 = q2 then (if u3 = p3 then (if u4 = p4 then (1 : Int32) else (0 : Int32)) else (0 : Int32)) else (0 : Int32)) else (0 : Int32)))] [(.ref b1)])
  refine Goes.of (fun _ => XS.aload X5.here hx rfl (hb hby at_141) rfl rfl) ?_
  show Goes p e below _ T5 (mkF m 143 #[.val (.long q1), .second, .val (.long q2), .second, .val (.int p3), .val (.int p4), .val (.int p5), .val (.long q6), .second, .val (.long u1), .second, .val (.long u2), .second, .val (.int u3), .val (.int u4), .val (.ref b1), .val (.ref b3), .val (.ref ib5), .val (.int (if u1 = q1 then (if u2 = q2 then (if u3 = p3 then (if u4 = p4 then (1 : Int32) else (0 : Int32)) else (0 : Int32)) else (0 : Int32)) else (0 : Int32)))] [(.ref b3), (.ref b1)])
  refine goVirtual 0 X5 hx hZ hown (hw _ (List.mem_of_getElem? (i := 29) rfl)) (hw _ (List.mem_of_getElem? (i := 30) rfl)) (notFace_of_selects (args := #[]) (mvT hZ (hw _ (List.mem_of_getElem? (i := 32) rfl)))) (hw _ (List.mem_of_getElem? (i := 32) rfl)) (hw _ (List.mem_of_getElem? (i := 31) rfl)) (hw _ (List.mem_of_getElem? (i := 2) rfl)) (hw _ (List.mem_of_getElem? (i := 33) rfl)) (by decide) (rm_eq l Z a0 hw b1 b3 q1 q2 p3.toInt64 p4.toInt64 u1 u2 u3.toInt64 u4.toInt64 T5.heap n0 O0 A3 H0_2 H1_2 H2_2 H3_2 H0_4 H1_4 H2_4 H3_4) (rfl : T5.heap = _) A1 (g := (mkF m 143 #[.val (.long q1), .second, .val (.long q2), .second, .val (.int p3), .val (.int p4), .val (.int p5), .val (.long q6), .second, .val (.long u1), .second, .val (.long u2), .second, .val (.int u3), .val (.int u4), .val (.ref b1), .val (.ref b3), .val (.ref ib5), .val (.int (if u1 = q1 then (if u2 = q2 then (if u3 = p3 then (if u4 = p4 then (1 : Int32) else (0 : Int32)) else (0 : Int32)) else (0 : Int32)) else (0 : Int32)))] [(.ref b3), (.ref b1)])) rfl (by rw [hml]; rfl) [(.ref b3)] [] (lenOf pd__Ljava_lang_Object__Z rfl) rfl rfl (by show 2 * 0 + _ ≤ _; exact Nat.le_of_eq rfl) (hb hby at_143) (by decide) (by decide) (by decide) (by decide) ?_
  intro v6 T6 L6 X6 q6
  obtain ⟨rfl, Nq6, eT6⟩ := q6
  have N6 := Fr.app N5 Nq6
  show Goes p e below _ T6 (mkF m 146 #[.val (.long q1), .second, .val (.long q2), .second, .val (.int p3), .val (.int p4), .val (.int p5), .val (.long q6), .second, .val (.long u1), .second, .val (.long u2), .second, .val (.int u3), .val (.int u4), .val (.ref b1), .val (.ref b3), .val (.ref ib5), .val (.int (if u1 = q1 then (if u2 = q2 then (if u3 = p3 then (if u4 = p4 then (1 : Int32) else (0 : Int32)) else (0 : Int32)) else (0 : Int32)) else (0 : Int32)))] [(.int (eq4 q1 q2 p3.toInt64 p4.toInt64 u1 u2 u3.toInt64 u4.toInt64))])
  refine Goes.of (fun _ => XS.iload X6.here hx rfl (hb hby at_146) rfl) ?_
  show Goes p e below _ T6 (mkF m 148 #[.val (.long q1), .second, .val (.long q2), .second, .val (.int p3), .val (.int p4), .val (.int p5), .val (.long q6), .second, .val (.long u1), .second, .val (.long u2), .second, .val (.int u3), .val (.int u4), .val (.ref b1), .val (.ref b3), .val (.ref ib5), .val (.int (if u1 = q1 then (if u2 = q2 then (if u3 = p3 then (if u4 = p4 then (1 : Int32) else (0 : Int32)) else (0 : Int32)) else (0 : Int32)) else (0 : Int32)))] [(.int (if u1 = q1 then (if u2 = q2 then (if u3 = p3 then (if u4 = p4 then (1 : Int32) else (0 : Int32)) else (0 : Int32)) else (0 : Int32)) else (0 : Int32))), (.int (eq4 q1 q2 p3.toInt64 p4.toInt64 u1 u2 u3.toInt64 u4.toInt64))])
  refine Goes.of (fun _ => XS.icmpNo X6.here hx rfl (hb hby at_148) rfl (teq (eqE q1 q2 u1 u2 p3 p4 u3 u4)).2) ?_
  show Goes p e below _ T6 (mkF m 151 #[.val (.long q1), .second, .val (.long q2), .second, .val (.int p3), .val (.int p4), .val (.int p5), .val (.long q6), .second, .val (.long u1), .second, .val (.long u2), .second, .val (.int u3), .val (.int u4), .val (.ref b1), .val (.ref b3), .val (.ref ib5), .val (.int (if u1 = q1 then (if u2 = q2 then (if u3 = p3 then (if u4 = p4 then (1 : Int32) else (0 : Int32)) else (0 : Int32)) else (0 : Int32)) else (0 : Int32)))] [])
  refine Goes.of (fun _ => XS.aload X6.here hx rfl (hb hby at_151) rfl rfl) ?_
  show Goes p e below _ T6 (mkF m 153 #[.val (.long q1), .second, .val (.long q2), .second, .val (.int p3), .val (.int p4), .val (.int p5), .val (.long q6), .second, .val (.long u1), .second, .val (.long u2), .second, .val (.int u3), .val (.int u4), .val (.ref b1), .val (.ref b3), .val (.ref ib5), .val (.int (if u1 = q1 then (if u2 = q2 then (if u3 = p3 then (if u4 = p4 then (1 : Int32) else (0 : Int32)) else (0 : Int32)) else (0 : Int32)) else (0 : Int32)))] [(.ref b3)])
  refine Goes.of (fun _ => XS.aload X6.here hx rfl (hb hby at_153) rfl rfl) ?_
  show Goes p e below _ T6 (mkF m 155 #[.val (.long q1), .second, .val (.long q2), .second, .val (.int p3), .val (.int p4), .val (.int p5), .val (.long q6), .second, .val (.long u1), .second, .val (.long u2), .second, .val (.int u3), .val (.int u4), .val (.ref b1), .val (.ref b3), .val (.ref ib5), .val (.int (if u1 = q1 then (if u2 = q2 then (if u3 = p3 then (if u4 = p4 then (1 : Int32) else (0 : Int32)) else (0 : Int32)) else (0 : Int32)) else (0 : Int32)))] [(.ref b1), (.ref b3)])
  refine goVirtual 0 X6 hx hZ hown (hw _ (List.mem_of_getElem? (i := 29) rfl)) (hw _ (List.mem_of_getElem? (i := 30) rfl)) (notFace_of_selects (args := #[]) (mvT hZ (hw _ (List.mem_of_getElem? (i := 32) rfl)))) (hw _ (List.mem_of_getElem? (i := 32) rfl)) (hw _ (List.mem_of_getElem? (i := 31) rfl)) (hw _ (List.mem_of_getElem? (i := 2) rfl)) (hw _ (List.mem_of_getElem? (i := 33) rfl)) (by decide) (rm_eq l Z a0 hw b3 b1 u1 u2 u3.toInt64 u4.toInt64 q1 q2 p3.toInt64 p4.toInt64 T5.heap n0 O0 A1 H0_4 H1_4 H2_4 H3_4 H0_2 H1_2 H2_2 H3_2) eT6 A3 (g := (mkF m 155 #[.val (.long q1), .second, .val (.long q2), .second, .val (.int p3), .val (.int p4), .val (.int p5), .val (.long q6), .second, .val (.long u1), .second, .val (.long u2), .second, .val (.int u3), .val (.int u4), .val (.ref b1), .val (.ref b3), .val (.ref ib5), .val (.int (if u1 = q1 then (if u2 = q2 then (if u3 = p3 then (if u4 = p4 then (1 : Int32) else (0 : Int32)) else (0 : Int32)) else (0 : Int32)) else (0 : Int32)))] [(.ref b1), (.ref b3)])) rfl (by rw [hml]; rfl) [(.ref b1)] [] (lenOf pd__Ljava_lang_Object__Z rfl) rfl rfl (by show 2 * 0 + _ ≤ _; exact Nat.le_of_eq rfl) (hb hby at_155) (by decide) (by decide) (by decide) (by decide) ?_
  intro v7 T7 L7 X7 q7
  obtain ⟨rfl, Nq7, eT7⟩ := q7
  have N7 := Fr.app N6 Nq7
  show Goes p e below _ T7 (mkF m 158 #[.val (.long q1), .second, .val (.long q2), .second, .val (.int p3), .val (.int p4), .val (.int p5), .val (.long q6), .second, .val (.long u1), .second, .val (.long u2), .second, .val (.int u3), .val (.int u4), .val (.ref b1), .val (.ref b3), .val (.ref ib5), .val (.int (if u1 = q1 then (if u2 = q2 then (if u3 = p3 then (if u4 = p4 then (1 : Int32) else (0 : Int32)) else (0 : Int32)) else (0 : Int32)) else (0 : Int32)))] [(.int (eq4 u1 u2 u3.toInt64 u4.toInt64 q1 q2 p3.toInt64 p4.toInt64))])
  refine Goes.of (fun _ => XS.iload X7.here hx rfl (hb hby at_158) rfl) ?_
  show Goes p e below _ T7 (mkF m 160 #[.val (.long q1), .second, .val (.long q2), .second, .val (.int p3), .val (.int p4), .val (.int p5), .val (.long q6), .second, .val (.long u1), .second, .val (.long u2), .second, .val (.int u3), .val (.int u4), .val (.ref b1), .val (.ref b3), .val (.ref ib5), .val (.int (if u1 = q1 then (if u2 = q2 then (if u3 = p3 then (if u4 = p4 then (1 : Int32) else (0 : Int32)) else (0 : Int32)) else (0 : Int32)) else (0 : Int32)))] [(.int (if u1 = q1 then (if u2 = q2 then (if u3 = p3 then (if u4 = p4 then (1 : Int32) else (0 : Int32)) else (0 : Int32)) else (0 : Int32)) else (0 : Int32))), (.int (eq4 u1 u2 u3.toInt64 u4.toInt64 q1 q2 p3.toInt64 p4.toInt64))])
  refine Goes.of (fun _ => XS.icmpNo X7.here hx rfl (hb hby at_160) rfl (teq (eqF q1 q2 u1 u2 p3 p4 u3 u4)).2) ?_
  show Goes p e below _ T7 (mkF m 163 #[.val (.long q1), .second, .val (.long q2), .second, .val (.int p3), .val (.int p4), .val (.int p5), .val (.long q6), .second, .val (.long u1), .second, .val (.long u2), .second, .val (.int u3), .val (.int u4), .val (.ref b1), .val (.ref b3), .val (.ref ib5), .val (.int (if u1 = q1 then (if u2 = q2 then (if u3 = p3 then (if u4 = p4 then (1 : Int32) else (0 : Int32)) else (0 : Int32)) else (0 : Int32)) else (0 : Int32)))] [])
  refine Goes.of (fun _ => XS.aload X7.here hx rfl (hb hby at_163) rfl rfl) ?_
  show Goes p e below _ T7 (mkF m 165 #[.val (.long q1), .second, .val (.long q2), .second, .val (.int p3), .val (.int p4), .val (.int p5), .val (.long q6), .second, .val (.long u1), .second, .val (.long u2), .second, .val (.int u3), .val (.int u4), .val (.ref b1), .val (.ref b3), .val (.ref ib5), .val (.int (if u1 = q1 then (if u2 = q2 then (if u3 = p3 then (if u4 = p4 then (1 : Int32) else (0 : Int32)) else (0 : Int32)) else (0 : Int32)) else (0 : Int32)))] [(.ref b1)])
  refine Goes.of (fun _ => XS.aload X7.here hx rfl (hb hby at_165) rfl rfl) ?_
  show Goes p e below _ T7 (mkF m 167 #[.val (.long q1), .second, .val (.long q2), .second, .val (.int p3), .val (.int p4), .val (.int p5), .val (.long q6), .second, .val (.long u1), .second, .val (.long u2), .second, .val (.int u3), .val (.int u4), .val (.ref b1), .val (.ref b3), .val (.ref ib5), .val (.int (if u1 = q1 then (if u2 = q2 then (if u3 = p3 then (if u4 = p4 then (1 : Int32) else (0 : Int32)) else (0 : Int32)) else (0 : Int32)) else (0 : Int32)))] [(.ref b1), (.ref b1)])
  refine goVirtual 0 X7 hx hZ hown (hw _ (List.mem_of_getElem? (i := 29) rfl)) (hw _ (List.mem_of_getElem? (i := 30) rfl)) (notFace_of_selects (args := #[]) (mvT hZ (hw _ (List.mem_of_getElem? (i := 32) rfl)))) (hw _ (List.mem_of_getElem? (i := 32) rfl)) (hw _ (List.mem_of_getElem? (i := 31) rfl)) (hw _ (List.mem_of_getElem? (i := 2) rfl)) (hw _ (List.mem_of_getElem? (i := 33) rfl)) (by decide) (rm_eq l Z a0 hw b1 b1 q1 q2 p3.toInt64 p4.toInt64 q1 q2 p3.toInt64 p4.toInt64 T5.heap n0 O0 A1 H0_2 H1_2 H2_2 H3_2 H0_2 H1_2 H2_2 H3_2) eT7 A1 (g := (mkF m 167 #[.val (.long q1), .second, .val (.long q2), .second, .val (.int p3), .val (.int p4), .val (.int p5), .val (.long q6), .second, .val (.long u1), .second, .val (.long u2), .second, .val (.int u3), .val (.int u4), .val (.ref b1), .val (.ref b3), .val (.ref ib5), .val (.int (if u1 = q1 then (if u2 = q2 then (if u3 = p3 then (if u4 = p4 then (1 : Int32) else (0 : Int32)) else (0 : Int32)) else (0 : Int32)) else (0 : Int32)))] [(.ref b1), (.ref b1)])) rfl (by rw [hml]; rfl) [(.ref b1)] [] (lenOf pd__Ljava_lang_Object__Z rfl) rfl rfl (by show 2 * 0 + _ ≤ _; exact Nat.le_of_eq rfl) (hb hby at_167) (by decide) (by decide) (by decide) (by decide) ?_
  intro v8 T8 L8 X8 q8
  obtain ⟨rfl, Nq8, eT8⟩ := q8
  have N8 := Fr.app N7 Nq8
  show Goes p e below _ T8 (mkF m 170 #[.val (.long q1), .second, .val (.long q2), .second, .val (.int p3), .val (.int p4), .val (.int p5), .val (.long q6), .second, .val (.long u1), .second, .val (.long u2), .second, .val (.int u3), .val (.int u4), .val (.ref b1), .val (.ref b3), .val (.ref ib5), .val (.int (if u1 = q1 then (if u2 = q2 then (if u3 = p3 then (if u4 = p4 then (1 : Int32) else (0 : Int32)) else (0 : Int32)) else (0 : Int32)) else (0 : Int32)))] [(.int (eq4 q1 q2 p3.toInt64 p4.toInt64 q1 q2 p3.toInt64 p4.toInt64))])
  refine Goes.of (fun _ => XS.ifNo X8.here hx rfl (hb hby at_170) rfl ((if0 _ _).trans (feq (by simp [eq4] : ¬ (eq4 q1 q2 p3.toInt64 p4.toInt64 q1 q2 p3.toInt64 p4.toInt64) = (0 : Int32))).1)) ?_
  show Goes p e below _ T8 (mkF m 173 #[.val (.long q1), .second, .val (.long q2), .second, .val (.int p3), .val (.int p4), .val (.int p5), .val (.long q6), .second, .val (.long u1), .second, .val (.long u2), .second, .val (.int u3), .val (.int u4), .val (.ref b1), .val (.ref b3), .val (.ref ib5), .val (.int (if u1 = q1 then (if u2 = q2 then (if u3 = p3 then (if u4 = p4 then (1 : Int32) else (0 : Int32)) else (0 : Int32)) else (0 : Int32)) else (0 : Int32)))] [])
  refine Goes.of (fun _ => XS.aload X8.here hx rfl (hb hby at_173) rfl rfl) ?_
  show Goes p e below _ T8 (mkF m 175 #[.val (.long q1), .second, .val (.long q2), .second, .val (.int p3), .val (.int p4), .val (.int p5), .val (.long q6), .second, .val (.long u1), .second, .val (.long u2), .second, .val (.int u3), .val (.int u4), .val (.ref b1), .val (.ref b3), .val (.ref ib5), .val (.int (if u1 = q1 then (if u2 = q2 then (if u3 = p3 then (if u4 = p4 then (1 : Int32) else (0 : Int32)) else (0 : Int32)) else (0 : Int32)) else (0 : Int32)))] [(.ref b1)])
  refine Goes.of (fun _ => XS.aconstNull X8.here hx rfl (hb hby at_175)) ?_
  show Goes p e below _ T8 (mkF m 176 #[.val (.long q1), .second, .val (.long q2), .second, .val (.int p3), .val (.int p4), .val (.int p5), .val (.long q6), .second, .val (.long u1), .second, .val (.long u2), .second, .val (.int u3), .val (.int u4), .val (.ref b1), .val (.ref b3), .val (.ref ib5), .val (.int (if u1 = q1 then (if u2 = q2 then (if u3 = p3 then (if u4 = p4 then (1 : Int32) else (0 : Int32)) else (0 : Int32)) else (0 : Int32)) else (0 : Int32)))] [.null, (.ref b1)])
  refine goVirtual 0 X8 hx hZ hown (hw _ (List.mem_of_getElem? (i := 29) rfl)) (hw _ (List.mem_of_getElem? (i := 30) rfl)) (notFace_of_selects (args := #[]) (mvT hZ (hw _ (List.mem_of_getElem? (i := 32) rfl)))) (hw _ (List.mem_of_getElem? (i := 32) rfl)) (hw _ (List.mem_of_getElem? (i := 31) rfl)) (hw _ (List.mem_of_getElem? (i := 2) rfl)) (hw _ (List.mem_of_getElem? (i := 33) rfl)) (by decide) (rm_eqnull l Z a0 hw b1 T5.heap n0 O0) eT8 A1 (g := (mkF m 176 #[.val (.long q1), .second, .val (.long q2), .second, .val (.int p3), .val (.int p4), .val (.int p5), .val (.long q6), .second, .val (.long u1), .second, .val (.long u2), .second, .val (.int u3), .val (.int u4), .val (.ref b1), .val (.ref b3), .val (.ref ib5), .val (.int (if u1 = q1 then (if u2 = q2 then (if u3 = p3 then (if u4 = p4 then (1 : Int32) else (0 : Int32)) else (0 : Int32)) else (0 : Int32)) else (0 : Int32)))] [.null, (.ref b1)])) rfl (by rw [hml]; rfl) [.null] [] (lenOf pd__Ljava_lang_Object__Z rfl) rfl rfl (by show 2 * 0 + _ ≤ _; exact Nat.le_of_eq rfl) (hb hby at_176) (by decide) (by decide) (by decide) (by decide) ?_
  intro v9 T9 L9 X9 q9
  obtain ⟨rfl, Nq9, eT9⟩ := q9
  have N9 := Fr.app N8 Nq9
  show Goes p e below _ T9 (mkF m 179 #[.val (.long q1), .second, .val (.long q2), .second, .val (.int p3), .val (.int p4), .val (.int p5), .val (.long q6), .second, .val (.long u1), .second, .val (.long u2), .second, .val (.int u3), .val (.int u4), .val (.ref b1), .val (.ref b3), .val (.ref ib5), .val (.int (if u1 = q1 then (if u2 = q2 then (if u3 = p3 then (if u4 = p4 then (1 : Int32) else (0 : Int32)) else (0 : Int32)) else (0 : Int32)) else (0 : Int32)))] [(.int (0 : Int32))])
  refine Goes.of (fun _ => XS.ifNo X9.here hx rfl (hb hby at_179) rfl ((if0 _ _).trans (teq (by decide)).2)) ?_
  show Goes p e below _ T9 (mkF m 182 #[.val (.long q1), .second, .val (.long q2), .second, .val (.int p3), .val (.int p4), .val (.int p5), .val (.long q6), .second, .val (.long u1), .second, .val (.long u2), .second, .val (.int u3), .val (.int u4), .val (.ref b1), .val (.ref b3), .val (.ref ib5), .val (.int (if u1 = q1 then (if u2 = q2 then (if u3 = p3 then (if u4 = p4 then (1 : Int32) else (0 : Int32)) else (0 : Int32)) else (0 : Int32)) else (0 : Int32)))] [])
  refine Goes.of (fun _ => XS.aload X9.here hx rfl (hb hby at_182) rfl rfl) ?_
  show Goes p e below _ T9 (mkF m 184 #[.val (.long q1), .second, .val (.long q2), .second, .val (.int p3), .val (.int p4), .val (.int p5), .val (.long q6), .second, .val (.long u1), .second, .val (.long u2), .second, .val (.int u3), .val (.int u4), .val (.ref b1), .val (.ref b3), .val (.ref ib5), .val (.int (if u1 = q1 then (if u2 = q2 then (if u3 = p3 then (if u4 = p4 then (1 : Int32) else (0 : Int32)) else (0 : Int32)) else (0 : Int32)) else (0 : Int32)))] [(.ref b1)])
  refine Goes.of (fun _ => XS.aload X9.here hx rfl (hb hby at_184) rfl rfl) ?_
  show Goes p e below _ T9 (mkF m 186 #[.val (.long q1), .second, .val (.long q2), .second, .val (.int p3), .val (.int p4), .val (.int p5), .val (.long q6), .second, .val (.long u1), .second, .val (.long u2), .second, .val (.int u3), .val (.int u4), .val (.ref b1), .val (.ref b3), .val (.ref ib5), .val (.int (if u1 = q1 then (if u2 = q2 then (if u3 = p3 then (if u4 = p4 then (1 : Int32) else (0 : Int32)) else (0 : Int32)) else (0 : Int32)) else (0 : Int32)))] [(.ref ib5), (.ref b1)])
  refine goVirtual 0 X9 hx hZ hown (hw _ (List.mem_of_getElem? (i := 29) rfl)) (hw _ (List.mem_of_getElem? (i := 30) rfl)) (notFace_of_selects (args := #[]) (mvT hZ (hw _ (List.mem_of_getElem? (i := 32) rfl)))) (hw _ (List.mem_of_getElem? (i := 32) rfl)) (hw _ (List.mem_of_getElem? (i := 31) rfl)) (hw _ (List.mem_of_getElem? (i := 2) rfl)) (hw _ (List.mem_of_getElem? (i := 33) rfl)) (by decide) (rm_eqint l Z a0 hw b1 ib5 T5.heap n0 O0 Ei5) eT9 A1 (g := (mkF m 186 #[.val (.long q1), .second, .val (.long q2), .second, .val (.int p3), .val (.int p4), .val (.int p5), .val (.long q6), .second, .val (.long u1), .second, .val (.long u2), .second, .val (.int u3), .val (.int u4), .val (.ref b1), .val (.ref b3), .val (.ref ib5), .val (.int (if u1 = q1 then (if u2 = q2 then (if u3 = p3 then (if u4 = p4 then (1 : Int32) else (0 : Int32)) else (0 : Int32)) else (0 : Int32)) else (0 : Int32)))] [(.ref ib5), (.ref b1)])) rfl (by rw [hml]; rfl) [(.ref ib5)] [] (lenOf pd__Ljava_lang_Object__Z rfl) rfl rfl (by show 2 * 0 + _ ≤ _; exact Nat.le_of_eq rfl) (hb hby at_186) (by decide) (by decide) (by decide) (by decide) ?_
  intro v10 T10 L10 X10 q10
  obtain ⟨rfl, Nq10, eT10⟩ := q10
  have N10 := Fr.app N9 Nq10
  show Goes p e below _ T10 (mkF m 189 #[.val (.long q1), .second, .val (.long q2), .second, .val (.int p3), .val (.int p4), .val (.int p5), .val (.long q6), .second, .val (.long u1), .second, .val (.long u2), .second, .val (.int u3), .val (.int u4), .val (.ref b1), .val (.ref b3), .val (.ref ib5), .val (.int (if u1 = q1 then (if u2 = q2 then (if u3 = p3 then (if u4 = p4 then (1 : Int32) else (0 : Int32)) else (0 : Int32)) else (0 : Int32)) else (0 : Int32)))] [(.int (0 : Int32))])
  refine Goes.of (fun _ => XS.ifNo X10.here hx rfl (hb hby at_189) rfl ((if0 _ _).trans (teq (by decide)).2)) ?_
  show Goes p e below _ T10 (mkF m 192 #[.val (.long q1), .second, .val (.long q2), .second, .val (.int p3), .val (.int p4), .val (.int p5), .val (.long q6), .second, .val (.long u1), .second, .val (.long u2), .second, .val (.int u3), .val (.int u4), .val (.ref b1), .val (.ref b3), .val (.ref ib5), .val (.int (if u1 = q1 then (if u2 = q2 then (if u3 = p3 then (if u4 = p4 then (1 : Int32) else (0 : Int32)) else (0 : Int32)) else (0 : Int32)) else (0 : Int32)))] [])
  refine Goes.of (fun _ => XS.iconst X10.here hx rfl (hb hby at_192)) ?_
  show Goes p e below _ T10 (mkF m 193 #[.val (.long q1), .second, .val (.long q2), .second, .val (.int p3), .val (.int p4), .val (.int p5), .val (.long q6), .second, .val (.long u1), .second, .val (.long u2), .second, .val (.int u3), .val (.int u4), .val (.ref b1), .val (.ref b3), .val (.ref ib5), .val (.int (if u1 = q1 then (if u2 = q2 then (if u3 = p3 then (if u4 = p4 then (1 : Int32) else (0 : Int32)) else (0 : Int32)) else (0 : Int32)) else (0 : Int32)))] [(.int (1 : Int32))])
  refine Goes.of (fun _ => XS.goto X10.here hx rfl (pc0 := 193) (pc' := 197) rfl (hb hby at_193) (by decide) (by decide)) ?_
  show Goes p e below _ T10 (mkF m 197 #[.val (.long q1), .second, .val (.long q2), .second, .val (.int p3), .val (.int p4), .val (.int p5), .val (.long q6), .second, .val (.long u1), .second, .val (.long u2), .second, .val (.int u3), .val (.int u4), .val (.ref b1), .val (.ref b3), .val (.ref ib5), .val (.int (if u1 = q1 then (if u2 = q2 then (if u3 = p3 then (if u4 = p4 then (1 : Int32) else (0 : Int32)) else (0 : Int32)) else (0 : Int32)) else (0 : Int32)))] [(.int (1 : Int32))])
  exact retZ (t := .boolean) X10 hx hret hlk (by simp) (hb hby at_197) eT10 (by decide) (by decide) ⟨rfl, N10⟩
set_option maxRecDepth 65536 in
set_option maxHeartbeats 40000000 in
theorem comes_1 {Post : Tables → Env → Array Value → State → Outcome → State → Prop} (hpost : ∀ tb e args s v u, (limb_1_1.after args s (.returned v) u = true ∧ limb_1_2.after args s (.returned v) u = true ∧ True) → FrameEnd s (.returned v) u (Jvm.fieldLocs frame_1_writes args s ++ Jvm.arrayLocs frame_1_arrays args s ++ Jvm.staticLocs frame_1_statics s) 16 128 → Post tb e args s (.returned v) u) :
    ArmFor flags0 classFile x code maxLocals ret World_1 tables_1 room_1 Calls_1 rest_1 Pre_1 Post := by
  intro l hfl _ _ p e ha hc hk s m args below hf hA hF happ hP
  obtain ⟨hcalls, hrest, hpre⟩ := hP
  obtain ⟨-, -, -, hnamed, -, -, -, hat⟩ := (Spec.applies_iff hf).mp happ
  obtain ⟨hg, hn⟩ := and_e (Cond.before_iff.mp (show (Jvm.Cond.and given_1 narrow_1).before args s = true from hpre))
  obtain ⟨hcount, hg0⟩ := and_e hg
  obtain ⟨hv0, hg1⟩ := and_e hg0
  obtain ⟨hv1, hg2⟩ := and_e hg1
  obtain ⟨hv2, hg3⟩ := and_e hg2
  obtain ⟨hv3, hg4⟩ := and_e hg3
  obtain ⟨hv4, hg5⟩ := and_e hg4
  have hv5 := hg5
  obtain ⟨w0, w1, w2, w3, w4, w5, rfl⟩ : ∃ w0 w1 w2 w3 w4 w5 : Value, args = #[w0, w1, w2, w3, w4, w5] := by
    have hs : args.size = 6 := by simpa [Cond.value, given_1] using hcount
    obtain ⟨L⟩ := args
    match L, hs with
    | [w0, w1, w2, w3, w4, w5], _ => exact ⟨w0, w1, w2, w3, w4, w5, rfl⟩
  have hw := fun d (hd : d ∈ tables_1) => atoms_spec (ws := Jvm.Cond.code x code maxLocals ret :: tables_1) hat d (List.mem_cons_of_mem _ hd)
  have hfit : Fit s := fun {y c} hc i hi => by
    obtain ⟨ha, rfl⟩ := Array.getElem?_eq_some_iff.mp hc
    have q := List.all_eq_true.mp ((Array.all_eq_true_iff_forall_mem.mp hF) _ (Array.getElem_mem ha)) i (List.mem_range.mpr hi)
    simpa [Array.getElem?_eq_getElem hi] using q
  obtain ⟨hsets, hown0⟩ := atoms_of _ (rest_1_c_eq ▸ (show rest_1_c.before _ s = true from hrest))
  obtain ⟨i0, ei0⟩ := isL_v hv0
  obtain rfl : w0 = (.long i0) := Option.some.inj ei0
  obtain ⟨i1, ei1⟩ := isL_v hv1
  obtain rfl : w1 = (.long i1) := Option.some.inj ei1
  obtain ⟨i2, ei2⟩ := is_v hv2
  obtain rfl : w2 = (.int i2) := Option.some.inj ei2
  obtain ⟨i3, ei3⟩ := is_v hv3
  obtain rfl : w3 = (.int i3) := Option.some.inj ei3
  obtain ⟨i4, ei4⟩ := is_v hv4
  obtain rfl : w4 = (.int i4) := Option.some.inj ei4
  obtain ⟨i5, ei5⟩ := isL_v hv5
  obtain rfl : w5 = (.long i5) := Option.some.inj ei5
  obtain ⟨ca, evc⟩ := arr_v (Cond.before_iff.mp (hsets _ (List.mem_of_getElem? (i := 4) rfl)))
  obtain ⟨cl, Acl⟩ := Arr.start evc (Cond.before_iff.mp (hsets _ (List.mem_of_getElem? (i := 4) rfl)))
  have IC0 : IntC s ca cl := intC_of (hw _ (List.mem_of_getElem? (i := 27) rfl)) (hsets _ (List.mem_of_getElem? (i := 0) rfl)) (hsets _ (List.mem_of_getElem? (i := 2) rfl)) (hsets _ (List.mem_of_getElem? (i := 3) rfl)) (hsets _ (List.mem_of_getElem? (i := 6) rfl)) (hsets _ (List.mem_of_getElem? (i := 7) rfl)) rfl evc Acl
  obtain ⟨n, o, h1, h2, h3, _, L, rfl, ⟨rfl, N⟩, hq⟩ := rm_law l s _ hw tables_1 i0 i1 i2 i3 i4 i5 ca cl s.heap s.heap.size (Old.start s) IC0 p e ha hc hk s m _ below hf ((Spec.applies_iff_loose hf).mp happ).1 ⟨rfl, State.Warmed39.refl s, rfl⟩ trivial
  refine ⟨n, _, h1, h2, h3, hpost _ _ _ _ _ _ ⟨Cond.after_iff.mpr rfl, Cond.after_iff.mpr (eq_i res_at (Term.int_eval (1)) rfl), trivial⟩ ⟨hq.1, hq.2.1, (hq.2.2.sift fun y hy => Or.inr (N y hy)).mono (by decide) (by decide)⟩⟩
theorem main_1_1 : Claimed_1_1 := comes_1 fun _ _ _ _ _ _ h hF => ⟨h.1, hF⟩
theorem main_1_2 : Claimed_1_2 := comes_1 fun _ _ _ _ _ _ h hF => ⟨h.2.1, hF⟩
end Jvm.Pilot.@@N@@
namespace Jvm.Pilot.@@N@@
open Jvm Jvm.ClassFile Sem Op Lib Jvm.Free Jvm.Stand Jvm.Pilot.@@N@@.Jvm.D
/-! MADE BY PROGRAM (witnessworld.py) out of the Statement's table words and the real class files: 16 classes; the members and pool entries that the words name. The judged class is class 1, her method 1. -/
namespace start1
open Jvm.ClassFile
def u (s : String) : CpInfo := .utf8 (stringToUtf16 s)
/-- a pool by its gaps: so many unusable entries, then the entry; so many at the end -/
def gap : Nat → List CpInfo → List CpInfo
  | 0, r => r
  | n + 1, r => .unusable :: gap n r
def poolList (es : List (Nat × CpInfo)) (last : Nat) : List CpInfo := es.foldr (fun e r => gap e.1 (e.2 :: r)) (gap last [])
def pool (es : List (Nat × CpInfo)) (last : Nat) : Array CpInfo := ⟨poolList es last⟩
def fileOf (pool : Array CpInfo) (this : Nat) (attrs : Array Attribute := #[]) (ms : Array MethodInfo := #[]) (fl : Nat := 33) (sup : Nat := 0) (ifs : Array Nat := #[]) (fds : Array FieldInfo := #[]) : ClassFile where
  minorVersion := 0
  majorVersion := 65
  constantPool := pool
  accessFlags := fl
  thisClass := this
  superClass := sup
  interfaces := ifs
  fields := fds
  methods := ms
  attributes := attrs
def plain (name : String) (sup : Option ClassId) : Class where
  name := name
  kind := .ordinary
  loader := none
  accessFlags := 33
  super := sup
  interfaces := #[]
  cf := none
  fields := #[]
  methods := #[]
  instanceTypes := #[]
  staticTypes := #[]
  resolved := #[]
  callSites := []
  init := .initialized
  statics := none
  mirror := none

def pool0 : Array CpInfo := pool [(5, u "<init>"), (0, u "()V"), (1, .class_ 10), (1, u "java/lang/Object")] 113

def k0c0 : Code := { maxStack := 0, maxLocals := 1, code := object_method_1_code, exceptionTable := #[], attributes := #[] }
def k0m0 : Method := { name := "<init>", desc := "()V", sig := { parameters := [], returnType := none }, accessFlags := 1, code := some k0c0 }
/-- java/lang/Object -/
def k0 : Class := { plain "java/lang/Object" none with
  accessFlags := 33
  interfaces := #[]
  cf := some (fileOf pool0 8 #[] #[{ accessFlags := 1, nameIndex := 5, descriptorIndex := 6, attributes := #[] }] 33 0 #[] #[])
  fields := #[]
  methods := #[k0m0]
  instanceTypes := #[]
  staticTypes := #[]
  resolved := Array.replicate 124 none
  statics := none }

def pool1 : Array CpInfo := pool [(2, .class_ 4), (1, u "java/lang/Object"), (0, u "<init>"), (0, u "()V"), (0, .class_ 8), (0, u "com/example/casement/casement/graphics/Ellipse"), (0, .methodref 7 10), (0, .nameAndType 5 11), (0, u "(JJII)V"), (0, .methodref 13 14), (0, .class_ 15), (0, .nameAndType 16 17), (0, u "java/lang/Integer"), (0, u "valueOf"), (0, u "(I)Ljava/lang/Integer;"), (0, .methodref 7 19), (0, .nameAndType 20 21), (0, u "equals"), (0, u "(Ljava/lang/Object;)Z"), (0, .class_ 23), (0, u "com/example/casement/casement/graphics/EllipseEqualsPinLaw"), (2, u "law"), (0, u "(JJIIIJ)Z")] 3

def k1m0 : Method := { name := "<init>", desc := "()V", sig := { parameters := [], returnType := none }, accessFlags := 1, code := none }
def k1c1 : Code := { maxStack := 8, maxLocals := 19, code := code, exceptionTable := #[], attributes := #[] }
def k1m1 : Method := { name := "law", desc := "(JJIIIJ)Z", sig := { parameters := [.long, .long, .int, .int, .int, .long], returnType := some .boolean }, accessFlags := 9, code := some k1c1 }
/-- com/example/casement/casement/graphics/EllipseEqualsPinLaw -/
def k1 : Class := { plain "com/example/casement/casement/graphics/EllipseEqualsPinLaw" (some 0) with
  accessFlags := 49
  interfaces := #[]
  cf := some (fileOf pool1 22 #[] #[{ accessFlags := 1, nameIndex := 5, descriptorIndex := 6, attributes := #[] }, { accessFlags := 9, nameIndex := 26, descriptorIndex := 27, attributes := #[] }] 49 2 #[] #[])
  fields := #[]
  methods := #[k1m0, k1m1]
  instanceTypes := #[]
  staticTypes := #[]
  resolved := Array.replicate 31 none
  statics := none }

def pool2 : Array CpInfo := pool [(1, .methodref 2 3), (0, .class_ 4), (0, .nameAndType 5 6), (0, u "java/lang/Object"), (0, u "<init>"), (0, u "()V"), (0, .fieldref 8 9), (0, .class_ 10), (0, .nameAndType 11 12), (0, u "com/example/casement/casement/graphics/Ellipse"), (0, u "doubledX"), (0, u "J"), (0, .fieldref 8 14), (0, .nameAndType 15 12), (0, u "doubledY"), (0, .fieldref 8 17), (0, .nameAndType 18 12), (0, u "width"), (0, .fieldref 8 20), (0, .nameAndType 21 12), (0, u "height"), (0, .double 4611686018427387904), (1, .fieldref 8 25), (0, .nameAndType 26 27), (0, u "cx"), (0, u "D"), (0, .fieldref 8 29), (0, .nameAndType 30 27), (0, u "cy"), (39, .class_ 71), (0, u "com/example/casement/casement/graphics/Ellipse$EllipseEdge"), (8, u "(Ljava/lang/Object;)Z"), (30, u "FULL_CIRCLE"), (0, u "I"), (2, u "QUARTER"), (1, u "SIXTY_DEGREES"), (1, u "(JJII)V"), (18, u "equals")] 6

def k2c0 : Code := { maxStack := 5, maxLocals := 7, code := prog_13_method_1_code, exceptionTable := #[], attributes := #[] }
def k2m0 : Method := { name := "<init>", desc := "(JJII)V", sig := { parameters := [.long, .long, .int, .int], returnType := none }, accessFlags := 0, code := some k2c0 }
def k2c1 : Code := { maxStack := 4, maxLocals := 3, code := prog_13_method_12_code, exceptionTable := #[], attributes := #[] }
def k2m1 : Method := { name := "equals", desc := "(Ljava/lang/Object;)Z", sig := { parameters := [(.object "java/lang/Object")], returnType := some .boolean }, accessFlags := 1, code := some k2c1 }
/-- com/example/casement/casement/graphics/Ellipse -/
def k2 : Class := { plain "com/example/casement/casement/graphics/Ellipse" (some 0) with
  accessFlags := 48
  interfaces := #[]
  cf := some (fileOf pool2 8 #[.nestMembers #[70]] #[{ accessFlags := 0, nameIndex := 5, descriptorIndex := 119, attributes := #[] }, { accessFlags := 1, nameIndex := 138, descriptorIndex := 80, attributes := #[] }] 48 2 #[] #[{ accessFlags := 24, nameIndex := 111, descriptorIndex := 112, attributes := #[] }, { accessFlags := 24, nameIndex := 115, descriptorIndex := 112, attributes := #[] }, { accessFlags := 26, nameIndex := 117, descriptorIndex := 112, attributes := #[] }, { accessFlags := 18, nameIndex := 11, descriptorIndex := 12, attributes := #[] }, { accessFlags := 18, nameIndex := 15, descriptorIndex := 12, attributes := #[] }, { accessFlags := 18, nameIndex := 18, descriptorIndex := 12, attributes := #[] }, { accessFlags := 18, nameIndex := 21, descriptorIndex := 12, attributes := #[] }, { accessFlags := 18, nameIndex := 26, descriptorIndex := 27, attributes := #[] }, { accessFlags := 18, nameIndex := 30, descriptorIndex := 27, attributes := #[] }])
  fields := #[{ name := "FULL_CIRCLE", type := .int, accessFlags := 24, slot := 0, constantValue := 0 }, { name := "QUARTER", type := .int, accessFlags := 24, slot := 1, constantValue := 0 }, { name := "SIXTY_DEGREES", type := .int, accessFlags := 26, slot := 2, constantValue := 0 }, { name := "doubledX", type := .long, accessFlags := 18, slot := 0, constantValue := 0 }, { name := "doubledY", type := .long, accessFlags := 18, slot := 1, constantValue := 0 }, { name := "width", type := .long, accessFlags := 18, slot := 2, constantValue := 0 }, { name := "height", type := .long, accessFlags := 18, slot := 3, constantValue := 0 }, { name := "cx", type := .double, accessFlags := 18, slot := 4, constantValue := 0 }, { name := "cy", type := .double, accessFlags := 18, slot := 5, constantValue := 0 }]
  methods := #[k2m0, k2m1]
  instanceTypes := #[.long, .long, .long, .long, .double, .double]
  staticTypes := #[.int, .int, .int]
  resolved := Array.replicate 145 none
  statics := none }

def pool3 : Array CpInfo := pool [(1, .class_ 2), (0, u "java/io/Serializable"), (0, .class_ 4), (0, u "java/lang/Object")] 2

/-- java/io/Serializable -/
def k3 : Class := { plain "java/io/Serializable" (some 0) with
  accessFlags := 1537
  interfaces := #[]
  cf := some (fileOf pool3 1 #[] #[] 1537 3 #[] #[])
  fields := #[]
  methods := #[]
  instanceTypes := #[]
  staticTypes := #[]
  resolved := Array.replicate 7 none
  statics := none }

def pool4 : Array CpInfo := pool [(1, .methodref 2 3), (0, .class_ 4), (0, .nameAndType 5 6), (0, u "java/lang/Object"), (0, u "<init>"), (0, u "()V"), (1, .class_ 10), (1, u "java/lang/Number"), (2, .class_ 14), (0, u "java/io/Serializable"), (0, u "serialVersionUID"), (0, u "J")] 20

def k4c0 : Code := { maxStack := 1, maxLocals := 1, code := jdk_18_method_1_code, exceptionTable := #[], attributes := #[] }
def k4m0 : Method := { name := "<init>", desc := "()V", sig := { parameters := [], returnType := none }, accessFlags := 1, code := some k4c0 }
/-- java/lang/Number -/
def k4 : Class := { plain "java/lang/Number" (some 0) with
  accessFlags := 1057
  interfaces := #[3]
  cf := some (fileOf pool4 8 #[] #[{ accessFlags := 1, nameIndex := 5, descriptorIndex := 6, attributes := #[] }] 1057 2 #[13] #[{ accessFlags := 26, nameIndex := 15, descriptorIndex := 16, attributes := #[] }])
  fields := #[{ name := "serialVersionUID", type := .long, accessFlags := 26, slot := 0, constantValue := 0 }]
  methods := #[k4m0]
  instanceTypes := #[]
  staticTypes := #[.long]
  resolved := Array.replicate 37 none
  statics := none }

def pool5 : Array CpInfo := pool [(1, .class_ 2), (0, u "java/lang/Comparable"), (0, .class_ 4), (0, u "java/lang/Object")] 7

/-- java/lang/Comparable -/
def k5 : Class := { plain "java/lang/Comparable" (some 0) with
  accessFlags := 1537
  interfaces := #[]
  cf := some (fileOf pool5 1 #[] #[] 1537 3 #[] #[])
  fields := #[]
  methods := #[]
  instanceTypes := #[]
  staticTypes := #[]
  resolved := Array.replicate 12 none
  statics := none }

def pool6 : Array CpInfo := pool [(1, .class_ 2), (0, u "java/lang/constant/Constable"), (0, .class_ 4), (0, u "java/lang/Object")] 6

/-- java/lang/constant/Constable -/
def k6 : Class := { plain "java/lang/constant/Constable" (some 0) with
  accessFlags := 1537
  interfaces := #[]
  cf := some (fileOf pool6 1 #[] #[] 1537 3 #[] #[])
  fields := #[]
  methods := #[]
  instanceTypes := #[]
  staticTypes := #[]
  resolved := Array.replicate 11 none
  statics := none }

def pool7 : Array CpInfo := pool [(1, .class_ 2), (0, u "java/lang/constant/ConstantDesc"), (0, .class_ 4), (0, u "java/lang/Object")] 32

/-- java/lang/constant/ConstantDesc -/
def k7 : Class := { plain "java/lang/constant/ConstantDesc" (some 0) with
  accessFlags := 1537
  interfaces := #[]
  cf := some (fileOf pool7 1 #[] #[] 1537 3 #[] #[])
  fields := #[]
  methods := #[]
  instanceTypes := #[]
  staticTypes := #[]
  resolved := Array.replicate 37 none
  statics := none }

def pool8 : Array CpInfo := pool [(1, .class_ 2), (0, u "java/lang/Integer"), (16, u "digits"), (0, u "[C"), (46, u "<init>"), (17, u "DigitOnes"), (0, u "[B"), (2, u "DigitTens"), (10, .nameAndType 67 101), (0, u "()V"), (85, u "valueOf"), (0, u "(I)Ljava/lang/Integer;"), (0, .class_ 190), (0, u "java/lang/Integer$IntegerCache"), (0, .fieldref 189 192), (0, .nameAndType 193 194), (0, u "high"), (0, u "I"), (0, .fieldref 189 196), (0, .nameAndType 197 198), (0, u "cache"), (0, u "[Ljava/lang/Integer;"), (0, .methodref 1 200), (0, .nameAndType 67 201), (0, u "(I)V"), (0, .methodref 203 100), (0, .class_ 204), (0, u "java/lang/Number"), (0, .fieldref 1 206), (0, .nameAndType 207 194), (0, u "value"), (94, u "TYPE"), (0, u "Ljava/lang/Class;"), (0, .class_ 305), (0, u "java/lang/Comparable"), (0, .class_ 307), (0, u "java/lang/constant/Constable"), (0, .class_ 309), (0, u "java/lang/constant/ConstantDesc"), (0, u "MIN_VALUE"), (1, u "MAX_VALUE"), (3, u "SIZE"), (1, u "BYTES"), (1, u "serialVersionUID"), (0, u "J")] 131

def k8c0 : Code := { maxStack := 3, maxLocals := 1, code := jdk_33_method_22_code, exceptionTable := #[], attributes := #[] }
def k8m0 : Method := { name := "valueOf", desc := "(I)Ljava/lang/Integer;", sig := { parameters := [.int], returnType := some (.object "java/lang/Integer") }, accessFlags := 9, code := some k8c0 }
def k8c1 : Code := { maxStack := 2, maxLocals := 2, code := jdk_33_method_23_code, exceptionTable := #[], attributes := #[] }
def k8m1 : Method := { name := "<init>", desc := "(I)V", sig := { parameters := [.int], returnType := none }, accessFlags := 1, code := some k8c1 }
/-- java/lang/Integer -/
def k8 : Class := { plain "java/lang/Integer" (some 4) with
  accessFlags := 49
  interfaces := #[5, 6, 7]
  cf := some (fileOf pool8 1 #[.nestMembers #[189]] #[{ accessFlags := 9, nameIndex := 187, descriptorIndex := 188, attributes := #[] }, { accessFlags := 1, nameIndex := 67, descriptorIndex := 201, attributes := #[] }] 49 203 #[304, 306, 308] #[{ accessFlags := 25, nameIndex := 310, descriptorIndex := 194, attributes := #[] }, { accessFlags := 25, nameIndex := 312, descriptorIndex := 194, attributes := #[] }, { accessFlags := 25, nameIndex := 302, descriptorIndex := 303, attributes := #[] }, { accessFlags := 24, nameIndex := 19, descriptorIndex := 20, attributes := #[] }, { accessFlags := 24, nameIndex := 89, descriptorIndex := 86, attributes := #[] }, { accessFlags := 24, nameIndex := 85, descriptorIndex := 86, attributes := #[] }, { accessFlags := 18, nameIndex := 207, descriptorIndex := 194, attributes := #[] }, { accessFlags := 25, nameIndex := 316, descriptorIndex := 194, attributes := #[] }, { accessFlags := 25, nameIndex := 318, descriptorIndex := 194, attributes := #[] }, { accessFlags := 26, nameIndex := 320, descriptorIndex := 321, attributes := #[] }])
  fields := #[{ name := "MIN_VALUE", type := .int, accessFlags := 25, slot := 0, constantValue := 0 }, { name := "MAX_VALUE", type := .int, accessFlags := 25, slot := 1, constantValue := 0 }, { name := "TYPE", type := (.object "java/lang/Class"), accessFlags := 25, slot := 2, constantValue := 0 }, { name := "digits", type := (.array .char), accessFlags := 24, slot := 3, constantValue := 0 }, { name := "DigitTens", type := (.array .byte), accessFlags := 24, slot := 4, constantValue := 0 }, { name := "DigitOnes", type := (.array .byte), accessFlags := 24, slot := 5, constantValue := 0 }, { name := "value", type := .int, accessFlags := 18, slot := 0, constantValue := 0 }, { name := "SIZE", type := .int, accessFlags := 25, slot := 6, constantValue := 0 }, { name := "BYTES", type := .int, accessFlags := 25, slot := 7, constantValue := 0 }, { name := "serialVersionUID", type := .long, accessFlags := 26, slot := 8, constantValue := 0 }]
  methods := #[k8m0, k8m1]
  instanceTypes := #[.int]
  staticTypes := #[.int, .int, (.object "java/lang/Class"), (.array .char), (.array .byte), (.array .byte), .int, .int, .long]
  resolved := Array.replicate 453 none
  statics := none }

def pool9 : Array CpInfo := pool [(2, .class_ 4), (1, u "java/lang/Object"), (0, u "<init>"), (0, u "()V"), (0, .class_ 8), (0, u "java/lang/Integer"), (7, .class_ 18), (1, u "java/lang/Integer$IntegerCache"), (0, u "$assertionsDisabled"), (0, u "Z"), (26, u "high"), (0, u "I"), (8, u "archivedCache"), (0, u "[Ljava/lang/Integer;"), (12, u "cache"), (0, u "low")] 27

def k9m0 : Method := { name := "<init>", desc := "()V", sig := { parameters := [], returnType := none }, accessFlags := 2, code := none }
/-- java/lang/Integer$IntegerCache -/
def k9 : Class := { plain "java/lang/Integer$IntegerCache" (some 0) with
  accessFlags := 48
  interfaces := #[]
  cf := some (fileOf pool9 16 #[.nestHost 7] #[{ accessFlags := 2, nameIndex := 5, descriptorIndex := 6, attributes := #[] }] 48 2 #[] #[{ accessFlags := 24, nameIndex := 72, descriptorIndex := 48, attributes := #[] }, { accessFlags := 24, nameIndex := 47, descriptorIndex := 48, attributes := #[] }, { accessFlags := 24, nameIndex := 71, descriptorIndex := 58, attributes := #[] }, { accessFlags := 8, nameIndex := 57, descriptorIndex := 58, attributes := #[] }, { accessFlags := 4120, nameIndex := 19, descriptorIndex := 20, attributes := #[] }])
  fields := #[{ name := "low", type := .int, accessFlags := 24, slot := 0, constantValue := 0 }, { name := "high", type := .int, accessFlags := 24, slot := 1, constantValue := 0 }, { name := "cache", type := (.array (.object "java/lang/Integer")), accessFlags := 24, slot := 2, constantValue := 0 }, { name := "archivedCache", type := (.array (.object "java/lang/Integer")), accessFlags := 8, slot := 3, constantValue := 0 }, { name := "$assertionsDisabled", type := .boolean, accessFlags := 4120, slot := 4, constantValue := 0 }]
  methods := #[k9m0]
  instanceTypes := #[]
  staticTypes := #[.int, .int, (.array (.object "java/lang/Integer")), (.array (.object "java/lang/Integer")), .boolean]
  resolved := Array.replicate 100 none
  statics := some 0 }

def pool10 : Array CpInfo := pool [(1, u "java/lang/Cloneable"), (0, .class_ 1), (0, u "java/lang/Object"), (0, .class_ 3)] 3

/-- java/lang/Cloneable -/
def k10 : Class := { plain "java/lang/Cloneable" (some 0) with
  accessFlags := 1537
  interfaces := #[]
  cf := some (fileOf pool10 2 #[] #[] 1537 4 #[] #[])
  fields := #[]
  methods := #[]
  instanceTypes := #[]
  staticTypes := #[]
  resolved := Array.replicate 8 none
  statics := none }

/-- the primitive byte -/
def k11 : Class := { plain "byte" none with kind := .primitive 'B', accessFlags := 0x411 }
/-- [B -/
def k12 : Class := { plain "[B" (some 0) with kind := .array 11 .byte, interfaces := #[10, 3], accessFlags := 1041 }

/-- the primitive int -/
def k13 : Class := { plain "int" none with kind := .primitive 'I', accessFlags := 0x411 }
/-- [I -/
def k14 : Class := { plain "[I" (some 0) with kind := .array 13 .int, interfaces := #[10, 3], accessFlags := 1041 }

/-- [Ljava/lang/Integer; -/
def k15 : Class := { plain "[Ljava/lang/Integer;" (some 0) with kind := .array 8 (.object "java/lang/Integer"), interfaces := #[10, 3], accessFlags := 1041 }

def heap : Heap := #[{ cls := 9, slots := #[.int 0, .int 127, .ref 1, .null, .int 0], vm := .statics 9 },
  { cls := 15, slots := #[.ref 2, .ref 3, .ref 4, .ref 5, .ref 6, .ref 7, .ref 8, .ref 9, .ref 10, .ref 11, .ref 12, .ref 13, .ref 14, .ref 15, .ref 16, .ref 17, .ref 18, .ref 19, .ref 20, .ref 21, .ref 22, .ref 23, .ref 24, .ref 25, .ref 26, .ref 27, .ref 28, .ref 29, .ref 30, .ref 31, .ref 32, .ref 33, .ref 34, .ref 35, .ref 36, .ref 37, .ref 38, .ref 39, .ref 40, .ref 41, .ref 42, .ref 43, .ref 44, .ref 45, .ref 46, .ref 47, .ref 48, .ref 49, .ref 50, .ref 51, .ref 52, .ref 53, .ref 54, .ref 55, .ref 56, .ref 57, .ref 58, .ref 59, .ref 60, .ref 61, .ref 62, .ref 63, .ref 64, .ref 65, .ref 66, .ref 67, .ref 68, .ref 69, .ref 70, .ref 71, .ref 72, .ref 73, .ref 74, .ref 75, .ref 76, .ref 77, .ref 78, .ref 79, .ref 80, .ref 81, .ref 82, .ref 83, .ref 84, .ref 85, .ref 86, .ref 87, .ref 88, .ref 89, .ref 90, .ref 91, .ref 92, .ref 93, .ref 94, .ref 95, .ref 96, .ref 97, .ref 98, .ref 99, .ref 100, .ref 101, .ref 102, .ref 103, .ref 104, .ref 105, .ref 106, .ref 107, .ref 108, .ref 109, .ref 110, .ref 111, .ref 112, .ref 113, .ref 114, .ref 115, .ref 116, .ref 117, .ref 118, .ref 119, .ref 120, .ref 121, .ref 122, .ref 123, .ref 124, .ref 125, .ref 126, .ref 127, .ref 128, .ref 129, .ref 130, .ref 131, .ref 132, .ref 133, .ref 134, .ref 135, .ref 136, .ref 137, .ref 138, .ref 139, .ref 140, .ref 141, .ref 142, .ref 143, .ref 144, .ref 145, .ref 146, .ref 147, .ref 148, .ref 149, .ref 150, .ref 151, .ref 152, .ref 153, .ref 154, .ref 155, .ref 156, .ref 157, .ref 158, .ref 159, .ref 160, .ref 161, .ref 162, .ref 163, .ref 164, .ref 165, .ref 166, .ref 167, .ref 168, .ref 169, .ref 170, .ref 171, .ref 172, .ref 173, .ref 174, .ref 175, .ref 176, .ref 177, .ref 178, .ref 179, .ref 180, .ref 181, .ref 182, .ref 183, .ref 184, .ref 185, .ref 186, .ref 187, .ref 188, .ref 189, .ref 190, .ref 191, .ref 192, .ref 193, .ref 194, .ref 195, .ref 196, .ref 197, .ref 198, .ref 199, .ref 200, .ref 201, .ref 202, .ref 203, .ref 204, .ref 205, .ref 206, .ref 207, .ref 208, .ref 209, .ref 210, .ref 211, .ref 212, .ref 213, .ref 214, .ref 215, .ref 216, .ref 217, .ref 218, .ref 219, .ref 220, .ref 221, .ref 222, .ref 223, .ref 224, .ref 225, .ref 226, .ref 227, .ref 228, .ref 229, .ref 230, .ref 231, .ref 232, .ref 233, .ref 234, .ref 235, .ref 236, .ref 237, .ref 238, .ref 239, .ref 240, .ref 241, .ref 242, .ref 243, .ref 244, .ref 245, .ref 246, .ref 247, .ref 248, .ref 249, .ref 250, .ref 251, .ref 252, .ref 253, .ref 254, .ref 255, .ref 256, .ref 257], vm := .none },
  { cls := 8, slots := #[.int (-128)], vm := .none },
  { cls := 8, slots := #[.int (-127)], vm := .none },
  { cls := 8, slots := #[.int (-126)], vm := .none },
  { cls := 8, slots := #[.int (-125)], vm := .none },
  { cls := 8, slots := #[.int (-124)], vm := .none },
  { cls := 8, slots := #[.int (-123)], vm := .none },
  { cls := 8, slots := #[.int (-122)], vm := .none },
  { cls := 8, slots := #[.int (-121)], vm := .none },
  { cls := 8, slots := #[.int (-120)], vm := .none },
  { cls := 8, slots := #[.int (-119)], vm := .none },
  { cls := 8, slots := #[.int (-118)], vm := .none },
  { cls := 8, slots := #[.int (-117)], vm := .none },
  { cls := 8, slots := #[.int (-116)], vm := .none },
  { cls := 8, slots := #[.int (-115)], vm := .none },
  { cls := 8, slots := #[.int (-114)], vm := .none },
  { cls := 8, slots := #[.int (-113)], vm := .none },
  { cls := 8, slots := #[.int (-112)], vm := .none },
  { cls := 8, slots := #[.int (-111)], vm := .none },
  { cls := 8, slots := #[.int (-110)], vm := .none },
  { cls := 8, slots := #[.int (-109)], vm := .none },
  { cls := 8, slots := #[.int (-108)], vm := .none },
  { cls := 8, slots := #[.int (-107)], vm := .none },
  { cls := 8, slots := #[.int (-106)], vm := .none },
  { cls := 8, slots := #[.int (-105)], vm := .none },
  { cls := 8, slots := #[.int (-104)], vm := .none },
  { cls := 8, slots := #[.int (-103)], vm := .none },
  { cls := 8, slots := #[.int (-102)], vm := .none },
  { cls := 8, slots := #[.int (-101)], vm := .none },
  { cls := 8, slots := #[.int (-100)], vm := .none },
  { cls := 8, slots := #[.int (-99)], vm := .none },
  { cls := 8, slots := #[.int (-98)], vm := .none },
  { cls := 8, slots := #[.int (-97)], vm := .none },
  { cls := 8, slots := #[.int (-96)], vm := .none },
  { cls := 8, slots := #[.int (-95)], vm := .none },
  { cls := 8, slots := #[.int (-94)], vm := .none },
  { cls := 8, slots := #[.int (-93)], vm := .none },
  { cls := 8, slots := #[.int (-92)], vm := .none },
  { cls := 8, slots := #[.int (-91)], vm := .none },
  { cls := 8, slots := #[.int (-90)], vm := .none },
  { cls := 8, slots := #[.int (-89)], vm := .none },
  { cls := 8, slots := #[.int (-88)], vm := .none },
  { cls := 8, slots := #[.int (-87)], vm := .none },
  { cls := 8, slots := #[.int (-86)], vm := .none },
  { cls := 8, slots := #[.int (-85)], vm := .none },
  { cls := 8, slots := #[.int (-84)], vm := .none },
  { cls := 8, slots := #[.int (-83)], vm := .none },
  { cls := 8, slots := #[.int (-82)], vm := .none },
  { cls := 8, slots := #[.int (-81)], vm := .none },
  { cls := 8, slots := #[.int (-80)], vm := .none },
  { cls := 8, slots := #[.int (-79)], vm := .none },
  { cls := 8, slots := #[.int (-78)], vm := .none },
  { cls := 8, slots := #[.int (-77)], vm := .none },
  { cls := 8, slots := #[.int (-76)], vm := .none },
  { cls := 8, slots := #[.int (-75)], vm := .none },
  { cls := 8, slots := #[.int (-74)], vm := .none },
  { cls := 8, slots := #[.int (-73)], vm := .none },
  { cls := 8, slots := #[.int (-72)], vm := .none },
  { cls := 8, slots := #[.int (-71)], vm := .none },
  { cls := 8, slots := #[.int (-70)], vm := .none },
  { cls := 8, slots := #[.int (-69)], vm := .none },
  { cls := 8, slots := #[.int (-68)], vm := .none },
  { cls := 8, slots := #[.int (-67)], vm := .none },
  { cls := 8, slots := #[.int (-66)], vm := .none },
  { cls := 8, slots := #[.int (-65)], vm := .none },
  { cls := 8, slots := #[.int (-64)], vm := .none },
  { cls := 8, slots := #[.int (-63)], vm := .none },
  { cls := 8, slots := #[.int (-62)], vm := .none },
  { cls := 8, slots := #[.int (-61)], vm := .none },
  { cls := 8, slots := #[.int (-60)], vm := .none },
  { cls := 8, slots := #[.int (-59)], vm := .none },
  { cls := 8, slots := #[.int (-58)], vm := .none },
  { cls := 8, slots := #[.int (-57)], vm := .none },
  { cls := 8, slots := #[.int (-56)], vm := .none },
  { cls := 8, slots := #[.int (-55)], vm := .none },
  { cls := 8, slots := #[.int (-54)], vm := .none },
  { cls := 8, slots := #[.int (-53)], vm := .none },
  { cls := 8, slots := #[.int (-52)], vm := .none },
  { cls := 8, slots := #[.int (-51)], vm := .none },
  { cls := 8, slots := #[.int (-50)], vm := .none },
  { cls := 8, slots := #[.int (-49)], vm := .none },
  { cls := 8, slots := #[.int (-48)], vm := .none },
  { cls := 8, slots := #[.int (-47)], vm := .none },
  { cls := 8, slots := #[.int (-46)], vm := .none },
  { cls := 8, slots := #[.int (-45)], vm := .none },
  { cls := 8, slots := #[.int (-44)], vm := .none },
  { cls := 8, slots := #[.int (-43)], vm := .none },
  { cls := 8, slots := #[.int (-42)], vm := .none },
  { cls := 8, slots := #[.int (-41)], vm := .none },
  { cls := 8, slots := #[.int (-40)], vm := .none },
  { cls := 8, slots := #[.int (-39)], vm := .none },
  { cls := 8, slots := #[.int (-38)], vm := .none },
  { cls := 8, slots := #[.int (-37)], vm := .none },
  { cls := 8, slots := #[.int (-36)], vm := .none },
  { cls := 8, slots := #[.int (-35)], vm := .none },
  { cls := 8, slots := #[.int (-34)], vm := .none },
  { cls := 8, slots := #[.int (-33)], vm := .none },
  { cls := 8, slots := #[.int (-32)], vm := .none },
  { cls := 8, slots := #[.int (-31)], vm := .none },
  { cls := 8, slots := #[.int (-30)], vm := .none },
  { cls := 8, slots := #[.int (-29)], vm := .none },
  { cls := 8, slots := #[.int (-28)], vm := .none },
  { cls := 8, slots := #[.int (-27)], vm := .none },
  { cls := 8, slots := #[.int (-26)], vm := .none },
  { cls := 8, slots := #[.int (-25)], vm := .none },
  { cls := 8, slots := #[.int (-24)], vm := .none },
  { cls := 8, slots := #[.int (-23)], vm := .none },
  { cls := 8, slots := #[.int (-22)], vm := .none },
  { cls := 8, slots := #[.int (-21)], vm := .none },
  { cls := 8, slots := #[.int (-20)], vm := .none },
  { cls := 8, slots := #[.int (-19)], vm := .none },
  { cls := 8, slots := #[.int (-18)], vm := .none },
  { cls := 8, slots := #[.int (-17)], vm := .none },
  { cls := 8, slots := #[.int (-16)], vm := .none },
  { cls := 8, slots := #[.int (-15)], vm := .none },
  { cls := 8, slots := #[.int (-14)], vm := .none },
  { cls := 8, slots := #[.int (-13)], vm := .none },
  { cls := 8, slots := #[.int (-12)], vm := .none },
  { cls := 8, slots := #[.int (-11)], vm := .none },
  { cls := 8, slots := #[.int (-10)], vm := .none },
  { cls := 8, slots := #[.int (-9)], vm := .none },
  { cls := 8, slots := #[.int (-8)], vm := .none },
  { cls := 8, slots := #[.int (-7)], vm := .none },
  { cls := 8, slots := #[.int (-6)], vm := .none },
  { cls := 8, slots := #[.int (-5)], vm := .none },
  { cls := 8, slots := #[.int (-4)], vm := .none },
  { cls := 8, slots := #[.int (-3)], vm := .none },
  { cls := 8, slots := #[.int (-2)], vm := .none },
  { cls := 8, slots := #[.int (-1)], vm := .none },
  { cls := 8, slots := #[.int 0], vm := .none },
  { cls := 8, slots := #[.int 1], vm := .none },
  { cls := 8, slots := #[.int 2], vm := .none },
  { cls := 8, slots := #[.int 3], vm := .none },
  { cls := 8, slots := #[.int 4], vm := .none },
  { cls := 8, slots := #[.int 5], vm := .none },
  { cls := 8, slots := #[.int 6], vm := .none },
  { cls := 8, slots := #[.int 7], vm := .none },
  { cls := 8, slots := #[.int 8], vm := .none },
  { cls := 8, slots := #[.int 9], vm := .none },
  { cls := 8, slots := #[.int 10], vm := .none },
  { cls := 8, slots := #[.int 11], vm := .none },
  { cls := 8, slots := #[.int 12], vm := .none },
  { cls := 8, slots := #[.int 13], vm := .none },
  { cls := 8, slots := #[.int 14], vm := .none },
  { cls := 8, slots := #[.int 15], vm := .none },
  { cls := 8, slots := #[.int 16], vm := .none },
  { cls := 8, slots := #[.int 17], vm := .none },
  { cls := 8, slots := #[.int 18], vm := .none },
  { cls := 8, slots := #[.int 19], vm := .none },
  { cls := 8, slots := #[.int 20], vm := .none },
  { cls := 8, slots := #[.int 21], vm := .none },
  { cls := 8, slots := #[.int 22], vm := .none },
  { cls := 8, slots := #[.int 23], vm := .none },
  { cls := 8, slots := #[.int 24], vm := .none },
  { cls := 8, slots := #[.int 25], vm := .none },
  { cls := 8, slots := #[.int 26], vm := .none },
  { cls := 8, slots := #[.int 27], vm := .none },
  { cls := 8, slots := #[.int 28], vm := .none },
  { cls := 8, slots := #[.int 29], vm := .none },
  { cls := 8, slots := #[.int 30], vm := .none },
  { cls := 8, slots := #[.int 31], vm := .none },
  { cls := 8, slots := #[.int 32], vm := .none },
  { cls := 8, slots := #[.int 33], vm := .none },
  { cls := 8, slots := #[.int 34], vm := .none },
  { cls := 8, slots := #[.int 35], vm := .none },
  { cls := 8, slots := #[.int 36], vm := .none },
  { cls := 8, slots := #[.int 37], vm := .none },
  { cls := 8, slots := #[.int 38], vm := .none },
  { cls := 8, slots := #[.int 39], vm := .none },
  { cls := 8, slots := #[.int 40], vm := .none },
  { cls := 8, slots := #[.int 41], vm := .none },
  { cls := 8, slots := #[.int 42], vm := .none },
  { cls := 8, slots := #[.int 43], vm := .none },
  { cls := 8, slots := #[.int 44], vm := .none },
  { cls := 8, slots := #[.int 45], vm := .none },
  { cls := 8, slots := #[.int 46], vm := .none },
  { cls := 8, slots := #[.int 47], vm := .none },
  { cls := 8, slots := #[.int 48], vm := .none },
  { cls := 8, slots := #[.int 49], vm := .none },
  { cls := 8, slots := #[.int 50], vm := .none },
  { cls := 8, slots := #[.int 51], vm := .none },
  { cls := 8, slots := #[.int 52], vm := .none },
  { cls := 8, slots := #[.int 53], vm := .none },
  { cls := 8, slots := #[.int 54], vm := .none },
  { cls := 8, slots := #[.int 55], vm := .none },
  { cls := 8, slots := #[.int 56], vm := .none },
  { cls := 8, slots := #[.int 57], vm := .none },
  { cls := 8, slots := #[.int 58], vm := .none },
  { cls := 8, slots := #[.int 59], vm := .none },
  { cls := 8, slots := #[.int 60], vm := .none },
  { cls := 8, slots := #[.int 61], vm := .none },
  { cls := 8, slots := #[.int 62], vm := .none },
  { cls := 8, slots := #[.int 63], vm := .none },
  { cls := 8, slots := #[.int 64], vm := .none },
  { cls := 8, slots := #[.int 65], vm := .none },
  { cls := 8, slots := #[.int 66], vm := .none },
  { cls := 8, slots := #[.int 67], vm := .none },
  { cls := 8, slots := #[.int 68], vm := .none },
  { cls := 8, slots := #[.int 69], vm := .none },
  { cls := 8, slots := #[.int 70], vm := .none },
  { cls := 8, slots := #[.int 71], vm := .none },
  { cls := 8, slots := #[.int 72], vm := .none },
  { cls := 8, slots := #[.int 73], vm := .none },
  { cls := 8, slots := #[.int 74], vm := .none },
  { cls := 8, slots := #[.int 75], vm := .none },
  { cls := 8, slots := #[.int 76], vm := .none },
  { cls := 8, slots := #[.int 77], vm := .none },
  { cls := 8, slots := #[.int 78], vm := .none },
  { cls := 8, slots := #[.int 79], vm := .none },
  { cls := 8, slots := #[.int 80], vm := .none },
  { cls := 8, slots := #[.int 81], vm := .none },
  { cls := 8, slots := #[.int 82], vm := .none },
  { cls := 8, slots := #[.int 83], vm := .none },
  { cls := 8, slots := #[.int 84], vm := .none },
  { cls := 8, slots := #[.int 85], vm := .none },
  { cls := 8, slots := #[.int 86], vm := .none },
  { cls := 8, slots := #[.int 87], vm := .none },
  { cls := 8, slots := #[.int 88], vm := .none },
  { cls := 8, slots := #[.int 89], vm := .none },
  { cls := 8, slots := #[.int 90], vm := .none },
  { cls := 8, slots := #[.int 91], vm := .none },
  { cls := 8, slots := #[.int 92], vm := .none },
  { cls := 8, slots := #[.int 93], vm := .none },
  { cls := 8, slots := #[.int 94], vm := .none },
  { cls := 8, slots := #[.int 95], vm := .none },
  { cls := 8, slots := #[.int 96], vm := .none },
  { cls := 8, slots := #[.int 97], vm := .none },
  { cls := 8, slots := #[.int 98], vm := .none },
  { cls := 8, slots := #[.int 99], vm := .none },
  { cls := 8, slots := #[.int 100], vm := .none },
  { cls := 8, slots := #[.int 101], vm := .none },
  { cls := 8, slots := #[.int 102], vm := .none },
  { cls := 8, slots := #[.int 103], vm := .none },
  { cls := 8, slots := #[.int 104], vm := .none },
  { cls := 8, slots := #[.int 105], vm := .none },
  { cls := 8, slots := #[.int 106], vm := .none },
  { cls := 8, slots := #[.int 107], vm := .none },
  { cls := 8, slots := #[.int 108], vm := .none },
  { cls := 8, slots := #[.int 109], vm := .none },
  { cls := 8, slots := #[.int 110], vm := .none },
  { cls := 8, slots := #[.int 111], vm := .none },
  { cls := 8, slots := #[.int 112], vm := .none },
  { cls := 8, slots := #[.int 113], vm := .none },
  { cls := 8, slots := #[.int 114], vm := .none },
  { cls := 8, slots := #[.int 115], vm := .none },
  { cls := 8, slots := #[.int 116], vm := .none },
  { cls := 8, slots := #[.int 117], vm := .none },
  { cls := 8, slots := #[.int 118], vm := .none },
  { cls := 8, slots := #[.int 119], vm := .none },
  { cls := 8, slots := #[.int 120], vm := .none },
  { cls := 8, slots := #[.int 121], vm := .none },
  { cls := 8, slots := #[.int 122], vm := .none },
  { cls := 8, slots := #[.int 123], vm := .none },
  { cls := 8, slots := #[.int 124], vm := .none },
  { cls := 8, slots := #[.int 125], vm := .none },
  { cls := 8, slots := #[.int 126], vm := .none },
  { cls := 8, slots := #[.int 127], vm := .none }]
def classes : Array Class := #[k0, k1, k2, k3, k4, k5, k6, k7, k8, k9, k10, k11, k12, k13, k14, k15]
def interned : List (Array UInt16 × Addr) := []
def slotsUsed : Nat := 517
def theMethod : MethodId := ⟨1, 1⟩
def args0 : Array Value := #[.long 5, .long 1, .int 3, .int 4, .int 5, .long 6]
def aboutOver (below : List Frame) : State where
  vm := { classes := classes, interned := interned.toArray }
  heap := heap
  slotsUsed := slotsUsed
  threads := #[{ frames := .invoking theMethod args0 :: below }]
def below0 : List Frame := [.native { method := ⟨0, 0⟩, args := #[] }]
def about1 : State := aboutOver below0
def p0 : Program := .bare "" "" ""
def e0 : Env := launch0.env 0 0 0
theorem w_frames : about1.frames = Frame.invoking theMethod args0 :: below0 := rfl
set_option maxRecDepth 65536 in
theorem w_args : argsFit about1.vm theMethod args0 = true := by decide +kernel
set_option maxRecDepth 65536 in
theorem w_heap : heapFits about1 = true := by decide +kernel
set_option maxRecDepth 65536 in
theorem w_runnable : about1.curStatus? = some .runnable := by decide +kernel
set_option maxRecDepth 65536 in
theorem w_alone : about1.alone = true := by decide +kernel
set_option maxRecDepth 65536 in
theorem w_named : about1.methodNamed? x = some theMethod := by decide +kernel
set_option maxRecDepth 65536 in
theorem w_hears : about1.hears theMethod below0 = true := by decide +kernel
set_option maxRecDepth 65536 in
theorem w_ripe : about1.ripe theMethod args0 below0 = true := by decide +kernel
theorem w_running : about1.status = .running := rfl
set_option maxRecDepth 65536 in
theorem w_room : about1.hasRoom e0.platform room_1 = true :=
  launch0.hasRoom_least _ room_1 (by decide +kernel) (by decide +kernel) (by decide +kernel) (by decide +kernel) (by decide +kernel) (by decide +kernel)
theorem allAtoms_all (ts : List Jvm.Cond) (a : Array Jvm.Value) (st : Jvm.State) : (allAtoms ts).before a st = ts.all (fun c => c.before a st) := by
  induction ts with
  | nil => rfl
  | cons c t ih =>
    show (Jvm.Cond.and c (allAtoms t)).before a st = _
    rw [Jvm.Cond.before_and, ih, List.all_cons]
def words1 : List Jvm.Cond := Jvm.Cond.code x code maxLocals ret :: tables_1
/-- a 'code' word, met by the world's own term for the bytes: nothing is compared byte by byte -/
theorem code_word {y : MethodName} {bytes : ByteArray} {mx : Nat} {rt : Option FieldType} {a : Array Value} {s : State} {m : MethodId} {meth : Method} {c : Code} (h1 : s.methodNamed? y = some m) (h2 : s.vm.method? m = some meth) (h3 : meth.code = some c) (h4 : c.code = bytes)
    (h5 : (c.maxLocals == mx && c.exceptionTable.isEmpty && decide (c.maxStack ≤ mostOperands) && decide (meth.sig.returnType = rt) && !meth.locks && decide (parseMethodDescriptor y.desc = some meth.sig)) = true) : (Jvm.Cond.code y bytes mx rt).before a s = true := by
  simp only [Bool.and_eq_true, beq_iff_eq, Bool.not_eq_true', decide_eq_true_eq] at h5
  obtain ⟨⟨⟨⟨⟨g1, g2⟩, g3⟩, g4⟩, g5⟩, g6⟩ := h5
  simp [Cond.before, Cond.holds, Cond.value, h1, h2, h3, h4, g1, g2, g3, g4, g5, g6]
def isCode : Jvm.Cond → Bool
  | .code _ _ _ _ => true
  | _ => false
theorem all_split {L : List Jvm.Cond} {P : Jvm.Cond → Bool} (h1 : L.all (fun c => isCode c || P c) = true) (h2 : ∀ c ∈ L.filter isCode, P c = true) : L.all P = true := by
  refine List.all_eq_true.mpr fun c hc => ?_
  have h := List.all_eq_true.mp h1 c hc
  rcases Bool.eq_false_or_eq_true (isCode c) with hi | hi
  · exact h2 c (List.mem_filter.mpr ⟨hc, hi⟩)
  · simpa [hi] using h
set_option maxRecDepth 65536 in
theorem w_c0 : (Jvm.Cond.code x code maxLocals ret).before args0 about1 = true := code_word (m := ⟨1, 1⟩) (meth := k1m1) (c := k1c1) (by decide +kernel) rfl rfl rfl (by decide +kernel)
set_option maxRecDepth 65536 in
theorem w_c1 : (Jvm.Cond.code ({ cls := "com/example/casement/casement/graphics/Ellipse", name := "<init>", desc := "(JJII)V" } : Jvm.MethodName) prog_13_method_1_code (7 : Nat) (Option.none : Option Jvm.ClassFile.FieldType)).before args0 about1 = true := code_word (m := ⟨2, 0⟩) (meth := k2m0) (c := k2c0) (by decide +kernel) rfl rfl rfl (by decide +kernel)
set_option maxRecDepth 65536 in
theorem w_c2 : (Jvm.Cond.code ({ cls := "java/lang/Object", name := "<init>", desc := "()V" } : Jvm.MethodName) object_method_1_code (1 : Nat) (Option.none : Option Jvm.ClassFile.FieldType)).before args0 about1 = true := code_word (m := ⟨0, 0⟩) (meth := k0m0) (c := k0c0) (by decide +kernel) rfl rfl rfl (by decide +kernel)
set_option maxRecDepth 65536 in
theorem w_c3 : (Jvm.Cond.code ({ cls := "java/lang/Integer", name := "valueOf", desc := "(I)Ljava/lang/Integer;" } : Jvm.MethodName) jdk_33_method_22_code (1 : Nat) (Option.some (Jvm.ClassFile.FieldType.object "java/lang/Integer"))).before args0 about1 = true := code_word (m := ⟨8, 0⟩) (meth := k8m0) (c := k8c0) (by decide +kernel) rfl rfl rfl (by decide +kernel)
set_option maxRecDepth 65536 in
theorem w_c4 : (Jvm.Cond.code ({ cls := "com/example/casement/casement/graphics/Ellipse", name := "equals", desc := "(Ljava/lang/Object;)Z" } : Jvm.MethodName) prog_13_method_12_code (3 : Nat) (Option.some Jvm.ClassFile.FieldType.boolean)).before args0 about1 = true := code_word (m := ⟨2, 1⟩) (meth := k2m1) (c := k2c1) (by decide +kernel) rfl rfl rfl (by decide +kernel)
set_option maxRecDepth 65536 in
theorem w_c5 : (Jvm.Cond.code ({ cls := "java/lang/Integer", name := "<init>", desc := "(I)V" } : Jvm.MethodName) jdk_33_method_23_code (2 : Nat) (Option.none : Option Jvm.ClassFile.FieldType)).before args0 about1 = true := code_word (m := ⟨8, 1⟩) (meth := k8m1) (c := k8c1) (by decide +kernel) rfl rfl rfl (by decide +kernel)
set_option maxRecDepth 65536 in
theorem w_c6 : (Jvm.Cond.code ({ cls := "java/lang/Number", name := "<init>", desc := "()V" } : Jvm.MethodName) jdk_18_method_1_code (1 : Nat) (Option.none : Option Jvm.ClassFile.FieldType)).before args0 about1 = true := code_word (m := ⟨4, 0⟩) (meth := k4m0) (c := k4c0) (by decide +kernel) rfl rfl rfl (by decide +kernel)
def codes1 : List Jvm.Cond := [Jvm.Cond.code x code maxLocals ret, Jvm.Cond.code ({ cls := "com/example/casement/casement/graphics/Ellipse", name := "<init>", desc := "(JJII)V" } : Jvm.MethodName) prog_13_method_1_code (7 : Nat) (Option.none : Option Jvm.ClassFile.FieldType), Jvm.Cond.code ({ cls := "java/lang/Object", name := "<init>", desc := "()V" } : Jvm.MethodName) object_method_1_code (1 : Nat) (Option.none : Option Jvm.ClassFile.FieldType), Jvm.Cond.code ({ cls := "java/lang/Integer", name := "valueOf", desc := "(I)Ljava/lang/Integer;" } : Jvm.MethodName) jdk_33_method_22_code (1 : Nat) (Option.some (Jvm.ClassFile.FieldType.object "java/lang/Integer")), Jvm.Cond.code ({ cls := "com/example/casement/casement/graphics/Ellipse", name := "equals", desc := "(Ljava/lang/Object;)Z" } : Jvm.MethodName) prog_13_method_12_code (3 : Nat) (Option.some Jvm.ClassFile.FieldType.boolean), Jvm.Cond.code ({ cls := "java/lang/Integer", name := "<init>", desc := "(I)V" } : Jvm.MethodName) jdk_33_method_23_code (2 : Nat) (Option.none : Option Jvm.ClassFile.FieldType), Jvm.Cond.code ({ cls := "java/lang/Number", name := "<init>", desc := "()V" } : Jvm.MethodName) jdk_18_method_1_code (1 : Nat) (Option.none : Option Jvm.ClassFile.FieldType)]
set_option maxRecDepth 65536 in
theorem codes_eq : words1.filter isCode = codes1 := rfl
theorem w_codes : ∀ c ∈ words1.filter isCode, c.before args0 about1 = true := by
  rw [codes_eq]
  intro c hc
  simp only [codes1, List.mem_cons, List.not_mem_nil, or_false] at hc
  rcases hc with rfl | rfl | rfl | rfl | rfl | rfl | rfl
  · exact w_c0
  · exact w_c1
  · exact w_c2
  · exact w_c3
  · exact w_c4
  · exact w_c5
  · exact w_c6
set_option maxRecDepth 65536 in
theorem w_t1 : (words1.take 24).all (fun c => isCode c || c.before args0 about1) = true := by decide +kernel
set_option maxRecDepth 65536 in
theorem w_t2 : ((words1.drop 24).take 24).all (fun c => isCode c || c.before args0 about1) = true := by decide +kernel
set_option maxRecDepth 65536 in
theorem w_t3 : ((words1.drop 24).drop 24).all (fun c => isCode c || c.before args0 about1) = true := by decide +kernel
theorem w_tables : (allAtoms (Jvm.Cond.code x code maxLocals ret :: tables_1)).before args0 about1 = true := by
  rw [allAtoms_all]
  show words1.all (fun c => c.before args0 about1) = true
  refine all_split ?_ w_codes
  rw [← List.take_append_drop 24 words1, List.all_append, w_t1, ← List.take_append_drop 24 (words1.drop 24), List.all_append, w_t2, w_t3]
  rfl
set_option maxRecDepth 65536 in
theorem w_rest : rest_1_c.before args0 about1 = true := by decide +kernel
set_option maxRecDepth 65536 in
theorem w_case : (Jvm.Cond.and given_1 narrow_1).before args0 about1 = true := by decide +kernel
theorem w_applies : (headSpec (Jvm.Cond.code x code maxLocals ret :: tables_1) room_1).applies x e0.platform about1 = true :=
  (Spec.applies_iff w_frames).mpr ⟨w_running, w_runnable, w_alone, w_named, w_hears, w_ripe, w_room, w_tables⟩
theorem atStart : AtStart classFile x code maxLocals ret World_1 tables_1 room_1 Calls_1 rest_1 Pre_1 launch0 p0 e0 about1 theMethod args0 below0 :=
  ⟨lists_1, trivial, launch0.admits_env _ _ _, launch0.least_env, fairChoices_fair.cas, fairChoices_fair.clock, w_frames, w_args, w_heap, w_applies, trivial, w_rest, w_case⟩
end start1
theorem witness_1 : WitnessClaimed_1 := ⟨start1.p0, start1.e0, start1.about1, start1.theMethod, start1.args0, start1.below0, start1.atStart⟩
end Jvm.Pilot.@@N@@
