import JvmDerived
import JvmDerived.Pilot.@@N@@Statement
import JvmDerived.Pilot.@@N@@Code
set_option linter.unusedVariables false
set_option linter.unusedSimpArgs false
namespace Jvm.Own
open Jvm Sem ClassFile Op Lib Jvm.Stand Jvm.Free Jvm.LawKit Jvm.RoadKit
/-- from this state and frame the run comes to an end that E says -/
def Goes (p : Program) (e : Env) (below : List Frame) (E : Outcome → State → Prop) (T : State) (f : JFrame) : Prop :=
  ∃ s₂ o, Steps p.tables e below (T.setTop f) s₂ ∧ s₂.status = .running ∧ Ended s₂ below o ∧ E o s₂
/-- the end of a walk that interns nothing -/
def EndN (s : State) (Q : Option Value → Heap → List Loc → Prop) (K N : Nat) (o : Outcome) (U : State) : Prop :=
  ∃ v L, o = .returned v ∧ Q v U.heap L ∧ FrameEnd s o U L K N
/-- a body's contract -/
def Rm (l : Launch) (y : MethodName) (bytes : ByteArray) (maxL : Nat) (ret : Option FieldType) (rm : Room) (ws : List Jvm.Cond) (Z : State) (as' : Array Value) (h : Heap) (Q : Option Value → Heap → List Loc → Prop) : Prop :=
  MetFree l y (head1 (Jvm.Cond.code y bytes maxL ret :: ws) rm) (fun a U => a = as' ∧ Z.Warmed39 U.vm ∧ U.heap = h) (fun _ _ _ _ _ => True) (fun _ U o U' => ∃ v L, o = .returned v ∧ Q v U'.heap L ∧ FrameEnd U o U' L rm.cells rm.slots)
section Own1
variable {p : Program} {l : Launch} {e : Env} {R : Room} {s : State} {m : MethodId} {args : Array Value} {below : List Frame} {meth : Method} {c : Code} {T : State} {locs : List Loc} {cells slots : Nat} {Z : State} {a0 : Array Value} {h : Heap} {E : Outcome → State → Prop}
theorem Goes.of {T T' : State} {f f' : JFrame} (st : ∀ t, Steps p.tables e below (T'.setTop f') t → Steps p.tables e below (T.setTop f) t) (k : Goes p e below E T' f') : Goes p e below E T f := by
  obtain ⟨s₂, o, h1, h2⟩ := k
  exact ⟨s₂, o, st _ h1, h2⟩
theorem Goes.cast {T : State} {f f' : JFrame} (q : f = f') (k : Goes p e below E T f') : Goes p e below E T f := q ▸ k
theorem oldLe {n0 : Nat} (O : Old Z n0 h) : n0 ≤ h.size := O.1 ▸ O.2.1
theorem goRet {Q : Option Value → Heap → List Loc → Prop} {K N : Nat} {g : JFrame} {v : Option Value} (X : Stand p l e R s m args below meth c T locs cells slots) (hv : meth.sig.returnType = none → v = none) (hlocks : meth.locks = false) (eT : T.heap = h) (hQ : Q v h locs) (hK : cells ≤ K) (hN : slots ≤ N)
    (st : ∀ fs, (∀ (f : JFrame) (acts : List Action), f.method = m → f.locked = none → f.entered = [] → (doReturn e (T.setTop f) acts v).1 = T.setFrames fs) → Steps p.tables e below (T.setTop g) (T.setFrames fs)) : Goes p e below (EndN s Q K N) T g := by
  obtain ⟨fs, hr, hrun, hended, hW, hsame⟩ := X.leave (v := v) hv hlocks
  subst eT
  exact ⟨_, _, st fs hr, hrun, hended, _, _, rfl, hQ, ⟨_, rfl⟩, hW, hsame.mono hK hN⟩
theorem retZ {Q : Option Value → Heap → List Loc → Prop} {K N pc : Nat} {Ls : Array Slot} {z : Int32} {t : FieldType} {rest : List Value} (X : Stand p l e R s m args below meth c T locs cells slots) (hx : p.tables.exec = Jvm.exec) (hret : meth.sig.returnType = some t) (hlocks : meth.locks = false) (ht : t = .boolean ∨ t = .byte ∨ t = .char ∨ t = .short)
    (hd : decode c.code pc = .ok (.ireturn, 1)) (eT : T.heap = h) (hK : cells ≤ K) (hN : slots ≤ N) (hQ : Q (some (.int (nar t z))) h locs) : Goes p e below (EndN s Q K N) T (mkF m pc Ls (.int z :: rest)) :=
  goRet X (fun q => by rw [hret] at q; cases q) hlocks eT hQ hK hN fun fs hr => retN X hx hret ht hd hr
theorem retInt {Q : Option Value → Heap → List Loc → Prop} {K N pc : Nat} {Ls : Array Slot} {z : Int32} {rest : List Value} (X : Stand p l e R s m args below meth c T locs cells slots) (hx : p.tables.exec = Jvm.exec) (hret : meth.sig.returnType = some .int) (hlocks : meth.locks = false)
    (hd : decode c.code pc = .ok (.ireturn, 1)) (eT : T.heap = h) (hK : cells ≤ K) (hN : slots ≤ N) (hQ : Q (some (.int z)) h locs) : Goes p e below (EndN s Q K N) T (mkF m pc Ls (.int z :: rest)) :=
  goRet X (fun q => by rw [hret] at q; cases q) hlocks eT hQ hK hN fun fs hr => by
    have hm' : T.vm.method? m = some meth := X.method'
    have hn : narrow .int (.int z) = .int z := rfl
    show Steps p.tables e below (T.setTop { method := m, pc := pc, locals := Ls, stack := _ :: rest, locked := none }) _
    jvm_step X.here [X.here.top, hx, hd, hm', hret, hn]
    first | (intro acts; rw [hr _ acts rfl rfl rfl]) | rw [hr _ _ rfl rfl rfl]
    exact Steps.refl _
theorem retLong {Q : Option Value → Heap → List Loc → Prop} {K N pc : Nat} {Ls : Array Slot} {z : Int64} {rest : List Value} (X : Stand p l e R s m args below meth c T locs cells slots) (hx : p.tables.exec = Jvm.exec) (hret : meth.sig.returnType = some .long) (hlocks : meth.locks = false)
    (hd : decode c.code pc = .ok (.lreturn, 1)) (eT : T.heap = h) (hK : cells ≤ K) (hN : slots ≤ N) (hQ : Q (some (.long z)) h locs) : Goes p e below (EndN s Q K N) T (mkF m pc Ls (.long z :: rest)) :=
  goRet X (fun q => by rw [hret] at q; cases q) hlocks eT hQ hK hN fun fs hr => by
    have hm' : T.vm.method? m = some meth := X.method'
    show Steps p.tables e below (T.setTop { method := m, pc := pc, locals := Ls, stack := _ :: rest, locked := none }) _
    jvm_step X.here [X.here.top, hx, hd, hm', hret, narrow]
    first | (intro acts; rw [hr _ acts rfl rfl rfl]) | rw [hr _ _ rfl rfl rfl]
    exact Steps.refl _
theorem retRef {Q : Option Value → Heap → List Loc → Prop} {K N pc : Nat} {Ls : Array Slot} {z : Value} {t : FieldType} {rest : List Value} (X : Stand p l e R s m args below meth c T locs cells slots) (hx : p.tables.exec = Jvm.exec) (hret : meth.sig.returnType = some t) (hlocks : meth.locks = false) (ht : t.isReference = true) (hz : z.isRef = true)
    (hd : decode c.code pc = .ok (.areturn, 1)) (eT : T.heap = h) (hK : cells ≤ K) (hN : slots ≤ N) (hQ : Q (some z) h locs) : Goes p e below (EndN s Q K N) T (mkF m pc Ls (z :: rest)) :=
  goRet X (fun q => by rw [hret] at q; cases q) hlocks eT hQ hK hN fun fs hr => by
    have hm' : T.vm.method? m = some meth := X.method'
    show Steps p.tables e below (T.setTop { method := m, pc := pc, locals := Ls, stack := _ :: rest, locked := none }) _
    rcases ref_cases hz with rfl | ⟨_, rfl⟩
    all_goals
      jvm_step X.here [X.here.top, hx, hd, hm', hret, ht, Value.isRef]
      first | (intro acts; rw [hr _ acts rfl rfl rfl]) | rw [hr _ _ rfl rfl rfl]
      exact Steps.refl _
theorem retVoid {Q : Option Value → Heap → List Loc → Prop} {K N pc : Nat} {Ls : Array Slot} {rest : List Value} (X : Stand p l e R s m args below meth c T locs cells slots) (hx : p.tables.exec = Jvm.exec) (hret : meth.sig.returnType = none) (hlocks : meth.locks = false)
    (hd : decode c.code pc = .ok (.return_, 1)) (eT : T.heap = h) (hK : cells ≤ K) (hN : slots ≤ N) (hQ : Q none h locs) : Goes p e below (EndN s Q K N) T (mkF m pc Ls rest) :=
  goRet X (fun _ => rfl) hlocks eT hQ hK hN fun fs hr => by
    have hm' : T.vm.method? m = some meth := X.method'
    show Steps p.tables e below (T.setTop { method := m, pc := pc, locals := Ls, stack := rest, locked := none }) _
    jvm_step X.here [X.here.top, hx, hd, hm', hret]
    first | (intro acts; rw [hr _ acts rfl rfl rfl]) | rw [hr _ _ rfl rfl rfl]
    exact Steps.refl _
/-- a body's contract out of its walk -/
theorem Rm.of {ws : List Jvm.Cond} {y : MethodName} {bytes : ByteArray} {maxL : Nat} {ret : Option FieldType} {rm : Room} {as' : Array Value} {h : Heap} {Q : Option Value → Heap → List Loc → Prop} (hp : plainFor y = true)
    (body : ∀ (p : Program) (e : Env) (s : State) (m : MethodId) (below : List Frame) (meth : Method) (c : Code) (T : State), Stand p l e rm s m as' below meth c T [] 0 0 → p.tables.exec = Jvm.exec → Z.Warmed39 s.vm → c.code = bytes → c.maxLocals = maxL → s.vm.findClass y.cls = some m.cls → meth.name = y.name → meth.sig.returnType = ret → meth.locks = false → T.heap = h →
      Goes p e below (EndN s Q rm.cells rm.slots) T (entryFrame m as' maxL)) : Rm l y bytes maxL ret rm ws Z as' h Q := by
  refine MetFree.of_bodySF hp hisR ?_
  intro p e s m args below meth c s₁ Bd hml0 hP hK
  obtain ⟨rfl, hZ, hh⟩ := hP
  exact body p e s m below meth c s₁ (Stand.of_body Bd) Bd.exec hZ Bd.bytes hml0 (findClass_of_methodNamed Bd.named) (name_of_methodNamed Bd.named Bd.method).1 Bd.returns Bd.notSynchronized (by rw [← hh, Bd.state]; rfl)
theorem goStatic {own : String} {index : Nat} {y : MethodName} {bytes : ByteArray} {maxL : Nat} {ret : Option FieldType} {rm : Room} {as' : Array Value} {Q : Option Value → Heap → List Loc → Prop} (W : Nat)
    (X : Stand p l e R s m args below meth c T locs cells slots) (hx : p.tables.exec = Jvm.exec) (hZ : Z.Warmed39 s.vm) (hown : s.vm.findClass own = some m.cls) (w1 : (Jvm.Cond.methodLink own index y).before a0 Z = true) (w2 : (Jvm.Cond.static y).before a0 Z = true) (w3 : (Jvm.Cond.initialized y.cls).before a0 Z = true) (w4 : (Jvm.Cond.code y bytes maxL ret).before a0 Z = true)
    (hy : y.cls ≠ "java/lang/invoke/MethodHandle" ∧ y.cls ≠ "java/lang/invoke/VarHandle") (r : Rm l y bytes maxL ret rm [] Z as' h Q) (eT : T.heap = h) {g : JFrame} (hg : g.method = m) (hsize : g.locals.size = c.maxLocals) (argsL rest : List Value) (hlen : ∀ sig, parseMethodDescriptor y.desc = some sig → argsL.length = sig.parameters.length)
    (hstack : g.stack = argsL.reverse ++ rest) (has : argsL.toArray = as') (hW : 2 * g.monitorRoom + (rest.map fun v => v.category).sum ≤ W) (hd : decode c.code g.pc = .ok (.invokestatic index, 3)) (hf : rm.frames + 1 ≤ R.frames) (hl : W + (maxL + 11) + rm.locals ≤ R.locals) (hc : cells + rm.cells ≤ R.cells) (hs : slots + rm.slots ≤ R.slots)
    (k : ∀ v T' L, Stand p l e R s m args below meth c T' (locs ++ L) (cells + rm.cells) (slots + rm.slots) → Q v T'.heap L → Goes p e below E T' { g with pc := g.pc + 3, stack := v.toList ++ rest }) : Goes p e below E T g := by
  obtain ⟨v, vm₁, ⟨T', L', k', n'⟩, -, X', ⟨L, hQ, q1, q2, q3⟩, st⟩ := Jvm.LawKit.callS X hx (y := y) hown (mvT hZ w1) (mvT hZ w2) (mvT hZ w3) (mvT hZ w4) hy (backOf (W := W) r hZ w4 w3 hf hl) hg hsize hlen hstack hW hd (fun _ _ => ⟨has, eT, hc, hs⟩)
  dsimp only [Pt.U, Pt.locs, Pt.cells, Pt.slots] at X' q1 q2 q3 st hQ
  subst q1 q2 q3
  exact Goes.of st (k v T' L X' hQ)
theorem goSpecial {own : String} {index : Nat} {y : MethodName} {bytes : ByteArray} {maxL : Nat} {rm : Room} {as' : Array Value} {Q : Option Value → Heap → List Loc → Prop} (W : Nat)
    (X : Stand p l e R s m args below meth c T locs cells slots) (hx : p.tables.exec = Jvm.exec) (hZ : Z.Warmed39 s.vm) (hy1 : y.name = "<init>") (hown : s.vm.findClass own = some m.cls) (w1 : (Jvm.Cond.methodLink own index y).before a0 Z = true) (w2 : (Jvm.Cond.instanceMethod y).before a0 Z = true) (w3 : (Jvm.Cond.initialized y.cls).before a0 Z = true) (w4 : (Jvm.Cond.code y bytes maxL none).before a0 Z = true)
    (hy : y.cls ≠ "java/lang/invoke/MethodHandle" ∧ y.cls ≠ "java/lang/invoke/VarHandle") (r : Rm l y bytes maxL none rm [] Z as' h Q) (eT : T.heap = h) {g : JFrame} (hg : g.method = m) (hsize : g.locals.size = c.maxLocals) (a : Addr) (argsL rest : List Value) (hlen : ∀ sig, parseMethodDescriptor y.desc = some sig → argsL.length = sig.parameters.length)
    (hstack : g.stack = argsL.reverse ++ .ref a :: rest) (has : (.ref a :: argsL).toArray = as') (hW : 2 * g.monitorRoom + (rest.map fun v => v.category).sum ≤ W) (hd : decode c.code g.pc = .ok (.invokespecial index, 3)) (hf : rm.frames + 1 ≤ R.frames) (hl : W + (maxL + 11) + rm.locals ≤ R.locals) (hc : cells + rm.cells ≤ R.cells) (hs : slots + rm.slots ≤ R.slots)
    (k : ∀ v T' L, Stand p l e R s m args below meth c T' (locs ++ L) (cells + rm.cells) (slots + rm.slots) → Q v T'.heap L → Goes p e below E T' { g with pc := g.pc + 3, stack := v.toList ++ rest }) : Goes p e below E T g := by
  obtain ⟨v, vm₁, ⟨T', L', k', n'⟩, -, X', ⟨L, hQ, q1, q2, q3⟩, st⟩ := X.specialBack hx (y := y) hy1 hown (mvT hZ w1) (mvT hZ w2) (mvT hZ w4) hy (backOf (W := W) r hZ w4 w3 hf hl) hg hsize (Steps.refl _) (a := a) hlen hstack hW hd (fun _ _ => ⟨has, eT, hc, hs⟩)
  dsimp only [Pt.U, Pt.locs, Pt.cells, Pt.slots] at X' q1 q2 q3 st hQ
  subst q1 q2 q3
  exact Goes.of (fun _ => st.trans) (k v T' L X' hQ)
theorem goVirtual {own C : String} {index : Nat} {y z : MethodName} {bytes : ByteArray} {maxL : Nat} {ret : Option FieldType} {rm : Room} {as' : Array Value} {Q : Option Value → Heap → List Loc → Prop} (W : Nat)
    (X : Stand p l e R s m args below meth c T locs cells slots) (hx : p.tables.exec = Jvm.exec) (hZ : Z.Warmed39 s.vm) (hown : s.vm.findClass own = some m.cls) (w1 : (Jvm.Cond.methodLink own index y).before a0 Z = true) (w2 : (Jvm.Cond.declares y).before a0 Z = true) (hnf : NotFace s y) (w3 : (Jvm.Cond.selects C y z).before a0 Z = true) (w4 : (Jvm.Cond.instanceMethod z).before a0 Z = true) (w5 : (Jvm.Cond.initialized z.cls).before a0 Z = true) (w6 : (Jvm.Cond.code z bytes maxL ret).before a0 Z = true)
    (hy : y.cls ≠ "java/lang/invoke/MethodHandle" ∧ y.cls ≠ "java/lang/invoke/VarHandle") (r : Rm l z bytes maxL ret rm [] Z as' h Q) (eT : T.heap = h) {a : Addr} (F : Exa Z h a C) {g : JFrame} (hg : g.method = m) (hsize : g.locals.size = c.maxLocals) (argsL rest : List Value) (hlen : ∀ sig, parseMethodDescriptor y.desc = some sig → argsL.length = sig.parameters.length)
    (hstack : g.stack = argsL.reverse ++ .ref a :: rest) (has : (.ref a :: argsL).toArray = as') (hW : 2 * g.monitorRoom + (rest.map fun v => v.category).sum ≤ W) (hd : decode c.code g.pc = .ok (.invokevirtual index, 3)) (hf : rm.frames + 1 ≤ R.frames) (hl : W + (maxL + 11) + rm.locals ≤ R.locals) (hc : cells + rm.cells ≤ R.cells) (hs : slots + rm.slots ≤ R.slots)
    (k : ∀ v T' L, Stand p l e R s m args below meth c T' (locs ++ L) (cells + rm.cells) (slots + rm.slots) → Q v T'.heap L → Goes p e below E T' { g with pc := g.pc + 3, stack := v.toList ++ rest }) : Goes p e below E T g := by
  obtain ⟨cq, kq, qa, qb, qc⟩ := isOf hZ eT F
  obtain ⟨v, vm₁, ⟨T', L', k', n'⟩, -, X', ⟨L, hQ, q1, q2, q3⟩, st⟩ := X.virtualBack hx (y := y) (z := z) hown (mvT hZ w1) (mvT hZ w2) hnf (mvT hZ w3) (mvT hZ w4) hy (backOf (W := W) r hZ w6 w5 hf hl) qa qc hg hsize (Steps.refl _) hlen hstack hW hd (fun _ _ => ⟨has, eT, hc, hs⟩)
  dsimp only [Pt.U, Pt.locs, Pt.cells, Pt.slots] at X' q1 q2 q3 st hQ
  subst q1 q2 q3
  exact Goes.of (fun _ => st.trans) (k v T' L X' hQ)
theorem goNew {own C : String} {index n : Nat} (X : Stand p l e R s m args below meth c T locs cells slots) (hx : p.tables.exec = Jvm.exec) (hZ : Z.Warmed39 s.vm) (hown : s.vm.findClass own = some m.cls) (w : (Jvm.Cond.classLink own index C).before a0 Z = true) (wi : (Jvm.Cond.instantiable C n).before a0 Z = true) (wz : (Jvm.Cond.initialized C).before a0 Z = true) (eT : T.heap = h)
    {g : JFrame} (hg : g.method = m) (hd : decode c.code g.pc = .ok (.new index, 3)) (hc : cells + 1 ≤ R.cells) (hl : slots + n ≤ R.slots)
    (k : ∀ T' h' b, Stand p l e R s m args below meth c T' locs (cells + 1) (slots + n) → T'.heap = h' → Ext h h' → h.size ≤ b → Exa Z h' b C → (∀ {O nm d : String} {ty : FieldType}, Laid Z a0 C O nm d → parseFieldDescriptor d = some ty → Fld Z h' b O nm d (defaultValue ty)) → Goes p e below E T' { g with pc := g.pc + 3, stack := .ref b :: g.stack }) : Goes p e below E T g := by
  obtain ⟨T', h', X', e', E', A', D', -, st⟩ := newO X hx hZ hown w wi wz eT hg hd hc hl
  exact Goes.of st (k T' h' _ X' e' E' (Nat.le_refl _) A' D')
theorem goInitO {own : String} {idx : Nat} (W : Nat) (X : Stand p l e R s m args below meth c T locs cells slots) (hx : p.tables.exec = Jvm.exec) (hZ : Z.Warmed39 s.vm) (hown : s.vm.findClass own = some m.cls) (w1 : (Jvm.Cond.methodLink own idx Lib.objectInit).before a0 Z = true) (w2 : (Jvm.Cond.instanceMethod Lib.objectInit).before a0 Z = true)
    (w3 : (Jvm.Cond.code Lib.objectInit ⟨#[0xb1]⟩ 1 none).before a0 Z = true) (eT : T.heap = h) {g : JFrame} (hg : g.method = m) (hsize : g.locals.size = c.maxLocals) {a : Addr} {rest : List Value} (hs : g.stack = .ref a :: rest) (hd : decode c.code g.pc = .ok (.invokespecial idx, 3))
    (hf : 1 ≤ R.frames) (hW : 2 * g.monitorRoom + (rest.map fun v => v.category).sum ≤ W) (hl : W + 12 ≤ R.locals) (k : ∀ T', Stand p l e R s m args below meth c T' locs cells slots → T'.heap = h → Goes p e below E T' { g with pc := g.pc + 3, stack := rest }) : Goes p e below E T g := by
  obtain ⟨T', X', e', st⟩ := initO X hx hZ hown w1 w2 w3 eT hg hsize hs hd hf hW hl
  exact Goes.of st (k T' X' e')
theorem goGet {own R0 O n d host : String} {index : Nat} (X : Stand p l e R s m args below meth c T locs cells slots) (hx : p.tables.exec = Jvm.exec) (hZ : Z.Warmed39 s.vm) (hown : s.vm.findClass own = some m.cls) (w : (Jvm.Cond.fieldLink own index R0 n d).before a0 Z = true ∨ (Jvm.Cond.fieldLinkNest own index R0 n d host).before a0 Z = true) (via : Via Z R0 O n d)
    (eT : T.heap = h) {a : Addr} {v : Value} (F : Fld Z h a O n d v) {g : JFrame} (hg : g.method = m) {rest : List Value} (hs : g.stack = .ref a :: rest) (hd : decode c.code g.pc = .ok (.getfield index, 3))
    (k : ∀ T', Stand p l e R s m args below meth c T' locs cells slots → T'.heap = h → Goes p e below E T' { g with pc := g.pc + 3, stack := v :: rest }) : Goes p e below E T g := by
  obtain ⟨T', X', e', st⟩ := getF X hx hZ hown w via eT F hg hs hd
  exact Goes.of st (k T' X' e')
theorem goGetS {own R0 O n d host : String} {index : Nat} (X : Stand p l e R s m args below meth c T locs cells slots) (hx : p.tables.exec = Jvm.exec) (hZ : Z.Warmed39 s.vm) (hown : s.vm.findClass own = some m.cls) (w : (Jvm.Cond.fieldLink own index R0 n d).before a0 Z = true ∨ (Jvm.Cond.fieldLinkNest own index R0 n d host).before a0 Z = true) (via : Via Z R0 O n d)
    (eT : T.heap = h) {v : Value} (F : Sta Z h O n d v) {g : JFrame} (hg : g.method = m) (hd : decode c.code g.pc = .ok (.getstatic index, 3))
    (k : ∀ T', Stand p l e R s m args below meth c T' locs cells slots → T'.heap = h → Goes p e below E T' { g with pc := g.pc + 3, stack := v :: g.stack }) : Goes p e below E T g := by
  obtain ⟨T', X', e', st⟩ := getS2 X hx hZ hown w via eT F hg hd
  exact Goes.of st (k T' X' e')
theorem goPut {own R0 O n d host C : String} {index kk : Nat} {ty : FieldType} (X : Stand p l e R s m args below meth c T locs cells slots) (hx : p.tables.exec = Jvm.exec) (hZ : Z.Warmed39 s.vm) (hown : s.vm.findClass own = some m.cls) (w : (Jvm.Cond.fieldLink own index R0 n d).before a0 Z = true ∨ (Jvm.Cond.fieldLinkNest own index R0 n d host).before a0 Z = true) (via : Via Z R0 O n d)
    (eT : T.heap = h) {a : Addr} {v old : Value} (F : Fld Z h a O n d old) (Ex : Exa Z h a C) (L : (Jvm.Cond.lays C O n d).before a0 Z = true ∨ ((Jvm.Cond.laysFinal C O n d).before a0 Z = true ∧ own = O ∧ meth.name = "<init>")) (wi : (Jvm.Cond.instantiable C kk).before a0 Z = true)
    (hty : parseFieldDescriptor d = some ty) (hn : narrow ty v = v) (hf : fits ty v = true) {g : JFrame} (hg : g.method = m) {rest : List Value} (hs : g.stack = v :: .ref a :: rest) (hd : decode c.code g.pc = .ok (.putfield index, 3))
    (k : ∀ T' h', Stand p l e R s m args below meth c T' (locs ++ [⟨a, Jvm.RoadKit.slotOf Z O n d⟩]) cells slots → T'.heap = h' → Wr h h' a (Jvm.RoadKit.slotOf Z O n d) v → Goes p e below E T' { g with pc := g.pc + 3, stack := rest }) : Goes p e below E T g := by
  obtain ⟨T', h', X', e', W', st⟩ := putF X hx hZ hown w via eT F Ex L wi hty hn hf hg hs hd
  exact Goes.of st (k T' h' X' e' W')
theorem goCast {own K : String} {index : Nat} (X : Stand p l e R s m args below meth c T locs cells slots) (hx : p.tables.exec = Jvm.exec) (hZ : Z.Warmed39 s.vm) (hown : s.vm.findClass own = some m.cls) (w : (Jvm.Cond.classLink own index K).before a0 Z = true) (eT : T.heap = h) {a : Addr} (F : Ins Z h a K true)
    {g : JFrame} (hg : g.method = m) {rest : List Value} (hs : g.stack = .ref a :: rest) (hd : decode c.code g.pc = .ok (.checkcast index, 3))
    (k : ∀ T', Stand p l e R s m args below meth c T' locs cells slots → T'.heap = h → Goes p e below E T' { g with pc := g.pc + 3 }) : Goes p e below E T g := by
  obtain ⟨T', X', e', st⟩ := castY X hx hZ hown w eT F hg hs hd
  exact Goes.of st (k T' X' e')
theorem goInstY {own K : String} {index : Nat} (X : Stand p l e R s m args below meth c T locs cells slots) (hx : p.tables.exec = Jvm.exec) (hZ : Z.Warmed39 s.vm) (hown : s.vm.findClass own = some m.cls) (w : (Jvm.Cond.classLink own index K).before a0 Z = true) (eT : T.heap = h) {a : Addr} (F : Ins Z h a K true)
    {g : JFrame} (hg : g.method = m) {rest : List Value} (hs : g.stack = .ref a :: rest) (hd : decode c.code g.pc = .ok (.instanceof index, 3))
    (k : ∀ T', Stand p l e R s m args below meth c T' locs cells slots → T'.heap = h → Goes p e below E T' { g with pc := g.pc + 3, stack := .int 1 :: rest }) : Goes p e below E T g := by
  obtain ⟨T', X', e', st⟩ := instY X hx hZ hown w eT F hg hs hd
  exact Goes.of st (k T' X' e')
theorem goInstN {own K C : String} {index : Nat} (X : Stand p l e R s m args below meth c T locs cells slots) (hx : p.tables.exec = Jvm.exec) (hZ : Z.Warmed39 s.vm) (hown : s.vm.findClass own = some m.cls) (w : (Jvm.Cond.classLink own index K).before a0 Z = true) (eT : T.heap = h) {a : Addr} (Ex : Exa Z h a C) (F : ∃ c t, Z.vm.findClass C = some c ∧ Z.vm.findClass K = some t ∧ Z.vm.assignable c t = false)
    {g : JFrame} (hg : g.method = m) {rest : List Value} (hs : g.stack = .ref a :: rest) (hd : decode c.code g.pc = .ok (.instanceof index, 3))
    (k : ∀ T', Stand p l e R s m args below meth c T' locs cells slots → T'.heap = h → Goes p e below E T' { g with pc := g.pc + 3, stack := .int 0 :: rest }) : Goes p e below E T g := by
  obtain ⟨T', X', e', st⟩ := Jvm.RoadKit.instNo X hx hZ hown w eT Ex F hg hs hd
  exact Goes.of st (k T' X' e')
theorem goNewP {aty : ArrayType} (cap : Nat) (X : Stand p l e R s m args below meth c T locs cells slots) (hx : p.tables.exec = Jvm.exec) (hZ : Z.Warmed39 s.vm) (w : (Jvm.Cond.arrayClass (newarray.typeOf aty)).before a0 Z = true) (eT : T.heap = h) {g : JFrame} (hg : g.method = m) (hd : decode c.code g.pc = .ok (.newarray aty, 2)) {n : Int32} {rest : List Value} (hs : g.stack = .int n :: rest)
    (hn : ¬ n < 0) (hcap : n.toNatClampNeg ≤ cap) (hb : cap * 8 ≤ 536870912) (hc : cells + 1 ≤ R.cells) (hl : slots + cap ≤ R.slots) {ad : String} (had : "[" ++ (newarray.typeOf aty).toString = ad) 
    (k : ∀ T' h' b cA, Stand p l e R s m args below meth c T' locs (cells + 1) (slots + cap) → T'.heap = h' → Ext h h' → h.size ≤ b → Arv Z h' b cA (newarray.typeOf aty) n (List.replicate cap (defaultValue (newarray.typeOf aty))) (defaultValue (newarray.typeOf aty)) → Exa Z h' b ad → Goes p e below E T' { g with pc := g.pc + 2, stack := .ref b :: rest }) : Goes p e below E T g := by
  obtain ⟨T', h', cA, X', e', E', A', Ex', st⟩ := newPE X hx hZ w eT hg hd hs hn hcap hb hc hl had
  exact Goes.of st (k T' h' _ cA X' e' E' (Nat.le_refl _) ((Arv.new A' hn).pad (pad_rep [] _ cap)) Ex')
theorem goNewR {own C : String} {index : Nat} (cap : Nat) (X : Stand p l e R s m args below meth c T locs cells slots) (hx : p.tables.exec = Jvm.exec) (hZ : Z.Warmed39 s.vm) (hown : s.vm.findClass own = some m.cls) (w1 : (Jvm.Cond.classLink own index C).before a0 Z = true) (w2 : (Jvm.Cond.arrayOver (.object C)).before a0 Z = true) (eT : T.heap = h) {g : JFrame} (hg : g.method = m) (hd : decode c.code g.pc = .ok (.anewarray index, 3)) {n : Int32} {rest : List Value} (hs : g.stack = .int n :: rest)
    (hn : ¬ n < 0) (hcap : n.toNatClampNeg ≤ cap) (hb : cap * 8 ≤ 536870912) (hc : cells + 1 ≤ R.cells) (hl : slots + cap ≤ R.slots)
    (k : ∀ T' h' b cA, Stand p l e R s m args below meth c T' locs (cells + 1) (slots + cap) → T'.heap = h' → Ext h h' → h.size ≤ b → Arv Z h' b cA (.object C) n (List.replicate cap .null) .null → Ovr Z cA C → Goes p e below E T' { g with pc := g.pc + 3, stack := .ref b :: rest }) : Goes p e below E T g := by
  obtain ⟨T', h', cA, X', e', E', A', O', st⟩ := newR X hx hZ hown w1 w2 eT hg hd hs hn hcap hb hc hl
  exact Goes.of st (k T' h' _ cA X' e' E' (Nat.le_refl _) ((Arv.new A' hn).pad (pad_rep [] _ cap)) O')
theorem inbV {cl : Cell} {z j : Int32} (S : cl.slots.size = z.toNatClampNeg) (hj : ¬ j < 0) (hj' : j < z) : ¬ (j < 0 ∨ cl.slots.size ≤ j.toNatClampNeg) := inb_of S ⟨hj, hj'⟩
theorem goStI {a : Addr} {kc : ClassId} {z j x : Int32} {vs : List Value} {dv : Value} (i : Nat) (X : Stand p l e R s m args below meth c T locs cells slots) (hx : p.tables.exec = Jvm.exec) (hZ : Z.Warmed39 s.vm) (eT : T.heap = h) (V : Arv Z h a kc .int z vs dv) (hj : ¬ j < 0) (hj' : j < z) (hi : j.toNatClampNeg = i) (hl : i < vs.length)
    {g : JFrame} (hg : g.method = m) {rest : List Value} (hs : g.stack = .int x :: .int j :: .ref a :: rest) (hd : decode c.code g.pc = .ok (.iastore, 1))
    (k : ∀ T' h', Stand p l e R s m args below meth c T' (locs ++ [⟨a, j.toNatClampNeg⟩]) cells slots → T'.heap = h' → Wr h h' a j.toNatClampNeg (.int x) → Arv Z h' a kc .int z (vs.set i (.int x)) dv → Goes p e below E T' { g with pc := g.pc + 1, stack := rest }) : Goes p e below E T g := by
  obtain ⟨cl, A, q1, S, q3, H, G⟩ := V
  obtain ⟨T', h', X', e', W', st⟩ := stI X hx hZ eT A (inbV S hj hj') hg hs hd
  exact Goes.of st (k T' h' X' e' W' (Arv.set A q1 S q3 H G rfl W' i hi hl))
theorem goStJ {a : Addr} {kc : ClassId} {z j : Int32} {x : Int64} {vs : List Value} {dv : Value} (i : Nat) (X : Stand p l e R s m args below meth c T locs cells slots) (hx : p.tables.exec = Jvm.exec) (hZ : Z.Warmed39 s.vm) (eT : T.heap = h) (V : Arv Z h a kc .long z vs dv) (hj : ¬ j < 0) (hj' : j < z) (hi : j.toNatClampNeg = i) (hl : i < vs.length)
    {g : JFrame} (hg : g.method = m) {rest : List Value} (hs : g.stack = .long x :: .int j :: .ref a :: rest) (hd : decode c.code g.pc = .ok (.lastore, 1))
    (k : ∀ T' h', Stand p l e R s m args below meth c T' (locs ++ [⟨a, j.toNatClampNeg⟩]) cells slots → T'.heap = h' → Wr h h' a j.toNatClampNeg (.long x) → Arv Z h' a kc .long z (vs.set i (.long x)) dv → Goes p e below E T' { g with pc := g.pc + 1, stack := rest }) : Goes p e below E T g := by
  obtain ⟨cl, A, q1, S, q3, H, G⟩ := V
  obtain ⟨T', h', X', e', W', st⟩ := stJ X hx hZ eT A (inbV S hj hj') hg hs hd
  exact Goes.of st (k T' h' X' e' W' (Arv.set A q1 S q3 H G rfl W' i hi hl))
theorem goStC {a : Addr} {kc : ClassId} {z j x : Int32} {vs : List Value} {dv : Value} (i : Nat) (X : Stand p l e R s m args below meth c T locs cells slots) (hx : p.tables.exec = Jvm.exec) (hZ : Z.Warmed39 s.vm) (eT : T.heap = h) (V : Arv Z h a kc .char z vs dv) (hj : ¬ j < 0) (hj' : j < z) (hi : j.toNatClampNeg = i) (hl : i < vs.length)
    {g : JFrame} (hg : g.method = m) {rest : List Value} (hs : g.stack = .int x :: .int j :: .ref a :: rest) (hd : decode c.code g.pc = .ok (.castore, 1))
    (k : ∀ T' h', Stand p l e R s m args below meth c T' (locs ++ [⟨a, j.toNatClampNeg⟩]) cells slots → T'.heap = h' → Wr h h' a j.toNatClampNeg (.int (nar .char x)) → Arv Z h' a kc .char z (vs.set i (.int (nar .char x))) dv → Goes p e below E T' { g with pc := g.pc + 1, stack := rest }) : Goes p e below E T g := by
  obtain ⟨cl, A, q1, S, q3, H, G⟩ := V
  obtain ⟨T', h', X', e', W', st⟩ := stC X hx hZ eT A (inbV S hj hj') hg hs hd
  exact Goes.of st (k T' h' X' e' W' (Arv.set A q1 S q3 H G (fits_nar_char _) W' i hi hl))
theorem goStB {a : Addr} {kc : ClassId} {z j x : Int32} {vs : List Value} {dv : Value} (i : Nat) (X : Stand p l e R s m args below meth c T locs cells slots) (hx : p.tables.exec = Jvm.exec) (hZ : Z.Warmed39 s.vm) (eT : T.heap = h) (V : Arv Z h a kc .byte z vs dv) (hj : ¬ j < 0) (hj' : j < z) (hi : j.toNatClampNeg = i) (hl : i < vs.length)
    {g : JFrame} (hg : g.method = m) {rest : List Value} (hs : g.stack = .int x :: .int j :: .ref a :: rest) (hd : decode c.code g.pc = .ok (.bastore, 1))
    (k : ∀ T' h', Stand p l e R s m args below meth c T' (locs ++ [⟨a, j.toNatClampNeg⟩]) cells slots → T'.heap = h' → Wr h h' a j.toNatClampNeg (.int (nar .byte x)) → Arv Z h' a kc .byte z (vs.set i (.int (nar .byte x))) dv → Goes p e below E T' { g with pc := g.pc + 1, stack := rest }) : Goes p e below E T g := by
  obtain ⟨cl, A, q1, S, q3, H, G⟩ := V
  obtain ⟨T', h', X', e', W', st⟩ := stB X hx hZ eT A (inbV S hj hj') hg hs hd
  exact Goes.of st (k T' h' X' e' W' (Arv.set A q1 S q3 H G (fits_nar_byte _) W' i hi hl))
theorem goStZ {a : Addr} {kc : ClassId} {z j x : Int32} {vs : List Value} {dv : Value} (i : Nat) (X : Stand p l e R s m args below meth c T locs cells slots) (hx : p.tables.exec = Jvm.exec) (hZ : Z.Warmed39 s.vm) (eT : T.heap = h) (V : Arv Z h a kc .boolean z vs dv) (hj : ¬ j < 0) (hj' : j < z) (hi : j.toNatClampNeg = i) (hl : i < vs.length)
    {g : JFrame} (hg : g.method = m) {rest : List Value} (hs : g.stack = .int x :: .int j :: .ref a :: rest) (hd : decode c.code g.pc = .ok (.bastore, 1))
    (k : ∀ T' h', Stand p l e R s m args below meth c T' (locs ++ [⟨a, j.toNatClampNeg⟩]) cells slots → T'.heap = h' → Wr h h' a j.toNatClampNeg (.int (nar .boolean x)) → Arv Z h' a kc .boolean z (vs.set i (.int (nar .boolean x))) dv → Goes p e below E T' { g with pc := g.pc + 1, stack := rest }) : Goes p e below E T g := by
  obtain ⟨cl, A, q1, S, q3, H, G⟩ := V
  obtain ⟨T', h', X', e', W', st⟩ := stZ X hx hZ eT A (inbV S hj hj') hg hs hd
  exact Goes.of st (k T' h' X' e' W' (Arv.set A q1 S q3 H G (fits_nar_bool _) W' i hi hl))
theorem goStR {a y : Addr} {C : String} {kc : ClassId} {z j : Int32} {vs : List Value} {dv : Value} (i : Nat) (X : Stand p l e R s m args below meth c T locs cells slots) (hx : p.tables.exec = Jvm.exec) (hZ : Z.Warmed39 s.vm) (eT : T.heap = h) (V : Arv Z h a kc (.object C) z vs dv) (O : Ovr Z kc C) (I : Ins Z h y C true) (hj : ¬ j < 0) (hj' : j < z) (hi : j.toNatClampNeg = i) (hl : i < vs.length)
    {g : JFrame} (hg : g.method = m) {rest : List Value} (hs : g.stack = .ref y :: .int j :: .ref a :: rest) (hd : decode c.code g.pc = .ok (.aastore, 1))
    (k : ∀ T' h', Stand p l e R s m args below meth c T' (locs ++ [⟨a, j.toNatClampNeg⟩]) cells slots → T'.heap = h' → Wr h h' a j.toNatClampNeg (.ref y) → Arv Z h' a kc (.object C) z (vs.set i (.ref y)) dv → Goes p e below E T' { g with pc := g.pc + 1, stack := rest }) : Goes p e below E T g := by
  obtain ⟨cl, A, q1, S, q3, H, G⟩ := V
  obtain ⟨T', h', X', e', W', st⟩ := stR X hx hZ eT A (inbV S hj hj') rfl (Sto.ofV A q1 O I) hg hs hd
  exact Goes.of st (k T' h' X' e' W' (Arv.set A q1 S q3 H G rfl W' i hi hl))
theorem goLdI {a : Addr} {kc : ClassId} {z j : Int32} {vs : List Value} {dv : Value} (v : Value) (X : Stand p l e R s m args below meth c T locs cells slots) (hx : p.tables.exec = Jvm.exec) (hZ : Z.Warmed39 s.vm) (eT : T.heap = h) (V : Arv Z h a kc .int z vs dv) (hj : ¬ j < 0) (hj' : j < z) (hv : vs.getD j.toNatClampNeg dv = v)
    {g : JFrame} (hg : g.method = m) {rest : List Value} (hs : g.stack = .int j :: .ref a :: rest) (hd : decode c.code g.pc = .ok (.iaload, 1)) (k : Goes p e below E T { g with pc := g.pc + 1, stack := v :: rest }) : Goes p e below E T g := by
  obtain ⟨cl, A, q1, S, q3, H, G⟩ := V
  exact Goes.of (fun t q => X.iaload hx (by rw [eT]; exact A.1) (State.isArrayOf_alike hZ.alike A.2.1) A.2.2 (inbV S hj hj') (H.at (inbV S hj hj') hv) hg hs hd t q) k
theorem goLdJ {a : Addr} {kc : ClassId} {z j : Int32} {vs : List Value} {dv : Value} (v : Value) (X : Stand p l e R s m args below meth c T locs cells slots) (hx : p.tables.exec = Jvm.exec) (hZ : Z.Warmed39 s.vm) (eT : T.heap = h) (V : Arv Z h a kc .long z vs dv) (hj : ¬ j < 0) (hj' : j < z) (hv : vs.getD j.toNatClampNeg dv = v)
    {g : JFrame} (hg : g.method = m) {rest : List Value} (hs : g.stack = .int j :: .ref a :: rest) (hd : decode c.code g.pc = .ok (.laload, 1)) (k : Goes p e below E T { g with pc := g.pc + 1, stack := v :: rest }) : Goes p e below E T g := by
  obtain ⟨cl, A, q1, S, q3, H, G⟩ := V
  exact Goes.of (fun t q => X.laload hx (by rw [eT]; exact A.1) (State.isArrayOf_alike hZ.alike A.2.1) A.2.2 (inbV S hj hj') (H.at (inbV S hj hj') hv) hg hs hd t q) k
theorem goLdC {a : Addr} {kc : ClassId} {z j : Int32} {vs : List Value} {dv : Value} (v : Value) (X : Stand p l e R s m args below meth c T locs cells slots) (hx : p.tables.exec = Jvm.exec) (hZ : Z.Warmed39 s.vm) (eT : T.heap = h) (V : Arv Z h a kc .char z vs dv) (hj : ¬ j < 0) (hj' : j < z) (hv : vs.getD j.toNatClampNeg dv = v)
    {g : JFrame} (hg : g.method = m) {rest : List Value} (hs : g.stack = .int j :: .ref a :: rest) (hd : decode c.code g.pc = .ok (.caload, 1)) (k : Goes p e below E T { g with pc := g.pc + 1, stack := v :: rest }) : Goes p e below E T g := by
  obtain ⟨cl, A, q1, S, q3, H, G⟩ := V
  exact Goes.of (fun t q => X.caload hx (by rw [eT]; exact A.1) (State.isArrayOf_alike hZ.alike A.2.1) A.2.2 (inbV S hj hj') (H.at (inbV S hj hj') hv) hg hs hd t q) k
theorem goLdB {a : Addr} {kc : ClassId} {z j : Int32} {vs : List Value} {dv : Value} (v : Value) (X : Stand p l e R s m args below meth c T locs cells slots) (hx : p.tables.exec = Jvm.exec) (hZ : Z.Warmed39 s.vm) (eT : T.heap = h) (V : Arv Z h a kc .byte z vs dv) (hj : ¬ j < 0) (hj' : j < z) (hv : vs.getD j.toNatClampNeg dv = v)
    {g : JFrame} (hg : g.method = m) {rest : List Value} (hs : g.stack = .int j :: .ref a :: rest) (hd : decode c.code g.pc = .ok (.baload, 1)) (k : Goes p e below E T { g with pc := g.pc + 1, stack := v :: rest }) : Goes p e below E T g := by
  obtain ⟨cl, A, q1, S, q3, H, G⟩ := V
  exact Goes.of (fun t q => X.baloadBytes hx (by rw [eT]; exact A.1) (State.isArrayOf_alike hZ.alike A.2.1) A.2.2 (inbV S hj hj') (H.at (inbV S hj hj') hv) hg hs hd t q) k
theorem goLdZ {a : Addr} {kc : ClassId} {z j : Int32} {vs : List Value} {dv : Value} (v : Value) (X : Stand p l e R s m args below meth c T locs cells slots) (hx : p.tables.exec = Jvm.exec) (hZ : Z.Warmed39 s.vm) (eT : T.heap = h) (V : Arv Z h a kc .boolean z vs dv) (hj : ¬ j < 0) (hj' : j < z) (hv : vs.getD j.toNatClampNeg dv = v)
    {g : JFrame} (hg : g.method = m) {rest : List Value} (hs : g.stack = .int j :: .ref a :: rest) (hd : decode c.code g.pc = .ok (.baload, 1)) (k : Goes p e below E T { g with pc := g.pc + 1, stack := v :: rest }) : Goes p e below E T g := by
  obtain ⟨cl, A, q1, S, q3, H, G⟩ := V
  exact Goes.of (fun t q => X.baloadBooleans hx (by rw [eT]; exact A.1) (State.isArrayOf_alike hZ.alike A.2.1) A.2.2 (inbV S hj hj') (H.at (inbV S hj hj') hv) hg hs hd t q) k
theorem goLdR {a : Addr} {C : String} {kc : ClassId} {z j : Int32} {vs : List Value} {dv : Value} (v : Value) (X : Stand p l e R s m args below meth c T locs cells slots) (hx : p.tables.exec = Jvm.exec) (hZ : Z.Warmed39 s.vm) (eT : T.heap = h) (V : Arv Z h a kc (.object C) z vs dv) (hj : ¬ j < 0) (hj' : j < z) (hv : vs.getD j.toNatClampNeg dv = v)
    {g : JFrame} (hg : g.method = m) {rest : List Value} (hs : g.stack = .int j :: .ref a :: rest) (hd : decode c.code g.pc = .ok (.aaload, 1)) (k : Goes p e below E T { g with pc := g.pc + 1, stack := v :: rest }) : Goes p e below E T g := by
  obtain ⟨cl, A, q1, S, q3, H, G⟩ := V
  exact Goes.of (fun t q => X.aaload hx (by rw [eT]; exact A.1) (State.isArrayOf_alike hZ.alike A.2.1) rfl A.2.2 (inbV S hj hj') (H.at (inbV S hj hj') hv) hg hs hd t q) k
theorem goLen {a : Addr} {kc : ClassId} {ty : FieldType} {z : Int32} {vs : List Value} {dv : Value} (X : Stand p l e R s m args below meth c T locs cells slots) (hx : p.tables.exec = Jvm.exec) (hZ : Z.Warmed39 s.vm) (eT : T.heap = h) (V : Arv Z h a kc ty z vs dv)
    {g : JFrame} (hg : g.method = m) {rest : List Value} (hs : g.stack = .ref a :: rest) (hd : decode c.code g.pc = .ok (.arraylength, 1)) (k : Goes p e below E T { g with pc := g.pc + 1, stack := .int z :: rest }) : Goes p e below E T g := by
  obtain ⟨cl, A, q1, S, q3, H, G⟩ := V
  exact Goes.of (fun t q => X.arraylength hx (by rw [eT]; exact A.1) (State.isArrayOf_alike hZ.alike A.2.1) hg hs hd t (by rw [len_of S q3]; exact q)) k
/-- a start fact out of a case's word -/
theorem fld_of_eq {args : Array Value} {t u : Term} {C n d : String} {a : Addr} {v : Value} (ev : t.eval args s none [] s = some (.ref a)) (hu : u.eval args s none [] s = some v) (h : (Jvm.Cond.eq (.field t C n d) u).value args s none s [] = some true) : Fld s s.heap a C n d v := by
  refine Fld.start ?_
  simp only [Jvm.Cond.value, fld_at ev, hu] at h
  cases hf : s.fieldOf? a C n d with
  | none => simp [hf] at h
  | some x => cases x <;> cases v <;> simp [hf] at h ⊢ <;> exact h
theorem sta_at {args : Array Value} {C n d : String} {v : Value} (ev : (Term.static C n d).eval args s none [] s = some v) (w1 : (Jvm.Cond.initialized C).before args s = true) (w2 : (Jvm.Cond.laysStatic C n d).before args s = true) : Sta s s.heap C n d v := Sta.start ev (Or.inr ⟨w1, w2⟩)
/-- an enum constant: the static, the object's class, its ordinal -/
def Con (Z : State) (C f : String) (d : String) (k : Int32) (a : Addr) : Prop := Sta Z Z.heap C f d (.ref a) ∧ Exa Z Z.heap a C ∧ Fld Z Z.heap a "java/lang/Enum" "ordinal" "I" (.int k)
theorem con_of {args : Array Value} {C f d : String} {k : Int32} (h1 : (Jvm.Cond.exactly (.static C f d) C).value args s none s [] = some true) (h2 : (Jvm.Cond.eq (.field (.static C f d) "java/lang/Enum" "ordinal" "I") (.int k)).value args s none s [] = some true)
    (w1 : (Jvm.Cond.initialized C).before args s = true) (w2 : (Jvm.Cond.laysStatic C f d).before args s = true) : ∃ a, Con s C f d k a ∧ (Term.static C f d).eval args s none [] s = some (.ref a) := by
  obtain ⟨a, ev⟩ := exa_v h1
  exact ⟨a, ⟨sta_at ev w1 w2, Exa.start ev h1, fld_of_eq ev (Term.int_eval k) h2⟩, ev⟩
theorem Con.ne {C f d C' f' d' : String} {k k' : Int32} {a b : Addr} (F : Con Z C f d k a) (G : Con Z C' f' d' k' b) (q : k ≠ k') : a ≠ b := Fld.ne F.2.2 G.2.2 (fun h => q (Value.int.inj h))
theorem mask31 (x : Int32) : (x &&& (2147483647 : Int32)).toInt = x.toInt % 2147483648 := c_mask x _ 31 (by decide) (by decide)
theorem div_pos (x y : Int32) {k : Int} (hx : ¬ x < 0) (hy : y.toInt = k) (h1 : y ≠ -1) : (x / y).toInt = x.toInt / k := (c_idiv x y k hy h1).1 (by rw [Int32.lt_iff_toInt_lt] at hx; have : (0 : Int32).toInt = 0 := rfl; omega)
theorem rem_pos {x y : Int32} {k : Int} (h : 0 ≤ x.toInt) (hy : y.toInt = k) : (x - (x / y) * y).toInt = x.toInt % k := by
  rw [irem_eq_mod]; exact (c_irem x y k hy).1 h
theorem rem31 (x y : Int32) {k : Int} (hy : y.toInt = k) : ((x &&& (2147483647 : Int32)) - ((x &&& (2147483647 : Int32)) / y) * y).toInt = (x.toInt % 2147483648) % k := by
  have e := mask31 x
  rw [rem_pos (by omega) hy, e]
def Cst (Z : State) (C f : String) (d : String) (a : Addr) : Prop := Sta Z Z.heap C f d (.ref a) ∧ Exa Z Z.heap a C
theorem cst_of {args : Array Value} {C f d : String} (h1 : (Jvm.Cond.exactly (.static C f d) C).value args s none s [] = some true)
    (w1 : (Jvm.Cond.initialized C).before args s = true) (w2 : (Jvm.Cond.laysStatic C f d).before args s = true) : ∃ a, Cst s C f d a ∧ (Term.static C f d).eval args s none [] s = some (.ref a) := by
  obtain ⟨a, ev⟩ := exa_v h1
  exact ⟨a, ⟨sta_at ev w1 w2, Exa.start ev h1⟩, ev⟩
theorem goClone {own ad : String} {index : Nat} {ty : FieldType} {a : Addr} {kc : ClassId} {z : Int32} {vs : List Value} {dv : Value} (W cap : Nat) (X : Stand p l e R s m args below meth c T locs cells slots) (hx : p.tables.exec = Jvm.exec) (hZ : Z.Warmed39 s.vm) (hown : s.vm.findClass own = some m.cls)
    (w1 : (Jvm.Cond.methodLink own index ⟨ad, "clone", "()Ljava/lang/Object;"⟩).before a0 Z = true) (w2 : (Jvm.Cond.sameMethod ad "java/lang/Object" "clone" "()Ljava/lang/Object;").before a0 Z = true) (w3 : (Jvm.Cond.native ⟨"java/lang/Object", "clone", "()Ljava/lang/Object;"⟩).before a0 Z = true)
    (w4 : (Jvm.Cond.instanceMethod ⟨"java/lang/Object", "clone", "()Ljava/lang/Object;"⟩).before a0 Z = true) (w5 : (Jvm.Cond.selects ad ⟨ad, "clone", "()Ljava/lang/Object;"⟩ ⟨"java/lang/Object", "clone", "()Ljava/lang/Object;"⟩).before a0 Z = true) (w6 : (Jvm.Cond.castable ad "java/lang/Cloneable").before a0 Z = true)
    (eT : T.heap = h) (V : Arv Z h a kc ty z vs dv) (Ex : Exa Z h a ad) {g : JFrame} (hg : g.method = m) (hsize : g.locals.size = c.maxLocals) {rest : List Value} (hst : g.stack = .ref a :: rest) (hd : decode c.code g.pc = .ok (.invokevirtual index, 3))
    (hf : 1 ≤ R.frames) (hW : 2 * g.monitorRoom + (rest.map fun v => v.category).sum ≤ W) (hl : W + 14 ≤ R.locals) (hcap : z.toNatClampNeg ≤ cap) (hc : cells + 1 ≤ R.cells) (hsl : slots + cap ≤ R.slots)
    (k : ∀ T' h' b, Stand p l e R s m args below meth c T' locs (cells + 1) (slots + cap) → T'.heap = h' → Ext h h' → h.size ≤ b → Arv Z h' b kc ty z vs dv → Exa Z h' b ad → Goes p e below E T' { g with pc := g.pc + 3, stack := .ref b :: rest }) : Goes p e below E T g := by
  obtain ⟨T', h', X', e', E', A', Ex', st⟩ := cloneH X hx hZ hown w1 w2 w3 w4 w5 w6 eT V.arh Ex hg hsize hst hd hf hW hl hcap hc hsl
  exact Goes.of st (k T' h' _ X' e' E' (Nat.le_refl _) A' Ex')
theorem nsRoot {O K : String} {n : Nat} (w : (Jvm.Cond.noSuperclass O).before a0 Z = true) (wk : (Jvm.Cond.instantiable K n).before a0 Z = true) (hn : O ≠ K) : NS Z O K := by
  obtain ⟨c, k, h1, h2, h3, -, -⟩ := Cond.noSuperclass_spec w
  obtain ⟨t, kt, g1, -⟩ := Cond.instantiable_spec wk
  have ne := ids_ne h1 g1 hn
  refine ⟨c, t, h1, g1, fun fuel => ?_⟩
  cases fuel with
  | zero => rfl
  | succ f => simp [Vm.isSubclassAux, ne, h2, h3]
theorem nsNo {C S K : String} {n : Nat} (w : (Jvm.Cond.superclass C S).before a0 Z = true) (wk : (Jvm.Cond.instantiable K n).before a0 Z = true) (q : NS Z C K) (hn : C ≠ K) : ∃ c t, Z.vm.findClass C = some c ∧ Z.vm.findClass K = some t ∧ Z.vm.assignable c t = false := by
  obtain ⟨c, t, h0, g0, n3⟩ := q
  obtain ⟨p, k, kp, h1, h2, h3, h4, h5, -, h7⟩ := Cond.superclass_spec h0 w
  obtain ⟨t', kt, g1, g2, g5, g7, -⟩ := Cond.instantiable_spec wk
  cases g0.symm.trans g1
  have g8 : kt.isInterface = false := by simp only [Bool.or_eq_false_iff] at g7; exact g7.1
  have ne := ids_ne h0 g0 hn
  refine ⟨c, t, h0, g0, ?_⟩
  show Z.vm.assignableAux (255 + 1) c t = false
  simp [Vm.assignableAux, ne, h2, g2, h5, g5, g8, Vm.isSubclass, n3]
/-- what is known of Integer's cache at the start -/
def IntC (Z : State) (ca : Addr) (cl : Cell) : Prop := Sta Z Z.heap "java/lang/Integer$IntegerCache" "high" "I" (.int 127) ∧ Sta Z Z.heap "java/lang/Integer$IntegerCache" "cache" "[Ljava/lang/Integer;" (.ref ca) ∧ Arr Z Z.heap ca cl (.object "java/lang/Integer") ∧ cl.slots.size = 256 ∧ ∀ j, j < 256 → ∃ b, cl.slots[j]? = some (.ref b) ∧ Exa Z Z.heap b "java/lang/Integer"
theorem ne_of_not {args : Array Value} {t : Term} {x : Int32} (ev : t.eval args s none [] s = some (.int x)) (h : (Jvm.Cond.not (.eq t (.int 0))).before args s = true) : ¬ x = 0 := by
  intro q
  subst q
  have e := Cond.before_iff.mp h
  simp [Jvm.Cond.value, ev, Term.eval] at e
end Own1
end Jvm.Own
namespace Jvm.Pilot.@@N@@
open Jvm Jvm.ClassFile Sem Op Lib Jvm.Free Jvm.Stand Jvm.LawKit Jvm.RoadKit Jvm.Own Bundle Jvm.Pilot.@@N@@.Jvm.D
theorem ef_1 (m : MethodId) (x0 : Int32) : entryFrame m #[(.int x0)] 1 = mkF m 0 #[.val (.int x0)] [] := by first | (simp [entryFrame, mkF, argsToLocals, Value.category]; done) | rfl
theorem d1_0 : decode method_2_code 0 = .ok (.iload_n 0, 1) := by decide +kernel
theorem d1_1 : decode method_2_code 1 = .ok (.iconst 1, 1) := by decide +kernel
theorem d1_2 : decode method_2_code 2 = .ok (.if_icmp .ne 7, 3) := by decide +kernel
theorem d1_9 : decode method_2_code 9 = .ok (.iload_n 0, 1) := by decide +kernel
theorem d1_10 : decode method_2_code 10 = .ok (.iconst 2, 1) := by decide +kernel
theorem d1_11 : decode method_2_code 11 = .ok (.if_icmp .ne 7, 3) := by decide +kernel
theorem d1_18 : decode method_2_code 18 = .ok (.iload_n 0, 1) := by decide +kernel
theorem d1_19 : decode method_2_code 19 = .ok (.iconst 3, 1) := by decide +kernel
theorem d1_20 : decode method_2_code 20 = .ok (.if_icmp .ne 7, 3) := by decide +kernel
theorem d1_27 : decode method_2_code 27 = .ok (.iload_n 0, 1) := by decide +kernel
theorem d1_28 : decode method_2_code 28 = .ok (.iconst 4, 1) := by decide +kernel
theorem d1_29 : decode method_2_code 29 = .ok (.if_icmp .ne 7, 3) := by decide +kernel
theorem d1_36 : decode method_2_code 36 = .ok (.aconst_null, 1) := by decide +kernel
theorem d1_37 : decode method_2_code 37 = .ok (.areturn, 1) := by decide +kernel
theorem pn_com_example_keadby_keadby_model_VerificationOkPinLaw : plainName "com/example/keadby/keadby/model/VerificationOkPinLaw" = true := by first | (simp [plainName, overriddenIn]; done) | decide +kernel
theorem d1_5 : decode method_2_code 5 = .ok (.getstatic 7, 3) := by decide +kernel
theorem d1_8 : decode method_2_code 8 = .ok (.areturn, 1) := by decide +kernel
theorem d1_14 : decode method_2_code 14 = .ok (.getstatic 13, 3) := by decide +kernel
theorem d1_17 : decode method_2_code 17 = .ok (.areturn, 1) := by decide +kernel
theorem d1_23 : decode method_2_code 23 = .ok (.getstatic 16, 3) := by decide +kernel
theorem d1_26 : decode method_2_code 26 = .ok (.areturn, 1) := by decide +kernel
theorem d1_32 : decode method_2_code 32 = .ok (.getstatic 19, 3) := by decide +kernel
theorem d1_35 : decode method_2_code 35 = .ok (.areturn, 1) := by decide +kernel
theorem ef_3 (m : MethodId) (x0 : Addr) : entryFrame m #[(.ref x0)] 1 = mkF m 0 #[.val (.ref x0)] [] := by first | (simp [entryFrame, mkF, argsToLocals, Value.category]; done) | rfl
theorem d3_0 : decode jdk_30_method_1_code 0 = .ok (.aload_n 0, 1) := by decide +kernel
theorem d3_1 : decode jdk_30_method_1_code 1 = .ok (.invokespecial 1, 3) := by decide +kernel
theorem d3_4 : decode jdk_30_method_1_code 4 = .ok (.return_, 1) := by decide +kernel
theorem pn_java_lang_Record : plainName "java/lang/Record" = true := by first | (simp [plainName, overriddenIn]; done) | decide +kernel
theorem ef_2n4 (m : MethodId) (x0 : Addr) (x1 : Int64) (x2 : Int64) (x3 : Int64) : entryFrame m #[(.ref x0), (.long x1), (.long x2), (.long x3), .null] 8 = mkF m 0 #[.val (.ref x0), .val (.long x1), .second, .val (.long x2), .second, .val (.long x3), .second, .val .null] [] := by first | (simp [entryFrame, mkF, argsToLocals, Value.category]; done) | rfl
theorem d2_0 : decode prog_16_method_1_code 0 = .ok (.aload_n 0, 1) := by decide +kernel
theorem d2_1 : decode prog_16_method_1_code 1 = .ok (.invokespecial 1, 3) := by decide +kernel
theorem pd___V : parseMethodDescriptor "()V" = some ⟨[], none⟩ := by decide +kernel
theorem d2_4 : decode prog_16_method_1_code 4 = .ok (.aload_n 0, 1) := by decide +kernel
theorem d2_5 : decode prog_16_method_1_code 5 = .ok (.lload_n 1, 1) := by decide +kernel
theorem d2_6 : decode prog_16_method_1_code 6 = .ok (.putfield 7, 3) := by decide +kernel
theorem d2_9 : decode prog_16_method_1_code 9 = .ok (.aload_n 0, 1) := by decide +kernel
theorem d2_10 : decode prog_16_method_1_code 10 = .ok (.lload_n 3, 1) := by decide +kernel
theorem d2_11 : decode prog_16_method_1_code 11 = .ok (.putfield 13, 3) := by decide +kernel
theorem d2_14 : decode prog_16_method_1_code 14 = .ok (.aload_n 0, 1) := by decide +kernel
theorem d2_15 : decode prog_16_method_1_code 15 = .ok (.lload 5, 2) := by decide +kernel
theorem d2_17 : decode prog_16_method_1_code 17 = .ok (.putfield 16, 3) := by decide +kernel
theorem d2_20 : decode prog_16_method_1_code 20 = .ok (.aload_n 0, 1) := by decide +kernel
theorem d2_21 : decode prog_16_method_1_code 21 = .ok (.aload 7, 2) := by decide +kernel
theorem d2_23 : decode prog_16_method_1_code 23 = .ok (.putfield 19, 3) := by decide +kernel
theorem d2_26 : decode prog_16_method_1_code 26 = .ok (.return_, 1) := by decide +kernel
theorem pn_com_example_keadby_keadby_model_Verification : plainName "com/example/keadby/keadby/model/Verification" = true := by first | (simp [plainName, overriddenIn]; done) | decide +kernel
theorem ef_5 (m : MethodId) (x0 : Addr) : entryFrame m #[(.ref x0)] 1 = mkF m 0 #[.val (.ref x0)] [] := by first | (simp [entryFrame, mkF, argsToLocals, Value.category]; done) | rfl
theorem d5_0 : decode prog_16_method_2_code 0 = .ok (.aload_n 0, 1) := by decide +kernel
theorem d5_1 : decode prog_16_method_2_code 1 = .ok (.getfield 19, 3) := by decide +kernel
theorem d5_4 : decode prog_16_method_2_code 4 = .ok (.ifnonnull 7, 3) := by decide +kernel
theorem d5_7 : decode prog_16_method_2_code 7 = .ok (.iconst 1, 1) := by decide +kernel
theorem d5_8 : decode prog_16_method_2_code 8 = .ok (.goto 4, 3) := by decide +kernel
theorem d5_12 : decode prog_16_method_2_code 12 = .ok (.ireturn, 1) := by decide +kernel
theorem ef_2 (m : MethodId) (x0 : Addr) (x1 : Int64) (x2 : Int64) (x3 : Int64) (x4 : Addr) : entryFrame m #[(.ref x0), (.long x1), (.long x2), (.long x3), (.ref x4)] 8 = mkF m 0 #[.val (.ref x0), .val (.long x1), .second, .val (.long x2), .second, .val (.long x3), .second, .val (.ref x4)] [] := by first | (simp [entryFrame, mkF, argsToLocals, Value.category]; done) | rfl
theorem d5_11 : decode prog_16_method_2_code 11 = .ok (.iconst 0, 1) := by decide +kernel
theorem ef_0 (m : MethodId) (x0 : Int64) (x1 : Int64) (x2 : Int64) (x3 : Int32) : entryFrame m #[(.long x0), (.long x1), (.long x2), (.int x3)] maxLocals = mkF m 0 #[.val (.long x0), .second, .val (.long x1), .second, .val (.long x2), .second, .val (.int x3), .unset, .unset, .unset, .unset] [] := by first | (simp [entryFrame, mkF, argsToLocals, Value.category, maxLocals]; done) | rfl
theorem pd__I_Lcom_example_keadby_keadby_model_Verification_Check_ : parseMethodDescriptor "(I)Lcom/example/keadby/keadby/model/Verification$Check;" = some ⟨[.int], some (.object "com/example/keadby/keadby/model/Verification$Check")⟩ := by decide +kernel
theorem pd__JJJLcom_example_keadby_keadby_model_Verification_Check__V : parseMethodDescriptor "(JJJLcom/example/keadby/keadby/model/Verification$Check;)V" = some ⟨[.long, .long, .long, (.object "com/example/keadby/keadby/model/Verification$Check")], none⟩ := by decide +kernel
theorem pd___Z : parseMethodDescriptor "()Z" = some ⟨[], some .boolean⟩ := by decide +kernel
theorem c5 (i : Int32) (h0 : 0 ≤ i.toInt) (h1 : i.toInt < 5) : i = (0 : Int32) ∨ i = (1 : Int32) ∨ i = (2 : Int32) ∨ i = (3 : Int32) ∨ i = (4 : Int32) := by
  have e0 : (0 : Int32).toInt = 0 := rfl
  have e1 : (1 : Int32).toInt = 1 := rfl
  have e2 : (2 : Int32).toInt = 2 := rfl
  have e3 : (3 : Int32).toInt = 3 := rfl
  have e4 : (4 : Int32).toInt = 4 := rfl
  simp only [← Int32.toInt_inj]
  omega
set_option maxRecDepth 65536 in
set_option maxHeartbeats 40000000 in
theorem rm_pick0 (l : Launch) (Z : State) (a0 : Array Value) (hw : ∀ d ∈ tables_1, d.before a0 Z = true) (w0 : Addr) (w1 : Addr) (w2 : Addr) (w3 : Addr) (h0 : Heap) (n0 : Nat) (O0 : Old Z n0 h0) (c0 : Cst Z "com/example/keadby/keadby/model/Verification$Check" "PAYLOAD" "Lcom/example/keadby/keadby/model/Verification$Check;" w0) (c1 : Cst Z "com/example/keadby/keadby/model/Verification$Check" "HASH" "Lcom/example/keadby/keadby/model/Verification$Check;" w1) (c2 : Cst Z "com/example/keadby/keadby/model/Verification$Check" "LINK" "Lcom/example/keadby/keadby/model/Verification$Check;" w2) (c3 : Cst Z "com/example/keadby/keadby/model/Verification$Check" "HEAD" "Lcom/example/keadby/keadby/model/Verification$Check;" w3) :
    Rm l (⟨"com/example/keadby/keadby/model/VerificationOkPinLaw", "pick", "(I)Lcom/example/keadby/keadby/model/Verification$Check;"⟩ : MethodName) method_2_code 1 (some (.object "com/example/keadby/keadby/model/Verification$Check")) ({ frames := 0, cells := 0, slots := 0, locals := 0 } : Room) [] Z #[(.int (0 : Int32))] h0 (fun v h L => v = some .null ∧ Fr n0 L ∧ h = h0) := by
  refine Rm.of (plainFor_of_name pn_com_example_keadby_keadby_model_VerificationOkPinLaw) ?_
  intro p e s m below meth c T X hx hZ hby hml hown hnm hret hlk eT0
  have hown : s.vm.findClass "com/example/keadby/keadby/model/VerificationOkPinLaw" = some m.cls := hown
  have hnm : meth.name = "pick" := hnm
  have N0 := Fr.nil n0
  refine Goes.cast (ef_1 m (0 : Int32)) ?_
  show Goes p e below _ T (mkF m 0 #[.val (.int (0 : Int32))] [])
  refine Goes.of (fun _ => XS.iloadN X.here hx rfl (hb hby d1_0) rfl) ?_
  show Goes p e below _ T (mkF m 1 #[.val (.int (0 : Int32))] [(.int (0 : Int32))])
  refine Goes.of (fun _ => XS.iconst X.here hx rfl (hb hby d1_1)) ?_
  show Goes p e below _ T (mkF m 2 #[.val (.int (0 : Int32))] [(.int (1 : Int32)), (.int (0 : Int32))])
  refine Goes.of (fun _ => XS.icmpYes X.here hx rfl (pc0 := 2) (pc' := 9) rfl (hb hby d1_2) rfl (feq (by decide)).2 (by decide) (by decide)) ?_
  show Goes p e below _ T (mkF m 9 #[.val (.int (0 : Int32))] [])
  refine Goes.of (fun _ => XS.iloadN X.here hx rfl (hb hby d1_9) rfl) ?_
  show Goes p e below _ T (mkF m 10 #[.val (.int (0 : Int32))] [(.int (0 : Int32))])
  refine Goes.of (fun _ => XS.iconst X.here hx rfl (hb hby d1_10)) ?_
  show Goes p e below _ T (mkF m 11 #[.val (.int (0 : Int32))] [(.int (2 : Int32)), (.int (0 : Int32))])
  refine Goes.of (fun _ => XS.icmpYes X.here hx rfl (pc0 := 11) (pc' := 18) rfl (hb hby d1_11) rfl (feq (by decide)).2 (by decide) (by decide)) ?_
  show Goes p e below _ T (mkF m 18 #[.val (.int (0 : Int32))] [])
  refine Goes.of (fun _ => XS.iloadN X.here hx rfl (hb hby d1_18) rfl) ?_
  show Goes p e below _ T (mkF m 19 #[.val (.int (0 : Int32))] [(.int (0 : Int32))])
  refine Goes.of (fun _ => XS.iconst X.here hx rfl (hb hby d1_19)) ?_
  show Goes p e below _ T (mkF m 20 #[.val (.int (0 : Int32))] [(.int (3 : Int32)), (.int (0 : Int32))])
  refine Goes.of (fun _ => XS.icmpYes X.here hx rfl (pc0 := 20) (pc' := 27) rfl (hb hby d1_20) rfl (feq (by decide)).2 (by decide) (by decide)) ?_
  show Goes p e below _ T (mkF m 27 #[.val (.int (0 : Int32))] [])
  refine Goes.of (fun _ => XS.iloadN X.here hx rfl (hb hby d1_27) rfl) ?_
  show Goes p e below _ T (mkF m 28 #[.val (.int (0 : Int32))] [(.int (0 : Int32))])
  refine Goes.of (fun _ => XS.iconst X.here hx rfl (hb hby d1_28)) ?_
  show Goes p e below _ T (mkF m 29 #[.val (.int (0 : Int32))] [(.int (4 : Int32)), (.int (0 : Int32))])
  refine Goes.of (fun _ => XS.icmpYes X.here hx rfl (pc0 := 29) (pc' := 36) rfl (hb hby d1_29) rfl (feq (by decide)).2 (by decide) (by decide)) ?_
  show Goes p e below _ T (mkF m 36 #[.val (.int (0 : Int32))] [])
  refine Goes.of (fun _ => XS.aconstNull X.here hx rfl (hb hby d1_36)) ?_
  show Goes p e below _ T (mkF m 37 #[.val (.int (0 : Int32))] [.null])
  exact retRef X hx hret hlk rfl rfl (hb hby d1_37) eT0 (by decide) (by decide) ⟨rfl, N0, rfl⟩
set_option maxRecDepth 65536 in
set_option maxHeartbeats 40000000 in
theorem rm_pick1 (l : Launch) (Z : State) (a0 : Array Value) (hw : ∀ d ∈ tables_1, d.before a0 Z = true) (w0 : Addr) (w1 : Addr) (w2 : Addr) (w3 : Addr) (h0 : Heap) (n0 : Nat) (O0 : Old Z n0 h0) (c0 : Cst Z "com/example/keadby/keadby/model/Verification$Check" "PAYLOAD" "Lcom/example/keadby/keadby/model/Verification$Check;" w0) (c1 : Cst Z "com/example/keadby/keadby/model/Verification$Check" "HASH" "Lcom/example/keadby/keadby/model/Verification$Check;" w1) (c2 : Cst Z "com/example/keadby/keadby/model/Verification$Check" "LINK" "Lcom/example/keadby/keadby/model/Verification$Check;" w2) (c3 : Cst Z "com/example/keadby/keadby/model/Verification$Check" "HEAD" "Lcom/example/keadby/keadby/model/Verification$Check;" w3) :
    Rm l (⟨"com/example/keadby/keadby/model/VerificationOkPinLaw", "pick", "(I)Lcom/example/keadby/keadby/model/Verification$Check;"⟩ : MethodName) method_2_code 1 (some (.object "com/example/keadby/keadby/model/Verification$Check")) ({ frames := 0, cells := 0, slots := 0, locals := 0 } : Room) [] Z #[(.int (1 : Int32))] h0 (fun v h L => v = some (.ref w0) ∧ Fr n0 L ∧ h = h0) := by
  refine Rm.of (plainFor_of_name pn_com_example_keadby_keadby_model_VerificationOkPinLaw) ?_
  intro p e s m below meth c T X hx hZ hby hml hown hnm hret hlk eT0
  have hown : s.vm.findClass "com/example/keadby/keadby/model/VerificationOkPinLaw" = some m.cls := hown
  have hnm : meth.name = "pick" := hnm
  have N0 := Fr.nil n0
  refine Goes.cast (ef_1 m (1 : Int32)) ?_
  show Goes p e below _ T (mkF m 0 #[.val (.int (1 : Int32))] [])
  refine Goes.of (fun _ => XS.iloadN X.here hx rfl (hb hby d1_0) rfl) ?_
  show Goes p e below _ T (mkF m 1 #[.val (.int (1 : Int32))] [(.int (1 : Int32))])
  refine Goes.of (fun _ => XS.iconst X.here hx rfl (hb hby d1_1)) ?_
  show Goes p e below _ T (mkF m 2 #[.val (.int (1 : Int32))] [(.int (1 : Int32)), (.int (1 : Int32))])
  refine Goes.of (fun _ => XS.icmpNo X.here hx rfl (hb hby d1_2) rfl (teq (by decide)).2) ?_
  show Goes p e below _ T (mkF m 5 #[.val (.int (1 : Int32))] [])
  refine goGetS X hx hZ hown (host := "") (Or.inl (hw _ (List.mem_of_getElem? (i := 37) rfl))) Via.refl eT0 (c0.1.ext O0.2) (g := (mkF m 5 #[.val (.int (1 : Int32))] [])) rfl (hb hby d1_5) ?_
  intro T1 X1 eT1
  show Goes p e below _ T1 (mkF m 8 #[.val (.int (1 : Int32))] [(.ref w0)])
  exact retRef X1 hx hret hlk rfl rfl (hb hby d1_8) eT1 (by decide) (by decide) ⟨rfl, N0, rfl⟩
set_option maxRecDepth 65536 in
set_option maxHeartbeats 40000000 in
theorem rm_pick2 (l : Launch) (Z : State) (a0 : Array Value) (hw : ∀ d ∈ tables_1, d.before a0 Z = true) (w0 : Addr) (w1 : Addr) (w2 : Addr) (w3 : Addr) (h0 : Heap) (n0 : Nat) (O0 : Old Z n0 h0) (c0 : Cst Z "com/example/keadby/keadby/model/Verification$Check" "PAYLOAD" "Lcom/example/keadby/keadby/model/Verification$Check;" w0) (c1 : Cst Z "com/example/keadby/keadby/model/Verification$Check" "HASH" "Lcom/example/keadby/keadby/model/Verification$Check;" w1) (c2 : Cst Z "com/example/keadby/keadby/model/Verification$Check" "LINK" "Lcom/example/keadby/keadby/model/Verification$Check;" w2) (c3 : Cst Z "com/example/keadby/keadby/model/Verification$Check" "HEAD" "Lcom/example/keadby/keadby/model/Verification$Check;" w3) :
    Rm l (⟨"com/example/keadby/keadby/model/VerificationOkPinLaw", "pick", "(I)Lcom/example/keadby/keadby/model/Verification$Check;"⟩ : MethodName) method_2_code 1 (some (.object "com/example/keadby/keadby/model/Verification$Check")) ({ frames := 0, cells := 0, slots := 0, locals := 0 } : Room) [] Z #[(.int (2 : Int32))] h0 (fun v h L => v = some (.ref w1) ∧ Fr n0 L ∧ h = h0) := by
  refine Rm.of (plainFor_of_name pn_com_example_keadby_keadby_model_VerificationOkPinLaw) ?_
  intro p e s m below meth c T X hx hZ hby hml hown hnm hret hlk eT0
  have hown : s.vm.findClass "com/example/keadby/keadby/model/VerificationOkPinLaw" = some m.cls := hown
  have hnm : meth.name = "pick" := hnm
  have N0 := Fr.nil n0
  refine Goes.cast (ef_1 m (2 : Int32)) ?_
  show Goes p e below _ T (mkF m 0 #[.val (.int (2 : Int32))] [])
  refine Goes.of (fun _ => XS.iloadN X.here hx rfl (hb hby d1_0) rfl) ?_
  show Goes p e below _ T (mkF m 1 #[.val (.int (2 : Int32))] [(.int (2 : Int32))])
  refine Goes.of (fun _ => XS.iconst X.here hx rfl (hb hby d1_1)) ?_
  show Goes p e below _ T (mkF m 2 #[.val (.int (2 : Int32))] [(.int (1 : Int32)), (.int (2 : Int32))])
  refine Goes.of (fun _ => XS.icmpYes X.here hx rfl (pc0 := 2) (pc' := 9) rfl (hb hby d1_2) rfl (feq (by decide)).2 (by decide) (by decide)) ?_
  show Goes p e below _ T (mkF m 9 #[.val (.int (2 : Int32))] [])
  refine Goes.of (fun _ => XS.iloadN X.here hx rfl (hb hby d1_9) rfl) ?_
  show Goes p e below _ T (mkF m 10 #[.val (.int (2 : Int32))] [(.int (2 : Int32))])
  refine Goes.of (fun _ => XS.iconst X.here hx rfl (hb hby d1_10)) ?_
  show Goes p e below _ T (mkF m 11 #[.val (.int (2 : Int32))] [(.int (2 : Int32)), (.int (2 : Int32))])
  refine Goes.of (fun _ => XS.icmpNo X.here hx rfl (hb hby d1_11) rfl (teq (by decide)).2) ?_
  show Goes p e below _ T (mkF m 14 #[.val (.int (2 : Int32))] [])
  refine goGetS X hx hZ hown (host := "") (Or.inl (hw _ (List.mem_of_getElem? (i := 5) rfl))) Via.refl eT0 (c1.1.ext O0.2) (g := (mkF m 14 #[.val (.int (2 : Int32))] [])) rfl (hb hby d1_14) ?_
  intro T1 X1 eT1
  show Goes p e below _ T1 (mkF m 17 #[.val (.int (2 : Int32))] [(.ref w1)])
  exact retRef X1 hx hret hlk rfl rfl (hb hby d1_17) eT1 (by decide) (by decide) ⟨rfl, N0, rfl⟩
set_option maxRecDepth 65536 in
set_option maxHeartbeats 40000000 in
theorem rm_pick3 (l : Launch) (Z : State) (a0 : Array Value) (hw : ∀ d ∈ tables_1, d.before a0 Z = true) (w0 : Addr) (w1 : Addr) (w2 : Addr) (w3 : Addr) (h0 : Heap) (n0 : Nat) (O0 : Old Z n0 h0) (c0 : Cst Z "com/example/keadby/keadby/model/Verification$Check" "PAYLOAD" "Lcom/example/keadby/keadby/model/Verification$Check;" w0) (c1 : Cst Z "com/example/keadby/keadby/model/Verification$Check" "HASH" "Lcom/example/keadby/keadby/model/Verification$Check;" w1) (c2 : Cst Z "com/example/keadby/keadby/model/Verification$Check" "LINK" "Lcom/example/keadby/keadby/model/Verification$Check;" w2) (c3 : Cst Z "com/example/keadby/keadby/model/Verification$Check" "HEAD" "Lcom/example/keadby/keadby/model/Verification$Check;" w3) :
    Rm l (⟨"com/example/keadby/keadby/model/VerificationOkPinLaw", "pick", "(I)Lcom/example/keadby/keadby/model/Verification$Check;"⟩ : MethodName) method_2_code 1 (some (.object "com/example/keadby/keadby/model/Verification$Check")) ({ frames := 0, cells := 0, slots := 0, locals := 0 } : Room) [] Z #[(.int (3 : Int32))] h0 (fun v h L => v = some (.ref w2) ∧ Fr n0 L ∧ h = h0) := by
  refine Rm.of (plainFor_of_name pn_com_example_keadby_keadby_model_VerificationOkPinLaw) ?_
  intro p e s m below meth c T X hx hZ hby hml hown hnm hret hlk eT0
  have hown : s.vm.findClass "com/example/keadby/keadby/model/VerificationOkPinLaw" = some m.cls := hown
  have hnm : meth.name = "pick" := hnm
  have N0 := Fr.nil n0
  refine Goes.cast (ef_1 m (3 : Int32)) ?_
  show Goes p e below _ T (mkF m 0 #[.val (.int (3 : Int32))] [])
  refine Goes.of (fun _ => XS.iloadN X.here hx rfl (hb hby d1_0) rfl) ?_
  show Goes p e below _ T (mkF m 1 #[.val (.int (3 : Int32))] [(.int (3 : Int32))])
  refine Goes.of (fun _ => XS.iconst X.here hx rfl (hb hby d1_1)) ?_
  show Goes p e below _ T (mkF m 2 #[.val (.int (3 : Int32))] [(.int (1 : Int32)), (.int (3 : Int32))])
  refine Goes.of (fun _ => XS.icmpYes X.here hx rfl (pc0 := 2) (pc' := 9) rfl (hb hby d1_2) rfl (feq (by decide)).2 (by decide) (by decide)) ?_
  show Goes p e below _ T (mkF m 9 #[.val (.int (3 : Int32))] [])
  refine Goes.of (fun _ => XS.iloadN X.here hx rfl (hb hby d1_9) rfl) ?_
  show Goes p e below _ T (mkF m 10 #[.val (.int (3 : Int32))] [(.int (3 : Int32))])
  refine Goes.of (fun _ => XS.iconst X.here hx rfl (hb hby d1_10)) ?_
  show Goes p e below _ T (mkF m 11 #[.val (.int (3 : Int32))] [(.int (2 : Int32)), (.int (3 : Int32))])
  refine Goes.of (fun _ => XS.icmpYes X.here hx rfl (pc0 := 11) (pc' := 18) rfl (hb hby d1_11) rfl (feq (by decide)).2 (by decide) (by decide)) ?_
  show Goes p e below _ T (mkF m 18 #[.val (.int (3 : Int32))] [])
  refine Goes.of (fun _ => XS.iloadN X.here hx rfl (hb hby d1_18) rfl) ?_
  show Goes p e below _ T (mkF m 19 #[.val (.int (3 : Int32))] [(.int (3 : Int32))])
  refine Goes.of (fun _ => XS.iconst X.here hx rfl (hb hby d1_19)) ?_
  show Goes p e below _ T (mkF m 20 #[.val (.int (3 : Int32))] [(.int (3 : Int32)), (.int (3 : Int32))])
  refine Goes.of (fun _ => XS.icmpNo X.here hx rfl (hb hby d1_20) rfl (teq (by decide)).2) ?_
  show Goes p e below _ T (mkF m 23 #[.val (.int (3 : Int32))] [])
  refine goGetS X hx hZ hown (host := "") (Or.inl (hw _ (List.mem_of_getElem? (i := 39) rfl))) Via.refl eT0 (c2.1.ext O0.2) (g := (mkF m 23 #[.val (.int (3 : Int32))] [])) rfl (hb hby d1_23) ?_
  intro T1 X1 eT1
  show Goes p e below _ T1 (mkF m 26 #[.val (.int (3 : Int32))] [(.ref w2)])
  exact retRef X1 hx hret hlk rfl rfl (hb hby d1_26) eT1 (by decide) (by decide) ⟨rfl, N0, rfl⟩
set_option maxRecDepth 65536 in
set_option maxHeartbeats 40000000 in
theorem rm_pick4 (l : Launch) (Z : State) (a0 : Array Value) (hw : ∀ d ∈ tables_1, d.before a0 Z = true) (w0 : Addr) (w1 : Addr) (w2 : Addr) (w3 : Addr) (h0 : Heap) (n0 : Nat) (O0 : Old Z n0 h0) (c0 : Cst Z "com/example/keadby/keadby/model/Verification$Check" "PAYLOAD" "Lcom/example/keadby/keadby/model/Verification$Check;" w0) (c1 : Cst Z "com/example/keadby/keadby/model/Verification$Check" "HASH" "Lcom/example/keadby/keadby/model/Verification$Check;" w1) (c2 : Cst Z "com/example/keadby/keadby/model/Verification$Check" "LINK" "Lcom/example/keadby/keadby/model/Verification$Check;" w2) (c3 : Cst Z "com/example/keadby/keadby/model/Verification$Check" "HEAD" "Lcom/example/keadby/keadby/model/Verification$Check;" w3) :
    Rm l (⟨"com/example/keadby/keadby/model/VerificationOkPinLaw", "pick", "(I)Lcom/example/keadby/keadby/model/Verification$Check;"⟩ : MethodName) method_2_code 1 (some (.object "com/example/keadby/keadby/model/Verification$Check")) ({ frames := 0, cells := 0, slots := 0, locals := 0 } : Room) [] Z #[(.int (4 : Int32))] h0 (fun v h L => v = some (.ref w3) ∧ Fr n0 L ∧ h = h0) := by
  refine Rm.of (plainFor_of_name pn_com_example_keadby_keadby_model_VerificationOkPinLaw) ?_
  intro p e s m below meth c T X hx hZ hby hml hown hnm hret hlk eT0
  have hown : s.vm.findClass "com/example/keadby/keadby/model/VerificationOkPinLaw" = some m.cls := hown
  have hnm : meth.name = "pick" := hnm
  have N0 := Fr.nil n0
  refine Goes.cast (ef_1 m (4 : Int32)) ?_
  show Goes p e below _ T (mkF m 0 #[.val (.int (4 : Int32))] [])
  refine Goes.of (fun _ => XS.iloadN X.here hx rfl (hb hby d1_0) rfl) ?_
  show Goes p e below _ T (mkF m 1 #[.val (.int (4 : Int32))] [(.int (4 : Int32))])
  refine Goes.of (fun _ => XS.iconst X.here hx rfl (hb hby d1_1)) ?_
  show Goes p e below _ T (mkF m 2 #[.val (.int (4 : Int32))] [(.int (1 : Int32)), (.int (4 : Int32))])
  refine Goes.of (fun _ => XS.icmpYes X.here hx rfl (pc0 := 2) (pc' := 9) rfl (hb hby d1_2) rfl (feq (by decide)).2 (by decide) (by decide)) ?_
  show Goes p e below _ T (mkF m 9 #[.val (.int (4 : Int32))] [])
  refine Goes.of (fun _ => XS.iloadN X.here hx rfl (hb hby d1_9) rfl) ?_
  show Goes p e below _ T (mkF m 10 #[.val (.int (4 : Int32))] [(.int (4 : Int32))])
  refine Goes.of (fun _ => XS.iconst X.here hx rfl (hb hby d1_10)) ?_
  show Goes p e below _ T (mkF m 11 #[.val (.int (4 : Int32))] [(.int (2 : Int32)), (.int (4 : Int32))])
  refine Goes.of (fun _ => XS.icmpYes X.here hx rfl (pc0 := 11) (pc' := 18) rfl (hb hby d1_11) rfl (feq (by decide)).2 (by decide) (by decide)) ?_
  show Goes p e below _ T (mkF m 18 #[.val (.int (4 : Int32))] [])
  refine Goes.of (fun _ => XS.iloadN X.here hx rfl (hb hby d1_18) rfl) ?_
  show Goes p e below _ T (mkF m 19 #[.val (.int (4 : Int32))] [(.int (4 : Int32))])
  refine Goes.of (fun _ => XS.iconst X.here hx rfl (hb hby d1_19)) ?_
  show Goes p e below _ T (mkF m 20 #[.val (.int (4 : Int32))] [(.int (3 : Int32)), (.int (4 : Int32))])
  refine Goes.of (fun _ => XS.icmpYes X.here hx rfl (pc0 := 20) (pc' := 27) rfl (hb hby d1_20) rfl (feq (by decide)).2 (by decide) (by decide)) ?_
  show Goes p e below _ T (mkF m 27 #[.val (.int (4 : Int32))] [])
  refine Goes.of (fun _ => XS.iloadN X.here hx rfl (hb hby d1_27) rfl) ?_
  show Goes p e below _ T (mkF m 28 #[.val (.int (4 : Int32))] [(.int (4 : Int32))])
  refine Goes.of (fun _ => XS.iconst X.here hx rfl (hb hby d1_28)) ?_
  show Goes p e below _ T (mkF m 29 #[.val (.int (4 : Int32))] [(.int (4 : Int32)), (.int (4 : Int32))])
  refine Goes.of (fun _ => XS.icmpNo X.here hx rfl (hb hby d1_29) rfl (teq (by decide)).2) ?_
  show Goes p e below _ T (mkF m 32 #[.val (.int (4 : Int32))] [])
  refine goGetS X hx hZ hown (host := "") (Or.inl (hw _ (List.mem_of_getElem? (i := 35) rfl))) Via.refl eT0 (c3.1.ext O0.2) (g := (mkF m 32 #[.val (.int (4 : Int32))] [])) rfl (hb hby d1_32) ?_
  intro T1 X1 eT1
  show Goes p e below _ T1 (mkF m 35 #[.val (.int (4 : Int32))] [(.ref w3)])
  exact retRef X1 hx hret hlk rfl rfl (hb hby d1_35) eT1 (by decide) (by decide) ⟨rfl, N0, rfl⟩
set_option maxRecDepth 65536 in
set_option maxHeartbeats 40000000 in
theorem rm_record (l : Launch) (Z : State) (a0 : Array Value) (hw : ∀ d ∈ tables_1, d.before a0 Z = true) (a : Addr) (h0 : Heap) (n0 : Nat) (O0 : Old Z n0 h0)  :
    Rm l (⟨"java/lang/Record", "<init>", "()V"⟩ : MethodName) jdk_30_method_1_code 1 none ({ frames := 1, cells := 0, slots := 0, locals := 12 } : Room) [] Z #[(.ref a)] h0 (fun v h L => v = none ∧ Fr n0 L ∧ h = h0) := by
  refine Rm.of (plainFor_of_name pn_java_lang_Record) ?_
  intro p e s m below meth c T X hx hZ hby hml hown hnm hret hlk eT0
  have hown : s.vm.findClass "java/lang/Record" = some m.cls := hown
  have hnm : meth.name = "<init>" := hnm
  have N0 := Fr.nil n0
  refine Goes.cast (ef_3 m a) ?_
  show Goes p e below _ T (mkF m 0 #[.val (.ref a)] [])
  refine Goes.of (fun _ => XS.aloadN X.here hx rfl (hb hby d3_0) rfl rfl) ?_
  show Goes p e below _ T (mkF m 1 #[.val (.ref a)] [(.ref a)])
  refine goInitO 0 X hx hZ hown (hw _ (List.mem_of_getElem? (i := 19) rfl)) (hw _ (List.mem_of_getElem? (i := 20) rfl)) (hw _ (List.mem_of_getElem? (i := 21) rfl)) eT0 (g := (mkF m 1 #[.val (.ref a)] [(.ref a)])) rfl (by rw [hml]; rfl) rfl (hb hby d3_1) (by decide) (by show 2 * 0 + _ ≤ _; exact Nat.le_of_eq rfl) (by decide) ?_
  intro T1 X1 eT1
  show Goes p e below _ T1 (mkF m 4 #[.val (.ref a)] [])
  exact retVoid X1 hx hret hlk (hb hby d3_4) eT1 (by decide) (by decide) ⟨rfl, N0, rfl⟩
set_option maxRecDepth 65536 in
set_option maxHeartbeats 40000000 in
theorem rm_initN (l : Launch) (Z : State) (a0 : Array Value) (hw : ∀ d ∈ tables_1, d.before a0 Z = true) (a : Addr) (e1 e2 e3 : Int64) (h0 : Heap) (n0 : Nat) (O0 : Old Z n0 h0) (g_a : n0 ≤ a) (Ex : Exa Z h0 a "com/example/keadby/keadby/model/Verification") (F0 : Fld Z h0 a "com/example/keadby/keadby/model/Verification" "events" "J" (.long (0 : Int64))) (F1 : Fld Z h0 a "com/example/keadby/keadby/model/Verification" "aggregates" "J" (.long (0 : Int64))) (F2 : Fld Z h0 a "com/example/keadby/keadby/model/Verification" "brokenEventId" "J" (.long (0 : Int64))) (F3 : Fld Z h0 a "com/example/keadby/keadby/model/Verification" "brokenCheck" "Lcom/example/keadby/keadby/model/Verification$Check;" .null) :
    Rm l (⟨"com/example/keadby/keadby/model/Verification", "<init>", "(JJJLcom/example/keadby/keadby/model/Verification$Check;)V"⟩ : MethodName) prog_16_method_1_code 8 none ({ frames := 2, cells := 0, slots := 0, locals := 24 } : Room) [] Z #[(.ref a), (.long e1), (.long e2), (.long e3), .null] h0 (fun v h L => v = none ∧ Fr n0 L ∧ Keep h0 h [a] ∧ Fld Z h a "com/example/keadby/keadby/model/Verification" "brokenCheck" "Lcom/example/keadby/keadby/model/Verification$Check;" .null) := by
  refine Rm.of (plainFor_of_name pn_com_example_keadby_keadby_model_Verification) ?_
  intro p e s m below meth c T X hx hZ hby hml hown hnm hret hlk eT0
  have hown : s.vm.findClass "com/example/keadby/keadby/model/Verification" = some m.cls := hown
  have hnm : meth.name = "<init>" := hnm
  have N0 := Fr.nil n0
  have Kp := Keep.refl h0 [a]
  refine Goes.cast (ef_2n4 m a e1 e2 e3) ?_
  show Goes p e below _ T (mkF m 0 #[.val (.ref a), .val (.long e1), .second, .val (.long e2), .second, .val (.long e3), .second, .val .null] [])
  refine Goes.of (fun _ => XS.aloadN X.here hx rfl (hb hby d2_0) rfl rfl) ?_
  show Goes p e below _ T (mkF m 1 #[.val (.ref a), .val (.long e1), .second, .val (.long e2), .second, .val (.long e3), .second, .val .null] [(.ref a)])
  refine goSpecial 0 X hx hZ rfl hown (hw _ (List.mem_of_getElem? (i := 14) rfl)) (hw _ (List.mem_of_getElem? (i := 15) rfl)) (hw _ (List.mem_of_getElem? (i := 17) rfl)) (hw _ (List.mem_of_getElem? (i := 18) rfl)) (by decide) (rm_record l Z a0 hw a h0 n0 O0) eT0 (g := (mkF m 1 #[.val (.ref a), .val (.long e1), .second, .val (.long e2), .second, .val (.long e3), .second, .val .null] [(.ref a)])) rfl (by rw [hml]; rfl) a [] [] (lenOf pd___V rfl) rfl rfl (by show 2 * 0 + _ ≤ _; exact Nat.le_of_eq rfl) (hb hby d2_1) (by decide) (by decide) (by decide) (by decide) ?_
  intro v1 T1 L1 X1 q1
  obtain ⟨rfl, Nq1, eT1⟩ := q1
  have N1 := Fr.app N0 Nq1
  show Goes p e below _ T1 (mkF m 4 #[.val (.ref a), .val (.long e1), .second, .val (.long e2), .second, .val (.long e3), .second, .val .null] [])
  refine Goes.of (fun _ => XS.aloadN X1.here hx rfl (hb hby d2_4) rfl rfl) ?_
  show Goes p e below _ T1 (mkF m 5 #[.val (.ref a), .val (.long e1), .second, .val (.long e2), .second, .val (.long e3), .second, .val .null] [(.ref a)])
  refine Goes.of (fun _ => XS.lloadN X1.here hx rfl (hb hby d2_5) rfl) ?_
  show Goes p e below _ T1 (mkF m 6 #[.val (.ref a), .val (.long e1), .second, .val (.long e2), .second, .val (.long e3), .second, .val .null] [(.long e1), (.ref a)])
  refine goPut (ty := .long) X1 hx hZ hown (host := "") (Or.inl (hw _ (List.mem_of_getElem? (i := 22) rfl))) Via.refl eT1 F0 Ex (Or.inr ⟨(hw _ (List.mem_of_getElem? (i := 23) rfl)), rfl, hnm⟩) (hw _ (List.mem_of_getElem? (i := 9) rfl)) (by decide) rfl rfl (g := (mkF m 6 #[.val (.ref a), .val (.long e1), .second, .val (.long e2), .second, .val (.long e3), .second, .val .null] [(.long e1), (.ref a)])) rfl rfl (hb hby d2_6) ?_
  intro T2 h2 X2 eT2 W2
  have F0 := Fld.same W2 F0
  have N2 := Fr.snoc X2 N1 g_a
  have Ex := Ex.wr W2
  have F1 := F1.other W2 (Or.inr (slot_ne (Or.inr (hw _ (List.mem_of_getElem? (i := 25) rfl))) (Or.inr (hw _ (List.mem_of_getElem? (i := 23) rfl))) (by decide) (t := .long) (t' := .long) (by decide) (by decide)))
  have F2 := F2.other W2 (Or.inr (slot_ne (Or.inr (hw _ (List.mem_of_getElem? (i := 27) rfl))) (Or.inr (hw _ (List.mem_of_getElem? (i := 23) rfl))) (by decide) (t := .long) (t' := .long) (by decide) (by decide)))
  have F3 := F3.other W2 (Or.inr (slot_ne (Or.inr (hw _ (List.mem_of_getElem? (i := 29) rfl))) (Or.inr (hw _ (List.mem_of_getElem? (i := 23) rfl))) (by decide) (t := (.object "com/example/keadby/keadby/model/Verification$Check")) (t' := .long) (by decide) (by decide)))
  have Kp := Kp.wr W2 (Or.inl (List.mem_of_getElem? (i := 0) rfl))
  have O0 := O0.wr W2 g_a
  show Goes p e below _ T2 (mkF m 9 #[.val (.ref a), .val (.long e1), .second, .val (.long e2), .second, .val (.long e3), .second, .val .null] [])
  refine Goes.of (fun _ => XS.aloadN X2.here hx rfl (hb hby d2_9) rfl rfl) ?_
  show Goes p e below _ T2 (mkF m 10 #[.val (.ref a), .val (.long e1), .second, .val (.long e2), .second, .val (.long e3), .second, .val .null] [(.ref a)])
  refine Goes.of (fun _ => XS.lloadN X2.here hx rfl (hb hby d2_10) rfl) ?_
  show Goes p e below _ T2 (mkF m 11 #[.val (.ref a), .val (.long e1), .second, .val (.long e2), .second, .val (.long e3), .second, .val .null] [(.long e2), (.ref a)])
  refine goPut (ty := .long) X2 hx hZ hown (host := "") (Or.inl (hw _ (List.mem_of_getElem? (i := 24) rfl))) Via.refl eT2 F1 Ex (Or.inr ⟨(hw _ (List.mem_of_getElem? (i := 25) rfl)), rfl, hnm⟩) (hw _ (List.mem_of_getElem? (i := 9) rfl)) (by decide) rfl rfl (g := (mkF m 11 #[.val (.ref a), .val (.long e1), .second, .val (.long e2), .second, .val (.long e3), .second, .val .null] [(.long e2), (.ref a)])) rfl rfl (hb hby d2_11) ?_
  intro T3 h3 X3 eT3 W3
  have F1 := Fld.same W3 F1
  have N3 := Fr.snoc X3 N2 g_a
  have Ex := Ex.wr W3
  have F0 := F0.other W3 (Or.inr (slot_ne (Or.inr (hw _ (List.mem_of_getElem? (i := 23) rfl))) (Or.inr (hw _ (List.mem_of_getElem? (i := 25) rfl))) (by decide) (t := .long) (t' := .long) (by decide) (by decide)))
  have F2 := F2.other W3 (Or.inr (slot_ne (Or.inr (hw _ (List.mem_of_getElem? (i := 27) rfl))) (Or.inr (hw _ (List.mem_of_getElem? (i := 25) rfl))) (by decide) (t := .long) (t' := .long) (by decide) (by decide)))
  have F3 := F3.other W3 (Or.inr (slot_ne (Or.inr (hw _ (List.mem_of_getElem? (i := 29) rfl))) (Or.inr (hw _ (List.mem_of_getElem? (i := 25) rfl))) (by decide) (t := (.object "com/example/keadby/keadby/model/Verification$Check")) (t' := .long) (by decide) (by decide)))
  have Kp := Kp.wr W3 (Or.inl (List.mem_of_getElem? (i := 0) rfl))
  have O0 := O0.wr W3 g_a
  show Goes p e below _ T3 (mkF m 14 #[.val (.ref a), .val (.long e1), .second, .val (.long e2), .second, .val (.long e3), .second, .val .null] [])
  refine Goes.of (fun _ => XS.aloadN X3.here hx rfl (hb hby d2_14) rfl rfl) ?_
  show Goes p e below _ T3 (mkF m 15 #[.val (.ref a), .val (.long e1), .second, .val (.long e2), .second, .val (.long e3), .second, .val .null] [(.ref a)])
  refine Goes.of (fun _ => XS.lload X3.here hx rfl (hb hby d2_15) rfl) ?_
  show Goes p e below _ T3 (mkF m 17 #[.val (.ref a), .val (.long e1), .second, .val (.long e2), .second, .val (.long e3), .second, .val .null] [(.long e3), (.ref a)])
  refine goPut (ty := .long) X3 hx hZ hown (host := "") (Or.inl (hw _ (List.mem_of_getElem? (i := 26) rfl))) Via.refl eT3 F2 Ex (Or.inr ⟨(hw _ (List.mem_of_getElem? (i := 27) rfl)), rfl, hnm⟩) (hw _ (List.mem_of_getElem? (i := 9) rfl)) (by decide) rfl rfl (g := (mkF m 17 #[.val (.ref a), .val (.long e1), .second, .val (.long e2), .second, .val (.long e3), .second, .val .null] [(.long e3), (.ref a)])) rfl rfl (hb hby d2_17) ?_
  intro T4 h4 X4 eT4 W4
  have F2 := Fld.same W4 F2
  have N4 := Fr.snoc X4 N3 g_a
  have Ex := Ex.wr W4
  have F0 := F0.other W4 (Or.inr (slot_ne (Or.inr (hw _ (List.mem_of_getElem? (i := 23) rfl))) (Or.inr (hw _ (List.mem_of_getElem? (i := 27) rfl))) (by decide) (t := .long) (t' := .long) (by decide) (by decide)))
  have F1 := F1.other W4 (Or.inr (slot_ne (Or.inr (hw _ (List.mem_of_getElem? (i := 25) rfl))) (Or.inr (hw _ (List.mem_of_getElem? (i := 27) rfl))) (by decide) (t := .long) (t' := .long) (by decide) (by decide)))
  have F3 := F3.other W4 (Or.inr (slot_ne (Or.inr (hw _ (List.mem_of_getElem? (i := 29) rfl))) (Or.inr (hw _ (List.mem_of_getElem? (i := 27) rfl))) (by decide) (t := (.object "com/example/keadby/keadby/model/Verification$Check")) (t' := .long) (by decide) (by decide)))
  have Kp := Kp.wr W4 (Or.inl (List.mem_of_getElem? (i := 0) rfl))
  have O0 := O0.wr W4 g_a
  show Goes p e below _ T4 (mkF m 20 #[.val (.ref a), .val (.long e1), .second, .val (.long e2), .second, .val (.long e3), .second, .val .null] [])
  refine Goes.of (fun _ => XS.aloadN X4.here hx rfl (hb hby d2_20) rfl rfl) ?_
  show Goes p e below _ T4 (mkF m 21 #[.val (.ref a), .val (.long e1), .second, .val (.long e2), .second, .val (.long e3), .second, .val .null] [(.ref a)])
  refine Goes.of (fun _ => XS.aload X4.here hx rfl (hb hby d2_21) rfl rfl) ?_
  show Goes p e below _ T4 (mkF m 23 #[.val (.ref a), .val (.long e1), .second, .val (.long e2), .second, .val (.long e3), .second, .val .null] [.null, (.ref a)])
  refine goPut (ty := (.object "com/example/keadby/keadby/model/Verification$Check")) X4 hx hZ hown (host := "") (Or.inl (hw _ (List.mem_of_getElem? (i := 28) rfl))) Via.refl eT4 F3 Ex (Or.inr ⟨(hw _ (List.mem_of_getElem? (i := 29) rfl)), rfl, hnm⟩) (hw _ (List.mem_of_getElem? (i := 9) rfl)) (by decide) rfl rfl (g := (mkF m 23 #[.val (.ref a), .val (.long e1), .second, .val (.long e2), .second, .val (.long e3), .second, .val .null] [.null, (.ref a)])) rfl rfl (hb hby d2_23) ?_
  intro T5 h5 X5 eT5 W5
  have F3 := Fld.same W5 F3
  have N5 := Fr.snoc X5 N4 g_a
  have Ex := Ex.wr W5
  have F0 := F0.other W5 (Or.inr (slot_ne (Or.inr (hw _ (List.mem_of_getElem? (i := 23) rfl))) (Or.inr (hw _ (List.mem_of_getElem? (i := 29) rfl))) (by decide) (t := .long) (t' := (.object "com/example/keadby/keadby/model/Verification$Check")) (by decide) (by decide)))
  have F1 := F1.other W5 (Or.inr (slot_ne (Or.inr (hw _ (List.mem_of_getElem? (i := 25) rfl))) (Or.inr (hw _ (List.mem_of_getElem? (i := 29) rfl))) (by decide) (t := .long) (t' := (.object "com/example/keadby/keadby/model/Verification$Check")) (by decide) (by decide)))
  have F2 := F2.other W5 (Or.inr (slot_ne (Or.inr (hw _ (List.mem_of_getElem? (i := 27) rfl))) (Or.inr (hw _ (List.mem_of_getElem? (i := 29) rfl))) (by decide) (t := .long) (t' := (.object "com/example/keadby/keadby/model/Verification$Check")) (by decide) (by decide)))
  have Kp := Kp.wr W5 (Or.inl (List.mem_of_getElem? (i := 0) rfl))
  have O0 := O0.wr W5 g_a
  show Goes p e below _ T5 (mkF m 26 #[.val (.ref a), .val (.long e1), .second, .val (.long e2), .second, .val (.long e3), .second, .val .null] [])
  exact retVoid X5 hx hret hlk (hb hby d2_26) eT5 (by decide) (by decide) ⟨rfl, N5, Kp, F3⟩
set_option maxRecDepth 65536 in
set_option maxHeartbeats 40000000 in
theorem rm_okN (l : Launch) (Z : State) (a0 : Array Value) (hw : ∀ d ∈ tables_1, d.before a0 Z = true) (a : Addr) (h0 : Heap) (n0 : Nat) (O0 : Old Z n0 h0) (F3 : Fld Z h0 a "com/example/keadby/keadby/model/Verification" "brokenCheck" "Lcom/example/keadby/keadby/model/Verification$Check;" .null) :
    Rm l (⟨"com/example/keadby/keadby/model/Verification", "ok", "()Z"⟩ : MethodName) prog_16_method_2_code 1 (some .boolean) ({ frames := 0, cells := 0, slots := 0, locals := 0 } : Room) [] Z #[(.ref a)] h0 (fun v h L => v = some (.int 1) ∧ Fr n0 L ∧ h = h0) := by
  refine Rm.of (plainFor_of_name pn_com_example_keadby_keadby_model_Verification) ?_
  intro p e s m below meth c T X hx hZ hby hml hown hnm hret hlk eT0
  have hown : s.vm.findClass "com/example/keadby/keadby/model/Verification" = some m.cls := hown
  have hnm : meth.name = "ok" := hnm
  have N0 := Fr.nil n0
  refine Goes.cast (ef_5 m a) ?_
  show Goes p e below _ T (mkF m 0 #[.val (.ref a)] [])
  refine Goes.of (fun _ => XS.aloadN X.here hx rfl (hb hby d5_0) rfl rfl) ?_
  show Goes p e below _ T (mkF m 1 #[.val (.ref a)] [(.ref a)])
  refine goGet X hx hZ hown (host := "") (Or.inl (hw _ (List.mem_of_getElem? (i := 28) rfl))) Via.refl eT0 F3 (g := (mkF m 1 #[.val (.ref a)] [(.ref a)])) rfl rfl (hb hby d5_1) ?_
  intro T1 X1 eT1
  show Goes p e below _ T1 (mkF m 4 #[.val (.ref a)] [.null])
  refine Goes.of (fun _ => XS.ifnonnullNo X1.here hx rfl (hb hby d5_4) rfl) ?_
  show Goes p e below _ T1 (mkF m 7 #[.val (.ref a)] [])
  refine Goes.of (fun _ => XS.iconst X1.here hx rfl (hb hby d5_7)) ?_
  show Goes p e below _ T1 (mkF m 8 #[.val (.ref a)] [(.int (1 : Int32))])
  refine Goes.of (fun _ => XS.goto X1.here hx rfl (pc0 := 8) (pc' := 12) rfl (hb hby d5_8) (by decide) (by decide)) ?_
  show Goes p e below _ T1 (mkF m 12 #[.val (.ref a)] [(.int (1 : Int32))])
  exact retZ (t := .boolean) X1 hx hret hlk (by simp) (hb hby d5_12) eT1 (by decide) (by decide) ⟨rfl, N0, rfl⟩
set_option maxRecDepth 65536 in
set_option maxHeartbeats 40000000 in
theorem rm_initR (l : Launch) (Z : State) (a0 : Array Value) (hw : ∀ d ∈ tables_1, d.before a0 Z = true) (a : Addr) (e1 e2 e3 : Int64) (cc : Addr) (h0 : Heap) (n0 : Nat) (O0 : Old Z n0 h0) (g_a : n0 ≤ a) (Ex : Exa Z h0 a "com/example/keadby/keadby/model/Verification") (F0 : Fld Z h0 a "com/example/keadby/keadby/model/Verification" "events" "J" (.long (0 : Int64))) (F1 : Fld Z h0 a "com/example/keadby/keadby/model/Verification" "aggregates" "J" (.long (0 : Int64))) (F2 : Fld Z h0 a "com/example/keadby/keadby/model/Verification" "brokenEventId" "J" (.long (0 : Int64))) (F3 : Fld Z h0 a "com/example/keadby/keadby/model/Verification" "brokenCheck" "Lcom/example/keadby/keadby/model/Verification$Check;" .null) :
    Rm l (⟨"com/example/keadby/keadby/model/Verification", "<init>", "(JJJLcom/example/keadby/keadby/model/Verification$Check;)V"⟩ : MethodName) prog_16_method_1_code 8 none ({ frames := 2, cells := 0, slots := 0, locals := 24 } : Room) [] Z #[(.ref a), (.long e1), (.long e2), (.long e3), (.ref cc)] h0 (fun v h L => v = none ∧ Fr n0 L ∧ Keep h0 h [a] ∧ Fld Z h a "com/example/keadby/keadby/model/Verification" "brokenCheck" "Lcom/example/keadby/keadby/model/Verification$Check;" (.ref cc)) := by
  refine Rm.of (plainFor_of_name pn_com_example_keadby_keadby_model_Verification) ?_
  intro p e s m below meth c T X hx hZ hby hml hown hnm hret hlk eT0
  have hown : s.vm.findClass "com/example/keadby/keadby/model/Verification" = some m.cls := hown
  have hnm : meth.name = "<init>" := hnm
  have N0 := Fr.nil n0
  have Kp := Keep.refl h0 [a]
  refine Goes.cast (ef_2 m a e1 e2 e3 cc) ?_
  show Goes p e below _ T (mkF m 0 #[.val (.ref a), .val (.long e1), .second, .val (.long e2), .second, .val (.long e3), .second, .val (.ref cc)] [])
  refine Goes.of (fun _ => XS.aloadN X.here hx rfl (hb hby d2_0) rfl rfl) ?_
  show Goes p e below _ T (mkF m 1 #[.val (.ref a), .val (.long e1), .second, .val (.long e2), .second, .val (.long e3), .second, .val (.ref cc)] [(.ref a)])
  refine goSpecial 0 X hx hZ rfl hown (hw _ (List.mem_of_getElem? (i := 14) rfl)) (hw _ (List.mem_of_getElem? (i := 15) rfl)) (hw _ (List.mem_of_getElem? (i := 17) rfl)) (hw _ (List.mem_of_getElem? (i := 18) rfl)) (by decide) (rm_record l Z a0 hw a h0 n0 O0) eT0 (g := (mkF m 1 #[.val (.ref a), .val (.long e1), .second, .val (.long e2), .second, .val (.long e3), .second, .val (.ref cc)] [(.ref a)])) rfl (by rw [hml]; rfl) a [] [] (lenOf pd___V rfl) rfl rfl (by show 2 * 0 + _ ≤ _; exact Nat.le_of_eq rfl) (hb hby d2_1) (by decide) (by decide) (by decide) (by decide) ?_
  intro v1 T1 L1 X1 q1
  obtain ⟨rfl, Nq1, eT1⟩ := q1
  have N1 := Fr.app N0 Nq1
  show Goes p e below _ T1 (mkF m 4 #[.val (.ref a), .val (.long e1), .second, .val (.long e2), .second, .val (.long e3), .second, .val (.ref cc)] [])
  refine Goes.of (fun _ => XS.aloadN X1.here hx rfl (hb hby d2_4) rfl rfl) ?_
  show Goes p e below _ T1 (mkF m 5 #[.val (.ref a), .val (.long e1), .second, .val (.long e2), .second, .val (.long e3), .second, .val (.ref cc)] [(.ref a)])
  refine Goes.of (fun _ => XS.lloadN X1.here hx rfl (hb hby d2_5) rfl) ?_
  show Goes p e below _ T1 (mkF m 6 #[.val (.ref a), .val (.long e1), .second, .val (.long e2), .second, .val (.long e3), .second, .val (.ref cc)] [(.long e1), (.ref a)])
  refine goPut (ty := .long) X1 hx hZ hown (host := "") (Or.inl (hw _ (List.mem_of_getElem? (i := 22) rfl))) Via.refl eT1 F0 Ex (Or.inr ⟨(hw _ (List.mem_of_getElem? (i := 23) rfl)), rfl, hnm⟩) (hw _ (List.mem_of_getElem? (i := 9) rfl)) (by decide) rfl rfl (g := (mkF m 6 #[.val (.ref a), .val (.long e1), .second, .val (.long e2), .second, .val (.long e3), .second, .val (.ref cc)] [(.long e1), (.ref a)])) rfl rfl (hb hby d2_6) ?_
  intro T2 h2 X2 eT2 W2
  have F0 := Fld.same W2 F0
  have N2 := Fr.snoc X2 N1 g_a
  have Ex := Ex.wr W2
  have F1 := F1.other W2 (Or.inr (slot_ne (Or.inr (hw _ (List.mem_of_getElem? (i := 25) rfl))) (Or.inr (hw _ (List.mem_of_getElem? (i := 23) rfl))) (by decide) (t := .long) (t' := .long) (by decide) (by decide)))
  have F2 := F2.other W2 (Or.inr (slot_ne (Or.inr (hw _ (List.mem_of_getElem? (i := 27) rfl))) (Or.inr (hw _ (List.mem_of_getElem? (i := 23) rfl))) (by decide) (t := .long) (t' := .long) (by decide) (by decide)))
  have F3 := F3.other W2 (Or.inr (slot_ne (Or.inr (hw _ (List.mem_of_getElem? (i := 29) rfl))) (Or.inr (hw _ (List.mem_of_getElem? (i := 23) rfl))) (by decide) (t := (.object "com/example/keadby/keadby/model/Verification$Check")) (t' := .long) (by decide) (by decide)))
  have Kp := Kp.wr W2 (Or.inl (List.mem_of_getElem? (i := 0) rfl))
  have O0 := O0.wr W2 g_a
  show Goes p e below _ T2 (mkF m 9 #[.val (.ref a), .val (.long e1), .second, .val (.long e2), .second, .val (.long e3), .second, .val (.ref cc)] [])
  refine Goes.of (fun _ => XS.aloadN X2.here hx rfl (hb hby d2_9) rfl rfl) ?_
  show Goes p e below _ T2 (mkF m 10 #[.val (.ref a), .val (.long e1), .second, .val (.long e2), .second, .val (.long e3), .second, .val (.ref cc)] [(.ref a)])
  refine Goes.of (fun _ => XS.lloadN X2.here hx rfl (hb hby d2_10) rfl) ?_
  show Goes p e below _ T2 (mkF m 11 #[.val (.ref a), .val (.long e1), .second, .val (.long e2), .second, .val (.long e3), .second, .val (.ref cc)] [(.long e2), (.ref a)])
  refine goPut (ty := .long) X2 hx hZ hown (host := "") (Or.inl (hw _ (List.mem_of_getElem? (i := 24) rfl))) Via.refl eT2 F1 Ex (Or.inr ⟨(hw _ (List.mem_of_getElem? (i := 25) rfl)), rfl, hnm⟩) (hw _ (List.mem_of_getElem? (i := 9) rfl)) (by decide) rfl rfl (g := (mkF m 11 #[.val (.ref a), .val (.long e1), .second, .val (.long e2), .second, .val (.long e3), .second, .val (.ref cc)] [(.long e2), (.ref a)])) rfl rfl (hb hby d2_11) ?_
  intro T3 h3 X3 eT3 W3
  have F1 := Fld.same W3 F1
  have N3 := Fr.snoc X3 N2 g_a
  have Ex := Ex.wr W3
  have F0 := F0.other W3 (Or.inr (slot_ne (Or.inr (hw _ (List.mem_of_getElem? (i := 23) rfl))) (Or.inr (hw _ (List.mem_of_getElem? (i := 25) rfl))) (by decide) (t := .long) (t' := .long) (by decide) (by decide)))
  have F2 := F2.other W3 (Or.inr (slot_ne (Or.inr (hw _ (List.mem_of_getElem? (i := 27) rfl))) (Or.inr (hw _ (List.mem_of_getElem? (i := 25) rfl))) (by decide) (t := .long) (t' := .long) (by decide) (by decide)))
  have F3 := F3.other W3 (Or.inr (slot_ne (Or.inr (hw _ (List.mem_of_getElem? (i := 29) rfl))) (Or.inr (hw _ (List.mem_of_getElem? (i := 25) rfl))) (by decide) (t := (.object "com/example/keadby/keadby/model/Verification$Check")) (t' := .long) (by decide) (by decide)))
  have Kp := Kp.wr W3 (Or.inl (List.mem_of_getElem? (i := 0) rfl))
  have O0 := O0.wr W3 g_a
  show Goes p e below _ T3 (mkF m 14 #[.val (.ref a), .val (.long e1), .second, .val (.long e2), .second, .val (.long e3), .second, .val (.ref cc)] [])
  refine Goes.of (fun _ => XS.aloadN X3.here hx rfl (hb hby d2_14) rfl rfl) ?_
  show Goes p e below _ T3 (mkF m 15 #[.val (.ref a), .val (.long e1), .second, .val (.long e2), .second, .val (.long e3), .second, .val (.ref cc)] [(.ref a)])
  refine Goes.of (fun _ => XS.lload X3.here hx rfl (hb hby d2_15) rfl) ?_
  show Goes p e below _ T3 (mkF m 17 #[.val (.ref a), .val (.long e1), .second, .val (.long e2), .second, .val (.long e3), .second, .val (.ref cc)] [(.long e3), (.ref a)])
  refine goPut (ty := .long) X3 hx hZ hown (host := "") (Or.inl (hw _ (List.mem_of_getElem? (i := 26) rfl))) Via.refl eT3 F2 Ex (Or.inr ⟨(hw _ (List.mem_of_getElem? (i := 27) rfl)), rfl, hnm⟩) (hw _ (List.mem_of_getElem? (i := 9) rfl)) (by decide) rfl rfl (g := (mkF m 17 #[.val (.ref a), .val (.long e1), .second, .val (.long e2), .second, .val (.long e3), .second, .val (.ref cc)] [(.long e3), (.ref a)])) rfl rfl (hb hby d2_17) ?_
  intro T4 h4 X4 eT4 W4
  have F2 := Fld.same W4 F2
  have N4 := Fr.snoc X4 N3 g_a
  have Ex := Ex.wr W4
  have F0 := F0.other W4 (Or.inr (slot_ne (Or.inr (hw _ (List.mem_of_getElem? (i := 23) rfl))) (Or.inr (hw _ (List.mem_of_getElem? (i := 27) rfl))) (by decide) (t := .long) (t' := .long) (by decide) (by decide)))
  have F1 := F1.other W4 (Or.inr (slot_ne (Or.inr (hw _ (List.mem_of_getElem? (i := 25) rfl))) (Or.inr (hw _ (List.mem_of_getElem? (i := 27) rfl))) (by decide) (t := .long) (t' := .long) (by decide) (by decide)))
  have F3 := F3.other W4 (Or.inr (slot_ne (Or.inr (hw _ (List.mem_of_getElem? (i := 29) rfl))) (Or.inr (hw _ (List.mem_of_getElem? (i := 27) rfl))) (by decide) (t := (.object "com/example/keadby/keadby/model/Verification$Check")) (t' := .long) (by decide) (by decide)))
  have Kp := Kp.wr W4 (Or.inl (List.mem_of_getElem? (i := 0) rfl))
  have O0 := O0.wr W4 g_a
  show Goes p e below _ T4 (mkF m 20 #[.val (.ref a), .val (.long e1), .second, .val (.long e2), .second, .val (.long e3), .second, .val (.ref cc)] [])
  refine Goes.of (fun _ => XS.aloadN X4.here hx rfl (hb hby d2_20) rfl rfl) ?_
  show Goes p e below _ T4 (mkF m 21 #[.val (.ref a), .val (.long e1), .second, .val (.long e2), .second, .val (.long e3), .second, .val (.ref cc)] [(.ref a)])
  refine Goes.of (fun _ => XS.aload X4.here hx rfl (hb hby d2_21) rfl rfl) ?_
  show Goes p e below _ T4 (mkF m 23 #[.val (.ref a), .val (.long e1), .second, .val (.long e2), .second, .val (.long e3), .second, .val (.ref cc)] [(.ref cc), (.ref a)])
  refine goPut (ty := (.object "com/example/keadby/keadby/model/Verification$Check")) X4 hx hZ hown (host := "") (Or.inl (hw _ (List.mem_of_getElem? (i := 28) rfl))) Via.refl eT4 F3 Ex (Or.inr ⟨(hw _ (List.mem_of_getElem? (i := 29) rfl)), rfl, hnm⟩) (hw _ (List.mem_of_getElem? (i := 9) rfl)) (by decide) rfl rfl (g := (mkF m 23 #[.val (.ref a), .val (.long e1), .second, .val (.long e2), .second, .val (.long e3), .second, .val (.ref cc)] [(.ref cc), (.ref a)])) rfl rfl (hb hby d2_23) ?_
  intro T5 h5 X5 eT5 W5
  have F3 := Fld.same W5 F3
  have N5 := Fr.snoc X5 N4 g_a
  have Ex := Ex.wr W5
  have F0 := F0.other W5 (Or.inr (slot_ne (Or.inr (hw _ (List.mem_of_getElem? (i := 23) rfl))) (Or.inr (hw _ (List.mem_of_getElem? (i := 29) rfl))) (by decide) (t := .long) (t' := (.object "com/example/keadby/keadby/model/Verification$Check")) (by decide) (by decide)))
  have F1 := F1.other W5 (Or.inr (slot_ne (Or.inr (hw _ (List.mem_of_getElem? (i := 25) rfl))) (Or.inr (hw _ (List.mem_of_getElem? (i := 29) rfl))) (by decide) (t := .long) (t' := (.object "com/example/keadby/keadby/model/Verification$Check")) (by decide) (by decide)))
  have F2 := F2.other W5 (Or.inr (slot_ne (Or.inr (hw _ (List.mem_of_getElem? (i := 27) rfl))) (Or.inr (hw _ (List.mem_of_getElem? (i := 29) rfl))) (by decide) (t := .long) (t' := (.object "com/example/keadby/keadby/model/Verification$Check")) (by decide) (by decide)))
  have Kp := Kp.wr W5 (Or.inl (List.mem_of_getElem? (i := 0) rfl))
  have O0 := O0.wr W5 g_a
  show Goes p e below _ T5 (mkF m 26 #[.val (.ref a), .val (.long e1), .second, .val (.long e2), .second, .val (.long e3), .second, .val (.ref cc)] [])
  exact retVoid X5 hx hret hlk (hb hby d2_26) eT5 (by decide) (by decide) ⟨rfl, N5, Kp, F3⟩
set_option maxRecDepth 65536 in
set_option maxHeartbeats 40000000 in
theorem rm_okR (l : Launch) (Z : State) (a0 : Array Value) (hw : ∀ d ∈ tables_1, d.before a0 Z = true) (a : Addr) (cc : Addr) (h0 : Heap) (n0 : Nat) (O0 : Old Z n0 h0) (F3 : Fld Z h0 a "com/example/keadby/keadby/model/Verification" "brokenCheck" "Lcom/example/keadby/keadby/model/Verification$Check;" (.ref cc)) :
    Rm l (⟨"com/example/keadby/keadby/model/Verification", "ok", "()Z"⟩ : MethodName) prog_16_method_2_code 1 (some .boolean) ({ frames := 0, cells := 0, slots := 0, locals := 0 } : Room) [] Z #[(.ref a)] h0 (fun v h L => v = some (.int 0) ∧ Fr n0 L ∧ h = h0) := by
  refine Rm.of (plainFor_of_name pn_com_example_keadby_keadby_model_Verification) ?_
  intro p e s m below meth c T X hx hZ hby hml hown hnm hret hlk eT0
  have hown : s.vm.findClass "com/example/keadby/keadby/model/Verification" = some m.cls := hown
  have hnm : meth.name = "ok" := hnm
  have N0 := Fr.nil n0
  refine Goes.cast (ef_5 m a) ?_
  show Goes p e below _ T (mkF m 0 #[.val (.ref a)] [])
  refine Goes.of (fun _ => XS.aloadN X.here hx rfl (hb hby d5_0) rfl rfl) ?_
  show Goes p e below _ T (mkF m 1 #[.val (.ref a)] [(.ref a)])
  refine goGet X hx hZ hown (host := "") (Or.inl (hw _ (List.mem_of_getElem? (i := 28) rfl))) Via.refl eT0 F3 (g := (mkF m 1 #[.val (.ref a)] [(.ref a)])) rfl rfl (hb hby d5_1) ?_
  intro T1 X1 eT1
  show Goes p e below _ T1 (mkF m 4 #[.val (.ref a)] [(.ref cc)])
  refine Goes.of (fun _ => XS.ifnonnullYes X1.here hx rfl (pc0 := 4) (pc' := 11) rfl (hb hby d5_4) rfl (by decide) (by decide)) ?_
  show Goes p e below _ T1 (mkF m 11 #[.val (.ref a)] [])
  refine Goes.of (fun _ => XS.iconst X1.here hx rfl (hb hby d5_11)) ?_
  show Goes p e below _ T1 (mkF m 12 #[.val (.ref a)] [(.int (0 : Int32))])
  exact retZ (t := .boolean) X1 hx hret hlk (by simp) (hb hby d5_12) eT1 (by decide) (by decide) ⟨rfl, N0, rfl⟩
set_option maxRecDepth 65536 in
set_option maxHeartbeats 40000000 in
theorem rm_law (l : Launch) (Z : State) (a0 : Array Value) (hw : ∀ d ∈ tables_1, d.before a0 Z = true) (ws : List Jvm.Cond) (q1 q2 q3 : Int64) (p4 : Int32) (w0 : Addr) (w1 : Addr) (w2 : Addr) (w3 : Addr) (h0 : Heap) (n0 : Nat) (O0 : Old Z n0 h0) (c0 : Cst Z "com/example/keadby/keadby/model/Verification$Check" "PAYLOAD" "Lcom/example/keadby/keadby/model/Verification$Check;" w0) (c1 : Cst Z "com/example/keadby/keadby/model/Verification$Check" "HASH" "Lcom/example/keadby/keadby/model/Verification$Check;" w1) (c2 : Cst Z "com/example/keadby/keadby/model/Verification$Check" "LINK" "Lcom/example/keadby/keadby/model/Verification$Check;" w2) (c3 : Cst Z "com/example/keadby/keadby/model/Verification$Check" "HEAD" "Lcom/example/keadby/keadby/model/Verification$Check;" w3) :
    Rm l x code maxLocals ret room_1 ws Z #[(.long q1), (.long q2), (.long q3), (.int p4)] h0 (fun v h L => v = some (.int 1) ∧ Fr n0 L) := by
  refine Rm.of (plainFor_of_name pn_com_example_keadby_keadby_model_VerificationOkPinLaw) ?_
  intro p e s m below meth c T X hx hZ hby hml hown hnm hret hlk eT0
  have hown : s.vm.findClass "com/example/keadby/keadby/model/VerificationOkPinLaw" = some m.cls := hown
  have hnm : meth.name = "law" := hnm
  have N0 := Fr.nil n0
  refine Goes.cast (ef_0 m q1 q2 q3 p4) ?_
  show Goes p e below _ T (mkF m 0 #[.val (.long q1), .second, .val (.long q2), .second, .val (.long q3), .second, .val (.int p4), .unset, .unset, .unset, .unset] [])
  refine Goes.of (fun _ => XS.iload X.here hx rfl (hb hby at_0) rfl) ?_
  show Goes p e below _ T (mkF m 2 #[.val (.long q1), .second, .val (.long q2), .second, .val (.long q3), .second, .val (.int p4), .unset, .unset, .unset, .unset] [(.int p4)])
  refine Goes.of (fun _ => X.ldcInt hx hown (mvT hZ (hw _ (List.mem_of_getElem? (i := 0) rfl))) (g := (mkF m 2 #[.val (.long q1), .second, .val (.long q2), .second, .val (.long q3), .second, .val (.int p4), .unset, .unset, .unset, .unset] [(.int p4)])) rfl (hb hby at_2) _) ?_
  show Goes p e below _ T (mkF m 4 #[.val (.long q1), .second, .val (.long q2), .second, .val (.long q3), .second, .val (.int p4), .unset, .unset, .unset, .unset] [(.int (2147483647 : Int32)), (.int p4)])
  refine Goes.of (fun _ => XS.iand X.here hx rfl (hb hby at_4) rfl) ?_
  show Goes p e below _ T (mkF m 5 #[.val (.long q1), .second, .val (.long q2), .second, .val (.long q3), .second, .val (.int p4), .unset, .unset, .unset, .unset] [(.int (p4 &&& (2147483647 : Int32)))])
  refine Goes.of (fun _ => XS.iconst X.here hx rfl (hb hby at_5)) ?_
  show Goes p e below _ T (mkF m 6 #[.val (.long q1), .second, .val (.long q2), .second, .val (.long q3), .second, .val (.int p4), .unset, .unset, .unset, .unset] [(.int (5 : Int32)), (.int (p4 &&& (2147483647 : Int32)))])
  refine Goes.of (fun _ => XS.irem X.here hx rfl (hb hby at_6) rfl (by decide)) ?_
  show Goes p e below _ T (mkF m 7 #[.val (.long q1), .second, .val (.long q2), .second, .val (.long q3), .second, .val (.int p4), .unset, .unset, .unset, .unset] [(.int ((p4 &&& (2147483647 : Int32)) - ((p4 &&& (2147483647 : Int32)) / (5 : Int32)) * (5 : Int32)))])
  refine Goes.of (fun _ => XS.istore X.here hx rfl (hb hby at_7) rfl (l' := #[.val (.long q1), .second, .val (.long q2), .second, .val (.long q3), .second, .val (.int p4), .val (.int ((p4 &&& (2147483647 : Int32)) - ((p4 &&& (2147483647 : Int32)) / (5 : Int32)) * (5 : Int32))), .unset, .unset, .unset]) rfl) ?_
  show Goes p e below _ T (mkF m 9 #[.val (.long q1), .second, .val (.long q2), .second, .val (.long q3), .second, .val (.int p4), .val (.int ((p4 &&& (2147483647 : Int32)) - ((p4 &&& (2147483647 : Int32)) / (5 : Int32)) * (5 : Int32))), .unset, .unset, .unset] [])
  generalize hk : ((p4 &&& (2147483647 : Int32)) - ((p4 &&& (2147483647 : Int32)) / (5 : Int32)) * (5 : Int32)) = k
  show Goes p e below _ T (mkF m 9 #[.val (.long q1), .second, .val (.long q2), .second, .val (.long q3), .second, .val (.int p4), .val (.int k), .unset, .unset, .unset] [])
  have hk5 := c5 k (by rw [← hk, rem31 _ _ (k := 5) rfl]; omega) (by rw [← hk, rem31 _ _ (k := 5) rfl]; omega)
  rcases hk5 with rfl | rfl | rfl | rfl | rfl
  · show Goes p e below _ T (mkF m 9 #[.val (.long q1), .second, .val (.long q2), .second, .val (.long q3), .second, .val (.int p4), .val (.int (0 : Int32)), .unset, .unset, .unset] [])
    refine Goes.of (fun _ => XS.iload X.here hx rfl (hb hby at_9) rfl) ?_
    show Goes p e below _ T (mkF m 11 #[.val (.long q1), .second, .val (.long q2), .second, .val (.long q3), .second, .val (.int p4), .val (.int (0 : Int32)), .unset, .unset, .unset] [(.int (0 : Int32))])
    refine goStatic 0 X hx hZ hown (hw _ (List.mem_of_getElem? (i := 1) rfl)) (hw _ (List.mem_of_getElem? (i := 2) rfl)) (hw _ (List.mem_of_getElem? (i := 3) rfl)) (hw _ (List.mem_of_getElem? (i := 4) rfl)) (by decide) (rm_pick0 l Z a0 hw w0 w1 w2 w3 h0 n0 O0 c0 c1 c2 c3) eT0 (g := (mkF m 11 #[.val (.long q1), .second, .val (.long q2), .second, .val (.long q3), .second, .val (.int p4), .val (.int (0 : Int32)), .unset, .unset, .unset] [(.int (0 : Int32))])) rfl (by rw [hml]; rfl) [(.int (0 : Int32))] [] (lenOf pd__I_Lcom_example_keadby_keadby_model_Verification_Check_ rfl) rfl rfl (by show 2 * 0 + _ ≤ _; exact Nat.le_of_eq rfl) (hb hby at_11) (by decide) (by decide) (by decide) (by decide) ?_
    intro v1 T1 L1 X1 q1
    obtain ⟨rfl, Nq1, eT1⟩ := q1
    have N1 := Fr.app N0 Nq1
    show Goes p e below _ T1 (mkF m 14 #[.val (.long q1), .second, .val (.long q2), .second, .val (.long q3), .second, .val (.int p4), .val (.int (0 : Int32)), .unset, .unset, .unset] [.null])
    refine Goes.of (fun _ => XS.astore X1.here hx rfl (hb hby at_14) rfl rfl (l' := #[.val (.long q1), .second, .val (.long q2), .second, .val (.long q3), .second, .val (.int p4), .val (.int (0 : Int32)), .val .null, .unset, .unset]) rfl) ?_
    show Goes p e below _ T1 (mkF m 16 #[.val (.long q1), .second, .val (.long q2), .second, .val (.long q3), .second, .val (.int p4), .val (.int (0 : Int32)), .val .null, .unset, .unset] [])
    refine goNew X1 hx hZ hown (hw _ (List.mem_of_getElem? (i := 8) rfl)) (hw _ (List.mem_of_getElem? (i := 9) rfl)) (hw _ (List.mem_of_getElem? (i := 10) rfl)) eT1 (g := (mkF m 16 #[.val (.long q1), .second, .val (.long q2), .second, .val (.long q3), .second, .val (.int p4), .val (.int (0 : Int32)), .val .null, .unset, .unset] [])) rfl (hb hby at_16) (by decide) (by decide) ?_
    intro T2 h2 b2 X2 eT2 E2 hb2 A2 D2
    have g_b2 : n0 ≤ b2 := Nat.le_trans (oldLe O0) hb2
    have O0 := O0.ext E2
    have F2_events : Fld Z h2 b2 "com/example/keadby/keadby/model/Verification" "events" "J" (.long (0 : Int64)) := D2 (Or.inr (hw _ (List.mem_of_getElem? (i := 23) rfl))) (ty := .long) (by decide)
    have F2_aggregates : Fld Z h2 b2 "com/example/keadby/keadby/model/Verification" "aggregates" "J" (.long (0 : Int64)) := D2 (Or.inr (hw _ (List.mem_of_getElem? (i := 25) rfl))) (ty := .long) (by decide)
    have F2_brokenEventId : Fld Z h2 b2 "com/example/keadby/keadby/model/Verification" "brokenEventId" "J" (.long (0 : Int64)) := D2 (Or.inr (hw _ (List.mem_of_getElem? (i := 27) rfl))) (ty := .long) (by decide)
    have F2_brokenCheck : Fld Z h2 b2 "com/example/keadby/keadby/model/Verification" "brokenCheck" "Lcom/example/keadby/keadby/model/Verification$Check;" .null := D2 (Or.inr (hw _ (List.mem_of_getElem? (i := 29) rfl))) (ty := (.object "com/example/keadby/keadby/model/Verification$Check")) (by decide)
    show Goes p e below _ T2 (mkF m 19 #[.val (.long q1), .second, .val (.long q2), .second, .val (.long q3), .second, .val (.int p4), .val (.int (0 : Int32)), .val .null, .unset, .unset] [(.ref b2)])
    refine Goes.of (fun _ => XS.dup X2.here hx rfl (hb hby at_19) rfl rfl) ?_
    show Goes p e below _ T2 (mkF m 20 #[.val (.long q1), .second, .val (.long q2), .second, .val (.long q3), .second, .val (.int p4), .val (.int (0 : Int32)), .val .null, .unset, .unset] [(.ref b2), (.ref b2)])
    refine Goes.of (fun _ => XS.lloadN X2.here hx rfl (hb hby at_20) rfl) ?_
    show Goes p e below _ T2 (mkF m 21 #[.val (.long q1), .second, .val (.long q2), .second, .val (.long q3), .second, .val (.int p4), .val (.int (0 : Int32)), .val .null, .unset, .unset] [(.long q1), (.ref b2), (.ref b2)])
    refine Goes.of (fun _ => XS.lloadN X2.here hx rfl (hb hby at_21) rfl) ?_
    show Goes p e below _ T2 (mkF m 22 #[.val (.long q1), .second, .val (.long q2), .second, .val (.long q3), .second, .val (.int p4), .val (.int (0 : Int32)), .val .null, .unset, .unset] [(.long q2), (.long q1), (.ref b2), (.ref b2)])
    refine Goes.of (fun _ => XS.lload X2.here hx rfl (hb hby at_22) rfl) ?_
    show Goes p e below _ T2 (mkF m 24 #[.val (.long q1), .second, .val (.long q2), .second, .val (.long q3), .second, .val (.int p4), .val (.int (0 : Int32)), .val .null, .unset, .unset] [(.long q3), (.long q2), (.long q1), (.ref b2), (.ref b2)])
    refine Goes.of (fun _ => XS.aload X2.here hx rfl (hb hby at_24) rfl rfl) ?_
    show Goes p e below _ T2 (mkF m 26 #[.val (.long q1), .second, .val (.long q2), .second, .val (.long q3), .second, .val (.int p4), .val (.int (0 : Int32)), .val .null, .unset, .unset] [.null, (.long q3), (.long q2), (.long q1), (.ref b2), (.ref b2)])
    refine goSpecial 1 X2 hx hZ rfl hown (hw _ (List.mem_of_getElem? (i := 11) rfl)) (hw _ (List.mem_of_getElem? (i := 12) rfl)) (hw _ (List.mem_of_getElem? (i := 10) rfl)) (hw _ (List.mem_of_getElem? (i := 13) rfl)) (by decide) (rm_initN l Z a0 hw b2 q1 q2 q3  h2 n0 O0 g_b2 A2 F2_events F2_aggregates F2_brokenEventId F2_brokenCheck) eT2 (g := (mkF m 26 #[.val (.long q1), .second, .val (.long q2), .second, .val (.long q3), .second, .val (.int p4), .val (.int (0 : Int32)), .val .null, .unset, .unset] [.null, (.long q3), (.long q2), (.long q1), (.ref b2), (.ref b2)])) rfl (by rw [hml]; rfl) b2 [(.long q1), (.long q2), (.long q3), .null] [(.ref b2)] (lenOf pd__JJJLcom_example_keadby_keadby_model_Verification_Check__V rfl) rfl rfl (by show 2 * 0 + _ ≤ _; exact Nat.le_of_eq rfl) (hb hby at_26) (by decide) (by decide) (by decide) (by decide) ?_
    intro v3 T3 L3 X3 q3
    obtain ⟨rfl, Nq3, Kq3, Fc3⟩ := q3
    have N3 := Fr.app N1 Nq3
    have A2 := A2.keep Kq3
    have O0 := O0.keep Kq3 (allS g_b2 all0)
    show Goes p e below _ T3 (mkF m 29 #[.val (.long q1), .second, .val (.long q2), .second, .val (.long q3), .second, .val (.int p4), .val (.int (0 : Int32)), .val .null, .unset, .unset] [(.ref b2)])
    refine Goes.of (fun _ => XS.astore X3.here hx rfl (hb hby at_29) rfl rfl (l' := #[.val (.long q1), .second, .val (.long q2), .second, .val (.long q3), .second, .val (.int p4), .val (.int (0 : Int32)), .val .null, .val (.ref b2), .unset]) rfl) ?_
    show Goes p e below _ T3 (mkF m 31 #[.val (.long q1), .second, .val (.long q2), .second, .val (.long q3), .second, .val (.int p4), .val (.int (0 : Int32)), .val .null, .val (.ref b2), .unset] [])
    refine Goes.of (fun _ => XS.iload X3.here hx rfl (hb hby at_31) rfl) ?_
    show Goes p e below _ T3 (mkF m 33 #[.val (.long q1), .second, .val (.long q2), .second, .val (.long q3), .second, .val (.int p4), .val (.int (0 : Int32)), .val .null, .val (.ref b2), .unset] [(.int (0 : Int32))])
    refine Goes.of (fun _ => XS.ifNo X3.here hx rfl (hb hby at_33) rfl ((if0 _ _).trans (teq (by decide)).2)) ?_
    show Goes p e below _ T3 (mkF m 36 #[.val (.long q1), .second, .val (.long q2), .second, .val (.long q3), .second, .val (.int p4), .val (.int (0 : Int32)), .val .null, .val (.ref b2), .unset] [])
    refine Goes.of (fun _ => XS.iconst X3.here hx rfl (hb hby at_36)) ?_
    show Goes p e below _ T3 (mkF m 37 #[.val (.long q1), .second, .val (.long q2), .second, .val (.long q3), .second, .val (.int p4), .val (.int (0 : Int32)), .val .null, .val (.ref b2), .unset] [(.int (1 : Int32))])
    refine Goes.of (fun _ => XS.goto X3.here hx rfl (pc0 := 37) (pc' := 41) rfl (hb hby at_37) (by decide) (by decide)) ?_
    show Goes p e below _ T3 (mkF m 41 #[.val (.long q1), .second, .val (.long q2), .second, .val (.long q3), .second, .val (.int p4), .val (.int (0 : Int32)), .val .null, .val (.ref b2), .unset] [(.int (1 : Int32))])
    refine Goes.of (fun _ => XS.istore X3.here hx rfl (hb hby at_41) rfl (l' := #[.val (.long q1), .second, .val (.long q2), .second, .val (.long q3), .second, .val (.int p4), .val (.int (0 : Int32)), .val .null, .val (.ref b2), .val (.int (1 : Int32))]) rfl) ?_
    show Goes p e below _ T3 (mkF m 43 #[.val (.long q1), .second, .val (.long q2), .second, .val (.long q3), .second, .val (.int p4), .val (.int (0 : Int32)), .val .null, .val (.ref b2), .val (.int (1 : Int32))] [])
    refine Goes.of (fun _ => XS.aload X3.here hx rfl (hb hby at_43) rfl rfl) ?_
    show Goes p e below _ T3 (mkF m 45 #[.val (.long q1), .second, .val (.long q2), .second, .val (.long q3), .second, .val (.int p4), .val (.int (0 : Int32)), .val .null, .val (.ref b2), .val (.int (1 : Int32))] [(.ref b2)])
    refine goVirtual 0 X3 hx hZ hown (hw _ (List.mem_of_getElem? (i := 30) rfl)) (hw _ (List.mem_of_getElem? (i := 31) rfl)) (notFace_of_selects (args := #[]) (mvT hZ (hw _ (List.mem_of_getElem? (i := 33) rfl)))) (hw _ (List.mem_of_getElem? (i := 33) rfl)) (hw _ (List.mem_of_getElem? (i := 32) rfl)) (hw _ (List.mem_of_getElem? (i := 10) rfl)) (hw _ (List.mem_of_getElem? (i := 34) rfl)) (by decide) (rm_okN l Z a0 hw b2  T3.heap n0 O0 Fc3) (rfl : T3.heap = _) A2 (g := (mkF m 45 #[.val (.long q1), .second, .val (.long q2), .second, .val (.long q3), .second, .val (.int p4), .val (.int (0 : Int32)), .val .null, .val (.ref b2), .val (.int (1 : Int32))] [(.ref b2)])) rfl (by rw [hml]; rfl) [] [] (lenOf pd___Z rfl) rfl rfl (by show 2 * 0 + _ ≤ _; exact Nat.le_of_eq rfl) (hb hby at_45) (by decide) (by decide) (by decide) (by decide) ?_
    intro v4 T4 L4 X4 q4
    obtain ⟨rfl, Nq4, eT4⟩ := q4
    have N4 := Fr.app N3 Nq4
    show Goes p e below _ T4 (mkF m 48 #[.val (.long q1), .second, .val (.long q2), .second, .val (.long q3), .second, .val (.int p4), .val (.int (0 : Int32)), .val .null, .val (.ref b2), .val (.int (1 : Int32))] [(.int (1 : Int32))])
    refine Goes.of (fun _ => XS.iload X4.here hx rfl (hb hby at_48) rfl) ?_
    show Goes p e below _ T4 (mkF m 50 #[.val (.long q1), .second, .val (.long q2), .second, .val (.long q3), .second, .val (.int p4), .val (.int (0 : Int32)), .val .null, .val (.ref b2), .val (.int (1 : Int32))] [(.int (1 : Int32)), (.int (1 : Int32))])
    refine Goes.of (fun _ => XS.icmpNo X4.here hx rfl (hb hby at_50) rfl (teq (by decide)).2) ?_
    show Goes p e below _ T4 (mkF m 53 #[.val (.long q1), .second, .val (.long q2), .second, .val (.long q3), .second, .val (.int p4), .val (.int (0 : Int32)), .val .null, .val (.ref b2), .val (.int (1 : Int32))] [])
    refine Goes.of (fun _ => XS.iconst X4.here hx rfl (hb hby at_53)) ?_
    show Goes p e below _ T4 (mkF m 54 #[.val (.long q1), .second, .val (.long q2), .second, .val (.long q3), .second, .val (.int p4), .val (.int (0 : Int32)), .val .null, .val (.ref b2), .val (.int (1 : Int32))] [(.int (1 : Int32))])
    refine Goes.of (fun _ => XS.goto X4.here hx rfl (pc0 := 54) (pc' := 58) rfl (hb hby at_54) (by decide) (by decide)) ?_
    show Goes p e below _ T4 (mkF m 58 #[.val (.long q1), .second, .val (.long q2), .second, .val (.long q3), .second, .val (.int p4), .val (.int (0 : Int32)), .val .null, .val (.ref b2), .val (.int (1 : Int32))] [(.int (1 : Int32))])
    exact retZ (t := .boolean) X4 hx hret hlk (by simp) (hb hby at_58) eT4 (by decide) (by decide) ⟨rfl, N4⟩
  · show Goes p e below _ T (mkF m 9 #[.val (.long q1), .second, .val (.long q2), .second, .val (.long q3), .second, .val (.int p4), .val (.int (1 : Int32)), .unset, .unset, .unset] [])
    refine Goes.of (fun _ => XS.iload X.here hx rfl (hb hby at_9) rfl) ?_
    show Goes p e below _ T (mkF m 11 #[.val (.long q1), .second, .val (.long q2), .second, .val (.long q3), .second, .val (.int p4), .val (.int (1 : Int32)), .unset, .unset, .unset] [(.int (1 : Int32))])
    refine goStatic 0 X hx hZ hown (hw _ (List.mem_of_getElem? (i := 1) rfl)) (hw _ (List.mem_of_getElem? (i := 2) rfl)) (hw _ (List.mem_of_getElem? (i := 3) rfl)) (hw _ (List.mem_of_getElem? (i := 4) rfl)) (by decide) (rm_pick1 l Z a0 hw w0 w1 w2 w3 h0 n0 O0 c0 c1 c2 c3) eT0 (g := (mkF m 11 #[.val (.long q1), .second, .val (.long q2), .second, .val (.long q3), .second, .val (.int p4), .val (.int (1 : Int32)), .unset, .unset, .unset] [(.int (1 : Int32))])) rfl (by rw [hml]; rfl) [(.int (1 : Int32))] [] (lenOf pd__I_Lcom_example_keadby_keadby_model_Verification_Check_ rfl) rfl rfl (by show 2 * 0 + _ ≤ _; exact Nat.le_of_eq rfl) (hb hby at_11) (by decide) (by decide) (by decide) (by decide) ?_
    intro v5 T5 L5 X5 q5
    obtain ⟨rfl, Nq5, eT5⟩ := q5
    have N5 := Fr.app N0 Nq5
    show Goes p e below _ T5 (mkF m 14 #[.val (.long q1), .second, .val (.long q2), .second, .val (.long q3), .second, .val (.int p4), .val (.int (1 : Int32)), .unset, .unset, .unset] [(.ref w0)])
    refine Goes.of (fun _ => XS.astore X5.here hx rfl (hb hby at_14) rfl rfl (l' := #[.val (.long q1), .second, .val (.long q2), .second, .val (.long q3), .second, .val (.int p4), .val (.int (1 : Int32)), .val (.ref w0), .unset, .unset]) rfl) ?_
    show Goes p e below _ T5 (mkF m 16 #[.val (.long q1), .second, .val (.long q2), .second, .val (.long q3), .second, .val (.int p4), .val (.int (1 : Int32)), .val (.ref w0), .unset, .unset] [])
    refine goNew X5 hx hZ hown (hw _ (List.mem_of_getElem? (i := 8) rfl)) (hw _ (List.mem_of_getElem? (i := 9) rfl)) (hw _ (List.mem_of_getElem? (i := 10) rfl)) eT5 (g := (mkF m 16 #[.val (.long q1), .second, .val (.long q2), .second, .val (.long q3), .second, .val (.int p4), .val (.int (1 : Int32)), .val (.ref w0), .unset, .unset] [])) rfl (hb hby at_16) (by decide) (by decide) ?_
    intro T6 h6 b6 X6 eT6 E6 hb6 A6 D6
    have g_b6 : n0 ≤ b6 := Nat.le_trans (oldLe O0) hb6
    have O0 := O0.ext E6
    have F6_events : Fld Z h6 b6 "com/example/keadby/keadby/model/Verification" "events" "J" (.long (0 : Int64)) := D6 (Or.inr (hw _ (List.mem_of_getElem? (i := 23) rfl))) (ty := .long) (by decide)
    have F6_aggregates : Fld Z h6 b6 "com/example/keadby/keadby/model/Verification" "aggregates" "J" (.long (0 : Int64)) := D6 (Or.inr (hw _ (List.mem_of_getElem? (i := 25) rfl))) (ty := .long) (by decide)
    have F6_brokenEventId : Fld Z h6 b6 "com/example/keadby/keadby/model/Verification" "brokenEventId" "J" (.long (0 : Int64)) := D6 (Or.inr (hw _ (List.mem_of_getElem? (i := 27) rfl))) (ty := .long) (by decide)
    have F6_brokenCheck : Fld Z h6 b6 "com/example/keadby/keadby/model/Verification" "brokenCheck" "Lcom/example/keadby/keadby/model/Verification$Check;" .null := D6 (Or.inr (hw _ (List.mem_of_getElem? (i := 29) rfl))) (ty := (.object "com/example/keadby/keadby/model/Verification$Check")) (by decide)
    show Goes p e below _ T6 (mkF m 19 #[.val (.long q1), .second, .val (.long q2), .second, .val (.long q3), .second, .val (.int p4), .val (.int (1 : Int32)), .val (.ref w0), .unset, .unset] [(.ref b6)])
    refine Goes.of (fun _ => XS.dup X6.here hx rfl (hb hby at_19) rfl rfl) ?_
    show Goes p e below _ T6 (mkF m 20 #[.val (.long q1), .second, .val (.long q2), .second, .val (.long q3), .second, .val (.int p4), .val (.int (1 : Int32)), .val (.ref w0), .unset, .unset] [(.ref b6), (.ref b6)])
    refine Goes.of (fun _ => XS.lloadN X6.here hx rfl (hb hby at_20) rfl) ?_
    show Goes p e below _ T6 (mkF m 21 #[.val (.long q1), .second, .val (.long q2), .second, .val (.long q3), .second, .val (.int p4), .val (.int (1 : Int32)), .val (.ref w0), .unset, .unset] [(.long q1), (.ref b6), (.ref b6)])
    refine Goes.of (fun _ => XS.lloadN X6.here hx rfl (hb hby at_21) rfl) ?_
    show Goes p e below _ T6 (mkF m 22 #[.val (.long q1), .second, .val (.long q2), .second, .val (.long q3), .second, .val (.int p4), .val (.int (1 : Int32)), .val (.ref w0), .unset, .unset] [(.long q2), (.long q1), (.ref b6), (.ref b6)])
    refine Goes.of (fun _ => XS.lload X6.here hx rfl (hb hby at_22) rfl) ?_
    show Goes p e below _ T6 (mkF m 24 #[.val (.long q1), .second, .val (.long q2), .second, .val (.long q3), .second, .val (.int p4), .val (.int (1 : Int32)), .val (.ref w0), .unset, .unset] [(.long q3), (.long q2), (.long q1), (.ref b6), (.ref b6)])
    refine Goes.of (fun _ => XS.aload X6.here hx rfl (hb hby at_24) rfl rfl) ?_
    show Goes p e below _ T6 (mkF m 26 #[.val (.long q1), .second, .val (.long q2), .second, .val (.long q3), .second, .val (.int p4), .val (.int (1 : Int32)), .val (.ref w0), .unset, .unset] [(.ref w0), (.long q3), (.long q2), (.long q1), (.ref b6), (.ref b6)])
    refine goSpecial 1 X6 hx hZ rfl hown (hw _ (List.mem_of_getElem? (i := 11) rfl)) (hw _ (List.mem_of_getElem? (i := 12) rfl)) (hw _ (List.mem_of_getElem? (i := 10) rfl)) (hw _ (List.mem_of_getElem? (i := 13) rfl)) (by decide) (rm_initR l Z a0 hw b6 q1 q2 q3 w0 h6 n0 O0 g_b6 A6 F6_events F6_aggregates F6_brokenEventId F6_brokenCheck) eT6 (g := (mkF m 26 #[.val (.long q1), .second, .val (.long q2), .second, .val (.long q3), .second, .val (.int p4), .val (.int (1 : Int32)), .val (.ref w0), .unset, .unset] [(.ref w0), (.long q3), (.long q2), (.long q1), (.ref b6), (.ref b6)])) rfl (by rw [hml]; rfl) b6 [(.long q1), (.long q2), (.long q3), (.ref w0)] [(.ref b6)] (lenOf pd__JJJLcom_example_keadby_keadby_model_Verification_Check__V rfl) rfl rfl (by show 2 * 0 + _ ≤ _; exact Nat.le_of_eq rfl) (hb hby at_26) (by decide) (by decide) (by decide) (by decide) ?_
    intro v7 T7 L7 X7 q7
    obtain ⟨rfl, Nq7, Kq7, Fc7⟩ := q7
    have N7 := Fr.app N5 Nq7
    have A6 := A6.keep Kq7
    have O0 := O0.keep Kq7 (allS g_b6 all0)
    show Goes p e below _ T7 (mkF m 29 #[.val (.long q1), .second, .val (.long q2), .second, .val (.long q3), .second, .val (.int p4), .val (.int (1 : Int32)), .val (.ref w0), .unset, .unset] [(.ref b6)])
    refine Goes.of (fun _ => XS.astore X7.here hx rfl (hb hby at_29) rfl rfl (l' := #[.val (.long q1), .second, .val (.long q2), .second, .val (.long q3), .second, .val (.int p4), .val (.int (1 : Int32)), .val (.ref w0), .val (.ref b6), .unset]) rfl) ?_
    show Goes p e below _ T7 (mkF m 31 #[.val (.long q1), .second, .val (.long q2), .second, .val (.long q3), .second, .val (.int p4), .val (.int (1 : Int32)), .val (.ref w0), .val (.ref b6), .unset] [])
    refine Goes.of (fun _ => XS.iload X7.here hx rfl (hb hby at_31) rfl) ?_
    show Goes p e below _ T7 (mkF m 33 #[.val (.long q1), .second, .val (.long q2), .second, .val (.long q3), .second, .val (.int p4), .val (.int (1 : Int32)), .val (.ref w0), .val (.ref b6), .unset] [(.int (1 : Int32))])
    refine Goes.of (fun _ => XS.ifYes X7.here hx rfl (pc0 := 33) (pc' := 40) rfl (hb hby at_33) rfl ((if0 _ _).trans (feq (by decide)).2) (by decide) (by decide)) ?_
    show Goes p e below _ T7 (mkF m 40 #[.val (.long q1), .second, .val (.long q2), .second, .val (.long q3), .second, .val (.int p4), .val (.int (1 : Int32)), .val (.ref w0), .val (.ref b6), .unset] [])
    refine Goes.of (fun _ => XS.iconst X7.here hx rfl (hb hby at_40)) ?_
    show Goes p e below _ T7 (mkF m 41 #[.val (.long q1), .second, .val (.long q2), .second, .val (.long q3), .second, .val (.int p4), .val (.int (1 : Int32)), .val (.ref w0), .val (.ref b6), .unset] [(.int (0 : Int32))])
    refine Goes.of (fun _ => XS.istore X7.here hx rfl (hb hby at_41) rfl (l' := #[.val (.long q1), .second, .val (.long q2), .second, .val (.long q3), .second, .val (.int p4), .val (.int (1 : Int32)), .val (.ref w0), .val (.ref b6), .val (.int (0 : Int32))]) rfl) ?_
    show Goes p e below _ T7 (mkF m 43 #[.val (.long q1), .second, .val (.long q2), .second, .val (.long q3), .second, .val (.int p4), .val (.int (1 : Int32)), .val (.ref w0), .val (.ref b6), .val (.int (0 : Int32))] [])
    refine Goes.of (fun _ => XS.aload X7.here hx rfl (hb hby at_43) rfl rfl) ?_
    show Goes p e below _ T7 (mkF m 45 #[.val (.long q1), .second, .val (.long q2), .second, .val (.long q3), .second, .val (.int p4), .val (.int (1 : Int32)), .val (.ref w0), .val (.ref b6), .val (.int (0 : Int32))] [(.ref b6)])
    refine goVirtual 0 X7 hx hZ hown (hw _ (List.mem_of_getElem? (i := 30) rfl)) (hw _ (List.mem_of_getElem? (i := 31) rfl)) (notFace_of_selects (args := #[]) (mvT hZ (hw _ (List.mem_of_getElem? (i := 33) rfl)))) (hw _ (List.mem_of_getElem? (i := 33) rfl)) (hw _ (List.mem_of_getElem? (i := 32) rfl)) (hw _ (List.mem_of_getElem? (i := 10) rfl)) (hw _ (List.mem_of_getElem? (i := 34) rfl)) (by decide) (rm_okR l Z a0 hw b6 w0 T7.heap n0 O0 Fc7) (rfl : T7.heap = _) A6 (g := (mkF m 45 #[.val (.long q1), .second, .val (.long q2), .second, .val (.long q3), .second, .val (.int p4), .val (.int (1 : Int32)), .val (.ref w0), .val (.ref b6), .val (.int (0 : Int32))] [(.ref b6)])) rfl (by rw [hml]; rfl) [] [] (lenOf pd___Z rfl) rfl rfl (by show 2 * 0 + _ ≤ _; exact Nat.le_of_eq rfl) (hb hby at_45) (by decide) (by decide) (by decide) (by decide) ?_
    intro v8 T8 L8 X8 q8
    obtain ⟨rfl, Nq8, eT8⟩ := q8
    have N8 := Fr.app N7 Nq8
    show Goes p e below _ T8 (mkF m 48 #[.val (.long q1), .second, .val (.long q2), .second, .val (.long q3), .second, .val (.int p4), .val (.int (1 : Int32)), .val (.ref w0), .val (.ref b6), .val (.int (0 : Int32))] [(.int (0 : Int32))])
    refine Goes.of (fun _ => XS.iload X8.here hx rfl (hb hby at_48) rfl) ?_
    show Goes p e below _ T8 (mkF m 50 #[.val (.long q1), .second, .val (.long q2), .second, .val (.long q3), .second, .val (.int p4), .val (.int (1 : Int32)), .val (.ref w0), .val (.ref b6), .val (.int (0 : Int32))] [(.int (0 : Int32)), (.int (0 : Int32))])
    refine Goes.of (fun _ => XS.icmpNo X8.here hx rfl (hb hby at_50) rfl (teq (by decide)).2) ?_
    show Goes p e below _ T8 (mkF m 53 #[.val (.long q1), .second, .val (.long q2), .second, .val (.long q3), .second, .val (.int p4), .val (.int (1 : Int32)), .val (.ref w0), .val (.ref b6), .val (.int (0 : Int32))] [])
    refine Goes.of (fun _ => XS.iconst X8.here hx rfl (hb hby at_53)) ?_
    show Goes p e below _ T8 (mkF m 54 #[.val (.long q1), .second, .val (.long q2), .second, .val (.long q3), .second, .val (.int p4), .val (.int (1 : Int32)), .val (.ref w0), .val (.ref b6), .val (.int (0 : Int32))] [(.int (1 : Int32))])
    refine Goes.of (fun _ => XS.goto X8.here hx rfl (pc0 := 54) (pc' := 58) rfl (hb hby at_54) (by decide) (by decide)) ?_
    show Goes p e below _ T8 (mkF m 58 #[.val (.long q1), .second, .val (.long q2), .second, .val (.long q3), .second, .val (.int p4), .val (.int (1 : Int32)), .val (.ref w0), .val (.ref b6), .val (.int (0 : Int32))] [(.int (1 : Int32))])
    exact retZ (t := .boolean) X8 hx hret hlk (by simp) (hb hby at_58) eT8 (by decide) (by decide) ⟨rfl, N8⟩
  · show Goes p e below _ T (mkF m 9 #[.val (.long q1), .second, .val (.long q2), .second, .val (.long q3), .second, .val (.int p4), .val (.int (2 : Int32)), .unset, .unset, .unset] [])
    refine Goes.of (fun _ => XS.iload X.here hx rfl (hb hby at_9) rfl) ?_
    show Goes p e below _ T (mkF m 11 #[.val (.long q1), .second, .val (.long q2), .second, .val (.long q3), .second, .val (.int p4), .val (.int (2 : Int32)), .unset, .unset, .unset] [(.int (2 : Int32))])
    refine goStatic 0 X hx hZ hown (hw _ (List.mem_of_getElem? (i := 1) rfl)) (hw _ (List.mem_of_getElem? (i := 2) rfl)) (hw _ (List.mem_of_getElem? (i := 3) rfl)) (hw _ (List.mem_of_getElem? (i := 4) rfl)) (by decide) (rm_pick2 l Z a0 hw w0 w1 w2 w3 h0 n0 O0 c0 c1 c2 c3) eT0 (g := (mkF m 11 #[.val (.long q1), .second, .val (.long q2), .second, .val (.long q3), .second, .val (.int p4), .val (.int (2 : Int32)), .unset, .unset, .unset] [(.int (2 : Int32))])) rfl (by rw [hml]; rfl) [(.int (2 : Int32))] [] (lenOf pd__I_Lcom_example_keadby_keadby_model_Verification_Check_ rfl) rfl rfl (by show 2 * 0 + _ ≤ _; exact Nat.le_of_eq rfl) (hb hby at_11) (by decide) (by decide) (by decide) (by decide) ?_
    intro v9 T9 L9 X9 q9
    obtain ⟨rfl, Nq9, eT9⟩ := q9
    have N9 := Fr.app N0 Nq9
    show Goes p e below _ T9 (mkF m 14 #[.val (.long q1), .second, .val (.long q2), .second, .val (.long q3), .second, .val (.int p4), .val (.int (2 : Int32)), .unset, .unset, .unset] [(.ref w1)])
    refine Goes.of (fun _ => XS.astore X9.here hx rfl (hb hby at_14) rfl rfl (l' := #[.val (.long q1), .second, .val (.long q2), .second, .val (.long q3), .second, .val (.int p4), .val (.int (2 : Int32)), .val (.ref w1), .unset, .unset]) rfl) ?_
    show Goes p e below _ T9 (mkF m 16 #[.val (.long q1), .second, .val (.long q2), .second, .val (.long q3), .second, .val (.int p4), .val (.int (2 : Int32)), .val (.ref w1), .unset, .unset] [])
    refine goNew X9 hx hZ hown (hw _ (List.mem_of_getElem? (i := 8) rfl)) (hw _ (List.mem_of_getElem? (i := 9) rfl)) (hw _ (List.mem_of_getElem? (i := 10) rfl)) eT9 (g := (mkF m 16 #[.val (.long q1), .second, .val (.long q2), .second, .val (.long q3), .second, .val (.int p4), .val (.int (2 : Int32)), .val (.ref w1), .unset, .unset] [])) rfl (hb hby at_16) (by decide) (by decide) ?_
    intro T10 h10 b10 X10 eT10 E10 hb10 A10 D10
    have g_b10 : n0 ≤ b10 := Nat.le_trans (oldLe O0) hb10
    have O0 := O0.ext E10
    have F10_events : Fld Z h10 b10 "com/example/keadby/keadby/model/Verification" "events" "J" (.long (0 : Int64)) := D10 (Or.inr (hw _ (List.mem_of_getElem? (i := 23) rfl))) (ty := .long) (by decide)
    have F10_aggregates : Fld Z h10 b10 "com/example/keadby/keadby/model/Verification" "aggregates" "J" (.long (0 : Int64)) := D10 (Or.inr (hw _ (List.mem_of_getElem? (i := 25) rfl))) (ty := .long) (by decide)
    have F10_brokenEventId : Fld Z h10 b10 "com/example/keadby/keadby/model/Verification" "brokenEventId" "J" (.long (0 : Int64)) := D10 (Or.inr (hw _ (List.mem_of_getElem? (i := 27) rfl))) (ty := .long) (by decide)
    have F10_brokenCheck : Fld Z h10 b10 "com/example/keadby/keadby/model/Verification" "brokenCheck" "Lcom/example/keadby/keadby/model/Verification$Check;" .null := D10 (Or.inr (hw _ (List.mem_of_getElem? (i := 29) rfl))) (ty := (.object "com/example/keadby/keadby/model/Verification$Check")) (by decide)
    show Goes p e below _ T10 (mkF m 19 #[.val (.long q1), .second, .val (.long q2), .second, .val (.long q3), .second, .val (.int p4), .val (.int (2 : Int32)), .val (.ref w1), .unset, .unset] [(.ref b10)])
    refine Goes.of (fun _ => XS.dup X10.here hx rfl (hb hby at_19) rfl rfl) ?_
    show Goes p e below _ T10 (mkF m 20 #[.val (.long q1), .second, .val (.long q2), .second, .val (.long q3), .second, .val (.int p4), .val (.int (2 : Int32)), .val (.ref w1), .unset, .unset] [(.ref b10), (.ref b10)])
    refine Goes.of (fun _ => XS.lloadN X10.here hx rfl (hb hby at_20) rfl) ?_
    show Goes p e below _ T10 (mkF m 21 #[.val (.long q1), .second, .val (.long q2), .second, .val (.long q3), .second, .val (.int p4), .val (.int (2 : Int32)), .val (.ref w1), .unset, .unset] [(.long q1), (.ref b10), (.ref b10)])
    refine Goes.of (fun _ => XS.lloadN X10.here hx rfl (hb hby at_21) rfl) ?_
    show Goes p e below _ T10 (mkF m 22 #[.val (.long q1), .second, .val (.long q2), .second, .val (.long q3), .second, .val (.int p4), .val (.int (2 : Int32)), .val (.ref w1), .unset, .unset] [(.long q2), (.long q1), (.ref b10), (.ref b10)])
    refine Goes.of (fun _ => XS.lload X10.here hx rfl (hb hby at_22) rfl) ?_
    show Goes p e below _ T10 (mkF m 24 #[.val (.long q1), .second, .val (.long q2), .second, .val (.long q3), .second, .val (.int p4), .val (.int (2 : Int32)), .val (.ref w1), .unset, .unset] [(.long q3), (.long q2), (.long q1), (.ref b10), (.ref b10)])
    refine Goes.of (fun _ => XS.aload X10.here hx rfl (hb hby at_24) rfl rfl) ?_
    show Goes p e below _ T10 (mkF m 26 #[.val (.long q1), .second, .val (.long q2), .second, .val (.long q3), .second, .val (.int p4), .val (.int (2 : Int32)), .val (.ref w1), .unset, .unset] [(.ref w1), (.long q3), (.long q2), (.long q1), (.ref b10), (.ref b10)])
    refine goSpecial 1 X10 hx hZ rfl hown (hw _ (List.mem_of_getElem? (i := 11) rfl)) (hw _ (List.mem_of_getElem? (i := 12) rfl)) (hw _ (List.mem_of_getElem? (i := 10) rfl)) (hw _ (List.mem_of_getElem? (i := 13) rfl)) (by decide) (rm_initR l Z a0 hw b10 q1 q2 q3 w1 h10 n0 O0 g_b10 A10 F10_events F10_aggregates F10_brokenEventId F10_brokenCheck) eT10 (g := (mkF m 26 #[.val (.long q1), .second, .val (.long q2), .second, .val (.long q3), .second, .val (.int p4), .val (.int (2 : Int32)), .val (.ref w1), .unset, .unset] [(.ref w1), (.long q3), (.long q2), (.long q1), (.ref b10), (.ref b10)])) rfl (by rw [hml]; rfl) b10 [(.long q1), (.long q2), (.long q3), (.ref w1)] [(.ref b10)] (lenOf pd__JJJLcom_example_keadby_keadby_model_Verification_Check__V rfl) rfl rfl (by show 2 * 0 + _ ≤ _; exact Nat.le_of_eq rfl) (hb hby at_26) (by decide) (by decide) (by decide) (by decide) ?_
    intro v11 T11 L11 X11 q11
    obtain ⟨rfl, Nq11, Kq11, Fc11⟩ := q11
    have N11 := Fr.app N9 Nq11
    have A10 := A10.keep Kq11
    have O0 := O0.keep Kq11 (allS g_b10 all0)
    show Goes p e below _ T11 (mkF m 29 #[.val (.long q1), .second, .val (.long q2), .second, .val (.long q3), .second, .val (.int p4), .val (.int (2 : Int32)), .val (.ref w1), .unset, .unset] [(.ref b10)])
    refine Goes.of (fun _ => XS.astore X11.here hx rfl (hb hby at_29) rfl rfl (l' := #[.val (.long q1), .second, .val (.long q2), .second, .val (.long q3), .second, .val (.int p4), .val (.int (2 : Int32)), .val (.ref w1), .val (.ref b10), .unset]) rfl) ?_
    show Goes p e below _ T11 (mkF m 31 #[.val (.long q1), .second, .val (.long q2), .second, .val (.long q3), .second, .val (.int p4), .val (.int (2 : Int32)), .val (.ref w1), .val (.ref b10), .unset] [])
    refine Goes.of (fun _ => XS.iload X11.here hx rfl (hb hby at_31) rfl) ?_
    show Goes p e below _ T11 (mkF m 33 #[.val (.long q1), .second, .val (.long q2), .second, .val (.long q3), .second, .val (.int p4), .val (.int (2 : Int32)), .val (.ref w1), .val (.ref b10), .unset] [(.int (2 : Int32))])
    refine Goes.of (fun _ => XS.ifYes X11.here hx rfl (pc0 := 33) (pc' := 40) rfl (hb hby at_33) rfl ((if0 _ _).trans (feq (by decide)).2) (by decide) (by decide)) ?_
    show Goes p e below _ T11 (mkF m 40 #[.val (.long q1), .second, .val (.long q2), .second, .val (.long q3), .second, .val (.int p4), .val (.int (2 : Int32)), .val (.ref w1), .val (.ref b10), .unset] [])
    refine Goes.of (fun _ => XS.iconst X11.here hx rfl (hb hby at_40)) ?_
    show Goes p e below _ T11 (mkF m 41 #[.val (.long q1), .second, .val (.long q2), .second, .val (.long q3), .second, .val (.int p4), .val (.int (2 : Int32)), .val (.ref w1), .val (.ref b10), .unset] [(.int (0 : Int32))])
    refine Goes.of (fun _ => XS.istore X11.here hx rfl (hb hby at_41) rfl (l' := #[.val (.long q1), .second, .val (.long q2), .second, .val (.long q3), .second, .val (.int p4), .val (.int (2 : Int32)), .val (.ref w1), .val (.ref b10), .val (.int (0 : Int32))]) rfl) ?_
    show Goes p e below _ T11 (mkF m 43 #[.val (.long q1), .second, .val (.long q2), .second, .val (.long q3), .second, .val (.int p4), .val (.int (2 : Int32)), .val (.ref w1), .val (.ref b10), .val (.int (0 : Int32))] [])
    refine Goes.of (fun _ => XS.aload X11.here hx rfl (hb hby at_43) rfl rfl) ?_
    show Goes p e below _ T11 (mkF m 45 #[.val (.long q1), .second, .val (.long q2), .second, .val (.long q3), .second, .val (.int p4), .val (.int (2 : Int32)), .val (.ref w1), .val (.ref b10), .val (.int (0 : Int32))] [(.ref b10)])
    refine goVirtual 0 X11 hx hZ hown (hw _ (List.mem_of_getElem? (i := 30) rfl)) (hw _ (List.mem_of_getElem? (i := 31) rfl)) (notFace_of_selects (args := #[]) (mvT hZ (hw _ (List.mem_of_getElem? (i := 33) rfl)))) (hw _ (List.mem_of_getElem? (i := 33) rfl)) (hw _ (List.mem_of_getElem? (i := 32) rfl)) (hw _ (List.mem_of_getElem? (i := 10) rfl)) (hw _ (List.mem_of_getElem? (i := 34) rfl)) (by decide) (rm_okR l Z a0 hw b10 w1 T11.heap n0 O0 Fc11) (rfl : T11.heap = _) A10 (g := (mkF m 45 #[.val (.long q1), .second, .val (.long q2), .second, .val (.long q3), .second, .val (.int p4), .val (.int (2 : Int32)), .val (.ref w1), .val (.ref b10), .val (.int (0 : Int32))] [(.ref b10)])) rfl (by rw [hml]; rfl) [] [] (lenOf pd___Z rfl) rfl rfl (by show 2 * 0 + _ ≤ _; exact Nat.le_of_eq rfl) (hb hby at_45) (by decide) (by decide) (by decide) (by decide) ?_
    intro v12 T12 L12 X12 q12
    obtain ⟨rfl, Nq12, eT12⟩ := q12
    have N12 := Fr.app N11 Nq12
    show Goes p e below _ T12 (mkF m 48 #[.val (.long q1), .second, .val (.long q2), .second, .val (.long q3), .second, .val (.int p4), .val (.int (2 : Int32)), .val (.ref w1), .val (.ref b10), .val (.int (0 : Int32))] [(.int (0 : Int32))])
    refine Goes.of (fun _ => XS.iload X12.here hx rfl (hb hby at_48) rfl) ?_
    show Goes p e below _ T12 (mkF m 50 #[.val (.long q1), .second, .val (.long q2), .second, .val (.long q3), .second, .val (.int p4), .val (.int (2 : Int32)), .val (.ref w1), .val (.ref b10), .val (.int (0 : Int32))] [(.int (0 : Int32)), (.int (0 : Int32))])
    refine Goes.of (fun _ => XS.icmpNo X12.here hx rfl (hb hby at_50) rfl (teq (by decide)).2) ?_
    show Goes p e below _ T12 (mkF m 53 #[.val (.long q1), .second, .val (.long q2), .second, .val (.long q3), .second, .val (.int p4), .val (.int (2 : Int32)), .val (.ref w1), .val (.ref b10), .val (.int (0 : Int32))] [])
    refine Goes.of (fun _ => XS.iconst X12.here hx rfl (hb hby at_53)) ?_
    show Goes p e below _ T12 (mkF m 54 #[.val (.long q1), .second, .val (.long q2), .second, .val (.long q3), .second, .val (.int p4), .val (.int (2 : Int32)), .val (.ref w1), .val (.ref b10), .val (.int (0 : Int32))] [(.int (1 : Int32))])
    refine Goes.of (fun _ => XS.goto X12.here hx rfl (pc0 := 54) (pc' := 58) rfl (hb hby at_54) (by decide) (by decide)) ?_
    show Goes p e below _ T12 (mkF m 58 #[.val (.long q1), .second, .val (.long q2), .second, .val (.long q3), .second, .val (.int p4), .val (.int (2 : Int32)), .val (.ref w1), .val (.ref b10), .val (.int (0 : Int32))] [(.int (1 : Int32))])
    exact retZ (t := .boolean) X12 hx hret hlk (by simp) (hb hby at_58) eT12 (by decide) (by decide) ⟨rfl, N12⟩
  · show Goes p e below _ T (mkF m 9 #[.val (.long q1), .second, .val (.long q2), .second, .val (.long q3), .second, .val (.int p4), .val (.int (3 : Int32)), .unset, .unset, .unset] [])
    refine Goes.of (fun _ => XS.iload X.here hx rfl (hb hby at_9) rfl) ?_
    show Goes p e below _ T (mkF m 11 #[.val (.long q1), .second, .val (.long q2), .second, .val (.long q3), .second, .val (.int p4), .val (.int (3 : Int32)), .unset, .unset, .unset] [(.int (3 : Int32))])
    refine goStatic 0 X hx hZ hown (hw _ (List.mem_of_getElem? (i := 1) rfl)) (hw _ (List.mem_of_getElem? (i := 2) rfl)) (hw _ (List.mem_of_getElem? (i := 3) rfl)) (hw _ (List.mem_of_getElem? (i := 4) rfl)) (by decide) (rm_pick3 l Z a0 hw w0 w1 w2 w3 h0 n0 O0 c0 c1 c2 c3) eT0 (g := (mkF m 11 #[.val (.long q1), .second, .val (.long q2), .second, .val (.long q3), .second, .val (.int p4), .val (.int (3 : Int32)), .unset, .unset, .unset] [(.int (3 : Int32))])) rfl (by rw [hml]; rfl) [(.int (3 : Int32))] [] (lenOf pd__I_Lcom_example_keadby_keadby_model_Verification_Check_ rfl) rfl rfl (by show 2 * 0 + _ ≤ _; exact Nat.le_of_eq rfl) (hb hby at_11) (by decide) (by decide) (by decide) (by decide) ?_
    intro v13 T13 L13 X13 q13
    obtain ⟨rfl, Nq13, eT13⟩ := q13
    have N13 := Fr.app N0 Nq13
    show Goes p e below _ T13 (mkF m 14 #[.val (.long q1), .second, .val (.long q2), .second, .val (.long q3), .second, .val (.int p4), .val (.int (3 : Int32)), .unset, .unset, .unset] [(.ref w2)])
    refine Goes.of (fun _ => XS.astore X13.here hx rfl (hb hby at_14) rfl rfl (l' := #[.val (.long q1), .second, .val (.long q2), .second, .val (.long q3), .second, .val (.int p4), .val (.int (3 : Int32)), .val (.ref w2), .unset, .unset]) rfl) ?_
    show Goes p e below _ T13 (mkF m 16 #[.val (.long q1), .second, .val (.long q2), .second, .val (.long q3), .second, .val (.int p4), .val (.int (3 : Int32)), .val (.ref w2), .unset, .unset] [])
    refine goNew X13 hx hZ hown (hw _ (List.mem_of_getElem? (i := 8) rfl)) (hw _ (List.mem_of_getElem? (i := 9) rfl)) (hw _ (List.mem_of_getElem? (i := 10) rfl)) eT13 (g := (mkF m 16 #[.val (.long q1), .second, .val (.long q2), .second, .val (.long q3), .second, .val (.int p4), .val (.int (3 : Int32)), .val (.ref w2), .unset, .unset] [])) rfl (hb hby at_16) (by decide) (by decide) ?_
    intro T14 h14 b14 X14 eT14 E14 hb14 A14 D14
    have g_b14 : n0 ≤ b14 := Nat.le_trans (oldLe O0) hb14
    have O0 := O0.ext E14
    have F14_events : Fld Z h14 b14 "com/example/keadby/keadby/model/Verification" "events" "J" (.long (0 : Int64)) := D14 (Or.inr (hw _ (List.mem_of_getElem? (i := 23) rfl))) (ty := .long) (by decide)
    have F14_aggregates : Fld Z h14 b14 "com/example/keadby/keadby/model/Verification" "aggregates" "J" (.long (0 : Int64)) := D14 (Or.inr (hw _ (List.mem_of_getElem? (i := 25) rfl))) (ty := .long) (by decide)
    have F14_brokenEventId : Fld Z h14 b14 "com/example/keadby/keadby/model/Verification" "brokenEventId" "J" (.long (0 : Int64)) := D14 (Or.inr (hw _ (List.mem_of_getElem? (i := 27) rfl))) (ty := .long) (by decide)
    have F14_brokenCheck : Fld Z h14 b14 "com/example/keadby/keadby/model/Verification" "brokenCheck" "Lcom/example/keadby/keadby/model/Verification$Check;" .null := D14 (Or.inr (hw _ (List.mem_of_getElem? (i := 29) rfl))) (ty := (.object "com/example/keadby/keadby/model/Verification$Check")) (by decide)
    show Goes p e below _ T14 (mkF m 19 #[.val (.long q1), .second, .val (.long q2), .second, .val (.long q3), .second, .val (.int p4), .val (.int (3 : Int32)), .val (.ref w2), .unset, .unset] [(.ref b14)])
    refine Goes.of (fun _ => XS.dup X14.here hx rfl (hb hby at_19) rfl rfl) ?_
    show Goes p e below _ T14 (mkF m 20 #[.val (.long q1), .second, .val (.long q2), .second, .val (.long q3), .second, .val (.int p4), .val (.int (3 : Int32)), .val (.ref w2), .unset, .unset] [(.ref b14), (.ref b14)])
    refine Goes.of (fun _ => XS.lloadN X14.here hx rfl (hb hby at_20) rfl) ?_
    show Goes p e below _ T14 (mkF m 21 #[.val (.long q1), .second, .val (.long q2), .second, .val (.long q3), .second, .val (.int p4), .val (.int (3 : Int32)), .val (.ref w2), .unset, .unset] [(.long q1), (.ref b14), (.ref b14)])
    refine Goes.of (fun _ => XS.lloadN X14.here hx rfl (hb hby at_21) rfl) ?_
    show Goes p e below _ T14 (mkF m 22 #[.val (.long q1), .second, .val (.long q2), .second, .val (.long q3), .second, .val (.int p4), .val (.int (3 : Int32)), .val (.ref w2), .unset, .unset] [(.long q2), (.long q1), (.ref b14), (.ref b14)])
    refine Goes.of (fun _ => XS.lload X14.here hx rfl (hb hby at_22) rfl) ?_
    show Goes p e below _ T14 (mkF m 24 #[.val (.long q1), .second, .val (.long q2), .second, .val (.long q3), .second, .val (.int p4), .val (.int (3 : Int32)), .val (.ref w2), .unset, .unset] [(.long q3), (.long q2), (.long q1), (.ref b14), (.ref b14)])
    refine Goes.of (fun _ => XS.aload X14.here hx rfl (hb hby at_24) rfl rfl) ?_
    show Goes p e below _ T14 (mkF m 26 #[.val (.long q1), .second, .val (.long q2), .second, .val (.long q3), .second, .val (.int p4), .val (.int (3 : Int32)), .val (.ref w2), .unset, .unset] [(.ref w2), (.long q3), (.long q2), (.long q1), (.ref b14), (.ref b14)])
    refine goSpecial 1 X14 hx hZ rfl hown (hw _ (List.mem_of_getElem? (i := 11) rfl)) (hw _ (List.mem_of_getElem? (i := 12) rfl)) (hw _ (List.mem_of_getElem? (i := 10) rfl)) (hw _ (List.mem_of_getElem? (i := 13) rfl)) (by decide) (rm_initR l Z a0 hw b14 q1 q2 q3 w2 h14 n0 O0 g_b14 A14 F14_events F14_aggregates F14_brokenEventId F14_brokenCheck) eT14 (g := (mkF m 26 #[.val (.long q1), .second, .val (.long q2), .second, .val (.long q3), .second, .val (.int p4), .val (.int (3 : Int32)), .val (.ref w2), .unset, .unset] [(.ref w2), (.long q3), (.long q2), (.long q1), (.ref b14), (.ref b14)])) rfl (by rw [hml]; rfl) b14 [(.long q1), (.long q2), (.long q3), (.ref w2)] [(.ref b14)] (lenOf pd__JJJLcom_example_keadby_keadby_model_Verification_Check__V rfl) rfl rfl (by show 2 * 0 + _ ≤ _; exact Nat.le_of_eq rfl) (hb hby at_26) (by decide) (by decide) (by decide) (by decide) ?_
    intro v15 T15 L15 X15 q15
    obtain ⟨rfl, Nq15, Kq15, Fc15⟩ := q15
    have N15 := Fr.app N13 Nq15
    have A14 := A14.keep Kq15
    have O0 := O0.keep Kq15 (allS g_b14 all0)
    show Goes p e below _ T15 (mkF m 29 #[.val (.long q1), .second, .val (.long q2), .second, .val (.long q3), .second, .val (.int p4), .val (.int (3 : Int32)), .val (.ref w2), .unset, .unset] [(.ref b14)])
    refine Goes.of (fun _ => XS.astore X15.here hx rfl (hb hby at_29) rfl rfl (l' := #[.val (.long q1), .second, .val (.long q2), .second, .val (.long q3), .second, .val (.int p4), .val (.int (3 : Int32)), .val (.ref w2), .val (.ref b14), .unset]) rfl) ?_
    show Goes p e below _ T15 (mkF m 31 #[.val (.long q1), .second, .val (.long q2), .second, .val (.long q3), .second, .val (.int p4), .val (.int (3 : Int32)), .val (.ref w2), .val (.ref b14), .unset] [])
    refine Goes.of (fun _ => XS.iload X15.here hx rfl (hb hby at_31) rfl) ?_
    show Goes p e below _ T15 (mkF m 33 #[.val (.long q1), .second, .val (.long q2), .second, .val (.long q3), .second, .val (.int p4), .val (.int (3 : Int32)), .val (.ref w2), .val (.ref b14), .unset] [(.int (3 : Int32))])
    refine Goes.of (fun _ => XS.ifYes X15.here hx rfl (pc0 := 33) (pc' := 40) rfl (hb hby at_33) rfl ((if0 _ _).trans (feq (by decide)).2) (by decide) (by decide)) ?_
    show Goes p e below _ T15 (mkF m 40 #[.val (.long q1), .second, .val (.long q2), .second, .val (.long q3), .second, .val (.int p4), .val (.int (3 : Int32)), .val (.ref w2), .val (.ref b14), .unset] [])
    refine Goes.of (fun _ => XS.iconst X15.here hx rfl (hb hby at_40)) ?_
    show Goes p e below _ T15 (mkF m 41 #[.val (.long q1), .second, .val (.long q2), .second, .val (.long q3), .second, .val (.int p4), .val (.int (3 : Int32)), .val (.ref w2), .val (.ref b14), .unset] [(.int (0 : Int32))])
    refine Goes.of (fun _ => XS.istore X15.here hx rfl (hb hby at_41) rfl (l' := #[.val (.long q1), .second, .val (.long q2), .second, .val (.long q3), .second, .val (.int p4), .val (.int (3 : Int32)), .val (.ref w2), .val (.ref b14), .val (.int (0 : Int32))]) rfl) ?_
    show Goes p e below _ T15 (mkF m 43 #[.val (.long q1), .second, .val (.long q2), .second, .val (.long q3), .second, .val (.int p4), .val (.int (3 : Int32)), .val (.ref w2), .val (.ref b14), .val (.int (0 : Int32))] [])
    refine Goes.of (fun _ => XS.aload X15.here hx rfl (hb hby at_43) rfl rfl) ?_
    show Goes p e below _ T15 (mkF m 45 #[.val (.long q1), .second, .val (.long q2), .second, .val (.long q3), .second, .val (.int p4), .val (.int (3 : Int32)), .val (.ref w2), .val (.ref b14), .val (.int (0 : Int32))] [(.ref b14)])
    refine goVirtual 0 X15 hx hZ hown (hw _ (List.mem_of_getElem? (i := 30) rfl)) (hw _ (List.mem_of_getElem? (i := 31) rfl)) (notFace_of_selects (args := #[]) (mvT hZ (hw _ (List.mem_of_getElem? (i := 33) rfl)))) (hw _ (List.mem_of_getElem? (i := 33) rfl)) (hw _ (List.mem_of_getElem? (i := 32) rfl)) (hw _ (List.mem_of_getElem? (i := 10) rfl)) (hw _ (List.mem_of_getElem? (i := 34) rfl)) (by decide) (rm_okR l Z a0 hw b14 w2 T15.heap n0 O0 Fc15) (rfl : T15.heap = _) A14 (g := (mkF m 45 #[.val (.long q1), .second, .val (.long q2), .second, .val (.long q3), .second, .val (.int p4), .val (.int (3 : Int32)), .val (.ref w2), .val (.ref b14), .val (.int (0 : Int32))] [(.ref b14)])) rfl (by rw [hml]; rfl) [] [] (lenOf pd___Z rfl) rfl rfl (by show 2 * 0 + _ ≤ _; exact Nat.le_of_eq rfl) (hb hby at_45) (by decide) (by decide) (by decide) (by decide) ?_
    intro v16 T16 L16 X16 q16
    obtain ⟨rfl, Nq16, eT16⟩ := q16
    have N16 := Fr.app N15 Nq16
    show Goes p e below _ T16 (mkF m 48 #[.val (.long q1), .second, .val (.long q2), .second, .val (.long q3), .second, .val (.int p4), .val (.int (3 : Int32)), .val (.ref w2), .val (.ref b14), .val (.int (0 : Int32))] [(.int (0 : Int32))])
    refine Goes.of (fun _ => XS.iload X16.here hx rfl (hb hby at_48) rfl) ?_
    show Goes p e below _ T16 (mkF m 50 #[.val (.long q1), .second, .val (.long q2), .second, .val (.long q3), .second, .val (.int p4), .val (.int (3 : Int32)), .val (.ref w2), .val (.ref b14), .val (.int (0 : Int32))] [(.int (0 : Int32)), (.int (0 : Int32))])
    refine Goes.of (fun _ => XS.icmpNo X16.here hx rfl (hb hby at_50) rfl (teq (by decide)).2) ?_
    show Goes p e below _ T16 (mkF m 53 #[.val (.long q1), .second, .val (.long q2), .second, .val (.long q3), .second, .val (.int p4), .val (.int (3 : Int32)), .val (.ref w2), .val (.ref b14), .val (.int (0 : Int32))] [])
    refine Goes.of (fun _ => XS.iconst X16.here hx rfl (hb hby at_53)) ?_
    show Goes p e below _ T16 (mkF m 54 #[.val (.long q1), .second, .val (.long q2), .second, .val (.long q3), .second, .val (.int p4), .val (.int (3 : Int32)), .val (.ref w2), .val (.ref b14), .val (.int (0 : Int32))] [(.int (1 : Int32))])
    refine Goes.of (fun _ => XS.goto X16.here hx rfl (pc0 := 54) (pc' := 58) rfl (hb hby at_54) (by decide) (by decide)) ?_
    show Goes p e below _ T16 (mkF m 58 #[.val (.long q1), .second, .val (.long q2), .second, .val (.long q3), .second, .val (.int p4), .val (.int (3 : Int32)), .val (.ref w2), .val (.ref b14), .val (.int (0 : Int32))] [(.int (1 : Int32))])
    exact retZ (t := .boolean) X16 hx hret hlk (by simp) (hb hby at_58) eT16 (by decide) (by decide) ⟨rfl, N16⟩
  · show Goes p e below _ T (mkF m 9 #[.val (.long q1), .second, .val (.long q2), .second, .val (.long q3), .second, .val (.int p4), .val (.int (4 : Int32)), .unset, .unset, .unset] [])
    refine Goes.of (fun _ => XS.iload X.here hx rfl (hb hby at_9) rfl) ?_
    show Goes p e below _ T (mkF m 11 #[.val (.long q1), .second, .val (.long q2), .second, .val (.long q3), .second, .val (.int p4), .val (.int (4 : Int32)), .unset, .unset, .unset] [(.int (4 : Int32))])
    refine goStatic 0 X hx hZ hown (hw _ (List.mem_of_getElem? (i := 1) rfl)) (hw _ (List.mem_of_getElem? (i := 2) rfl)) (hw _ (List.mem_of_getElem? (i := 3) rfl)) (hw _ (List.mem_of_getElem? (i := 4) rfl)) (by decide) (rm_pick4 l Z a0 hw w0 w1 w2 w3 h0 n0 O0 c0 c1 c2 c3) eT0 (g := (mkF m 11 #[.val (.long q1), .second, .val (.long q2), .second, .val (.long q3), .second, .val (.int p4), .val (.int (4 : Int32)), .unset, .unset, .unset] [(.int (4 : Int32))])) rfl (by rw [hml]; rfl) [(.int (4 : Int32))] [] (lenOf pd__I_Lcom_example_keadby_keadby_model_Verification_Check_ rfl) rfl rfl (by show 2 * 0 + _ ≤ _; exact Nat.le_of_eq rfl) (hb hby at_11) (by decide) (by decide) (by decide) (by decide) ?_
    intro v17 T17 L17 X17 q17
    obtain ⟨rfl, Nq17, eT17⟩ := q17
    have N17 := Fr.app N0 Nq17
    show Goes p e below _ T17 (mkF m 14 #[.val (.long q1), .second, .val (.long q2), .second, .val (.long q3), .second, .val (.int p4), .val (.int (4 : Int32)), .unset, .unset, .unset] [(.ref w3)])
    refine Goes.of (fun _ => XS.astore X17.here hx rfl (hb hby at_14) rfl rfl (l' := #[.val (.long q1), .second, .val (.long q2), .second, .val (.long q3), .second, .val (.int p4), .val (.int (4 : Int32)), .val (.ref w3), .unset, .unset]) rfl) ?_
    show Goes p e below _ T17 (mkF m 16 #[.val (.long q1), .second, .val (.long q2), .second, .val (.long q3), .second, .val (.int p4), .val (.int (4 : Int32)), .val (.ref w3), .unset, .unset] [])
    refine goNew X17 hx hZ hown (hw _ (List.mem_of_getElem? (i := 8) rfl)) (hw _ (List.mem_of_getElem? (i := 9) rfl)) (hw _ (List.mem_of_getElem? (i := 10) rfl)) eT17 (g := (mkF m 16 #[.val (.long q1), .second, .val (.long q2), .second, .val (.long q3), .second, .val (.int p4), .val (.int (4 : Int32)), .val (.ref w3), .unset, .unset] [])) rfl (hb hby at_16) (by decide) (by decide) ?_
    intro T18 h18 b18 X18 eT18 E18 hb18 A18 D18
    have g_b18 : n0 ≤ b18 := Nat.le_trans (oldLe O0) hb18
    have O0 := O0.ext E18
    have F18_events : Fld Z h18 b18 "com/example/keadby/keadby/model/Verification" "events" "J" (.long (0 : Int64)) := D18 (Or.inr (hw _ (List.mem_of_getElem? (i := 23) rfl))) (ty := .long) (by decide)
    have F18_aggregates : Fld Z h18 b18 "com/example/keadby/keadby/model/Verification" "aggregates" "J" (.long (0 : Int64)) := D18 (Or.inr (hw _ (List.mem_of_getElem? (i := 25) rfl))) (ty := .long) (by decide)
    have F18_brokenEventId : Fld Z h18 b18 "com/example/keadby/keadby/model/Verification" "brokenEventId" "J" (.long (0 : Int64)) := D18 (Or.inr (hw _ (List.mem_of_getElem? (i := 27) rfl))) (ty := .long) (by decide)
    have F18_brokenCheck : Fld Z h18 b18 "com/example/keadby/keadby/model/Verification" "brokenCheck" "Lcom/example/keadby/keadby/model/Verification$Check;" .null := D18 (Or.inr (hw _ (List.mem_of_getElem? (i := 29) rfl))) (ty := (.object "com/example/keadby/keadby/model/Verification$Check")) (by decide)
    show Goes p e below _ T18 (mkF m 19 #[.val (.long q1), .second, .val (.long q2), .second, .val (.long q3), .second, .val (.int p4), .val (.int (4 : Int32)), .val (.ref w3), .unset, .unset] [(.ref b18)])
    refine Goes.of (fun _ => XS.dup X18.here hx rfl (hb hby at_19) rfl rfl) ?_
    show Goes p e below _ T18 (mkF m 20 #[.val (.long q1), .second, .val (.long q2), .second, .val (.long q3), .second, .val (.int p4), .val (.int (4 : Int32)), .val (.ref w3), .unset, .unset] [(.ref b18), (.ref b18)])
    refine Goes.of (fun _ => XS.lloadN X18.here hx rfl (hb hby at_20) rfl) ?_
    show Goes p e below _ T18 (mkF m 21 #[.val (.long q1), .second, .val (.long q2), .second, .val (.long q3), .second, .val (.int p4), .val (.int (4 : Int32)), .val (.ref w3), .unset, .unset] [(.long q1), (.ref b18), (.ref b18)])
    refine Goes.of (fun _ => XS.lloadN X18.here hx rfl (hb hby at_21) rfl) ?_
    show Goes p e below _ T18 (mkF m 22 #[.val (.long q1), .second, .val (.long q2), .second, .val (.long q3), .second, .val (.int p4), .val (.int (4 : Int32)), .val (.ref w3), .unset, .unset] [(.long q2), (.long q1), (.ref b18), (.ref b18)])
    refine Goes.of (fun _ => XS.lload X18.here hx rfl (hb hby at_22) rfl) ?_
    show Goes p e below _ T18 (mkF m 24 #[.val (.long q1), .second, .val (.long q2), .second, .val (.long q3), .second, .val (.int p4), .val (.int (4 : Int32)), .val (.ref w3), .unset, .unset] [(.long q3), (.long q2), (.long q1), (.ref b18), (.ref b18)])
    refine Goes.of (fun _ => XS.aload X18.here hx rfl (hb hby at_24) rfl rfl) ?_
    show Goes p e below _ T18 (mkF m 26 #[.val (.long q1), .second, .val (.long q2), .second, .val (.long q3), .second, .val (.int p4), .val (.int (4 : Int32)), .val (.ref w3), .unset, .unset] [(.ref w3), (.long q3), (.long q2), (.long q1), (.ref b18), (.ref b18)])
    refine goSpecial 1 X18 hx hZ rfl hown (hw _ (List.mem_of_getElem? (i := 11) rfl)) (hw _ (List.mem_of_getElem? (i := 12) rfl)) (hw _ (List.mem_of_getElem? (i := 10) rfl)) (hw _ (List.mem_of_getElem? (i := 13) rfl)) (by decide) (rm_initR l Z a0 hw b18 q1 q2 q3 w3 h18 n0 O0 g_b18 A18 F18_events F18_aggregates F18_brokenEventId F18_brokenCheck) eT18 (g := (mkF m 26 #[.val (.long q1), .second, .val (.long q2), .second, .val (.long q3), .second, .val (.int p4), .val (.int (4 : Int32)), .val (.ref w3), .unset, .unset] [(.ref w3), (.long q3), (.long q2), (.long q1), (.ref b18), (.ref b18)])) rfl (by rw [hml]; rfl) b18 [(.long q1), (.long q2), (.long q3), (.ref w3)] [(.ref b18)] (lenOf pd__JJJLcom_example_keadby_keadby_model_Verification_Check__V rfl) rfl rfl (by show 2 * 0 + _ ≤ _; exact Nat.le_of_eq rfl) (hb hby at_26) (by decide) (by decide) (by decide) (by decide) ?_
    intro v19 T19 L19 X19 q19
    obtain ⟨rfl, Nq19, Kq19, Fc19⟩ := q19
    have N19 := Fr.app N17 Nq19
    have A18 := A18.keep Kq19
    have O0 := O0.keep Kq19 (allS g_b18 all0)
    show Goes p e below _ T19 (mkF m 29 #[.val (.long q1), .second, .val (.long q2), .second, .val (.long q3), .second, .val (.int p4), .val (.int (4 : Int32)), .val (.ref w3), .unset, .unset] [(.ref b18)])
    refine Goes.of (fun _ => XS.astore X19.here hx rfl (hb hby at_29) rfl rfl (l' := #[.val (.long q1), .second, .val (.long q2), .second, .val (.long q3), .second, .val (.int p4), .val (.int (4 : Int32)), .val (.ref w3), .val (.ref b18), .unset]) rfl) ?_
    show Goes p e below _ T19 (mkF m 31 #[.val (.long q1), .second, .val (.long q2), .second, .val (.long q3), .second, .val (.int p4), .val (.int (4 : Int32)), .val (.ref w3), .val (.ref b18), .unset] [])
    refine Goes.of (fun _ => XS.iload X19.here hx rfl (hb hby at_31) rfl) ?_
    show Goes p e below _ T19 (mkF m 33 #[.val (.long q1), .second, .val (.long q2), .second, .val (.long q3), .second, .val (.int p4), .val (.int (4 : Int32)), .val (.ref w3), .val (.ref b18), .unset] [(.int (4 : Int32))])
    refine Goes.of (fun _ => XS.ifYes X19.here hx rfl (pc0 := 33) (pc' := 40) rfl (hb hby at_33) rfl ((if0 _ _).trans (feq (by decide)).2) (by decide) (by decide)) ?_
    show Goes p e below _ T19 (mkF m 40 #[.val (.long q1), .second, .val (.long q2), .second, .val (.long q3), .second, .val (.int p4), .val (.int (4 : Int32)), .val (.ref w3), .val (.ref b18), .unset] [])
    refine Goes.of (fun _ => XS.iconst X19.here hx rfl (hb hby at_40)) ?_
    show Goes p e below _ T19 (mkF m 41 #[.val (.long q1), .second, .val (.long q2), .second, .val (.long q3), .second, .val (.int p4), .val (.int (4 : Int32)), .val (.ref w3), .val (.ref b18), .unset] [(.int (0 : Int32))])
    refine Goes.of (fun _ => XS.istore X19.here hx rfl (hb hby at_41) rfl (l' := #[.val (.long q1), .second, .val (.long q2), .second, .val (.long q3), .second, .val (.int p4), .val (.int (4 : Int32)), .val (.ref w3), .val (.ref b18), .val (.int (0 : Int32))]) rfl) ?_
    show Goes p e below _ T19 (mkF m 43 #[.val (.long q1), .second, .val (.long q2), .second, .val (.long q3), .second, .val (.int p4), .val (.int (4 : Int32)), .val (.ref w3), .val (.ref b18), .val (.int (0 : Int32))] [])
    refine Goes.of (fun _ => XS.aload X19.here hx rfl (hb hby at_43) rfl rfl) ?_
    show Goes p e below _ T19 (mkF m 45 #[.val (.long q1), .second, .val (.long q2), .second, .val (.long q3), .second, .val (.int p4), .val (.int (4 : Int32)), .val (.ref w3), .val (.ref b18), .val (.int (0 : Int32))] [(.ref b18)])
    refine goVirtual 0 X19 hx hZ hown (hw _ (List.mem_of_getElem? (i := 30) rfl)) (hw _ (List.mem_of_getElem? (i := 31) rfl)) (notFace_of_selects (args := #[]) (mvT hZ (hw _ (List.mem_of_getElem? (i := 33) rfl)))) (hw _ (List.mem_of_getElem? (i := 33) rfl)) (hw _ (List.mem_of_getElem? (i := 32) rfl)) (hw _ (List.mem_of_getElem? (i := 10) rfl)) (hw _ (List.mem_of_getElem? (i := 34) rfl)) (by decide) (rm_okR l Z a0 hw b18 w3 T19.heap n0 O0 Fc19) (rfl : T19.heap = _) A18 (g := (mkF m 45 #[.val (.long q1), .second, .val (.long q2), .second, .val (.long q3), .second, .val (.int p4), .val (.int (4 : Int32)), .val (.ref w3), .val (.ref b18), .val (.int (0 : Int32))] [(.ref b18)])) rfl (by rw [hml]; rfl) [] [] (lenOf pd___Z rfl) rfl rfl (by show 2 * 0 + _ ≤ _; exact Nat.le_of_eq rfl) (hb hby at_45) (by decide) (by decide) (by decide) (by decide) ?_
    intro v20 T20 L20 X20 q20
    obtain ⟨rfl, Nq20, eT20⟩ := q20
    have N20 := Fr.app N19 Nq20
    show Goes p e below _ T20 (mkF m 48 #[.val (.long q1), .second, .val (.long q2), .second, .val (.long q3), .second, .val (.int p4), .val (.int (4 : Int32)), .val (.ref w3), .val (.ref b18), .val (.int (0 : Int32))] [(.int (0 : Int32))])
    refine Goes.of (fun _ => XS.iload X20.here hx rfl (hb hby at_48) rfl) ?_
    show Goes p e below _ T20 (mkF m 50 #[.val (.long q1), .second, .val (.long q2), .second, .val (.long q3), .second, .val (.int p4), .val (.int (4 : Int32)), .val (.ref w3), .val (.ref b18), .val (.int (0 : Int32))] [(.int (0 : Int32)), (.int (0 : Int32))])
    refine Goes.of (fun _ => XS.icmpNo X20.here hx rfl (hb hby at_50) rfl (teq (by decide)).2) ?_
    show Goes p e below _ T20 (mkF m 53 #[.val (.long q1), .second, .val (.long q2), .second, .val (.long q3), .second, .val (.int p4), .val (.int (4 : Int32)), .val (.ref w3), .val (.ref b18), .val (.int (0 : Int32))] [])
    refine Goes.of (fun _ => XS.iconst X20.here hx rfl (hb hby at_53)) ?_
    show Goes p e below _ T20 (mkF m 54 #[.val (.long q1), .second, .val (.long q2), .second, .val (.long q3), .second, .val (.int p4), .val (.int (4 : Int32)), .val (.ref w3), .val (.ref b18), .val (.int (0 : Int32))] [(.int (1 : Int32))])
    refine Goes.of (fun _ => XS.goto X20.here hx rfl (pc0 := 54) (pc' := 58) rfl (hb hby at_54) (by decide) (by decide)) ?_
    show Goes p e below _ T20 (mkF m 58 #[.val (.long q1), .second, .val (.long q2), .second, .val (.long q3), .second, .val (.int p4), .val (.int (4 : Int32)), .val (.ref w3), .val (.ref b18), .val (.int (0 : Int32))] [(.int (1 : Int32))])
    exact retZ (t := .boolean) X20 hx hret hlk (by simp) (hb hby at_58) eT20 (by decide) (by decide) ⟨rfl, N20⟩
set_option maxRecDepth 65536 in
set_option maxHeartbeats 40000000 in
theorem comes_1 {Post : Tables → Env → Array Value → State → Outcome → State → Prop} (hpost : ∀ tb e args s v u, (limb_1_1.after args s (.returned v) u = true ∧ limb_1_2.after args s (.returned v) u = true ∧ True) → FrameEnd s (.returned v) u (Jvm.fieldLocs frame_1_writes args s ++ Jvm.arrayLocs frame_1_arrays args s ++ Jvm.staticLocs frame_1_statics s) 16 128 → Post tb e args s (.returned v) u) :
    ArmFor flags0 classFile x code maxLocals ret World_1 tables_1 room_1 Calls_1 rest_1 Pre_1 Post := by
  intro l hfl _ _ p e ha hc hk s m args below hf hA hF happ hP
  obtain ⟨hcalls, hrest, hpre⟩ := hP
  obtain ⟨-, -, -, hnamed, -, -, -, hat⟩ := (Spec.applies_iff hf).mp happ
  obtain ⟨hg, hn⟩ := and_e (Cond.before_iff.mp (show (Jvm.Cond.and given_1 narrow_1).before args s = true from hpre))
  obtain ⟨hcount, hg0⟩ := and_e hg
  obtain ⟨hv0, hg1⟩ := and_e hg0
  obtain ⟨hv1, hg2⟩ := and_e hg1
  obtain ⟨hv2, hg3⟩ := and_e hg2
  have hv3 := hg3
  obtain ⟨w0, w1, w2, w3, rfl⟩ : ∃ w0 w1 w2 w3 : Value, args = #[w0, w1, w2, w3] := by
    have hs : args.size = 4 := by simpa [Cond.value, given_1] using hcount
    obtain ⟨L⟩ := args
    match L, hs with
    | [w0, w1, w2, w3], _ => exact ⟨w0, w1, w2, w3, rfl⟩
  have hw := fun d (hd : d ∈ tables_1) => atoms_spec (ws := Jvm.Cond.code x code maxLocals ret :: tables_1) hat d (List.mem_cons_of_mem _ hd)
  have hfit : Fit s := fun {y c} hc i hi => by
    obtain ⟨ha, rfl⟩ := Array.getElem?_eq_some_iff.mp hc
    have q := List.all_eq_true.mp ((Array.all_eq_true_iff_forall_mem.mp hF) _ (Array.getElem_mem ha)) i (List.mem_range.mpr hi)
    simpa [Array.getElem?_eq_getElem hi] using q
  obtain ⟨i0, ei0⟩ := isL_v hv0
  obtain rfl : w0 = (.long i0) := Option.some.inj ei0
  obtain ⟨i1, ei1⟩ := isL_v hv1
  obtain rfl : w1 = (.long i1) := Option.some.inj ei1
  obtain ⟨i2, ei2⟩ := isL_v hv2
  obtain rfl : w2 = (.long i2) := Option.some.inj ei2
  obtain ⟨i3, ei3⟩ := is_v hv3
  obtain rfl : w3 = (.int i3) := Option.some.inj ei3
  obtain ⟨nw0, nr0⟩ := and_e hn
  obtain ⟨nw1, nr1⟩ := and_e nr0
  obtain ⟨nw2, nr2⟩ := and_e nr1
  have nw3 := nr2
  obtain ⟨w0', c0, ev0⟩ := cst_of nw2 (hw _ (List.mem_of_getElem? (i := 6) rfl)) (hw _ (List.mem_of_getElem? (i := 38) rfl))
  obtain ⟨w1', c1, ev1⟩ := cst_of nw0 (hw _ (List.mem_of_getElem? (i := 6) rfl)) (hw _ (List.mem_of_getElem? (i := 7) rfl))
  obtain ⟨w2', c2, ev2⟩ := cst_of nw3 (hw _ (List.mem_of_getElem? (i := 6) rfl)) (hw _ (List.mem_of_getElem? (i := 40) rfl))
  obtain ⟨w3', c3, ev3⟩ := cst_of nw1 (hw _ (List.mem_of_getElem? (i := 6) rfl)) (hw _ (List.mem_of_getElem? (i := 36) rfl))
  obtain ⟨n, o, h1, h2, h3, _, L, rfl, ⟨rfl, N⟩, hq⟩ := rm_law l s _ hw tables_1 i0 i1 i2 i3 w0' w1' w2' w3' s.heap s.heap.size (Old.start s) c0 c1 c2 c3 p e ha hc hk s m _ below hf ((Spec.applies_iff_loose hf).mp happ).1 ⟨rfl, State.Warmed39.refl s, rfl⟩ trivial
  refine ⟨n, _, h1, h2, h3, hpost _ _ _ _ _ _ ⟨Cond.after_iff.mpr rfl, Cond.after_iff.mpr (eq_i res_at (Term.int_eval (1)) rfl), trivial⟩ ⟨hq.1, hq.2.1, (hq.2.2.sift fun y hy => Or.inr (N y hy)).mono (by decide) (by decide)⟩⟩
theorem main_1_1 : Claimed_1_1 := comes_1 fun _ _ _ _ _ _ h hF => ⟨h.1, hF⟩
theorem main_1_2 : Claimed_1_2 := comes_1 fun _ _ _ _ _ _ h hF => ⟨h.2.1, hF⟩
end Jvm.Pilot.@@N@@
namespace Jvm.Pilot.@@N@@
open Jvm Jvm.ClassFile Sem Op Lib Jvm.Free Jvm.Stand Jvm.Pilot.@@N@@.Jvm.D
/-! MADE BY PROGRAM (witnessworld.py) out of the Statement's table words and the real class files: 14 classes; the members and pool entries that the words name. The judged class is class 1, her method 2. -/
namespace start1
open Jvm.ClassFile
def u (s : String) : CpInfo := .utf8 (stringToUtf16 s)
/-- a pool by its gaps: so many unusable entries, then the entry; so many at the end -/
def gap : Nat → List CpInfo → List CpInfo
  | 0, r => r
  | n + 1, r => .unusable :: gap n r
def poolList (es : List (Nat × CpInfo)) (last : Nat) : List CpInfo := es.foldr (fun e r => gap e.1 (e.2 :: r)) (gap last [])
def pool (es : List (Nat × CpInfo)) (last : Nat) : Array CpInfo := ⟨poolList es last⟩
def fileOf (pool : Array CpInfo) (this : Nat) (attrs : Array Attribute := #[]) (ms : Array MethodInfo := #[]) (fl : Nat := 33) (sup : Nat := 0) (ifs : Array Nat := #[]) (fds : Array FieldInfo := #[]) : ClassFile where
  minorVersion := 0
  majorVersion := 65
  constantPool := pool
  accessFlags := fl
  thisClass := this
  superClass := sup
  interfaces := ifs
  fields := fds
  methods := ms
  attributes := attrs
def plain (name : String) (sup : Option ClassId) : Class where
  name := name
  kind := .ordinary
  loader := none
  accessFlags := 33
  super := sup
  interfaces := #[]
  cf := none
  fields := #[]
  methods := #[]
  instanceTypes := #[]
  staticTypes := #[]
  resolved := #[]
  callSites := []
  init := .initialized
  statics := none
  mirror := none

def pool0 : Array CpInfo := pool [(5, u "<init>"), (0, u "()V"), (1, .class_ 10), (1, u "java/lang/Object")] 113

def k0c0 : Code := { maxStack := 0, maxLocals := 1, code := object_method_1_code, exceptionTable := #[], attributes := #[] }
def k0m0 : Method := { name := "<init>", desc := "()V", sig := { parameters := [], returnType := none }, accessFlags := 1, code := some k0c0 }
/-- java/lang/Object -/
def k0 : Class := { plain "java/lang/Object" none with
  accessFlags := 33
  interfaces := #[]
  cf := some (fileOf pool0 8 #[] #[{ accessFlags := 1, nameIndex := 5, descriptorIndex := 6, attributes := #[] }] 33 0 #[] #[])
  fields := #[]
  methods := #[k0m0]
  instanceTypes := #[]
  staticTypes := #[]
  resolved := Array.replicate 124 none
  statics := none }

def pool1 : Array CpInfo := pool [(2, .class_ 4), (1, u "java/lang/Object"), (0, u "<init>"), (0, u "()V"), (0, .fieldref 8 9), (0, .class_ 10), (0, .nameAndType 11 12), (0, u "com/example/keadby/keadby/model/Verification$Check"), (0, u "PAYLOAD"), (0, u "Lcom/example/keadby/keadby/model/Verification$Check;"), (0, .fieldref 8 14), (0, .nameAndType 15 12), (0, u "HASH"), (0, .fieldref 8 17), (0, .nameAndType 18 12), (0, u "LINK"), (0, .fieldref 8 20), (0, .nameAndType 21 12), (0, u "HEAD"), (0, .integer 2147483647), (0, .methodref 24 25), (0, .class_ 26), (0, .nameAndType 27 28), (0, u "com/example/keadby/keadby/model/VerificationOkPinLaw"), (0, u "pick"), (0, u "(I)Lcom/example/keadby/keadby/model/Verification$Check;"), (0, .class_ 30), (0, u "com/example/keadby/keadby/model/Verification"), (0, .methodref 29 32), (0, .nameAndType 5 33), (0, u "(JJJLcom/example/keadby/keadby/model/Verification$Check;)V"), (0, .methodref 29 35), (0, .nameAndType 36 37), (0, u "ok"), (0, u "()Z"), (3, u "law"), (0, u "(JJJI)Z")] 4

def k1m0 : Method := { name := "<init>", desc := "()V", sig := { parameters := [], returnType := none }, accessFlags := 1, code := none }
def k1c1 : Code := { maxStack := 2, maxLocals := 1, code := method_2_code, exceptionTable := #[], attributes := #[] }
def k1m1 : Method := { name := "pick", desc := "(I)Lcom/example/keadby/keadby/model/Verification$Check;", sig := { parameters := [.int], returnType := some (.object "com/example/keadby/keadby/model/Verification$Check") }, accessFlags := 10, code := some k1c1 }
def k1c2 : Code := { maxStack := 9, maxLocals := 11, code := code, exceptionTable := #[], attributes := #[] }
def k1m2 : Method := { name := "law", desc := "(JJJI)Z", sig := { parameters := [.long, .long, .long, .int], returnType := some .boolean }, accessFlags := 9, code := some k1c2 }
/-- com/example/keadby/keadby/model/VerificationOkPinLaw -/
def k1 : Class := { plain "com/example/keadby/keadby/model/VerificationOkPinLaw" (some 0) with
  accessFlags := 49
  interfaces := #[]
  cf := some (fileOf pool1 24 #[] #[{ accessFlags := 1, nameIndex := 5, descriptorIndex := 6, attributes := #[] }, { accessFlags := 10, nameIndex := 27, descriptorIndex := 28, attributes := #[] }, { accessFlags := 9, nameIndex := 41, descriptorIndex := 42, attributes := #[] }] 49 2 #[] #[])
  fields := #[]
  methods := #[k1m0, k1m1, k1m2]
  instanceTypes := #[]
  staticTypes := #[]
  resolved := Array.replicate 47 none
  statics := none }

def pool2 : Array CpInfo := pool [(1, .class_ 2), (0, u "java/lang/constant/Constable"), (0, .class_ 4), (0, u "java/lang/Object")] 6

/-- java/lang/constant/Constable -/
def k2 : Class := { plain "java/lang/constant/Constable" (some 0) with
  accessFlags := 1537
  interfaces := #[]
  cf := some (fileOf pool2 1 #[] #[] 1537 3 #[] #[])
  fields := #[]
  methods := #[]
  instanceTypes := #[]
  staticTypes := #[]
  resolved := Array.replicate 11 none
  statics := none }

def pool3 : Array CpInfo := pool [(1, .class_ 2), (0, u "java/lang/Comparable"), (0, .class_ 4), (0, u "java/lang/Object")] 7

/-- java/lang/Comparable -/
def k3 : Class := { plain "java/lang/Comparable" (some 0) with
  accessFlags := 1537
  interfaces := #[]
  cf := some (fileOf pool3 1 #[] #[] 1537 3 #[] #[])
  fields := #[]
  methods := #[]
  instanceTypes := #[]
  staticTypes := #[]
  resolved := Array.replicate 12 none
  statics := none }

def pool4 : Array CpInfo := pool [(1, .class_ 2), (0, u "java/io/Serializable"), (0, .class_ 4), (0, u "java/lang/Object")] 2

/-- java/io/Serializable -/
def k4 : Class := { plain "java/io/Serializable" (some 0) with
  accessFlags := 1537
  interfaces := #[]
  cf := some (fileOf pool4 1 #[] #[] 1537 3 #[] #[])
  fields := #[]
  methods := #[]
  instanceTypes := #[]
  staticTypes := #[]
  resolved := Array.replicate 7 none
  statics := none }

def pool5 : Array CpInfo := pool [(2, .class_ 4), (1, u "java/lang/Enum"), (0, u "name"), (0, u "Ljava/lang/String;"), (2, u "ordinal"), (0, u "I"), (1, .class_ 14), (1, u "java/lang/Object"), (4, u "hash"), (86, .class_ 108), (1, u "java/lang/Enum$EnumDesc"), (2, .class_ 112), (0, u "java/lang/constant/Constable"), (0, .class_ 114), (0, u "java/lang/Comparable"), (0, .class_ 116), (0, u "java/io/Serializable")] 87

/-- java/lang/Enum -/
def k5 : Class := { plain "java/lang/Enum" (some 0) with
  accessFlags := 1057
  interfaces := #[2, 3, 4]
  cf := some (fileOf pool5 2 #[.nestMembers #[106]] #[] 1057 12 #[111, 113, 115] #[{ accessFlags := 18, nameIndex := 5, descriptorIndex := 6, attributes := #[] }, { accessFlags := 18, nameIndex := 9, descriptorIndex := 10, attributes := #[] }, { accessFlags := 2, nameIndex := 19, descriptorIndex := 10, attributes := #[] }])
  fields := #[{ name := "name", type := (.object "java/lang/String"), accessFlags := 18, slot := 0, constantValue := 0 }, { name := "ordinal", type := .int, accessFlags := 18, slot := 1, constantValue := 0 }, { name := "hash", type := .int, accessFlags := 2, slot := 2, constantValue := 0 }]
  methods := #[]
  instanceTypes := #[(.object "java/lang/String"), .int, .int]
  staticTypes := #[]
  resolved := Array.replicate 204 none
  statics := none }

def pool6 : Array CpInfo := pool [(1, .class_ 2), (0, u "com/example/keadby/keadby/model/Verification$Check"), (2, u "PAYLOAD"), (0, u "Lcom/example/keadby/keadby/model/Verification$Check;"), (2, u "HASH"), (2, u "LINK"), (2, u "HEAD"), (2, u "$VALUES"), (0, u "[Lcom/example/keadby/keadby/model/Verification$Check;"), (6, .class_ 28), (1, u "java/lang/Enum"), (35, .class_ 65), (0, u "com/example/keadby/keadby/model/Verification")] 2

/-- com/example/keadby/keadby/model/Verification$Check -/
def k6 : Class := { plain "com/example/keadby/keadby/model/Verification$Check" (some 5) with
  accessFlags := 16433
  interfaces := #[]
  cf := some (fileOf pool6 1 #[.nestHost 64] #[] 16433 26 #[] #[{ accessFlags := 16409, nameIndex := 5, descriptorIndex := 6, attributes := #[] }, { accessFlags := 16409, nameIndex := 9, descriptorIndex := 6, attributes := #[] }, { accessFlags := 16409, nameIndex := 12, descriptorIndex := 6, attributes := #[] }, { accessFlags := 16409, nameIndex := 15, descriptorIndex := 6, attributes := #[] }, { accessFlags := 4122, nameIndex := 18, descriptorIndex := 19, attributes := #[] }])
  fields := #[{ name := "PAYLOAD", type := (.object "com/example/keadby/keadby/model/Verification$Check"), accessFlags := 16409, slot := 0, constantValue := 0 }, { name := "HASH", type := (.object "com/example/keadby/keadby/model/Verification$Check"), accessFlags := 16409, slot := 1, constantValue := 0 }, { name := "LINK", type := (.object "com/example/keadby/keadby/model/Verification$Check"), accessFlags := 16409, slot := 2, constantValue := 0 }, { name := "HEAD", type := (.object "com/example/keadby/keadby/model/Verification$Check"), accessFlags := 16409, slot := 3, constantValue := 0 }, { name := "$VALUES", type := (.array (.object "com/example/keadby/keadby/model/Verification$Check")), accessFlags := 4122, slot := 4, constantValue := 0 }]
  methods := #[]
  instanceTypes := #[(.object "java/lang/String"), .int, .int]
  staticTypes := #[(.object "com/example/keadby/keadby/model/Verification$Check"), (.object "com/example/keadby/keadby/model/Verification$Check"), (.object "com/example/keadby/keadby/model/Verification$Check"), (.object "com/example/keadby/keadby/model/Verification$Check"), (.array (.object "com/example/keadby/keadby/model/Verification$Check"))]
  resolved := Array.replicate 68 none
  statics := some 0 }

def pool7 : Array CpInfo := pool [(1, .methodref 2 3), (0, .class_ 4), (0, .nameAndType 5 6), (0, u "java/lang/Object"), (0, u "<init>"), (0, u "()V"), (0, .class_ 8), (0, u "java/lang/Record")] 13

def k7c0 : Code := { maxStack := 1, maxLocals := 1, code := jdk_30_method_1_code, exceptionTable := #[], attributes := #[] }
def k7m0 : Method := { name := "<init>", desc := "()V", sig := { parameters := [], returnType := none }, accessFlags := 4, code := some k7c0 }
/-- java/lang/Record -/
def k7 : Class := { plain "java/lang/Record" (some 0) with
  accessFlags := 1057
  interfaces := #[]
  cf := some (fileOf pool7 7 #[] #[{ accessFlags := 4, nameIndex := 5, descriptorIndex := 6, attributes := #[] }] 1057 2 #[] #[])
  fields := #[]
  methods := #[k7m0]
  instanceTypes := #[]
  staticTypes := #[]
  resolved := Array.replicate 22 none
  statics := none }

def pool8 : Array CpInfo := pool [(1, .methodref 2 3), (0, .class_ 4), (0, .nameAndType 5 6), (0, u "java/lang/Record"), (0, u "<init>"), (0, u "()V"), (0, .fieldref 8 9), (0, .class_ 10), (0, .nameAndType 11 12), (0, u "com/example/keadby/keadby/model/Verification"), (0, u "events"), (0, u "J"), (0, .fieldref 8 14), (0, .nameAndType 15 12), (0, u "aggregates"), (0, .fieldref 8 17), (0, .nameAndType 18 12), (0, u "brokenEventId"), (0, .fieldref 8 20), (0, .nameAndType 21 22), (0, u "brokenCheck"), (0, u "Lcom/example/keadby/keadby/model/Verification$Check;"), (12, u "(JJJLcom/example/keadby/keadby/model/Verification$Check;)V"), (3, u "ok"), (0, u "()Z"), (9, .class_ 51), (0, u "com/example/keadby/keadby/model/Verification$Check")] 22

def k8c0 : Code := { maxStack := 3, maxLocals := 8, code := prog_16_method_1_code, exceptionTable := #[], attributes := #[] }
def k8m0 : Method := { name := "<init>", desc := "(JJJLcom/example/keadby/keadby/model/Verification$Check;)V", sig := { parameters := [.long, .long, .long, (.object "com/example/keadby/keadby/model/Verification$Check")], returnType := none }, accessFlags := 1, code := some k8c0 }
def k8c1 : Code := { maxStack := 1, maxLocals := 1, code := prog_16_method_2_code, exceptionTable := #[], attributes := #[] }
def k8m1 : Method := { name := "ok", desc := "()Z", sig := { parameters := [], returnType := some .boolean }, accessFlags := 1, code := some k8c1 }
/-- com/example/keadby/keadby/model/Verification -/
def k8 : Class := { plain "com/example/keadby/keadby/model/Verification" (some 7) with
  accessFlags := 49
  interfaces := #[]
  cf := some (fileOf pool8 8 #[.nestMembers #[50]] #[{ accessFlags := 1, nameIndex := 5, descriptorIndex := 35, attributes := #[] }, { accessFlags := 1, nameIndex := 39, descriptorIndex := 40, attributes := #[] }] 49 2 #[] #[{ accessFlags := 18, nameIndex := 11, descriptorIndex := 12, attributes := #[] }, { accessFlags := 18, nameIndex := 15, descriptorIndex := 12, attributes := #[] }, { accessFlags := 18, nameIndex := 18, descriptorIndex := 12, attributes := #[] }, { accessFlags := 18, nameIndex := 21, descriptorIndex := 22, attributes := #[] }])
  fields := #[{ name := "events", type := .long, accessFlags := 18, slot := 0, constantValue := 0 }, { name := "aggregates", type := .long, accessFlags := 18, slot := 1, constantValue := 0 }, { name := "brokenEventId", type := .long, accessFlags := 18, slot := 2, constantValue := 0 }, { name := "brokenCheck", type := (.object "com/example/keadby/keadby/model/Verification$Check"), accessFlags := 18, slot := 3, constantValue := 0 }]
  methods := #[k8m0, k8m1]
  instanceTypes := #[.long, .long, .long, (.object "com/example/keadby/keadby/model/Verification$Check")]
  staticTypes := #[]
  resolved := Array.replicate 74 none
  statics := none }

def pool9 : Array CpInfo := pool [(1, u "java/lang/Cloneable"), (0, .class_ 1), (0, u "java/lang/Object"), (0, .class_ 3)] 3

/-- java/lang/Cloneable -/
def k9 : Class := { plain "java/lang/Cloneable" (some 0) with
  accessFlags := 1537
  interfaces := #[]
  cf := some (fileOf pool9 2 #[] #[] 1537 4 #[] #[])
  fields := #[]
  methods := #[]
  instanceTypes := #[]
  staticTypes := #[]
  resolved := Array.replicate 8 none
  statics := none }

/-- the primitive byte -/
def k10 : Class := { plain "byte" none with kind := .primitive 'B', accessFlags := 0x411 }
/-- [B -/
def k11 : Class := { plain "[B" (some 0) with kind := .array 10 .byte, interfaces := #[9, 4], accessFlags := 1041 }

/-- the primitive int -/
def k12 : Class := { plain "int" none with kind := .primitive 'I', accessFlags := 0x411 }
/-- [I -/
def k13 : Class := { plain "[I" (some 0) with kind := .array 12 .int, interfaces := #[9, 4], accessFlags := 1041 }

def heap : Heap := #[{ cls := 6, slots := #[.ref 3, .ref 1, .ref 4, .ref 2, .null], vm := .statics 6 },
  { cls := 6, slots := #[.null, .int 0, .int 0], vm := .none },
  { cls := 6, slots := #[.null, .int 0, .int 0], vm := .none },
  { cls := 6, slots := #[.null, .int 0, .int 0], vm := .none },
  { cls := 6, slots := #[.null, .int 0, .int 0], vm := .none }]
def classes : Array Class := #[k0, k1, k2, k3, k4, k5, k6, k7, k8, k9, k10, k11, k12, k13]
def interned : List (Array UInt16 × Addr) := []
def slotsUsed : Nat := 17
def theMethod : MethodId := ⟨1, 2⟩
def args0 : Array Value := #[.long 5, .long 7, .long 9, .int 3]
def aboutOver (below : List Frame) : State where
  vm := { classes := classes, interned := interned.toArray }
  heap := heap
  slotsUsed := slotsUsed
  threads := #[{ frames := .invoking theMethod args0 :: below }]
def below0 : List Frame := [.native { method := ⟨0, 0⟩, args := #[] }]
def about1 : State := aboutOver below0
def p0 : Program := .bare "" "" ""
def e0 : Env := launch0.env 0 0 0
theorem w_frames : about1.frames = Frame.invoking theMethod args0 :: below0 := rfl
set_option maxRecDepth 65536 in
theorem w_args : argsFit about1.vm theMethod args0 = true := by decide +kernel
set_option maxRecDepth 65536 in
theorem w_heap : heapFits about1 = true := by decide +kernel
set_option maxRecDepth 65536 in
theorem w_runnable : about1.curStatus? = some .runnable := by decide +kernel
set_option maxRecDepth 65536 in
theorem w_alone : about1.alone = true := by decide +kernel
set_option maxRecDepth 65536 in
theorem w_named : about1.methodNamed? x = some theMethod := by decide +kernel
set_option maxRecDepth 65536 in
theorem w_hears : about1.hears theMethod below0 = true := by decide +kernel
set_option maxRecDepth 65536 in
theorem w_ripe : about1.ripe theMethod args0 below0 = true := by decide +kernel
theorem w_running : about1.status = .running := rfl
set_option maxRecDepth 65536 in
theorem w_room : about1.hasRoom e0.platform room_1 = true :=
  launch0.hasRoom_least _ room_1 (by decide +kernel) (by decide +kernel) (by decide +kernel) (by decide +kernel) (by decide +kernel) (by decide +kernel)
theorem allAtoms_all (ts : List Jvm.Cond) (a : Array Jvm.Value) (st : Jvm.State) : (allAtoms ts).before a st = ts.all (fun c => c.before a st) := by
  induction ts with
  | nil => rfl
  | cons c t ih =>
    show (Jvm.Cond.and c (allAtoms t)).before a st = _
    rw [Jvm.Cond.before_and, ih, List.all_cons]
def words1 : List Jvm.Cond := Jvm.Cond.code x code maxLocals ret :: tables_1
/-- a 'code' word, met by the world's own term for the bytes: nothing is compared byte by byte -/
theorem code_word {y : MethodName} {bytes : ByteArray} {mx : Nat} {rt : Option FieldType} {a : Array Value} {s : State} {m : MethodId} {meth : Method} {c : Code} (h1 : s.methodNamed? y = some m) (h2 : s.vm.method? m = some meth) (h3 : meth.code = some c) (h4 : c.code = bytes)
    (h5 : (c.maxLocals == mx && c.exceptionTable.isEmpty && decide (c.maxStack ≤ mostOperands) && decide (meth.sig.returnType = rt) && !meth.locks && decide (parseMethodDescriptor y.desc = some meth.sig)) = true) : (Jvm.Cond.code y bytes mx rt).before a s = true := by
  simp only [Bool.and_eq_true, beq_iff_eq, Bool.not_eq_true', decide_eq_true_eq] at h5
  obtain ⟨⟨⟨⟨⟨g1, g2⟩, g3⟩, g4⟩, g5⟩, g6⟩ := h5
  simp [Cond.before, Cond.holds, Cond.value, h1, h2, h3, h4, g1, g2, g3, g4, g5, g6]
def isCode : Jvm.Cond → Bool
  | .code _ _ _ _ => true
  | _ => false
theorem all_split {L : List Jvm.Cond} {P : Jvm.Cond → Bool} (h1 : L.all (fun c => isCode c || P c) = true) (h2 : ∀ c ∈ L.filter isCode, P c = true) : L.all P = true := by
  refine List.all_eq_true.mpr fun c hc => ?_
  have h := List.all_eq_true.mp h1 c hc
  rcases Bool.eq_false_or_eq_true (isCode c) with hi | hi
  · exact h2 c (List.mem_filter.mpr ⟨hc, hi⟩)
  · simpa [hi] using h
set_option maxRecDepth 65536 in
theorem w_c0 : (Jvm.Cond.code x code maxLocals ret).before args0 about1 = true := code_word (m := ⟨1, 2⟩) (meth := k1m2) (c := k1c2) (by decide +kernel) rfl rfl rfl (by decide +kernel)
set_option maxRecDepth 65536 in
theorem w_c1 : (Jvm.Cond.code ({ cls := "com/example/keadby/keadby/model/VerificationOkPinLaw", name := "pick", desc := "(I)Lcom/example/keadby/keadby/model/Verification$Check;" } : Jvm.MethodName) method_2_code (1 : Nat) (Option.some (Jvm.ClassFile.FieldType.object "com/example/keadby/keadby/model/Verification$Check"))).before args0 about1 = true := code_word (m := ⟨1, 1⟩) (meth := k1m1) (c := k1c1) (by decide +kernel) rfl rfl rfl (by decide +kernel)
set_option maxRecDepth 65536 in
theorem w_c2 : (Jvm.Cond.code ({ cls := "com/example/keadby/keadby/model/Verification", name := "<init>", desc := "(JJJLcom/example/keadby/keadby/model/Verification$Check;)V" } : Jvm.MethodName) prog_16_method_1_code (8 : Nat) (Option.none : Option Jvm.ClassFile.FieldType)).before args0 about1 = true := code_word (m := ⟨8, 0⟩) (meth := k8m0) (c := k8c0) (by decide +kernel) rfl rfl rfl (by decide +kernel)
set_option maxRecDepth 65536 in
theorem w_c3 : (Jvm.Cond.code ({ cls := "java/lang/Record", name := "<init>", desc := "()V" } : Jvm.MethodName) jdk_30_method_1_code (1 : Nat) (Option.none : Option Jvm.ClassFile.FieldType)).before args0 about1 = true := code_word (m := ⟨7, 0⟩) (meth := k7m0) (c := k7c0) (by decide +kernel) rfl rfl rfl (by decide +kernel)
set_option maxRecDepth 65536 in
theorem w_c4 : (Jvm.Cond.code ({ cls := "java/lang/Object", name := "<init>", desc := "()V" } : Jvm.MethodName) object_method_1_code (1 : Nat) (Option.none : Option Jvm.ClassFile.FieldType)).before args0 about1 = true := code_word (m := ⟨0, 0⟩) (meth := k0m0) (c := k0c0) (by decide +kernel) rfl rfl rfl (by decide +kernel)
set_option maxRecDepth 65536 in
theorem w_c5 : (Jvm.Cond.code ({ cls := "com/example/keadby/keadby/model/Verification", name := "ok", desc := "()Z" } : Jvm.MethodName) prog_16_method_2_code (1 : Nat) (Option.some Jvm.ClassFile.FieldType.boolean)).before args0 about1 = true := code_word (m := ⟨8, 1⟩) (meth := k8m1) (c := k8c1) (by decide +kernel) rfl rfl rfl (by decide +kernel)
def codes1 : List Jvm.Cond := [Jvm.Cond.code x code maxLocals ret, Jvm.Cond.code ({ cls := "com/example/keadby/keadby/model/VerificationOkPinLaw", name := "pick", desc := "(I)Lcom/example/keadby/keadby/model/Verification$Check;" } : Jvm.MethodName) method_2_code (1 : Nat) (Option.some (Jvm.ClassFile.FieldType.object "com/example/keadby/keadby/model/Verification$Check")), Jvm.Cond.code ({ cls := "com/example/keadby/keadby/model/Verification", name := "<init>", desc := "(JJJLcom/example/keadby/keadby/model/Verification$Check;)V" } : Jvm.MethodName) prog_16_method_1_code (8 : Nat) (Option.none : Option Jvm.ClassFile.FieldType), Jvm.Cond.code ({ cls := "java/lang/Record", name := "<init>", desc := "()V" } : Jvm.MethodName) jdk_30_method_1_code (1 : Nat) (Option.none : Option Jvm.ClassFile.FieldType), Jvm.Cond.code ({ cls := "java/lang/Object", name := "<init>", desc := "()V" } : Jvm.MethodName) object_method_1_code (1 : Nat) (Option.none : Option Jvm.ClassFile.FieldType), Jvm.Cond.code ({ cls := "com/example/keadby/keadby/model/Verification", name := "ok", desc := "()Z" } : Jvm.MethodName) prog_16_method_2_code (1 : Nat) (Option.some Jvm.ClassFile.FieldType.boolean)]
set_option maxRecDepth 65536 in
theorem codes_eq : words1.filter isCode = codes1 := rfl
theorem w_codes : ∀ c ∈ words1.filter isCode, c.before args0 about1 = true := by
  rw [codes_eq]
  intro c hc
  simp only [codes1, List.mem_cons, List.not_mem_nil, or_false] at hc
  rcases hc with rfl | rfl | rfl | rfl | rfl | rfl
  · exact w_c0
  · exact w_c1
  · exact w_c2
  · exact w_c3
  · exact w_c4
  · exact w_c5
set_option maxRecDepth 65536 in
theorem w_t1 : (words1.take 24).all (fun c => isCode c || c.before args0 about1) = true := by decide +kernel
set_option maxRecDepth 65536 in
theorem w_t2 : (words1.drop 24).all (fun c => isCode c || c.before args0 about1) = true := by decide +kernel
theorem w_tables : (allAtoms (Jvm.Cond.code x code maxLocals ret :: tables_1)).before args0 about1 = true := by
  rw [allAtoms_all]
  show words1.all (fun c => c.before args0 about1) = true
  refine all_split ?_ w_codes
  rw [← List.take_append_drop 24 words1, List.all_append, w_t1, w_t2]
  rfl
set_option maxRecDepth 65536 in
theorem w_case : (Jvm.Cond.and given_1 narrow_1).before args0 about1 = true := by decide +kernel
theorem w_applies : (headSpec (Jvm.Cond.code x code maxLocals ret :: tables_1) room_1).applies x e0.platform about1 = true :=
  (Spec.applies_iff w_frames).mpr ⟨w_running, w_runnable, w_alone, w_named, w_hears, w_ripe, w_room, w_tables⟩
theorem atStart : AtStart classFile x code maxLocals ret World_1 tables_1 room_1 Calls_1 rest_1 Pre_1 launch0 p0 e0 about1 theMethod args0 below0 :=
  ⟨lists_1, trivial, launch0.admits_env _ _ _, launch0.least_env, fairChoices_fair.cas, fairChoices_fair.clock, w_frames, w_args, w_heap, w_applies, trivial, trivial, w_case⟩
end start1
theorem witness_1 : WitnessClaimed_1 := ⟨start1.p0, start1.e0, start1.about1, start1.theMethod, start1.args0, start1.below0, start1.atStart⟩
end Jvm.Pilot.@@N@@
