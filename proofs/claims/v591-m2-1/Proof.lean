import JvmDerived
import JvmDerived.Pilot.@@N@@Statement
import JvmDerived.Pilot.@@N@@Code
set_option linter.unusedVariables false
set_option linter.unusedSimpArgs false
namespace Jvm.Own
open Jvm Sem ClassFile Op Lib Jvm.Stand Jvm.Free Jvm.LawKit Jvm.RoadKit
/-- from this state and frame the run comes to an end that E says -/
def Goes (p : Program) (e : Env) (below : List Frame) (E : Outcome → State → Prop) (T : State) (f : JFrame) : Prop :=
  ∃ s₂ o, Steps p.tables e below (T.setTop f) s₂ ∧ s₂.status = .running ∧ Ended s₂ below o ∧ E o s₂
/-- the end of a walk that interns nothing -/
def EndN (s : State) (Q : Option Value → Heap → List Loc → Prop) (K N : Nat) (o : Outcome) (U : State) : Prop :=
  ∃ v L, o = .returned v ∧ Q v U.heap L ∧ FrameEnd s o U L K N
/-- a body's contract -/
def Rm (l : Launch) (y : MethodName) (bytes : ByteArray) (maxL : Nat) (ret : Option FieldType) (rm : Room) (ws : List Jvm.Cond) (Z : State) (as' : Array Value) (h : Heap) (Q : Option Value → Heap → List Loc → Prop) : Prop :=
  MetFree l y (head1 (Jvm.Cond.code y bytes maxL ret :: ws) rm) (fun a U => a = as' ∧ Z.Warmed39 U.vm ∧ U.heap = h) (fun _ _ _ _ _ => True) (fun _ U o U' => ∃ v L, o = .returned v ∧ Q v U'.heap L ∧ FrameEnd U o U' L rm.cells rm.slots)
section Own1
variable {p : Program} {l : Launch} {e : Env} {R : Room} {s : State} {m : MethodId} {args : Array Value} {below : List Frame} {meth : Method} {c : Code} {T : State} {locs : List Loc} {cells slots : Nat} {Z : State} {a0 : Array Value} {h : Heap} {E : Outcome → State → Prop}
theorem Goes.of {T T' : State} {f f' : JFrame} (st : ∀ t, Steps p.tables e below (T'.setTop f') t → Steps p.tables e below (T.setTop f) t) (k : Goes p e below E T' f') : Goes p e below E T f := by
  obtain ⟨s₂, o, h1, h2⟩ := k
  exact ⟨s₂, o, st _ h1, h2⟩
theorem Goes.cast {T : State} {f f' : JFrame} (q : f = f') (k : Goes p e below E T f') : Goes p e below E T f := q ▸ k
theorem oldLe {n0 : Nat} (O : Old Z n0 h) : n0 ≤ h.size := O.1 ▸ O.2.1
theorem goRet {Q : Option Value → Heap → List Loc → Prop} {K N : Nat} {g : JFrame} {v : Option Value} (X : Stand p l e R s m args below meth c T locs cells slots) (hv : meth.sig.returnType = none → v = none) (hlocks : meth.locks = false) (eT : T.heap = h) (hQ : Q v h locs) (hK : cells ≤ K) (hN : slots ≤ N)
    (st : ∀ fs, (∀ (f : JFrame) (acts : List Action), f.method = m → f.locked = none → f.entered = [] → (doReturn e (T.setTop f) acts v).1 = T.setFrames fs) → Steps p.tables e below (T.setTop g) (T.setFrames fs)) : Goes p e below (EndN s Q K N) T g := by
  obtain ⟨fs, hr, hrun, hended, hW, hsame⟩ := X.leave (v := v) hv hlocks
  subst eT
  exact ⟨_, _, st fs hr, hrun, hended, _, _, rfl, hQ, ⟨_, rfl⟩, hW, hsame.mono hK hN⟩
theorem retZ {Q : Option Value → Heap → List Loc → Prop} {K N pc : Nat} {Ls : Array Slot} {z : Int32} {t : FieldType} {rest : List Value} (X : Stand p l e R s m args below meth c T locs cells slots) (hx : p.tables.exec = Jvm.exec) (hret : meth.sig.returnType = some t) (hlocks : meth.locks = false) (ht : t = .boolean ∨ t = .byte ∨ t = .char ∨ t = .short)
    (hd : decode c.code pc = .ok (.ireturn, 1)) (eT : T.heap = h) (hK : cells ≤ K) (hN : slots ≤ N) (hQ : Q (some (.int (nar t z))) h locs) : Goes p e below (EndN s Q K N) T (mkF m pc Ls (.int z :: rest)) :=
  goRet X (fun q => by rw [hret] at q; cases q) hlocks eT hQ hK hN fun fs hr => retN X hx hret ht hd hr
theorem retInt {Q : Option Value → Heap → List Loc → Prop} {K N pc : Nat} {Ls : Array Slot} {z : Int32} {rest : List Value} (X : Stand p l e R s m args below meth c T locs cells slots) (hx : p.tables.exec = Jvm.exec) (hret : meth.sig.returnType = some .int) (hlocks : meth.locks = false)
    (hd : decode c.code pc = .ok (.ireturn, 1)) (eT : T.heap = h) (hK : cells ≤ K) (hN : slots ≤ N) (hQ : Q (some (.int z)) h locs) : Goes p e below (EndN s Q K N) T (mkF m pc Ls (.int z :: rest)) :=
  goRet X (fun q => by rw [hret] at q; cases q) hlocks eT hQ hK hN fun fs hr => by
    have hm' : T.vm.method? m = some meth := X.method'
    have hn : narrow .int (.int z) = .int z := rfl
    show Steps p.tables e below (T.setTop { method := m, pc := pc, locals := Ls, stack := _ :: rest, locked := none }) _
    jvm_step X.here [X.here.top, hx, hd, hm', hret, hn]
    first | (intro acts; rw [hr _ acts rfl rfl rfl]) | rw [hr _ _ rfl rfl rfl]
    exact Steps.refl _
theorem retLong {Q : Option Value → Heap → List Loc → Prop} {K N pc : Nat} {Ls : Array Slot} {z : Int64} {rest : List Value} (X : Stand p l e R s m args below meth c T locs cells slots) (hx : p.tables.exec = Jvm.exec) (hret : meth.sig.returnType = some .long) (hlocks : meth.locks = false)
    (hd : decode c.code pc = .ok (.lreturn, 1)) (eT : T.heap = h) (hK : cells ≤ K) (hN : slots ≤ N) (hQ : Q (some (.long z)) h locs) : Goes p e below (EndN s Q K N) T (mkF m pc Ls (.long z :: rest)) :=
  goRet X (fun q => by rw [hret] at q; cases q) hlocks eT hQ hK hN fun fs hr => by
    have hm' : T.vm.method? m = some meth := X.method'
    show Steps p.tables e below (T.setTop { method := m, pc := pc, locals := Ls, stack := _ :: rest, locked := none }) _
    jvm_step X.here [X.here.top, hx, hd, hm', hret, narrow]
    first | (intro acts; rw [hr _ acts rfl rfl rfl]) | rw [hr _ _ rfl rfl rfl]
    exact Steps.refl _
theorem retRef {Q : Option Value → Heap → List Loc → Prop} {K N pc : Nat} {Ls : Array Slot} {z : Value} {t : FieldType} {rest : List Value} (X : Stand p l e R s m args below meth c T locs cells slots) (hx : p.tables.exec = Jvm.exec) (hret : meth.sig.returnType = some t) (hlocks : meth.locks = false) (ht : t.isReference = true) (hz : z.isRef = true)
    (hd : decode c.code pc = .ok (.areturn, 1)) (eT : T.heap = h) (hK : cells ≤ K) (hN : slots ≤ N) (hQ : Q (some z) h locs) : Goes p e below (EndN s Q K N) T (mkF m pc Ls (z :: rest)) :=
  goRet X (fun q => by rw [hret] at q; cases q) hlocks eT hQ hK hN fun fs hr => by
    have hm' : T.vm.method? m = some meth := X.method'
    show Steps p.tables e below (T.setTop { method := m, pc := pc, locals := Ls, stack := _ :: rest, locked := none }) _
    rcases ref_cases hz with rfl | ⟨_, rfl⟩
    all_goals
      jvm_step X.here [X.here.top, hx, hd, hm', hret, ht, Value.isRef]
      first | (intro acts; rw [hr _ acts rfl rfl rfl]) | rw [hr _ _ rfl rfl rfl]
      exact Steps.refl _
theorem retVoid {Q : Option Value → Heap → List Loc → Prop} {K N pc : Nat} {Ls : Array Slot} {rest : List Value} (X : Stand p l e R s m args below meth c T locs cells slots) (hx : p.tables.exec = Jvm.exec) (hret : meth.sig.returnType = none) (hlocks : meth.locks = false)
    (hd : decode c.code pc = .ok (.return_, 1)) (eT : T.heap = h) (hK : cells ≤ K) (hN : slots ≤ N) (hQ : Q none h locs) : Goes p e below (EndN s Q K N) T (mkF m pc Ls rest) :=
  goRet X (fun _ => rfl) hlocks eT hQ hK hN fun fs hr => by
    have hm' : T.vm.method? m = some meth := X.method'
    show Steps p.tables e below (T.setTop { method := m, pc := pc, locals := Ls, stack := rest, locked := none }) _
    jvm_step X.here [X.here.top, hx, hd, hm', hret]
    first | (intro acts; rw [hr _ acts rfl rfl rfl]) | rw [hr _ _ rfl rfl rfl]
    exact Steps.refl _
/-- a body's contract out of its walk -/
theorem Rm.of {ws : List Jvm.Cond} {y : MethodName} {bytes : ByteArray} {maxL : Nat} {ret : Option FieldType} {rm : Room} {as' : Array Value} {h : Heap} {Q : Option Value → Heap → List Loc → Prop} (hp : plainFor y = true)
    (body : ∀ (p : Program) (e : Env) (s : State) (m : MethodId) (below : List Frame) (meth : Method) (c : Code) (T : State), Stand p l e rm s m as' below meth c T [] 0 0 → p.tables.exec = Jvm.exec → Z.Warmed39 s.vm → c.code = bytes → c.maxLocals = maxL → s.vm.findClass y.cls = some m.cls → meth.name = y.name → meth.sig.returnType = ret → meth.locks = false → T.heap = h →
      Goes p e below (EndN s Q rm.cells rm.slots) T (entryFrame m as' maxL)) : Rm l y bytes maxL ret rm ws Z as' h Q := by
  refine MetFree.of_bodySF hp hisR ?_
  intro p e s m args below meth c s₁ Bd hml0 hP hK
  obtain ⟨rfl, hZ, hh⟩ := hP
  exact body p e s m below meth c s₁ (Stand.of_body Bd) Bd.exec hZ Bd.bytes hml0 (findClass_of_methodNamed Bd.named) (name_of_methodNamed Bd.named Bd.method).1 Bd.returns Bd.notSynchronized (by rw [← hh, Bd.state]; rfl)
theorem goStatic {own : String} {index : Nat} {y : MethodName} {bytes : ByteArray} {maxL : Nat} {ret : Option FieldType} {rm : Room} {as' : Array Value} {Q : Option Value → Heap → List Loc → Prop} (W : Nat)
    (X : Stand p l e R s m args below meth c T locs cells slots) (hx : p.tables.exec = Jvm.exec) (hZ : Z.Warmed39 s.vm) (hown : s.vm.findClass own = some m.cls) (w1 : (Jvm.Cond.methodLink own index y).before a0 Z = true) (w2 : (Jvm.Cond.static y).before a0 Z = true) (w3 : (Jvm.Cond.initialized y.cls).before a0 Z = true) (w4 : (Jvm.Cond.code y bytes maxL ret).before a0 Z = true)
    (hy : y.cls ≠ "java/lang/invoke/MethodHandle" ∧ y.cls ≠ "java/lang/invoke/VarHandle") (r : Rm l y bytes maxL ret rm [] Z as' h Q) (eT : T.heap = h) {g : JFrame} (hg : g.method = m) (hsize : g.locals.size = c.maxLocals) (argsL rest : List Value) (hlen : ∀ sig, parseMethodDescriptor y.desc = some sig → argsL.length = sig.parameters.length)
    (hstack : g.stack = argsL.reverse ++ rest) (has : argsL.toArray = as') (hW : 2 * g.monitorRoom + (rest.map fun v => v.category).sum ≤ W) (hd : decode c.code g.pc = .ok (.invokestatic index, 3)) (hf : rm.frames + 1 ≤ R.frames) (hl : W + (maxL + 11) + rm.locals ≤ R.locals) (hc : cells + rm.cells ≤ R.cells) (hs : slots + rm.slots ≤ R.slots)
    (k : ∀ v T' L, Stand p l e R s m args below meth c T' (locs ++ L) (cells + rm.cells) (slots + rm.slots) → Q v T'.heap L → Goes p e below E T' { g with pc := g.pc + 3, stack := v.toList ++ rest }) : Goes p e below E T g := by
  obtain ⟨v, vm₁, ⟨T', L', k', n'⟩, -, X', ⟨L, hQ, q1, q2, q3⟩, st⟩ := Jvm.LawKit.callS X hx (y := y) hown (mvT hZ w1) (mvT hZ w2) (mvT hZ w3) (mvT hZ w4) hy (backOf (W := W) r hZ w4 w3 hf hl) hg hsize hlen hstack hW hd (fun _ _ => ⟨has, eT, hc, hs⟩)
  dsimp only [Pt.U, Pt.locs, Pt.cells, Pt.slots] at X' q1 q2 q3 st hQ
  subst q1 q2 q3
  exact Goes.of st (k v T' L X' hQ)
theorem goSpecial {own : String} {index : Nat} {y : MethodName} {bytes : ByteArray} {maxL : Nat} {rm : Room} {as' : Array Value} {Q : Option Value → Heap → List Loc → Prop} (W : Nat)
    (X : Stand p l e R s m args below meth c T locs cells slots) (hx : p.tables.exec = Jvm.exec) (hZ : Z.Warmed39 s.vm) (hy1 : y.name = "<init>") (hown : s.vm.findClass own = some m.cls) (w1 : (Jvm.Cond.methodLink own index y).before a0 Z = true) (w2 : (Jvm.Cond.instanceMethod y).before a0 Z = true) (w3 : (Jvm.Cond.initialized y.cls).before a0 Z = true) (w4 : (Jvm.Cond.code y bytes maxL none).before a0 Z = true)
    (hy : y.cls ≠ "java/lang/invoke/MethodHandle" ∧ y.cls ≠ "java/lang/invoke/VarHandle") (r : Rm l y bytes maxL none rm [] Z as' h Q) (eT : T.heap = h) {g : JFrame} (hg : g.method = m) (hsize : g.locals.size = c.maxLocals) (a : Addr) (argsL rest : List Value) (hlen : ∀ sig, parseMethodDescriptor y.desc = some sig → argsL.length = sig.parameters.length)
    (hstack : g.stack = argsL.reverse ++ .ref a :: rest) (has : (.ref a :: argsL).toArray = as') (hW : 2 * g.monitorRoom + (rest.map fun v => v.category).sum ≤ W) (hd : decode c.code g.pc = .ok (.invokespecial index, 3)) (hf : rm.frames + 1 ≤ R.frames) (hl : W + (maxL + 11) + rm.locals ≤ R.locals) (hc : cells + rm.cells ≤ R.cells) (hs : slots + rm.slots ≤ R.slots)
    (k : ∀ v T' L, Stand p l e R s m args below meth c T' (locs ++ L) (cells + rm.cells) (slots + rm.slots) → Q v T'.heap L → Goes p e below E T' { g with pc := g.pc + 3, stack := v.toList ++ rest }) : Goes p e below E T g := by
  obtain ⟨v, vm₁, ⟨T', L', k', n'⟩, -, X', ⟨L, hQ, q1, q2, q3⟩, st⟩ := X.specialBack hx (y := y) hy1 hown (mvT hZ w1) (mvT hZ w2) (mvT hZ w4) hy (backOf (W := W) r hZ w4 w3 hf hl) hg hsize (Steps.refl _) (a := a) hlen hstack hW hd (fun _ _ => ⟨has, eT, hc, hs⟩)
  dsimp only [Pt.U, Pt.locs, Pt.cells, Pt.slots] at X' q1 q2 q3 st hQ
  subst q1 q2 q3
  exact Goes.of (fun _ => st.trans) (k v T' L X' hQ)
theorem goVirtual {own C : String} {index : Nat} {y z : MethodName} {bytes : ByteArray} {maxL : Nat} {ret : Option FieldType} {rm : Room} {as' : Array Value} {Q : Option Value → Heap → List Loc → Prop} (W : Nat)
    (X : Stand p l e R s m args below meth c T locs cells slots) (hx : p.tables.exec = Jvm.exec) (hZ : Z.Warmed39 s.vm) (hown : s.vm.findClass own = some m.cls) (w1 : (Jvm.Cond.methodLink own index y).before a0 Z = true) (w2 : (Jvm.Cond.declares y).before a0 Z = true) (hnf : NotFace s y) (w3 : (Jvm.Cond.selects C y z).before a0 Z = true) (w4 : (Jvm.Cond.instanceMethod z).before a0 Z = true) (w5 : (Jvm.Cond.initialized z.cls).before a0 Z = true) (w6 : (Jvm.Cond.code z bytes maxL ret).before a0 Z = true)
    (hy : y.cls ≠ "java/lang/invoke/MethodHandle" ∧ y.cls ≠ "java/lang/invoke/VarHandle") (r : Rm l z bytes maxL ret rm [] Z as' h Q) (eT : T.heap = h) {a : Addr} (F : Exa Z h a C) {g : JFrame} (hg : g.method = m) (hsize : g.locals.size = c.maxLocals) (argsL rest : List Value) (hlen : ∀ sig, parseMethodDescriptor y.desc = some sig → argsL.length = sig.parameters.length)
    (hstack : g.stack = argsL.reverse ++ .ref a :: rest) (has : (.ref a :: argsL).toArray = as') (hW : 2 * g.monitorRoom + (rest.map fun v => v.category).sum ≤ W) (hd : decode c.code g.pc = .ok (.invokevirtual index, 3)) (hf : rm.frames + 1 ≤ R.frames) (hl : W + (maxL + 11) + rm.locals ≤ R.locals) (hc : cells + rm.cells ≤ R.cells) (hs : slots + rm.slots ≤ R.slots)
    (k : ∀ v T' L, Stand p l e R s m args below meth c T' (locs ++ L) (cells + rm.cells) (slots + rm.slots) → Q v T'.heap L → Goes p e below E T' { g with pc := g.pc + 3, stack := v.toList ++ rest }) : Goes p e below E T g := by
  obtain ⟨cq, kq, qa, qb, qc⟩ := isOf hZ eT F
  obtain ⟨v, vm₁, ⟨T', L', k', n'⟩, -, X', ⟨L, hQ, q1, q2, q3⟩, st⟩ := X.virtualBack hx (y := y) (z := z) hown (mvT hZ w1) (mvT hZ w2) hnf (mvT hZ w3) (mvT hZ w4) hy (backOf (W := W) r hZ w6 w5 hf hl) qa qc hg hsize (Steps.refl _) hlen hstack hW hd (fun _ _ => ⟨has, eT, hc, hs⟩)
  dsimp only [Pt.U, Pt.locs, Pt.cells, Pt.slots] at X' q1 q2 q3 st hQ
  subst q1 q2 q3
  exact Goes.of (fun _ => st.trans) (k v T' L X' hQ)
theorem goNew {own C : String} {index n : Nat} (X : Stand p l e R s m args below meth c T locs cells slots) (hx : p.tables.exec = Jvm.exec) (hZ : Z.Warmed39 s.vm) (hown : s.vm.findClass own = some m.cls) (w : (Jvm.Cond.classLink own index C).before a0 Z = true) (wi : (Jvm.Cond.instantiable C n).before a0 Z = true) (wz : (Jvm.Cond.initialized C).before a0 Z = true) (eT : T.heap = h)
    {g : JFrame} (hg : g.method = m) (hd : decode c.code g.pc = .ok (.new index, 3)) (hc : cells + 1 ≤ R.cells) (hl : slots + n ≤ R.slots)
    (k : ∀ T' h' b, Stand p l e R s m args below meth c T' locs (cells + 1) (slots + n) → T'.heap = h' → Ext h h' → h.size ≤ b → Exa Z h' b C → (∀ {O nm d : String} {ty : FieldType}, Laid Z a0 C O nm d → parseFieldDescriptor d = some ty → Fld Z h' b O nm d (defaultValue ty)) → Goes p e below E T' { g with pc := g.pc + 3, stack := .ref b :: g.stack }) : Goes p e below E T g := by
  obtain ⟨T', h', X', e', E', A', D', -, st⟩ := newO X hx hZ hown w wi wz eT hg hd hc hl
  exact Goes.of st (k T' h' _ X' e' E' (Nat.le_refl _) A' D')
theorem goInitO {own : String} {idx : Nat} (W : Nat) (X : Stand p l e R s m args below meth c T locs cells slots) (hx : p.tables.exec = Jvm.exec) (hZ : Z.Warmed39 s.vm) (hown : s.vm.findClass own = some m.cls) (w1 : (Jvm.Cond.methodLink own idx Lib.objectInit).before a0 Z = true) (w2 : (Jvm.Cond.instanceMethod Lib.objectInit).before a0 Z = true)
    (w3 : (Jvm.Cond.code Lib.objectInit ⟨#[0xb1]⟩ 1 none).before a0 Z = true) (eT : T.heap = h) {g : JFrame} (hg : g.method = m) (hsize : g.locals.size = c.maxLocals) {a : Addr} {rest : List Value} (hs : g.stack = .ref a :: rest) (hd : decode c.code g.pc = .ok (.invokespecial idx, 3))
    (hf : 1 ≤ R.frames) (hW : 2 * g.monitorRoom + (rest.map fun v => v.category).sum ≤ W) (hl : W + 12 ≤ R.locals) (k : ∀ T', Stand p l e R s m args below meth c T' locs cells slots → T'.heap = h → Goes p e below E T' { g with pc := g.pc + 3, stack := rest }) : Goes p e below E T g := by
  obtain ⟨T', X', e', st⟩ := initO X hx hZ hown w1 w2 w3 eT hg hsize hs hd hf hW hl
  exact Goes.of st (k T' X' e')
theorem goGet {own R0 O n d host : String} {index : Nat} (X : Stand p l e R s m args below meth c T locs cells slots) (hx : p.tables.exec = Jvm.exec) (hZ : Z.Warmed39 s.vm) (hown : s.vm.findClass own = some m.cls) (w : (Jvm.Cond.fieldLink own index R0 n d).before a0 Z = true ∨ (Jvm.Cond.fieldLinkNest own index R0 n d host).before a0 Z = true) (via : Via Z R0 O n d)
    (eT : T.heap = h) {a : Addr} {v : Value} (F : Fld Z h a O n d v) {g : JFrame} (hg : g.method = m) {rest : List Value} (hs : g.stack = .ref a :: rest) (hd : decode c.code g.pc = .ok (.getfield index, 3))
    (k : ∀ T', Stand p l e R s m args below meth c T' locs cells slots → T'.heap = h → Goes p e below E T' { g with pc := g.pc + 3, stack := v :: rest }) : Goes p e below E T g := by
  obtain ⟨T', X', e', st⟩ := getF X hx hZ hown w via eT F hg hs hd
  exact Goes.of st (k T' X' e')
theorem goGetS {own R0 O n d host : String} {index : Nat} (X : Stand p l e R s m args below meth c T locs cells slots) (hx : p.tables.exec = Jvm.exec) (hZ : Z.Warmed39 s.vm) (hown : s.vm.findClass own = some m.cls) (w : (Jvm.Cond.fieldLink own index R0 n d).before a0 Z = true ∨ (Jvm.Cond.fieldLinkNest own index R0 n d host).before a0 Z = true) (via : Via Z R0 O n d)
    (eT : T.heap = h) {v : Value} (F : Sta Z h O n d v) {g : JFrame} (hg : g.method = m) (hd : decode c.code g.pc = .ok (.getstatic index, 3))
    (k : ∀ T', Stand p l e R s m args below meth c T' locs cells slots → T'.heap = h → Goes p e below E T' { g with pc := g.pc + 3, stack := v :: g.stack }) : Goes p e below E T g := by
  obtain ⟨T', X', e', st⟩ := getS2 X hx hZ hown w via eT F hg hd
  exact Goes.of st (k T' X' e')
theorem goPut {own R0 O n d host C : String} {index kk : Nat} {ty : FieldType} (X : Stand p l e R s m args below meth c T locs cells slots) (hx : p.tables.exec = Jvm.exec) (hZ : Z.Warmed39 s.vm) (hown : s.vm.findClass own = some m.cls) (w : (Jvm.Cond.fieldLink own index R0 n d).before a0 Z = true ∨ (Jvm.Cond.fieldLinkNest own index R0 n d host).before a0 Z = true) (via : Via Z R0 O n d)
    (eT : T.heap = h) {a : Addr} {v old : Value} (F : Fld Z h a O n d old) (Ex : Exa Z h a C) (L : (Jvm.Cond.lays C O n d).before a0 Z = true ∨ ((Jvm.Cond.laysFinal C O n d).before a0 Z = true ∧ own = O ∧ meth.name = "<init>")) (wi : (Jvm.Cond.instantiable C kk).before a0 Z = true)
    (hty : parseFieldDescriptor d = some ty) (hn : narrow ty v = v) (hf : fits ty v = true) {g : JFrame} (hg : g.method = m) {rest : List Value} (hs : g.stack = v :: .ref a :: rest) (hd : decode c.code g.pc = .ok (.putfield index, 3))
    (k : ∀ T' h', Stand p l e R s m args below meth c T' (locs ++ [⟨a, Jvm.RoadKit.slotOf Z O n d⟩]) cells slots → T'.heap = h' → Wr h h' a (Jvm.RoadKit.slotOf Z O n d) v → Goes p e below E T' { g with pc := g.pc + 3, stack := rest }) : Goes p e below E T g := by
  obtain ⟨T', h', X', e', W', st⟩ := putF X hx hZ hown w via eT F Ex L wi hty hn hf hg hs hd
  exact Goes.of st (k T' h' X' e' W')
theorem goCast {own K : String} {index : Nat} (X : Stand p l e R s m args below meth c T locs cells slots) (hx : p.tables.exec = Jvm.exec) (hZ : Z.Warmed39 s.vm) (hown : s.vm.findClass own = some m.cls) (w : (Jvm.Cond.classLink own index K).before a0 Z = true) (eT : T.heap = h) {a : Addr} (F : Ins Z h a K true)
    {g : JFrame} (hg : g.method = m) {rest : List Value} (hs : g.stack = .ref a :: rest) (hd : decode c.code g.pc = .ok (.checkcast index, 3))
    (k : ∀ T', Stand p l e R s m args below meth c T' locs cells slots → T'.heap = h → Goes p e below E T' { g with pc := g.pc + 3 }) : Goes p e below E T g := by
  obtain ⟨T', X', e', st⟩ := castY X hx hZ hown w eT F hg hs hd
  exact Goes.of st (k T' X' e')
theorem goInstY {own K : String} {index : Nat} (X : Stand p l e R s m args below meth c T locs cells slots) (hx : p.tables.exec = Jvm.exec) (hZ : Z.Warmed39 s.vm) (hown : s.vm.findClass own = some m.cls) (w : (Jvm.Cond.classLink own index K).before a0 Z = true) (eT : T.heap = h) {a : Addr} (F : Ins Z h a K true)
    {g : JFrame} (hg : g.method = m) {rest : List Value} (hs : g.stack = .ref a :: rest) (hd : decode c.code g.pc = .ok (.instanceof index, 3))
    (k : ∀ T', Stand p l e R s m args below meth c T' locs cells slots → T'.heap = h → Goes p e below E T' { g with pc := g.pc + 3, stack := .int 1 :: rest }) : Goes p e below E T g := by
  obtain ⟨T', X', e', st⟩ := instY X hx hZ hown w eT F hg hs hd
  exact Goes.of st (k T' X' e')
theorem goInstN {own K C : String} {index : Nat} (X : Stand p l e R s m args below meth c T locs cells slots) (hx : p.tables.exec = Jvm.exec) (hZ : Z.Warmed39 s.vm) (hown : s.vm.findClass own = some m.cls) (w : (Jvm.Cond.classLink own index K).before a0 Z = true) (eT : T.heap = h) {a : Addr} (Ex : Exa Z h a C) (F : ∃ c t, Z.vm.findClass C = some c ∧ Z.vm.findClass K = some t ∧ Z.vm.assignable c t = false)
    {g : JFrame} (hg : g.method = m) {rest : List Value} (hs : g.stack = .ref a :: rest) (hd : decode c.code g.pc = .ok (.instanceof index, 3))
    (k : ∀ T', Stand p l e R s m args below meth c T' locs cells slots → T'.heap = h → Goes p e below E T' { g with pc := g.pc + 3, stack := .int 0 :: rest }) : Goes p e below E T g := by
  obtain ⟨T', X', e', st⟩ := Jvm.RoadKit.instNo X hx hZ hown w eT Ex F hg hs hd
  exact Goes.of st (k T' X' e')
theorem goNewP {aty : ArrayType} (cap : Nat) (X : Stand p l e R s m args below meth c T locs cells slots) (hx : p.tables.exec = Jvm.exec) (hZ : Z.Warmed39 s.vm) (w : (Jvm.Cond.arrayClass (newarray.typeOf aty)).before a0 Z = true) (eT : T.heap = h) {g : JFrame} (hg : g.method = m) (hd : decode c.code g.pc = .ok (.newarray aty, 2)) {n : Int32} {rest : List Value} (hs : g.stack = .int n :: rest)
    (hn : ¬ n < 0) (hcap : n.toNatClampNeg ≤ cap) (hb : cap * 8 ≤ 536870912) (hc : cells + 1 ≤ R.cells) (hl : slots + cap ≤ R.slots) {ad : String} (had : "[" ++ (newarray.typeOf aty).toString = ad) 
    (k : ∀ T' h' b cA, Stand p l e R s m args below meth c T' locs (cells + 1) (slots + cap) → T'.heap = h' → Ext h h' → h.size ≤ b → Arv Z h' b cA (newarray.typeOf aty) n (List.replicate cap (defaultValue (newarray.typeOf aty))) (defaultValue (newarray.typeOf aty)) → Exa Z h' b ad → Goes p e below E T' { g with pc := g.pc + 2, stack := .ref b :: rest }) : Goes p e below E T g := by
  obtain ⟨T', h', cA, X', e', E', A', Ex', st⟩ := newPE X hx hZ w eT hg hd hs hn hcap hb hc hl had
  exact Goes.of st (k T' h' _ cA X' e' E' (Nat.le_refl _) ((Arv.new A' hn).pad (pad_rep [] _ cap)) Ex')
theorem goNewR {own C : String} {index : Nat} (cap : Nat) (X : Stand p l e R s m args below meth c T locs cells slots) (hx : p.tables.exec = Jvm.exec) (hZ : Z.Warmed39 s.vm) (hown : s.vm.findClass own = some m.cls) (w1 : (Jvm.Cond.classLink own index C).before a0 Z = true) (w2 : (Jvm.Cond.arrayOver (.object C)).before a0 Z = true) (eT : T.heap = h) {g : JFrame} (hg : g.method = m) (hd : decode c.code g.pc = .ok (.anewarray index, 3)) {n : Int32} {rest : List Value} (hs : g.stack = .int n :: rest)
    (hn : ¬ n < 0) (hcap : n.toNatClampNeg ≤ cap) (hb : cap * 8 ≤ 536870912) (hc : cells + 1 ≤ R.cells) (hl : slots + cap ≤ R.slots)
    (k : ∀ T' h' b cA, Stand p l e R s m args below meth c T' locs (cells + 1) (slots + cap) → T'.heap = h' → Ext h h' → h.size ≤ b → Arv Z h' b cA (.object C) n (List.replicate cap .null) .null → Ovr Z cA C → Goes p e below E T' { g with pc := g.pc + 3, stack := .ref b :: rest }) : Goes p e below E T g := by
  obtain ⟨T', h', cA, X', e', E', A', O', st⟩ := newR X hx hZ hown w1 w2 eT hg hd hs hn hcap hb hc hl
  exact Goes.of st (k T' h' _ cA X' e' E' (Nat.le_refl _) ((Arv.new A' hn).pad (pad_rep [] _ cap)) O')
theorem inbV {cl : Cell} {z j : Int32} (S : cl.slots.size = z.toNatClampNeg) (hj : ¬ j < 0) (hj' : j < z) : ¬ (j < 0 ∨ cl.slots.size ≤ j.toNatClampNeg) := inb_of S ⟨hj, hj'⟩
theorem goStI {a : Addr} {kc : ClassId} {z j x : Int32} {vs : List Value} {dv : Value} (i : Nat) (X : Stand p l e R s m args below meth c T locs cells slots) (hx : p.tables.exec = Jvm.exec) (hZ : Z.Warmed39 s.vm) (eT : T.heap = h) (V : Arv Z h a kc .int z vs dv) (hj : ¬ j < 0) (hj' : j < z) (hi : j.toNatClampNeg = i) (hl : i < vs.length)
    {g : JFrame} (hg : g.method = m) {rest : List Value} (hs : g.stack = .int x :: .int j :: .ref a :: rest) (hd : decode c.code g.pc = .ok (.iastore, 1))
    (k : ∀ T' h', Stand p l e R s m args below meth c T' (locs ++ [⟨a, j.toNatClampNeg⟩]) cells slots → T'.heap = h' → Wr h h' a j.toNatClampNeg (.int x) → Arv Z h' a kc .int z (vs.set i (.int x)) dv → Goes p e below E T' { g with pc := g.pc + 1, stack := rest }) : Goes p e below E T g := by
  obtain ⟨cl, A, q1, S, q3, H, G⟩ := V
  obtain ⟨T', h', X', e', W', st⟩ := stI X hx hZ eT A (inbV S hj hj') hg hs hd
  exact Goes.of st (k T' h' X' e' W' (Arv.set A q1 S q3 H G rfl W' i hi hl))
theorem goStJ {a : Addr} {kc : ClassId} {z j : Int32} {x : Int64} {vs : List Value} {dv : Value} (i : Nat) (X : Stand p l e R s m args below meth c T locs cells slots) (hx : p.tables.exec = Jvm.exec) (hZ : Z.Warmed39 s.vm) (eT : T.heap = h) (V : Arv Z h a kc .long z vs dv) (hj : ¬ j < 0) (hj' : j < z) (hi : j.toNatClampNeg = i) (hl : i < vs.length)
    {g : JFrame} (hg : g.method = m) {rest : List Value} (hs : g.stack = .long x :: .int j :: .ref a :: rest) (hd : decode c.code g.pc = .ok (.lastore, 1))
    (k : ∀ T' h', Stand p l e R s m args below meth c T' (locs ++ [⟨a, j.toNatClampNeg⟩]) cells slots → T'.heap = h' → Wr h h' a j.toNatClampNeg (.long x) → Arv Z h' a kc .long z (vs.set i (.long x)) dv → Goes p e below E T' { g with pc := g.pc + 1, stack := rest }) : Goes p e below E T g := by
  obtain ⟨cl, A, q1, S, q3, H, G⟩ := V
  obtain ⟨T', h', X', e', W', st⟩ := stJ X hx hZ eT A (inbV S hj hj') hg hs hd
  exact Goes.of st (k T' h' X' e' W' (Arv.set A q1 S q3 H G rfl W' i hi hl))
theorem goStC {a : Addr} {kc : ClassId} {z j x : Int32} {vs : List Value} {dv : Value} (i : Nat) (X : Stand p l e R s m args below meth c T locs cells slots) (hx : p.tables.exec = Jvm.exec) (hZ : Z.Warmed39 s.vm) (eT : T.heap = h) (V : Arv Z h a kc .char z vs dv) (hj : ¬ j < 0) (hj' : j < z) (hi : j.toNatClampNeg = i) (hl : i < vs.length)
    {g : JFrame} (hg : g.method = m) {rest : List Value} (hs : g.stack = .int x :: .int j :: .ref a :: rest) (hd : decode c.code g.pc = .ok (.castore, 1))
    (k : ∀ T' h', Stand p l e R s m args below meth c T' (locs ++ [⟨a, j.toNatClampNeg⟩]) cells slots → T'.heap = h' → Wr h h' a j.toNatClampNeg (.int (nar .char x)) → Arv Z h' a kc .char z (vs.set i (.int (nar .char x))) dv → Goes p e below E T' { g with pc := g.pc + 1, stack := rest }) : Goes p e below E T g := by
  obtain ⟨cl, A, q1, S, q3, H, G⟩ := V
  obtain ⟨T', h', X', e', W', st⟩ := stC X hx hZ eT A (inbV S hj hj') hg hs hd
  exact Goes.of st (k T' h' X' e' W' (Arv.set A q1 S q3 H G (fits_nar_char _) W' i hi hl))
theorem goStB {a : Addr} {kc : ClassId} {z j x : Int32} {vs : List Value} {dv : Value} (i : Nat) (X : Stand p l e R s m args below meth c T locs cells slots) (hx : p.tables.exec = Jvm.exec) (hZ : Z.Warmed39 s.vm) (eT : T.heap = h) (V : Arv Z h a kc .byte z vs dv) (hj : ¬ j < 0) (hj' : j < z) (hi : j.toNatClampNeg = i) (hl : i < vs.length)
    {g : JFrame} (hg : g.method = m) {rest : List Value} (hs : g.stack = .int x :: .int j :: .ref a :: rest) (hd : decode c.code g.pc = .ok (.bastore, 1))
    (k : ∀ T' h', Stand p l e R s m args below meth c T' (locs ++ [⟨a, j.toNatClampNeg⟩]) cells slots → T'.heap = h' → Wr h h' a j.toNatClampNeg (.int (nar .byte x)) → Arv Z h' a kc .byte z (vs.set i (.int (nar .byte x))) dv → Goes p e below E T' { g with pc := g.pc + 1, stack := rest }) : Goes p e below E T g := by
  obtain ⟨cl, A, q1, S, q3, H, G⟩ := V
  obtain ⟨T', h', X', e', W', st⟩ := stB X hx hZ eT A (inbV S hj hj') hg hs hd
  exact Goes.of st (k T' h' X' e' W' (Arv.set A q1 S q3 H G (fits_nar_byte _) W' i hi hl))
theorem goStZ {a : Addr} {kc : ClassId} {z j x : Int32} {vs : List Value} {dv : Value} (i : Nat) (X : Stand p l e R s m args below meth c T locs cells slots) (hx : p.tables.exec = Jvm.exec) (hZ : Z.Warmed39 s.vm) (eT : T.heap = h) (V : Arv Z h a kc .boolean z vs dv) (hj : ¬ j < 0) (hj' : j < z) (hi : j.toNatClampNeg = i) (hl : i < vs.length)
    {g : JFrame} (hg : g.method = m) {rest : List Value} (hs : g.stack = .int x :: .int j :: .ref a :: rest) (hd : decode c.code g.pc = .ok (.bastore, 1))
    (k : ∀ T' h', Stand p l e R s m args below meth c T' (locs ++ [⟨a, j.toNatClampNeg⟩]) cells slots → T'.heap = h' → Wr h h' a j.toNatClampNeg (.int (nar .boolean x)) → Arv Z h' a kc .boolean z (vs.set i (.int (nar .boolean x))) dv → Goes p e below E T' { g with pc := g.pc + 1, stack := rest }) : Goes p e below E T g := by
  obtain ⟨cl, A, q1, S, q3, H, G⟩ := V
  obtain ⟨T', h', X', e', W', st⟩ := stZ X hx hZ eT A (inbV S hj hj') hg hs hd
  exact Goes.of st (k T' h' X' e' W' (Arv.set A q1 S q3 H G (fits_nar_bool _) W' i hi hl))
theorem goStR {a y : Addr} {C : String} {kc : ClassId} {z j : Int32} {vs : List Value} {dv : Value} (i : Nat) (X : Stand p l e R s m args below meth c T locs cells slots) (hx : p.tables.exec = Jvm.exec) (hZ : Z.Warmed39 s.vm) (eT : T.heap = h) (V : Arv Z h a kc (.object C) z vs dv) (O : Ovr Z kc C) (I : Ins Z h y C true) (hj : ¬ j < 0) (hj' : j < z) (hi : j.toNatClampNeg = i) (hl : i < vs.length)
    {g : JFrame} (hg : g.method = m) {rest : List Value} (hs : g.stack = .ref y :: .int j :: .ref a :: rest) (hd : decode c.code g.pc = .ok (.aastore, 1))
    (k : ∀ T' h', Stand p l e R s m args below meth c T' (locs ++ [⟨a, j.toNatClampNeg⟩]) cells slots → T'.heap = h' → Wr h h' a j.toNatClampNeg (.ref y) → Arv Z h' a kc (.object C) z (vs.set i (.ref y)) dv → Goes p e below E T' { g with pc := g.pc + 1, stack := rest }) : Goes p e below E T g := by
  obtain ⟨cl, A, q1, S, q3, H, G⟩ := V
  obtain ⟨T', h', X', e', W', st⟩ := stR X hx hZ eT A (inbV S hj hj') rfl (Sto.ofV A q1 O I) hg hs hd
  exact Goes.of st (k T' h' X' e' W' (Arv.set A q1 S q3 H G rfl W' i hi hl))
theorem goLdI {a : Addr} {kc : ClassId} {z j : Int32} {vs : List Value} {dv : Value} (v : Value) (X : Stand p l e R s m args below meth c T locs cells slots) (hx : p.tables.exec = Jvm.exec) (hZ : Z.Warmed39 s.vm) (eT : T.heap = h) (V : Arv Z h a kc .int z vs dv) (hj : ¬ j < 0) (hj' : j < z) (hv : vs.getD j.toNatClampNeg dv = v)
    {g : JFrame} (hg : g.method = m) {rest : List Value} (hs : g.stack = .int j :: .ref a :: rest) (hd : decode c.code g.pc = .ok (.iaload, 1)) (k : Goes p e below E T { g with pc := g.pc + 1, stack := v :: rest }) : Goes p e below E T g := by
  obtain ⟨cl, A, q1, S, q3, H, G⟩ := V
  exact Goes.of (fun t q => X.iaload hx (by rw [eT]; exact A.1) (State.isArrayOf_alike hZ.alike A.2.1) A.2.2 (inbV S hj hj') (H.at (inbV S hj hj') hv) hg hs hd t q) k
theorem goLdJ {a : Addr} {kc : ClassId} {z j : Int32} {vs : List Value} {dv : Value} (v : Value) (X : Stand p l e R s m args below meth c T locs cells slots) (hx : p.tables.exec = Jvm.exec) (hZ : Z.Warmed39 s.vm) (eT : T.heap = h) (V : Arv Z h a kc .long z vs dv) (hj : ¬ j < 0) (hj' : j < z) (hv : vs.getD j.toNatClampNeg dv = v)
    {g : JFrame} (hg : g.method = m) {rest : List Value} (hs : g.stack = .int j :: .ref a :: rest) (hd : decode c.code g.pc = .ok (.laload, 1)) (k : Goes p e below E T { g with pc := g.pc + 1, stack := v :: rest }) : Goes p e below E T g := by
  obtain ⟨cl, A, q1, S, q3, H, G⟩ := V
  exact Goes.of (fun t q => X.laload hx (by rw [eT]; exact A.1) (State.isArrayOf_alike hZ.alike A.2.1) A.2.2 (inbV S hj hj') (H.at (inbV S hj hj') hv) hg hs hd t q) k
theorem goLdC {a : Addr} {kc : ClassId} {z j : Int32} {vs : List Value} {dv : Value} (v : Value) (X : Stand p l e R s m args below meth c T locs cells slots) (hx : p.tables.exec = Jvm.exec) (hZ : Z.Warmed39 s.vm) (eT : T.heap = h) (V : Arv Z h a kc .char z vs dv) (hj : ¬ j < 0) (hj' : j < z) (hv : vs.getD j.toNatClampNeg dv = v)
    {g : JFrame} (hg : g.method = m) {rest : List Value} (hs : g.stack = .int j :: .ref a :: rest) (hd : decode c.code g.pc = .ok (.caload, 1)) (k : Goes p e below E T { g with pc := g.pc + 1, stack := v :: rest }) : Goes p e below E T g := by
  obtain ⟨cl, A, q1, S, q3, H, G⟩ := V
  exact Goes.of (fun t q => X.caload hx (by rw [eT]; exact A.1) (State.isArrayOf_alike hZ.alike A.2.1) A.2.2 (inbV S hj hj') (H.at (inbV S hj hj') hv) hg hs hd t q) k
theorem goLdB {a : Addr} {kc : ClassId} {z j : Int32} {vs : List Value} {dv : Value} (v : Value) (X : Stand p l e R s m args below meth c T locs cells slots) (hx : p.tables.exec = Jvm.exec) (hZ : Z.Warmed39 s.vm) (eT : T.heap = h) (V : Arv Z h a kc .byte z vs dv) (hj : ¬ j < 0) (hj' : j < z) (hv : vs.getD j.toNatClampNeg dv = v)
    {g : JFrame} (hg : g.method = m) {rest : List Value} (hs : g.stack = .int j :: .ref a :: rest) (hd : decode c.code g.pc = .ok (.baload, 1)) (k : Goes p e below E T { g with pc := g.pc + 1, stack := v :: rest }) : Goes p e below E T g := by
  obtain ⟨cl, A, q1, S, q3, H, G⟩ := V
  exact Goes.of (fun t q => X.baloadBytes hx (by rw [eT]; exact A.1) (State.isArrayOf_alike hZ.alike A.2.1) A.2.2 (inbV S hj hj') (H.at (inbV S hj hj') hv) hg hs hd t q) k
theorem goLdZ {a : Addr} {kc : ClassId} {z j : Int32} {vs : List Value} {dv : Value} (v : Value) (X : Stand p l e R s m args below meth c T locs cells slots) (hx : p.tables.exec = Jvm.exec) (hZ : Z.Warmed39 s.vm) (eT : T.heap = h) (V : Arv Z h a kc .boolean z vs dv) (hj : ¬ j < 0) (hj' : j < z) (hv : vs.getD j.toNatClampNeg dv = v)
    {g : JFrame} (hg : g.method = m) {rest : List Value} (hs : g.stack = .int j :: .ref a :: rest) (hd : decode c.code g.pc = .ok (.baload, 1)) (k : Goes p e below E T { g with pc := g.pc + 1, stack := v :: rest }) : Goes p e below E T g := by
  obtain ⟨cl, A, q1, S, q3, H, G⟩ := V
  exact Goes.of (fun t q => X.baloadBooleans hx (by rw [eT]; exact A.1) (State.isArrayOf_alike hZ.alike A.2.1) A.2.2 (inbV S hj hj') (H.at (inbV S hj hj') hv) hg hs hd t q) k
theorem goLdR {a : Addr} {C : String} {kc : ClassId} {z j : Int32} {vs : List Value} {dv : Value} (v : Value) (X : Stand p l e R s m args below meth c T locs cells slots) (hx : p.tables.exec = Jvm.exec) (hZ : Z.Warmed39 s.vm) (eT : T.heap = h) (V : Arv Z h a kc (.object C) z vs dv) (hj : ¬ j < 0) (hj' : j < z) (hv : vs.getD j.toNatClampNeg dv = v)
    {g : JFrame} (hg : g.method = m) {rest : List Value} (hs : g.stack = .int j :: .ref a :: rest) (hd : decode c.code g.pc = .ok (.aaload, 1)) (k : Goes p e below E T { g with pc := g.pc + 1, stack := v :: rest }) : Goes p e below E T g := by
  obtain ⟨cl, A, q1, S, q3, H, G⟩ := V
  exact Goes.of (fun t q => X.aaload hx (by rw [eT]; exact A.1) (State.isArrayOf_alike hZ.alike A.2.1) rfl A.2.2 (inbV S hj hj') (H.at (inbV S hj hj') hv) hg hs hd t q) k
theorem goLen {a : Addr} {kc : ClassId} {ty : FieldType} {z : Int32} {vs : List Value} {dv : Value} (X : Stand p l e R s m args below meth c T locs cells slots) (hx : p.tables.exec = Jvm.exec) (hZ : Z.Warmed39 s.vm) (eT : T.heap = h) (V : Arv Z h a kc ty z vs dv)
    {g : JFrame} (hg : g.method = m) {rest : List Value} (hs : g.stack = .ref a :: rest) (hd : decode c.code g.pc = .ok (.arraylength, 1)) (k : Goes p e below E T { g with pc := g.pc + 1, stack := .int z :: rest }) : Goes p e below E T g := by
  obtain ⟨cl, A, q1, S, q3, H, G⟩ := V
  exact Goes.of (fun t q => X.arraylength hx (by rw [eT]; exact A.1) (State.isArrayOf_alike hZ.alike A.2.1) hg hs hd t (by rw [len_of S q3]; exact q)) k
/-- a start fact out of a case's word -/
theorem fld_of_eq {args : Array Value} {t u : Term} {C n d : String} {a : Addr} {v : Value} (ev : t.eval args s none [] s = some (.ref a)) (hu : u.eval args s none [] s = some v) (h : (Jvm.Cond.eq (.field t C n d) u).value args s none s [] = some true) : Fld s s.heap a C n d v := by
  refine Fld.start ?_
  simp only [Jvm.Cond.value, fld_at ev, hu] at h
  cases hf : s.fieldOf? a C n d with
  | none => simp [hf] at h
  | some x => cases x <;> cases v <;> simp [hf] at h ⊢ <;> exact h
theorem sta_at {args : Array Value} {C n d : String} {v : Value} (ev : (Term.static C n d).eval args s none [] s = some v) (w1 : (Jvm.Cond.initialized C).before args s = true) (w2 : (Jvm.Cond.laysStatic C n d).before args s = true) : Sta s s.heap C n d v := Sta.start ev (Or.inr ⟨w1, w2⟩)
/-- an enum constant: the static, the object's class, its ordinal -/
def Con (Z : State) (C f : String) (d : String) (k : Int32) (a : Addr) : Prop := Sta Z Z.heap C f d (.ref a) ∧ Exa Z Z.heap a C ∧ Fld Z Z.heap a "java/lang/Enum" "ordinal" "I" (.int k)
theorem con_of {args : Array Value} {C f d : String} {k : Int32} (h1 : (Jvm.Cond.exactly (.static C f d) C).value args s none s [] = some true) (h2 : (Jvm.Cond.eq (.field (.static C f d) "java/lang/Enum" "ordinal" "I") (.int k)).value args s none s [] = some true)
    (w1 : (Jvm.Cond.initialized C).before args s = true) (w2 : (Jvm.Cond.laysStatic C f d).before args s = true) : ∃ a, Con s C f d k a ∧ (Term.static C f d).eval args s none [] s = some (.ref a) := by
  obtain ⟨a, ev⟩ := exa_v h1
  exact ⟨a, ⟨sta_at ev w1 w2, Exa.start ev h1, fld_of_eq ev (Term.int_eval k) h2⟩, ev⟩
theorem Con.ne {C f d C' f' d' : String} {k k' : Int32} {a b : Addr} (F : Con Z C f d k a) (G : Con Z C' f' d' k' b) (q : k ≠ k') : a ≠ b := Fld.ne F.2.2 G.2.2 (fun h => q (Value.int.inj h))
theorem mask31 (x : Int32) : (x &&& (2147483647 : Int32)).toInt = x.toInt % 2147483648 := c_mask x _ 31 (by decide) (by decide)
theorem div_pos (x y : Int32) {k : Int} (hx : ¬ x < 0) (hy : y.toInt = k) (h1 : y ≠ -1) : (x / y).toInt = x.toInt / k := (c_idiv x y k hy h1).1 (by rw [Int32.lt_iff_toInt_lt] at hx; have : (0 : Int32).toInt = 0 := rfl; omega)
theorem rem_pos {x y : Int32} {k : Int} (h : 0 ≤ x.toInt) (hy : y.toInt = k) : (x - (x / y) * y).toInt = x.toInt % k := by
  rw [irem_eq_mod]; exact (c_irem x y k hy).1 h
theorem rem31 (x y : Int32) {k : Int} (hy : y.toInt = k) : ((x &&& (2147483647 : Int32)) - ((x &&& (2147483647 : Int32)) / y) * y).toInt = (x.toInt % 2147483648) % k := by
  have e := mask31 x
  rw [rem_pos (by omega) hy, e]
def Cst (Z : State) (C f : String) (d : String) (a : Addr) : Prop := Sta Z Z.heap C f d (.ref a) ∧ Exa Z Z.heap a C
theorem cst_of {args : Array Value} {C f d : String} (h1 : (Jvm.Cond.exactly (.static C f d) C).value args s none s [] = some true)
    (w1 : (Jvm.Cond.initialized C).before args s = true) (w2 : (Jvm.Cond.laysStatic C f d).before args s = true) : ∃ a, Cst s C f d a ∧ (Term.static C f d).eval args s none [] s = some (.ref a) := by
  obtain ⟨a, ev⟩ := exa_v h1
  exact ⟨a, ⟨sta_at ev w1 w2, Exa.start ev h1⟩, ev⟩
theorem goClone {own ad : String} {index : Nat} {ty : FieldType} {a : Addr} {kc : ClassId} {z : Int32} {vs : List Value} {dv : Value} (W cap : Nat) (X : Stand p l e R s m args below meth c T locs cells slots) (hx : p.tables.exec = Jvm.exec) (hZ : Z.Warmed39 s.vm) (hown : s.vm.findClass own = some m.cls)
    (w1 : (Jvm.Cond.methodLink own index ⟨ad, "clone", "()Ljava/lang/Object;"⟩).before a0 Z = true) (w2 : (Jvm.Cond.sameMethod ad "java/lang/Object" "clone" "()Ljava/lang/Object;").before a0 Z = true) (w3 : (Jvm.Cond.native ⟨"java/lang/Object", "clone", "()Ljava/lang/Object;"⟩).before a0 Z = true)
    (w4 : (Jvm.Cond.instanceMethod ⟨"java/lang/Object", "clone", "()Ljava/lang/Object;"⟩).before a0 Z = true) (w5 : (Jvm.Cond.selects ad ⟨ad, "clone", "()Ljava/lang/Object;"⟩ ⟨"java/lang/Object", "clone", "()Ljava/lang/Object;"⟩).before a0 Z = true) (w6 : (Jvm.Cond.castable ad "java/lang/Cloneable").before a0 Z = true)
    (eT : T.heap = h) (V : Arv Z h a kc ty z vs dv) (Ex : Exa Z h a ad) {g : JFrame} (hg : g.method = m) (hsize : g.locals.size = c.maxLocals) {rest : List Value} (hst : g.stack = .ref a :: rest) (hd : decode c.code g.pc = .ok (.invokevirtual index, 3))
    (hf : 1 ≤ R.frames) (hW : 2 * g.monitorRoom + (rest.map fun v => v.category).sum ≤ W) (hl : W + 14 ≤ R.locals) (hcap : z.toNatClampNeg ≤ cap) (hc : cells + 1 ≤ R.cells) (hsl : slots + cap ≤ R.slots)
    (k : ∀ T' h' b, Stand p l e R s m args below meth c T' locs (cells + 1) (slots + cap) → T'.heap = h' → Ext h h' → h.size ≤ b → Arv Z h' b kc ty z vs dv → Exa Z h' b ad → Goes p e below E T' { g with pc := g.pc + 3, stack := .ref b :: rest }) : Goes p e below E T g := by
  obtain ⟨T', h', X', e', E', A', Ex', st⟩ := cloneH X hx hZ hown w1 w2 w3 w4 w5 w6 eT V.arh Ex hg hsize hst hd hf hW hl hcap hc hsl
  exact Goes.of st (k T' h' _ X' e' E' (Nat.le_refl _) A' Ex')
theorem nsRoot {O K : String} {n : Nat} (w : (Jvm.Cond.noSuperclass O).before a0 Z = true) (wk : (Jvm.Cond.instantiable K n).before a0 Z = true) (hn : O ≠ K) : NS Z O K := by
  obtain ⟨c, k, h1, h2, h3, -, -⟩ := Cond.noSuperclass_spec w
  obtain ⟨t, kt, g1, -⟩ := Cond.instantiable_spec wk
  have ne := ids_ne h1 g1 hn
  refine ⟨c, t, h1, g1, fun fuel => ?_⟩
  cases fuel with
  | zero => rfl
  | succ f => simp [Vm.isSubclassAux, ne, h2, h3]
theorem nsNo {C S K : String} {n : Nat} (w : (Jvm.Cond.superclass C S).before a0 Z = true) (wk : (Jvm.Cond.instantiable K n).before a0 Z = true) (q : NS Z C K) (hn : C ≠ K) : ∃ c t, Z.vm.findClass C = some c ∧ Z.vm.findClass K = some t ∧ Z.vm.assignable c t = false := by
  obtain ⟨c, t, h0, g0, n3⟩ := q
  obtain ⟨p, k, kp, h1, h2, h3, h4, h5, -, h7⟩ := Cond.superclass_spec h0 w
  obtain ⟨t', kt, g1, g2, g5, g7, -⟩ := Cond.instantiable_spec wk
  cases g0.symm.trans g1
  have g8 : kt.isInterface = false := by simp only [Bool.or_eq_false_iff] at g7; exact g7.1
  have ne := ids_ne h0 g0 hn
  refine ⟨c, t, h0, g0, ?_⟩
  show Z.vm.assignableAux (255 + 1) c t = false
  simp [Vm.assignableAux, ne, h2, g2, h5, g5, g8, Vm.isSubclass, n3]
/-- what is known of Integer's cache at the start -/
def IntC (Z : State) (ca : Addr) (cl : Cell) : Prop := Sta Z Z.heap "java/lang/Integer$IntegerCache" "high" "I" (.int 127) ∧ Sta Z Z.heap "java/lang/Integer$IntegerCache" "cache" "[Ljava/lang/Integer;" (.ref ca) ∧ Arr Z Z.heap ca cl (.object "java/lang/Integer") ∧ cl.slots.size = 256 ∧ ∀ j, j < 256 → ∃ b, cl.slots[j]? = some (.ref b) ∧ Exa Z Z.heap b "java/lang/Integer"
theorem ne_of_not {args : Array Value} {t : Term} {x : Int32} (ev : t.eval args s none [] s = some (.int x)) (h : (Jvm.Cond.not (.eq t (.int 0))).before args s = true) : ¬ x = 0 := by
  intro q
  subst q
  have e := Cond.before_iff.mp h
  simp [Jvm.Cond.value, ev, Term.eval] at e
end Own1
end Jvm.Own
/- laws to paste: Road.backV, Road.codOf (cut by pick.py; bodies as the Statement names them) -/
namespace Jvm.Pilot.@@N@@
namespace StrChars
open Jvm Sem ClassFile Op Lib Jvm.Stand Jvm.Free.XT Jvm.Free.ALB Jvm.Free.JM Jvm.Free
open Jvm.Lib.Cold (StaticIs)
/-- a char array whose places are chars -/
def Ch (a : Addr) (A : Cell) (U : State) : Prop := Arr .char a A U ∧ Typed .char A
theorem Ch.mv {a : Addr} {A : Cell} {U U' : State} (h : Ch a A U) (hal : U.vm.Alike U'.vm) (hh : U'.heap = U.heap) : Ch a A U' := ⟨h.1.mv hal hh, h.2⟩
theorem Ch.keep {a : Addr} {A : Cell} {U U' : State} (h : Ch a A U) (hal : U.vm.Alike U'.vm) (hk : U'.heap[a]? = some A) : Ch a A U' := ⟨h.1.keep hal hk, h.2⟩
/-- what place i of a char[]'s cell holds -/
def cv (A : Cell) (i : Nat) : Int32 := match A.slots[i]? with | some (.int x) => x | _ => 0
theorem Ch.get {a : Addr} {A : Cell} {U : State} (h : Ch a A U) {i : Nat} (hi : i < A.slots.size) : A.slots[i]? = some (.int (cv A i)) := by
  have e := Array.getElem?_eq_getElem hi
  have f := h.2 i _ e
  unfold cv; rw [e]
  generalize A.slots[i] = v at f
  cases v <;> simp [fits] at f ⊢
/-- the byte that i2b leaves of a char -/
def lo8 (x : Int32) : Int32 := x.toInt8.toInt32
theorem fits_lo8 (y : Int32) : fits .byte (.int (lo8 y)) = true := by
  have h1 := y.toInt8.le_toInt
  have h2 := y.toInt8.toInt_lt
  simp only [lo8, fits, Bool.and_eq_true, decide_eq_true_eq, Int32.le_iff_toInt_le, Int8.toInt_toInt32, show (-128 : Int32).toInt = -128 from by decide, show (127 : Int32).toInt = 127 from by decide]
  omega
/-- A' is A but that each place j of lo .. hi - 1 holds f j -/
def Laid (A A' : Cell) (lo hi : Nat) (f : Nat → Value) : Prop := A'.cls = A.cls ∧ A'.vm = A.vm ∧ A'.slots.size = A.slots.size ∧ ∀ i, A'.slots[i]? = if lo ≤ i ∧ i < hi then some (f i) else A.slots[i]?
theorem Laid.zero (A : Cell) (lo : Nat) (f : Nat → Value) : Laid A A lo (lo + 0) f := ⟨rfl, rfl, rfl, fun i => by rw [if_neg (by omega)]⟩
theorem Laid.step {A Ak : Cell} {lo k : Nat} {f : Nat → Value} {v : Value} (h : Laid A Ak lo k f) (hlo : lo ≤ k) (hk : k < Ak.slots.size) (hv : v = f k) : Laid A (Ak.setSlot k v) lo (k + 1) f := by
  refine ⟨h.1, h.2.1, by simpa [Cell.setSlot] using h.2.2.1, fun i => ?_⟩
  by_cases e : k = i
  · subst e; rw [Cell.slots_setSlot_self v hk, if_pos (by omega), hv]
  · rw [Cell.slots_setSlot_ne v e, h.2.2.2 i]
    by_cases q : lo ≤ i ∧ i < k
    · rw [if_pos q, if_pos (by omega)]
    · rw [if_neg q, if_neg (by omega)]
def U16 : String := "java/lang/StringUTF16"
namespace Cmp5
def yN : MethodName := ⟨"java/lang/StringUTF16", "compress", "([CI[BII)I"⟩
abbrev yB : ByteArray := jdk_52_method_21_code
theorem d0 : decode yB 0 = .ok (.iconst 0, 1) := by decide +kernel
theorem d1 : decode yB 1 = .ok (.istore 5, 2) := by decide +kernel
theorem d3 : decode yB 3 = .ok (.iload 5, 2) := by decide +kernel
theorem d5 : decode yB 5 = .ok (.iload 4, 2) := by decide +kernel
theorem d7 : decode yB 7 = .ok (.if_icmp (.ge) 37, 3) := by decide +kernel
theorem d10 : decode yB 10 = .ok (.aload_n 0, 1) := by decide +kernel
theorem d11 : decode yB 11 = .ok (.iload_n 1, 1) := by decide +kernel
theorem d12 : decode yB 12 = .ok (.caload, 1) := by decide +kernel
theorem d13 : decode yB 13 = .ok (.istore 6, 2) := by decide +kernel
theorem d15 : decode yB 15 = .ok (.iload 6, 2) := by decide +kernel
theorem d17 : decode yB 17 = .ok (.sipush 255, 3) := by decide +kernel
theorem d20 : decode yB 20 = .ok (.if_icmp (.le) 6, 3) := by decide +kernel
theorem d26 : decode yB 26 = .ok (.aload_n 2, 1) := by decide +kernel
theorem d27 : decode yB 27 = .ok (.iload_n 3, 1) := by decide +kernel
theorem d28 : decode yB 28 = .ok (.iload 6, 2) := by decide +kernel
theorem d30 : decode yB 30 = .ok (.i2b, 1) := by decide +kernel
theorem d31 : decode yB 31 = .ok (.bastore, 1) := by decide +kernel
theorem d32 : decode yB 32 = .ok (.iinc 1 1, 3) := by decide +kernel
theorem d35 : decode yB 35 = .ok (.iinc 3 1, 3) := by decide +kernel
theorem d38 : decode yB 38 = .ok (.iinc 5 1, 3) := by decide +kernel
theorem d41 : decode yB 41 = .ok (.goto (-38), 3) := by decide +kernel
theorem d44 : decode yB 44 = .ok (.iload 4, 2) := by decide +kernel
theorem d46 : decode yB 46 = .ok (.ireturn, 1) := by decide +kernel
def site : List Cond := []
def tab : Cond := tabOf yN yB 7 (some .int) site
def P (b : Addr) (A : Cell) (d : Addr) (B : Cell) (o q len : Nat) (args : Array Value) (s : State) : Prop := args = #[.ref b, .int (Int32.ofNat o), .ref d, .int (Int32.ofNat q), .int (Int32.ofNat len)] ∧ Ch b A s ∧ Arr .byte d B s ∧ b ≠ d ∧ o + len ≤ A.slots.size ∧ q + len ≤ B.slots.size ∧ ∀ i, i < len → ¬ 255 < cv A (o + i)
def E (b : Addr) (A : Cell) (d : Addr) (B : Cell) (o q len : Nat) (r : Option Value) (s u : State) : Prop := r = some (.int (Int32.ofNat len)) ∧ ∃ B', Put d B' s u ∧ Laid B B' q (q + len) (fun j => Value.int (lo8 (cv A (o + (j - q)))))
/-- no char of the range above 255: len; the places written hold each char's low byte -/
theorem law (l : Launch) (b : Addr) (A : Cell) (d : Addr) (B : Cell) (o q len : Nat) : Law l yN 5 5 0 0 yB 7 (some .int) site (P b A d B o q len) (E b A d B o q len) (copyLocs d q len) 0 0 := by
  refine Law.of_walk (plainFor_of_name (by decide +kernel)) (by decide +kernel) (by decide +kernel) (by decide) (fun _ _ h => by rw [h.1]; rfl) (fun _ U U' hal hh h => ⟨h.1, h.2.1.mv hal hh, h.2.2.1.mv hal hh, h.2.2.2⟩) (fun r U U' V V' h1 hal h2 h => ⟨h.1, h.2.elim fun B' q => ⟨B', q.1.mv h1 h2, q.2⟩⟩) ?_
  intro p e s m args below meth c s₁ X0 hexec hbytes hml hret hlk hnm hown hh0 W hP
  obtain ⟨rfl, hA, hB, hne, l1, l2, hp⟩ := hP
  have c1 : Steps p.tables e below (s₁.setTop (entryFrame m #[.ref b, .int (Int32.ofNat o), .ref d, .int (Int32.ofNat q), .int (Int32.ofNat len)] 7)) (s₁.setTop (mkF m 0 #[.val (.ref b), .val (.int (Int32.ofNat o)), .val (.ref d), .val (.int (Int32.ofNat q)), .val (.int (Int32.ofNat len)), .unset, .unset] [])) := entry rfl
  have hA0 := hA.1.mv X0.warmed.alike hh0
  have hB0 := hB.mv X0.warmed.alike hh0
  have a31 := hA.1.2.2.2
  have c2 : Steps p.tables e below (s₁.setTop (entryFrame m #[.ref b, .int (Int32.ofNat o), .ref d, .int (Int32.ofNat q), .int (Int32.ofNat len)] 7)) (s₁.setTop (mkF m 3 #[.val (.ref b), .val (.int (Int32.ofNat o)), .val (.ref d), .val (.int (Int32.ofNat q)), .val (.int (Int32.ofNat len)), .val (.int 0), .unset] [])) := c1.trans (by
    refine iconstV X0.here hexec rfl 0 (hb hbytes d0) (by decide) ?_
    refine XS.istore X0.here hexec rfl (hb hbytes d1) rfl rfl ?_
    exact Steps.refl _)
  have loop : ∀ (r i : Nat), i + r = len → ∀ (z : Slot), (z = .unset ∨ ∃ w, z = .val w ∧ w.category = 1) → ∀ (Tl : State) (Bk : Cell), Stand p l e { frames := 0, locals := 0, cells := 0, slots := 0 } s m #[.ref b, .int (Int32.ofNat o), .ref d, .int (Int32.ofNat q), .int (Int32.ofNat len)] below meth c Tl ([] ++ copyLocs d q i) 0 0 → Put d Bk s₁ Tl → Laid B Bk q (q + i) (fun j => Value.int (lo8 (cv A (o + (j - q))))) →
      Steps p.tables e below (s₁.setTop (entryFrame m #[.ref b, .int (Int32.ofNat o), .ref d, .int (Int32.ofNat q), .int (Int32.ofNat len)] 7)) (Tl.setTop (mkF m 3 #[.val (.ref b), .val (.int (Int32.ofNat (o + i))), .val (.ref d), .val (.int (Int32.ofNat (q + i))), .val (.int (Int32.ofNat len)), .val (.int (Int32.ofNat i)), z] [])) → ∃ (T' : State) (B' : Cell) (z' : Slot), Stand p l e { frames := 0, locals := 0, cells := 0, slots := 0 } s m #[.ref b, .int (Int32.ofNat o), .ref d, .int (Int32.ofNat q), .int (Int32.ofNat len)] below meth c T' ([] ++ copyLocs d q len) 0 0 ∧ Put d B' s₁ T' ∧ Laid B B' q (q + len) (fun j => Value.int (lo8 (cv A (o + (j - q))))) ∧
      Steps p.tables e below (s₁.setTop (entryFrame m #[.ref b, .int (Int32.ofNat o), .ref d, .int (Int32.ofNat q), .int (Int32.ofNat len)] 7)) (T'.setTop (mkF m 3 #[.val (.ref b), .val (.int (Int32.ofNat (o + len))), .val (.ref d), .val (.int (Int32.ofNat (q + len))), .val (.int (Int32.ofNat len)), .val (.int (Int32.ofNat len)), z'] [])) := by
    intro r
    induction r with
    | zero =>
      intro i hi z hz Tl Bk Xl pl fl cl
      have hil : i = len := by omega
      rw [hil] at Xl fl cl
      exact ⟨Tl, Bk, z, Xl, pl, fl, cl⟩
    | succ r ih =>
      intro i hi z hz Tl Bk Xl pl fl cl
      have all := X0.warmed.alike.symm.trans Xl.warmed.alike
      have hAl := hA0.keep all (pl.other hne hA0.1)
      have hBk := hB0.like all pl.1 fl.1 fl.2.1 fl.2.2.1
      have hlt : q + i < Bk.slots.size := by rw [fl.2.2.1]; omega
      have c3 : Steps p.tables e below (s₁.setTop (entryFrame m #[.ref b, .int (Int32.ofNat o), .ref d, .int (Int32.ofNat q), .int (Int32.ofNat len)] 7)) (Tl.setTop (mkF m 12 #[.val (.ref b), .val (.int (Int32.ofNat (o + i))), .val (.ref d), .val (.int (Int32.ofNat (q + i))), .val (.int (Int32.ofNat len)), .val (.int (Int32.ofNat i)), z] [.int (Int32.ofNat (o + i)), .ref b])) := cl.trans (by
        refine XS.iload Xl.here hexec rfl (hb hbytes d3) rfl ?_
        refine XS.iload Xl.here hexec rfl (hb hbytes d5) rfl ?_
        refine XS.icmpNo Xl.here hexec rfl (hb hbytes d7) rfl (ii_ge_f (lt32 (by omega) (by omega))) ?_
        refine XS.aloadN Xl.here hexec rfl (hb hbytes d10) rfl rfl ?_
        refine XS.iloadN Xl.here hexec rfl (hb hbytes d11) rfl ?_
        exact Steps.refl _)
      have c4 : Steps p.tables e below (s₁.setTop (entryFrame m #[.ref b, .int (Int32.ofNat o), .ref d, .int (Int32.ofNat q), .int (Int32.ofNat len)] 7)) (Tl.setTop (mkF m 13 #[.val (.ref b), .val (.int (Int32.ofNat (o + i))), .val (.ref d), .val (.int (Int32.ofNat (q + i))), .val (.int (Int32.ofNat len)), .val (.int (Int32.ofNat i)), z] [.int (cv A (o + i))])) := c3.trans (by
        refine Xl.aget hexec hAl rfl (hA.get (i := o + i) (by omega)) rfl rfl (hb hbytes d12) ?_
        exact Steps.refl _)
      have c5 : Steps p.tables e below (s₁.setTop (entryFrame m #[.ref b, .int (Int32.ofNat o), .ref d, .int (Int32.ofNat q), .int (Int32.ofNat len)] 7)) (Tl.setTop (mkF m 15 #[.val (.ref b), .val (.int (Int32.ofNat (o + i))), .val (.ref d), .val (.int (Int32.ofNat (q + i))), .val (.int (Int32.ofNat len)), .val (.int (Int32.ofNat i)), .val (.int (cv A (o + i)))] [])) := c4.trans (by
        refine XS.istoreS Xl.here hexec rfl (hb hbytes d13) rfl rfl hz ?_
        exact Steps.refl _)
      have c6 : Steps p.tables e below (s₁.setTop (entryFrame m #[.ref b, .int (Int32.ofNat o), .ref d, .int (Int32.ofNat q), .int (Int32.ofNat len)] 7)) (Tl.setTop (mkF m 31 #[.val (.ref b), .val (.int (Int32.ofNat (o + i))), .val (.ref d), .val (.int (Int32.ofNat (q + i))), .val (.int (Int32.ofNat len)), .val (.int (Int32.ofNat i)), .val (.int (cv A (o + i)))] [.int (lo8 (cv A (o + i))), .int (Int32.ofNat (q + i)), .ref d])) := c5.trans (by
        refine XS.iload Xl.here hexec rfl (hb hbytes d15) rfl ?_
        refine sipushV Xl.here hexec rfl 255 (hb hbytes d17) (by decide) ?_
        refine XS.icmpYes Xl.here hexec rfl (pc0 := 20) rfl (hb hbytes d20) rfl (ii_le_t (hp i (by omega))) (by decide) rfl ?_
        refine XS.aloadN Xl.here hexec rfl (hb hbytes d26) rfl rfl ?_
        refine XS.iloadN Xl.here hexec rfl (hb hbytes d27) rfl ?_
        refine XS.iload Xl.here hexec rfl (hb hbytes d28) rfl ?_
        refine i2b Xl.here hexec rfl (hb hbytes d30) rfl ?_
        exact Steps.refl _)
      obtain ⟨T7, X7, p7, st7⟩ := Xl.aput hexec hBk rfl hlt rfl (fits_lo8 (cv A (o + i))) (g := (mkF m 31 #[.val (.ref b), .val (.int (Int32.ofNat (o + i))), .val (.ref d), .val (.int (Int32.ofNat (q + i))), .val (.int (Int32.ofNat len)), .val (.int (Int32.ofNat i)), .val (.int (cv A (o + i)))] [.int (lo8 (cv A (o + i))), .int (Int32.ofNat (q + i)), .ref d])) rfl (rest := []) rfl (hb hbytes d31)
      have c8 : Steps p.tables e below (s₁.setTop (entryFrame m #[.ref b, .int (Int32.ofNat o), .ref d, .int (Int32.ofNat q), .int (Int32.ofNat len)] 7)) (T7.setTop (mkF m 32 #[.val (.ref b), .val (.int (Int32.ofNat (o + i))), .val (.ref d), .val (.int (Int32.ofNat (q + i))), .val (.int (Int32.ofNat len)), .val (.int (Int32.ofNat i)), .val (.int (cv A (o + i)))] [])) := c6.trans (st7 _ (Steps.refl _))
      have c9 : Steps p.tables e below (s₁.setTop (entryFrame m #[.ref b, .int (Int32.ofNat o), .ref d, .int (Int32.ofNat q), .int (Int32.ofNat len)] 7)) (T7.setTop (mkF m 3 #[.val (.ref b), .val (.int (Int32.ofNat (o + i) + 1)), .val (.ref d), .val (.int (Int32.ofNat (q + i) + 1)), .val (.int (Int32.ofNat len)), .val (.int (Int32.ofNat i + 1)), .val (.int (cv A (o + i)))] [])) := c8.trans (by
        refine iincV X7.here hexec rfl 1 (hb hbytes d32) (by decide) rfl rfl ?_
        refine iincV X7.here hexec rfl 1 (hb hbytes d35) (by decide) rfl rfl ?_
        refine iincV X7.here hexec rfl 1 (hb hbytes d38) (by decide) rfl rfl ?_
        refine XS.goto X7.here hexec rfl (pc0 := 41) rfl (hb hbytes d41) (by decide) rfl ?_
        exact Steps.refl _)
      have c10 : Steps p.tables e below (s₁.setTop (entryFrame m #[.ref b, .int (Int32.ofNat o), .ref d, .int (Int32.ofNat q), .int (Int32.ofNat len)] 7)) (T7.setTop (mkF m 3 #[.val (.ref b), .val (.int (Int32.ofNat (o + (i + 1)))), .val (.ref d), .val (.int (Int32.ofNat (q + (i + 1)))), .val (.int (Int32.ofNat len)), .val (.int (Int32.ofNat (i + 1))), .val (.int (cv A (o + i)))] [])) := by
        have := c9
        rw [succ32, succ32, succ32] at this
        exact this
      exact ih (i + 1) (by omega) _ (Or.inr ⟨_, rfl, rfl⟩) T7 _ (by rw [copyLocs_step, ← List.append_assoc]; exact X7) (pl.trans p7) (fl.step (by omega) hlt (by simp)) c10
  obtain ⟨T9, B9, z9, X9, p9, f9, g9⟩ := loop len 0 (by omega) .unset (Or.inl rfl) s₁ B (by simpa [copyLocs] using X0) ⟨hB0.1, fun _ _ => rfl, rfl⟩ (Laid.zero _ _ _) c2
  have c11 : Steps p.tables e below (s₁.setTop (entryFrame m #[.ref b, .int (Int32.ofNat o), .ref d, .int (Int32.ofNat q), .int (Int32.ofNat len)] 7)) (T9.setTop (mkF m 46 #[.val (.ref b), .val (.int (Int32.ofNat (o + len))), .val (.ref d), .val (.int (Int32.ofNat (q + len))), .val (.int (Int32.ofNat len)), .val (.int (Int32.ofNat len)), z9] [.int (Int32.ofNat len)])) := g9.trans (by
    refine XS.iload X9.here hexec rfl (hb hbytes d3) rfl ?_
    refine XS.iload X9.here hexec rfl (hb hbytes d5) rfl ?_
    refine XS.icmpYes X9.here hexec rfl (pc0 := 7) rfl (hb hbytes d7) rfl (ii_ge_t (nlt32 (by omega) (Nat.le_refl _))) (by decide) rfl ?_
    refine XS.iload X9.here hexec rfl (hb hbytes d44) rfl ?_
    exact Steps.refl _)
  exact ⟨T9, some (.int (Int32.ofNat len)), _, _, _, X9, by simp, rfl, rfl, (fun h => by cases h), ⟨rfl, B9, p9.from hh0, f9⟩, fun fs hl => c11.trans (X9.ireturnOut hexec hret rfl (Or.inl rfl) (hb hbytes d46) hl)⟩
end Cmp5
namespace Cmp3
def yN : MethodName := ⟨"java/lang/StringUTF16", "compress", "([CII)[B"⟩
abbrev yB : ByteArray := jdk_52_method_16_code
theorem d0 : decode yB 0 = .ok (.iload_n 2, 1) := by decide +kernel
theorem d1 : decode yB 1 = .ok (.newarray .byte, 2) := by decide +kernel
theorem d3 : decode yB 3 = .ok (.astore_n 3, 1) := by decide +kernel
theorem d4 : decode yB 4 = .ok (.aload_n 0, 1) := by decide +kernel
theorem d5 : decode yB 5 = .ok (.iload_n 1, 1) := by decide +kernel
theorem d6 : decode yB 6 = .ok (.aload_n 3, 1) := by decide +kernel
theorem d7 : decode yB 7 = .ok (.iconst 0, 1) := by decide +kernel
theorem d8 : decode yB 8 = .ok (.iload_n 2, 1) := by decide +kernel
theorem d9 : decode yB 9 = .ok (.invokestatic 115, 3) := by decide +kernel
theorem d12 : decode yB 12 = .ok (.istore 4, 2) := by decide +kernel
theorem d14 : decode yB 14 = .ok (.iload 4, 2) := by decide +kernel
theorem d16 : decode yB 16 = .ok (.iload_n 2, 1) := by decide +kernel
theorem d17 : decode yB 17 = .ok (.if_icmp (.eq) 40, 3) := by decide +kernel
theorem d57 : decode yB 57 = .ok (.aload_n 3, 1) := by decide +kernel
theorem d58 : decode yB 58 = .ok (.areturn, 1) := by decide +kernel
def site : List Cond := [.arrayClass .byte, Cmp5.tab] ++ staticW U16 115 Cmp5.yN
def tab : Cond := tabOf yN yB 6 (some (.array .byte)) site
def P (b : Addr) (A : Cell) (o len : Nat) (args : Array Value) (s : State) : Prop := args = #[.ref b, .int (Int32.ofNat o), .int (Int32.ofNat len)] ∧ Ch b A s ∧ o + len ≤ A.slots.size ∧ len ≤ 536870912 ∧ ∀ i, i < len → ¬ 255 < cv A (o + i)
def E (b : Addr) (A : Cell) (o len : Nat) (r : Option Value) (s u : State) : Prop := NewArr .byte "[B" len (fun j => .int (lo8 (cv A (o + j)))) r s u ∧ u.heap.size = s.heap.size + 1
/-- no char of the range above 255: a new byte[] of their low bytes -/
theorem law (l : Launch) (b : Addr) (A : Cell) (o len : Nat) : Law l yN 3 3 1 18 yB 6 (some (.array .byte)) site (P b A o len) (E b A o len) [] 1 len := by
  refine Law.of_walk (plainFor_of_name (by decide +kernel)) (by decide +kernel) (by decide +kernel) (by decide) (fun _ _ h => by rw [h.1]; rfl) (fun _ U U' hal hh h => ⟨h.1, h.2.1.mv hal hh, h.2.2⟩) (fun r U U' V V' h1 hal h2 h => ⟨NewArr.mv r U U' V V' h1 hal h2 h.1, by rw [h1, h2]; exact h.2⟩) ?_
  intro p e s m args below meth c s₁ X0 hexec hbytes hml hret hlk hnm hown hh0 W hP
  obtain ⟨rfl, hA, l1, l2, hp⟩ := hP
  have a31 := hA.1.2.2.2
  have c1 : Steps p.tables e below (s₁.setTop (entryFrame m #[.ref b, .int (Int32.ofNat o), .int (Int32.ofNat len)] 6)) (s₁.setTop (mkF m 0 #[.val (.ref b), .val (.int (Int32.ofNat o)), .val (.int (Int32.ofNat len)), .unset, .unset, .unset] [])) := entry rfl
  have c2 : Steps p.tables e below (s₁.setTop (entryFrame m #[.ref b, .int (Int32.ofNat o), .int (Int32.ofNat len)] 6)) (s₁.setTop (mkF m 1 #[.val (.ref b), .val (.int (Int32.ofNat o)), .val (.int (Int32.ofNat len)), .unset, .unset, .unset] [.int (Int32.ofNat len)])) := c1.trans (by
    refine XS.iloadN X0.here hexec rfl (hb hbytes d0) rfl ?_
    exact Steps.refl _)
  obtain ⟨T3, B3, X3, ba3, bs3, bv3, bh3, bf3, st3⟩ := X0.anew hexec (atype := .byte) (wk W (.arrayClass .byte)) rfl (by show len * 1 ≤ _; omega) (by omega) (g := (mkF m 1 #[.val (.ref b), .val (.int (Int32.ofNat o)), .val (.int (Int32.ofNat len)), .unset, .unset, .unset] [.int (Int32.ofNat len)])) rfl (hb hbytes d1) (rest := []) rfl (Nat.le_refl _) (by show 0 + len ≤ len; omega)
  rw [hh0] at ba3 st3
  have kp3 : XT.Kept s T3 := (XT.Kept.of_eq hh0).push bh3
  have hA3 := hA.keep X3.warmed.alike (kp3 _ _ hA.1.1)
  have hne : b ≠ s.heap.size := hA.1.ne
  have c4 : Steps p.tables e below (s₁.setTop (entryFrame m #[.ref b, .int (Int32.ofNat o), .int (Int32.ofNat len)] 6)) (T3.setTop (mkF m 3 #[.val (.ref b), .val (.int (Int32.ofNat o)), .val (.int (Int32.ofNat len)), .unset, .unset, .unset] [.ref s.heap.size])) := c2.trans (st3 _ (Steps.refl _))
  have c5 : Steps p.tables e below (s₁.setTop (entryFrame m #[.ref b, .int (Int32.ofNat o), .int (Int32.ofNat len)] 6)) (T3.setTop (mkF m 9 #[.val (.ref b), .val (.int (Int32.ofNat o)), .val (.int (Int32.ofNat len)), .val (.ref s.heap.size), .unset, .unset] [.int (Int32.ofNat len), .int 0, .ref s.heap.size, .int (Int32.ofNat o), .ref b])) := c4.trans (by
    refine XS.astoreN X3.here hexec rfl (hb hbytes d3) rfl rfl rfl ?_
    refine XS.aloadN X3.here hexec rfl (hb hbytes d4) rfl rfl ?_
    refine XS.iloadN X3.here hexec rfl (hb hbytes d5) rfl ?_
    refine XS.aloadN X3.here hexec rfl (hb hbytes d6) rfl rfl ?_
    refine iconstV X3.here hexec rfl 0 (hb hbytes d7) (by decide) ?_
    refine XS.iloadN X3.here hexec rfl (hb hbytes d8) rfl ?_
    exact Steps.refl _)
  obtain ⟨v6, T6, X6, E6, g6⟩ := X3.callS hexec (Cmp5.law l b A s.heap.size B3 o 0 len) hown (wks W (staticW U16 115 Cmp5.yN)) (wk W Cmp5.tab) (W := 0) (Nat.le_of_ble_eq_true rfl) (Nat.le_of_ble_eq_true rfl) (Nat.le_refl _) (by show 0 + len + 0 ≤ len; omega) (g := (mkF m 9 #[.val (.ref b), .val (.int (Int32.ofNat o)), .val (.int (Int32.ofNat len)), .val (.ref s.heap.size), .unset, .unset] [.int (Int32.ofNat len), .int (Int32.ofNat 0), .ref s.heap.size, .int (Int32.ofNat o), .ref b])) rfl (by rw [hml]; rfl) c5 (argsL := [.ref b, .int (Int32.ofNat o), .ref s.heap.size, .int (Int32.ofNat 0), .int (Int32.ofNat len)]) (rest := []) rfl rfl (by show 2 * 0 + 0 ≤ _; decide) (hb hbytes d9) (⟨rfl, hA3, ba3, hne, l1, by rw [bs3]; simp, hp⟩)
  obtain ⟨rfl, B6, p6, f6⟩ := E6
  have c7 : Steps p.tables e below (s₁.setTop (entryFrame m #[.ref b, .int (Int32.ofNat o), .int (Int32.ofNat len)] 6)) (T6.setTop (mkF m 12 #[.val (.ref b), .val (.int (Int32.ofNat o)), .val (.int (Int32.ofNat len)), .val (.ref s.heap.size), .unset, .unset] [.int (Int32.ofNat len)])) := g6
  have c8 : Steps p.tables e below (s₁.setTop (entryFrame m #[.ref b, .int (Int32.ofNat o), .int (Int32.ofNat len)] 6)) (T6.setTop (mkF m 58 #[.val (.ref b), .val (.int (Int32.ofNat o)), .val (.int (Int32.ofNat len)), .val (.ref s.heap.size), .val (.int (Int32.ofNat len)), .unset] [.ref s.heap.size])) := c7.trans (by
    refine XS.istore X6.here hexec rfl (hb hbytes d12) rfl rfl ?_
    refine XS.iload X6.here hexec rfl (hb hbytes d14) rfl ?_
    refine XS.iloadN X6.here hexec rfl (hb hbytes d16) rfl ?_
    refine XS.icmpYes X6.here hexec rfl (pc0 := 17) rfl (hb hbytes d17) rfl (ii_eq_t rfl) (by decide) rfl ?_
    refine XS.aloadN X6.here hexec rfl (hb hbytes d57) rfl rfl ?_
    exact Steps.refl _)
  have X8 := X6.wide (L' := []) (cells' := 1) (slots' := len) (fun x hx hlt => by
    simp only [List.nil_append, copyLocs, List.mem_map, List.mem_range] at hx
    obtain ⟨i, -, rfl⟩ := hx
    exact absurd hlt (Nat.lt_irrefl _)) (Nat.le_refl _) (by omega)
  exact ⟨T6, some (.ref s.heap.size), _, _, _, X8, rfl, rfl, rfl, (fun h => by cases h), ⟨⟨rfl, B6, ba3.like (X3.warmed.alike.symm.trans X6.warmed.alike) p6.1 f6.1 f6.2.1 f6.2.2.1, f6.2.1.trans bv3, by rw [X6.warmed.alike.findClass, f6.1]; exact bf3, by rw [f6.2.2.1, bs3]; simp, fun j hj => by rw [f6.2.2.2 j, if_pos (by omega)]; rfl, kp3.put p6 (Nat.le_refl _)⟩, by rw [p6.2.2, bh3, hh0]; simp⟩, fun fs hl => c8.trans (X8.areturnOut hexec rfl hret rfl (hb hbytes d58) hl)⟩
end Cmp3
namespace CodL
def yN : MethodName := ⟨"java/lang/StringUTF16", "coderFromArrayLen", "([BI)B"⟩
abbrev yB : ByteArray := jdk_52_method_15_code
theorem d0 : decode yB 0 = .ok (.iload_n 1, 1) := by decide +kernel
theorem d1 : decode yB 1 = .ok (.aload_n 0, 1) := by decide +kernel
theorem d2 : decode yB 2 = .ok (.arraylength, 1) := by decide +kernel
theorem d3 : decode yB 3 = .ok (.isub, 1) := by decide +kernel
theorem d4 : decode yB 4 = .ok (.bipush 31, 2) := by decide +kernel
theorem d6 : decode yB 6 = .ok (.iushr, 1) := by decide +kernel
theorem d7 : decode yB 7 = .ok (.i2b, 1) := by decide +kernel
theorem d8 : decode yB 8 = .ok (.ireturn, 1) := by decide +kernel
def site : List Cond := []
def tab : Cond := tabOf yN yB 2 (some .byte) site
def P (d : Addr) (B : Cell) (args : Array Value) (s : State) : Prop := args = #[.ref d, .int (Int32.ofNat B.slots.size)] ∧ Arr .byte d B s
def E (r : Option Value) (s u : State) : Prop := XT.PureE (some (.int 0)) r s u
/-- an array as long as the number of chars: LATIN1 -/
theorem law (l : Launch) (d : Addr) (B : Cell) : Law l yN 2 2 0 0 yB 2 (some .byte) site (P d B) E [] 0 0 := by
  refine Law.of_walk (plainFor_of_name (by decide +kernel)) (by decide +kernel) (by decide +kernel) (by decide) (fun _ _ h => by rw [h.1]; rfl) (fun _ U U' hal hh h => ⟨h.1, h.2.mv hal hh⟩) (fun r U U' V V' h1 hal h2 h => XT.PureE.mv r U U' V V' h1 hal h2 h) ?_
  intro p e s m args below meth c s₁ X0 hexec hbytes hml hret hlk hnm hown hh0 W hP
  obtain ⟨rfl, hB⟩ := hP
  have hB0 := hB.mv X0.warmed.alike hh0
  have c1 : Steps p.tables e below (s₁.setTop (entryFrame m #[.ref d, .int (Int32.ofNat B.slots.size)] 2)) (s₁.setTop (mkF m 0 #[.val (.ref d), .val (.int (Int32.ofNat B.slots.size))] [])) := entry rfl
  have c2 : Steps p.tables e below (s₁.setTop (entryFrame m #[.ref d, .int (Int32.ofNat B.slots.size)] 2)) (s₁.setTop (mkF m 2 #[.val (.ref d), .val (.int (Int32.ofNat B.slots.size))] [.ref d, .int (Int32.ofNat B.slots.size)])) := c1.trans (by
    refine XS.iloadN X0.here hexec rfl (hb hbytes d0) rfl ?_
    refine XS.aloadN X0.here hexec rfl (hb hbytes d1) rfl rfl ?_
    exact Steps.refl _)
  have c3 : Steps p.tables e below (s₁.setTop (entryFrame m #[.ref d, .int (Int32.ofNat B.slots.size)] 2)) (s₁.setTop (mkF m 8 #[.val (.ref d), .val (.int (Int32.ofNat B.slots.size))] [.int (lo8 (ushr (Int32.ofNat B.slots.size - Int32.ofNat B.slots.size) 31))])) := c2.trans (by
    refine X0.alen hexec hB0 rfl rfl (hb hbytes d2) ?_
    refine XS.isub X0.here hexec rfl (hb hbytes d3) rfl ?_
    refine bipushV X0.here hexec rfl 31 (hb hbytes d4) (by decide) ?_
    refine iushr X0.here hexec rfl (hb hbytes d6) rfl ?_
    refine i2b X0.here hexec rfl (hb hbytes d7) rfl ?_
    exact Steps.refl _)
  have e0 : lo8 (ushr (Int32.ofNat B.slots.size - Int32.ofNat B.slots.size) 31) = 0 := by rw [Int32.sub_self]; decide
  rw [e0] at c3
  exact ⟨s₁, some (.int 0), _, _, _, X0, rfl, rfl, rfl, (fun h => by cases h), ⟨rfl, hh0⟩, fun fs hl => c3.trans (X0.ireturnOut hexec hret rfl (Or.inr (Or.inr (Or.inl rfl))) (hb hbytes d8) hl)⟩
end CodL
/-- the String at a is Latin-1 over a new byte[] (the heap's one new cell): the low bytes of the len chars of A from o on; every cell but a is kept -/
def Got (a : Addr) (D : Cell) (fV fC : Field) (A : Cell) (o len : Nat) (r : Option Value) (s u : State) : Prop := r = none ∧ ∃ D' V : Cell, Blank "java/lang/String" a D' u ∧ Same D D' [fV.slot, fC.slot] ∧ D'.slots[fV.slot]? = some (.ref s.heap.size) ∧ D'.slots[fC.slot]? = some (.int 0) ∧ Arr .byte s.heap.size V u ∧ V.vm = .none ∧ u.vm.findClass "[B" = some V.cls ∧ V.slots.size = len ∧ (∀ j, j < len → V.slots[j]? = some (.int (lo8 (cv A (o + j))))) ∧ (∀ (y : Addr) (c : Cell), y ≠ a → s.heap[y]? = some c → u.heap[y]? = some c) ∧ u.heap.size = s.heap.size + 1
theorem Got.mv {a : Addr} {D A : Cell} {fV fC : Field} {o len : Nat} : ∀ r (U U' V V' : State), U'.heap = U.heap → V.vm.Alike V'.vm → V'.heap = V.heap → Got a D fV fC A o len r U V → Got a D fV fC A o len r U' V' :=
  fun r U U' V V' h1 hal h2 ⟨e0, D', X, a1, a2, a3, a4, a5, a6, a7, a8, a9, a10, a11⟩ => ⟨e0, D', X, a1.mv hal h2, a2, by rw [h1]; exact a3, a4, by rw [h1]; exact a5.mv hal h2, a6, by rw [hal.findClass]; exact a7, a8, a9, by rw [h1, h2]; exact a10, by rw [h1, h2]; exact a11⟩
namespace New4
def yN : MethodName := ⟨"java/lang/String", "<init>", "([CIILjava/lang/Void;)V"⟩
abbrev yB : ByteArray := jdk_42_method_149_code
theorem d0 : decode yB 0 = .ok (.aload_n 0, 1) := by decide +kernel
theorem d1 : decode yB 1 = .ok (.invokespecial 1, 3) := by decide +kernel
theorem d4 : decode yB 4 = .ok (.iload_n 3, 1) := by decide +kernel
theorem d5 : decode yB 5 = .ok (.ifCond (.ne) 22, 3) := by decide +kernel
theorem d27 : decode yB 27 = .ok (.getstatic 38, 3) := by decide +kernel
theorem d30 : decode yB 30 = .ok (.ifCond (.eq) 28, 3) := by decide +kernel
theorem d33 : decode yB 33 = .ok (.aload_n 1, 1) := by decide +kernel
theorem d34 : decode yB 34 = .ok (.iload_n 2, 1) := by decide +kernel
theorem d35 : decode yB 35 = .ok (.iload_n 3, 1) := by decide +kernel
theorem d36 : decode yB 36 = .ok (.invokestatic 177, 3) := by decide +kernel
theorem d39 : decode yB 39 = .ok (.astore 5, 2) := by decide +kernel
theorem d41 : decode yB 41 = .ok (.aload_n 0, 1) := by decide +kernel
theorem d42 : decode yB 42 = .ok (.aload 5, 2) := by decide +kernel
theorem d44 : decode yB 44 = .ok (.iload_n 3, 1) := by decide +kernel
theorem d45 : decode yB 45 = .ok (.invokestatic 47, 3) := by decide +kernel
theorem d48 : decode yB 48 = .ok (.putfield 15, 3) := by decide +kernel
theorem d51 : decode yB 51 = .ok (.aload_n 0, 1) := by decide +kernel
theorem d52 : decode yB 52 = .ok (.aload 5, 2) := by decide +kernel
theorem d54 : decode yB 54 = .ok (.putfield 9, 3) := by decide +kernel
theorem d57 : decode yB 57 = .ok (.return_, 1) := by decide +kernel
def site : List Cond := [.fieldLink "java/lang/String" 38 "java/lang/String" "COMPACT_STRINGS" "Z", Cmp3.tab, CodL.tab, .laysFinal "java/lang/String" "java/lang/String" "value" "[B", .fieldLink "java/lang/String" 9 "java/lang/String" "value" "[B", .laysFinal "java/lang/String" "java/lang/String" "coder" "B", .fieldLink "java/lang/String" 15 "java/lang/String" "coder" "B"] ++ objW "java/lang/String" 1 ++ staticW "java/lang/String" 177 Cmp3.yN ++ staticW "java/lang/String" 47 CodL.yN
def tab : Cond := tabOf yN yB 6 none site
def P (a : Addr) (D : Cell) (fV fC : Field) (b : Addr) (A : Cell) (z : Int32) (o len : Nat) (args : Array Value) (s : State) : Prop := args = #[.ref a, .ref b, .int (Int32.ofNat o), .int (Int32.ofNat len), .null] ∧ Blank "java/lang/String" a D s ∧ Found "java/lang/String" "value" "[B" fV s ∧ Found "java/lang/String" "coder" "B" fC s ∧ Ch b A s ∧ StaticIs s "java/lang/String" "COMPACT_STRINGS" "Z" (.int z) ∧ ¬ z = 0 ∧ 0 < len ∧ o + len ≤ A.slots.size ∧ len ≤ 536870912 ∧ ∀ i, i < len → ¬ 255 < cv A (o + i)
def E (a : Addr) (D : Cell) (fV fC : Field) (A : Cell) (o len : Nat) (r : Option Value) (s u : State) : Prop := Got a D fV fC A o len r s u
/-- len > 0, no char of the range above 255: a Latin-1 String of their low bytes -/
theorem law (l : Launch) (a : Addr) (D : Cell) (fV fC : Field) (b : Addr) (A : Cell) (z : Int32) (o len : Nat) : Law l yN 5 4 2 35 yB 6 none site (P a D fV fC b A z o len) (E a D fV fC A o len) [⟨a, fC.slot⟩, ⟨a, fV.slot⟩] 1 len := by
  refine Law.of_walk (plainFor_of_name (by decide +kernel)) (by decide +kernel) (by decide +kernel) (by decide) (fun _ _ h => by rw [h.1]; rfl) (fun _ U U' hal hh h => ⟨h.1, h.2.1.mv hal hh, h.2.2.1.al hal, h.2.2.2.1.al hal, h.2.2.2.2.1.mv hal hh, h.2.2.2.2.2.1.there hal hh, h.2.2.2.2.2.2⟩) (fun r U U' V V' h1 hal h2 h => Got.mv r U U' V V' h1 hal h2 h) ?_
  intro p e s m args below meth c s₁ X0 hexec hbytes hml hret hlk hnm hown hh0 W hP
  obtain ⟨rfl, hB, f1, f2, hA, s1, hz, l0, l1, l2, hp⟩ := hP
  have a31 := hA.1.2.2.2
  have c1 : Steps p.tables e below (s₁.setTop (entryFrame m #[.ref a, .ref b, .int (Int32.ofNat o), .int (Int32.ofNat len), .null] 6)) (s₁.setTop (mkF m 0 #[.val (.ref a), .val (.ref b), .val (.int (Int32.ofNat o)), .val (.int (Int32.ofNat len)), .val .null, .unset] [])) := entry rfl
  have c2 : Steps p.tables e below (s₁.setTop (entryFrame m #[.ref a, .ref b, .int (Int32.ofNat o), .int (Int32.ofNat len), .null] 6)) (s₁.setTop (mkF m 1 #[.val (.ref a), .val (.ref b), .val (.int (Int32.ofNat o)), .val (.int (Int32.ofNat len)), .val .null, .unset] [.ref a])) := c1.trans (by
    refine XS.aloadN X0.here hexec rfl (hb hbytes d0) rfl rfl ?_
    exact Steps.refl _)
  obtain ⟨T3, X3, q3, st3⟩ := X0.oinit hexec hown (wks W (objW "java/lang/String" 1)) (g := (mkF m 1 #[.val (.ref a), .val (.ref b), .val (.int (Int32.ofNat o)), .val (.int (Int32.ofNat len)), .val .null, .unset] [.ref a])) rfl (by rw [hml]; rfl) (rest := []) rfl (hb hbytes d1) (W := 0) (by show 2 * 0 + 0 ≤ _; decide) (Nat.le_of_ble_eq_true rfl) (Nat.le_of_ble_eq_true rfl)
  have hh3 := q3.trans hh0
  have c4 : Steps p.tables e below (s₁.setTop (entryFrame m #[.ref a, .ref b, .int (Int32.ofNat o), .int (Int32.ofNat len), .null] 6)) (T3.setTop (mkF m 27 #[.val (.ref a), .val (.ref b), .val (.int (Int32.ofNat o)), .val (.int (Int32.ofNat len)), .val .null, .unset] [])) := (c2.trans (st3 _ (Steps.refl _))).trans (by
    refine XS.iloadN X3.here hexec rfl (hb hbytes d4) rfl ?_
    refine XS.ifYes X3.here hexec rfl (pc0 := 5) rfl (hb hbytes d5) rfl (i0_ne_t (nz32 (by omega) l0)) (by decide) rfl ?_
    exact Steps.refl _)
  obtain ⟨T5, X5, q5, st5⟩ := X3.sget hexec hown (wk W (.fieldLink "java/lang/String" 38 "java/lang/String" "COMPACT_STRINGS" "Z")) s1 (fun _ _ h => by rw [hh3]; exact h) (g := (mkF m 27 #[.val (.ref a), .val (.ref b), .val (.int (Int32.ofNat o)), .val (.int (Int32.ofNat len)), .val .null, .unset] [])) rfl (hb hbytes d27)
  have hh5 := q5.trans hh3
  have c6 : Steps p.tables e below (s₁.setTop (entryFrame m #[.ref a, .ref b, .int (Int32.ofNat o), .int (Int32.ofNat len), .null] 6)) (T5.setTop (mkF m 30 #[.val (.ref a), .val (.ref b), .val (.int (Int32.ofNat o)), .val (.int (Int32.ofNat len)), .val .null, .unset] [.int z])) := c4.trans (st5 _ (Steps.refl _))
  have c7 : Steps p.tables e below (s₁.setTop (entryFrame m #[.ref a, .ref b, .int (Int32.ofNat o), .int (Int32.ofNat len), .null] 6)) (T5.setTop (mkF m 36 #[.val (.ref a), .val (.ref b), .val (.int (Int32.ofNat o)), .val (.int (Int32.ofNat len)), .val .null, .unset] [.int (Int32.ofNat len), .int (Int32.ofNat o), .ref b])) := c6.trans (by
    refine XS.ifNo X5.here hexec rfl (hb hbytes d30) rfl (i0_eq_f hz) ?_
    refine XS.aloadN X5.here hexec rfl (hb hbytes d33) rfl rfl ?_
    refine XS.iloadN X5.here hexec rfl (hb hbytes d34) rfl ?_
    refine XS.iloadN X5.here hexec rfl (hb hbytes d35) rfl ?_
    exact Steps.refl _)
  obtain ⟨v8, T8, X8, E8, g8⟩ := X5.callS hexec (Cmp3.law l b A o len) hown (wks W (staticW "java/lang/String" 177 Cmp3.yN)) (wk W Cmp3.tab) (W := 0) (Nat.le_of_ble_eq_true rfl) (Nat.le_of_ble_eq_true rfl) (Nat.le_refl _) (by show 0 + len ≤ len; omega) (g := (mkF m 36 #[.val (.ref a), .val (.ref b), .val (.int (Int32.ofNat o)), .val (.int (Int32.ofNat len)), .val .null, .unset] [.int (Int32.ofNat len), .int (Int32.ofNat o), .ref b])) rfl (by rw [hml]; rfl) c7 (argsL := [.ref b, .int (Int32.ofNat o), .int (Int32.ofNat len)]) (rest := []) rfl rfl (by show 2 * 0 + 0 ≤ _; decide) (hb hbytes d36) (⟨rfl, hA.mv X5.warmed.alike hh5, l1, l2, hp⟩)
  obtain ⟨e8, z8⟩ := E8
  obtain ⟨rfl, N, n1, n2, n3, n4, n5, n6⟩ := NewArr.mv _ T5 s _ _ hh5.symm (Vm.Alike.refl _) rfl e8
  rw [hh5] at z8
  have hB1 := hB.keep X8.warmed.alike (n6 _ _ hB.1)
  have hne : s.heap.size ≠ a := (Nat.ne_of_lt (Array.getElem?_eq_some_iff.mp hB.1).1).symm
  have c9 : Steps p.tables e below (s₁.setTop (entryFrame m #[.ref a, .ref b, .int (Int32.ofNat o), .int (Int32.ofNat len), .null] 6)) (T8.setTop (mkF m 39 #[.val (.ref a), .val (.ref b), .val (.int (Int32.ofNat o)), .val (.int (Int32.ofNat len)), .val .null, .unset] [.ref s.heap.size])) := g8
  have c10 : Steps p.tables e below (s₁.setTop (entryFrame m #[.ref a, .ref b, .int (Int32.ofNat o), .int (Int32.ofNat len), .null] 6)) (T8.setTop (mkF m 45 #[.val (.ref a), .val (.ref b), .val (.int (Int32.ofNat o)), .val (.int (Int32.ofNat len)), .val .null, .val (.ref s.heap.size)] [.int (Int32.ofNat N.slots.size), .ref s.heap.size, .ref a])) := by
    have hc : Steps p.tables e below (s₁.setTop (entryFrame m #[.ref a, .ref b, .int (Int32.ofNat o), .int (Int32.ofNat len), .null] 6)) (T8.setTop (mkF m 45 #[.val (.ref a), .val (.ref b), .val (.int (Int32.ofNat o)), .val (.int (Int32.ofNat len)), .val .null, .val (.ref s.heap.size)] [.int (Int32.ofNat len), .ref s.heap.size, .ref a])) := c9.trans (by
      refine XS.astore X8.here hexec rfl (hb hbytes d39) rfl rfl rfl ?_
      refine XS.aloadN X8.here hexec rfl (hb hbytes d41) rfl rfl ?_
      refine XS.aload X8.here hexec rfl (hb hbytes d42) rfl rfl ?_
      refine XS.iloadN X8.here hexec rfl (hb hbytes d44) rfl ?_
      exact Steps.refl _)
    rw [n4]; exact hc
  obtain ⟨v11, T11, X11, E11, g11⟩ := X8.callS hexec (CodL.law l s.heap.size N) hown (wks W (staticW "java/lang/String" 47 CodL.yN)) (wk W CodL.tab) (W := 1) (Nat.le_of_ble_eq_true rfl) (Nat.le_of_ble_eq_true rfl) (Nat.le_refl _) (by show 0 + len + 0 ≤ len; omega) (g := (mkF m 45 #[.val (.ref a), .val (.ref b), .val (.int (Int32.ofNat o)), .val (.int (Int32.ofNat len)), .val .null, .val (.ref s.heap.size)] [.int (Int32.ofNat N.slots.size), .ref s.heap.size, .ref a])) rfl (by rw [hml]; rfl) c10 (argsL := [.ref s.heap.size, .int (Int32.ofNat N.slots.size)]) (rest := [.ref a]) rfl rfl (by show 2 * 0 + (1 + 0) ≤ _; decide) (hb hbytes d45) (⟨rfl, n1⟩)
  obtain ⟨rfl, q11⟩ := E11
  have hB11 := hB1.mv (X8.warmed.alike.symm.trans X11.warmed.alike) q11
  have c12 : Steps p.tables e below (s₁.setTop (entryFrame m #[.ref a, .ref b, .int (Int32.ofNat o), .int (Int32.ofNat len), .null] 6)) (T11.setTop (mkF m 48 #[.val (.ref a), .val (.ref b), .val (.int (Int32.ofNat o)), .val (.int (Int32.ofNat len)), .val .null, .val (.ref s.heap.size)] [.int 0, .ref a])) := g11
  obtain ⟨T13, X13, p13, bl13, sl13, st13⟩ := X11.finit hexec hown (wk W (.fieldLink "java/lang/String" 15 "java/lang/String" "coder" "B")) (Or.inr ⟨_, (wk W (.laysFinal "java/lang/String" "java/lang/String" "coder" "B"))⟩) (Or.inl ⟨rfl, hnm⟩) f2 (Or.inl rfl) hB11 (t := .byte) (by decide +kernel) rfl (g := (mkF m 48 #[.val (.ref a), .val (.ref b), .val (.int (Int32.ofNat o)), .val (.int (Int32.ofNat len)), .val .null, .val (.ref s.heap.size)] [.int 0, .ref a])) rfl (rest := []) rfl (hb hbytes d48)
  have c14 : Steps p.tables e below (s₁.setTop (entryFrame m #[.ref a, .ref b, .int (Int32.ofNat o), .int (Int32.ofNat len), .null] 6)) (T13.setTop (mkF m 54 #[.val (.ref a), .val (.ref b), .val (.int (Int32.ofNat o)), .val (.int (Int32.ofNat len)), .val .null, .val (.ref s.heap.size)] [.ref s.heap.size, .ref a])) := (c12.trans (st13 _ (Steps.refl _))).trans (by
    refine XS.aloadN X13.here hexec rfl (hb hbytes d51) rfl rfl ?_
    refine XS.aload X13.here hexec rfl (hb hbytes d52) rfl rfl ?_
    exact Steps.refl _)
  obtain ⟨T15, X15, p15, bl15, sl15, st15⟩ := X13.finit hexec hown (wk W (.fieldLink "java/lang/String" 9 "java/lang/String" "value" "[B")) (Or.inr ⟨_, (wk W (.laysFinal "java/lang/String" "java/lang/String" "value" "[B"))⟩) (Or.inl ⟨rfl, hnm⟩) f1 (Or.inl rfl) bl13 (t := (.array .byte)) (by decide +kernel) rfl (g := (mkF m 54 #[.val (.ref a), .val (.ref b), .val (.int (Int32.ofNat o)), .val (.int (Int32.ofNat len)), .val .null, .val (.ref s.heap.size)] [.ref s.heap.size, .ref a])) rfl (rest := []) rfl (hb hbytes d54)
  have c16 : Steps p.tables e below (s₁.setTop (entryFrame m #[.ref a, .ref b, .int (Int32.ofNat o), .int (Int32.ofNat len), .null] 6)) (T15.setTop (mkF m 57 #[.val (.ref a), .val (.ref b), .val (.int (Int32.ofNat o)), .val (.int (Int32.ofNat len)), .val .null, .val (.ref s.heap.size)] [])) := c14.trans (st15 _ (Steps.refl _))
  have ap := apart (Or.inr ⟨_, (wk W (.laysFinal "java/lang/String" "java/lang/String" "value" "[B"))⟩) (Or.inr ⟨_, (wk W (.laysFinal "java/lang/String" "java/lang/String" "coder" "B"))⟩) f1 f2 (t₁ := .array .byte) (t₂ := .byte) (by decide +kernel) (by decide +kernel) (by decide)
  have al := X8.warmed.alike.symm.trans X15.warmed.alike
  have n7 : T11.heap[s.heap.size]? = some N := by rw [q11]; exact n1.1
  exact ⟨T15, none, _, _, _, X15, by simp, rfl, by omega, (fun _ => rfl), ⟨rfl, _, N, bl15, ((Same.refl D _).set _ (by simp)).set _ (by simp), sl15, (Cell.slots_setSlot_ne _ ap).trans sl13, n1.keep al (p15.other hne (p13.other hne n7)), n2, by rw [al.findClass]; exact n3, n4, n5, fun y c h1 h2 => p15.other h1 (p13.other h1 (by rw [q11]; exact n6 y c h2)), by rw [p15.2.2, p13.2.2, q11]; exact z8⟩, fun fs hl => c16.trans (X15.returnOut hexec hret (hb hbytes d57) hl)⟩
end New4
namespace New1
def yN : MethodName := ⟨"java/lang/String", "<init>", "([C)V"⟩
abbrev yB : ByteArray := jdk_42_method_3_code
theorem d0 : decode yB 0 = .ok (.aload_n 0, 1) := by decide +kernel
theorem d1 : decode yB 1 = .ok (.aload_n 1, 1) := by decide +kernel
theorem d2 : decode yB 2 = .ok (.iconst 0, 1) := by decide +kernel
theorem d3 : decode yB 3 = .ok (.aload_n 1, 1) := by decide +kernel
theorem d4 : decode yB 4 = .ok (.arraylength, 1) := by decide +kernel
theorem d5 : decode yB 5 = .ok (.aconst_null, 1) := by decide +kernel
theorem d6 : decode yB 6 = .ok (.invokespecial 27, 3) := by decide +kernel
theorem d9 : decode yB 9 = .ok (.return_, 1) := by decide +kernel
def site : List Cond := [New4.tab] ++ initW "java/lang/String" 27 New4.yN
def tab : Cond := tabOf yN yB 2 none site
def P (a : Addr) (D : Cell) (fV fC : Field) (b : Addr) (A : Cell) (z : Int32) (args : Array Value) (s : State) : Prop := args = #[.ref a, .ref b] ∧ Blank "java/lang/String" a D s ∧ Found "java/lang/String" "value" "[B" fV s ∧ Found "java/lang/String" "coder" "B" fC s ∧ Ch b A s ∧ StaticIs s "java/lang/String" "COMPACT_STRINGS" "Z" (.int z) ∧ ¬ z = 0 ∧ 0 < A.slots.size ∧ A.slots.size ≤ 536870912 ∧ ∀ i, i < A.slots.size → ¬ 255 < cv A i
def E (a : Addr) (D : Cell) (fV fC : Field) (A : Cell) (r : Option Value) (s u : State) : Prop := Got a D fV fC A 0 A.slots.size r s u
/-- new String(chars), not empty, no char above 255: a Latin-1 String of their low bytes -/
theorem law (l : Launch) (a : Addr) (D : Cell) (fV fC : Field) (b : Addr) (A : Cell) (z : Int32) : Law l yN 2 1 3 52 yB 2 none site (P a D fV fC b A z) (E a D fV fC A) [⟨a, fC.slot⟩, ⟨a, fV.slot⟩] 1 A.slots.size := by
  refine Law.of_walk (plainFor_of_name (by decide +kernel)) (by decide +kernel) (by decide +kernel) (by decide) (fun _ _ h => by rw [h.1]; rfl) (fun _ U U' hal hh h => ⟨h.1, h.2.1.mv hal hh, h.2.2.1.al hal, h.2.2.2.1.al hal, h.2.2.2.2.1.mv hal hh, h.2.2.2.2.2.1.there hal hh, h.2.2.2.2.2.2⟩) (fun r U U' V V' h1 hal h2 h => Got.mv r U U' V V' h1 hal h2 h) ?_
  intro p e s m args below meth c s₁ X0 hexec hbytes hml hret hlk hnm hown hh0 W hP
  obtain ⟨rfl, hB, f1, f2, hA, s1, hz, l0, l2, hp⟩ := hP
  have c1 : Steps p.tables e below (s₁.setTop (entryFrame m #[.ref a, .ref b] 2)) (s₁.setTop (mkF m 0 #[.val (.ref a), .val (.ref b)] [])) := entry rfl
  have c2 : Steps p.tables e below (s₁.setTop (entryFrame m #[.ref a, .ref b] 2)) (s₁.setTop (mkF m 6 #[.val (.ref a), .val (.ref b)] [.null, .int (Int32.ofNat A.slots.size), .int 0, .ref b, .ref a])) := c1.trans (by
    refine XS.aloadN X0.here hexec rfl (hb hbytes d0) rfl rfl ?_
    refine XS.aloadN X0.here hexec rfl (hb hbytes d1) rfl rfl ?_
    refine iconstV X0.here hexec rfl 0 (hb hbytes d2) (by decide) ?_
    refine XS.aloadN X0.here hexec rfl (hb hbytes d3) rfl rfl ?_
    refine X0.alen hexec (hA.1.mv X0.warmed.alike hh0) rfl rfl (hb hbytes d4) ?_
    refine XS.aconstNull X0.here hexec rfl (hb hbytes d5) ?_
    exact Steps.refl _)
  obtain ⟨v3, T3, X3, E3, g3⟩ := X0.callN hexec (New4.law l a D fV fC b A z 0 A.slots.size) rfl hown (wks W (initW "java/lang/String" 27 New4.yN)) (W New4.tab (by simp only [site, List.mem_cons, List.mem_append, true_or, or_true])) (W := 0) (Nat.le_of_ble_eq_true rfl) (Nat.le_of_ble_eq_true rfl) (Nat.le_refl _) (by show 0 + A.slots.size ≤ A.slots.size; omega) (g := (mkF m 6 #[.val (.ref a), .val (.ref b)] [.null, .int (Int32.ofNat A.slots.size), .int (Int32.ofNat 0), .ref b, .ref a])) rfl (by rw [hml]; rfl) c2 (argsL := [.ref b, .int (Int32.ofNat 0), .int (Int32.ofNat A.slots.size), .null]) (rest := []) rfl rfl (by show 2 * 0 + 0 ≤ _; decide) (hb hbytes d6) (⟨rfl, hB.mv X0.warmed.alike hh0, f1.al X0.warmed.alike, f2.al X0.warmed.alike, hA.mv X0.warmed.alike hh0, s1.there X0.warmed.alike hh0, hz, l0, by omega, l2, fun i hi => by rw [Nat.zero_add]; exact hp i hi⟩)
  have e0 := Got.mv _ s₁ s _ _ hh0.symm (Vm.Alike.refl _) rfl E3
  obtain rfl := e0.1
  have c4 : Steps p.tables e below (s₁.setTop (entryFrame m #[.ref a, .ref b] 2)) (T3.setTop (mkF m 9 #[.val (.ref a), .val (.ref b)] [])) := g3
  exact ⟨T3, none, _, _, _, X3, by simp, rfl, by omega, (fun _ => rfl), e0, fun fs hl => c4.trans (X3.returnOut hexec hret (hb hbytes d9) hl)⟩
theorem pays {l : Launch} {R : Room} {p : Program} {e : Env} {below : List Frame} {s : State} {sargs : Array Value} {len W : Nat} (a : Addr) (D : Cell) (fV fC : Field) (b : Addr) (A : Cell) (z : Int32) (htab : tab.before sargs s = true) (hfr : 4 ≤ R.frames) (hlo : W + 65 ≤ R.locals) :
    Back l R p e below s sargs yN len W (fun A₁ a₁ => A₁.cells + 1 ≤ R.cells ∧ A₁.slots + A.slots.size ≤ R.slots ∧ P a D fV fC b A z a₁ A₁.U) (fun A₁ _ v₁ B₁ => E a D fV fC A v₁ A₁.U B₁.U ∧ B₁.locs = A₁.locs ++ [⟨a, fC.slot⟩, ⟨a, fV.slot⟩] ∧ B₁.cells = A₁.cells + 1 ∧ B₁.slots = A₁.slots + A.slots.size) :=
  (law l a D fV fC b A z).pays htab hfr (by omega)
end New1
end StrChars
namespace StrChars.Road
open Jvm Sem ClassFile Op Lib Jvm.Stand Jvm.Free Jvm.Free.XT
open Jvm.Lib.Cold (StaticIs)
abbrev ST : String := "java/lang/String"
/-- every table word that New1's law asks, flat -/
abbrev words : List Jvm.Cond := [.code New1.yN New1.yB 2 none, .initialized ST, .methodLink ST 27 New4.yN, .instanceMethod New4.yN,
  .code New4.yN New4.yB 6 none, .fieldLink ST 38 ST "COMPACT_STRINGS" "Z", .laysFinal ST ST "value" "[B", .fieldLink ST 9 ST "value" "[B", .laysFinal ST ST "coder" "B", .fieldLink ST 15 ST "coder" "B",
  .methodLink ST 1 Lib.objectInit, .instanceMethod Lib.objectInit, .code Lib.objectInit ⟨#[0xb1]⟩ 1 none, .methodLink ST 177 Cmp3.yN, .static Cmp3.yN, .methodLink ST 47 CodL.yN, .static CodL.yN,
  .code Cmp3.yN Cmp3.yB 6 (some (.array .byte)), .initialized U16, .arrayClass .byte, .methodLink U16 115 Cmp5.yN, .static Cmp5.yN, .code Cmp5.yN Cmp5.yB 7 (some .int), .code CodL.yN CodL.yB 2 (some .byte)]
theorem tab_of {a : Array Value} {s : State} (h : ∀ w ∈ words, w.before a s = true) : New1.tab.before a s = true := by
  have h5 : Cmp5.tab.before a s = true := unparts (wk h (.code Cmp5.yN Cmp5.yB 7 (some .int))) (wks h (.initialized Cmp5.yN.cls :: Cmp5.site))
  have hc : CodL.tab.before a s = true := unparts (wk h (.code CodL.yN CodL.yB 2 (some .byte))) (wks h (.initialized CodL.yN.cls :: CodL.site))
  have q5 : ∀ w ∈ Cmp5.tab :: words, w.before a s = true := fun w hw => (List.mem_cons.mp hw).elim (fun e => e ▸ h5) (h w)
  have h3 : Cmp3.tab.before a s = true := unparts (wk q5 (.code Cmp3.yN Cmp3.yB 6 (some (.array .byte)))) (wks q5 (.initialized Cmp3.yN.cls :: Cmp3.site))
  have q3 : ∀ w ∈ Cmp3.tab :: CodL.tab :: words, w.before a s = true := fun w hw => (List.mem_cons.mp hw).elim (fun e => e ▸ h3) fun hw => (List.mem_cons.mp hw).elim (fun e => e ▸ hc) (h w)
  have h4 : New4.tab.before a s = true := unparts (wk q3 (.code New4.yN New4.yB 6 none)) (wks q3 (.initialized New4.yN.cls :: New4.site))
  have q4 : ∀ w ∈ New4.tab :: words, w.before a s = true := fun w hw => (List.mem_cons.mp hw).elim (fun e => e ▸ h4) (h w)
  exact unparts (wk q4 (.code New1.yN New1.yB 2 none)) (wks q4 (.initialized New1.yN.cls :: New1.site))
/-- the words ride from the start Z to the walk's own state -/
theorem moved {Z s : State} {a0 args : Array Value} (hZ : Z.Warmed39 s.vm) (hw : ∀ d ∈ words, d.before a0 Z = true) : ∀ d ∈ words, d.before args s = true := fun d hd => by
  have q := hw d hd
  have t : ∀ d ∈ words, d = .arrayClass .byte ∨ (d.onTables && d.keepsFace) = true := by decide +kernel
  rcases t d hd with rfl | t
  · exact RoadKit.mvA hZ q
  · exact RoadKit.mv hZ q t
/-- WHAT COMES BACK, over the tables of the start Z: h the heap at the call, h' behind it -/
def Q (Z : State) (x : Addr) (A : Cell) (h : Heap) (v : Option Value) (h' : Heap) (L : List Loc) : Prop := v = none ∧ (∀ y ∈ L, y.base = x) ∧ RoadKit.Keep h h' [x] ∧ h'.size = h.size + 1 ∧ RoadKit.Exa Z h' x ST ∧ RoadKit.Fld Z h' x ST "value" "[B" (.ref h.size) ∧ RoadKit.Fld Z h' x ST "coder" "B" (.int 0) ∧
  (∃ V : Cell, RoadKit.Arr Z h' h.size V .byte ∧ V.vm = .none ∧ Z.vm.findClass "[B" = some V.cls ∧ V.slots.size = A.slots.size ∧ ∀ j, j < A.slots.size → V.slots[j]? = some (.int (lo8 (cv A j)))) ∧
  ∀ (O n d : String) (w : Value), RoadKit.Fld Z h x O n d w → RoadKit.slotOf Z O n d ≠ RoadKit.slotOf Z ST "value" "[B" → RoadKit.slotOf Z O n d ≠ RoadKit.slotOf Z ST "coder" "B" → RoadKit.Fld Z h' x O n d w
/-- **new String(chars) AT A CALL, IN THE ROAD'S FORM**: for specialBack behind newO: x the fresh String, b the char[] with the cell A -/
theorem back {p : Program} {l : Launch} {e : Env} {R : Room} {s : State} {args : Array Value} {below : List Frame} {len W : Nat} {Z : State} {a0 : Array Value} {h : Heap} (hZ : Z.Warmed39 s.vm) (hw : ∀ d ∈ words, d.before a0 Z = true) {kI : Nat} (wi : (Jvm.Cond.instantiable ST kI).before a0 Z = true)
    {x b : Addr} {A : Cell} {z : Int32} {v0 c0 : Value} (E : RoadKit.Exa Z h x ST) (V : RoadKit.Fld Z h x ST "value" "[B" v0) (C : RoadKit.Fld Z h x ST "coder" "B" c0) (K : RoadKit.Arr Z h b A .char) (hty : Typed .char A) (S : RoadKit.Sta Z h ST "COMPACT_STRINGS" "Z" (.int z)) (hz : ¬ z = 0)
    (l0 : 0 < A.slots.size) (l2 : A.slots.size ≤ 536870912) (hp : ∀ i, i < A.slots.size → ¬ 255 < cv A i) (hfr : 4 ≤ R.frames) (hlo : W + 65 ≤ R.locals) :
    Back l R p e below s args New1.yN len W (fun P a => a = #[.ref x, .ref b] ∧ P.U.heap = h ∧ P.cells + 1 ≤ R.cells ∧ P.slots + A.slots.size ≤ R.slots)
      (fun P _ v B => ∃ L, Q Z x A h v B.U.heap L ∧ B.locs = P.locs ++ L ∧ B.cells = P.cells + 1 ∧ B.slots = P.slots + A.slots.size) := by
  intro m meth c P g ig mk a X hg hsize hdg hW hn hp'
  obtain ⟨rfl, rfl, r1, r2⟩ := hp'
  have al : Z.vm.Alike P.U.vm := hZ.alike.trans X.warmed.alike
  obtain ⟨D, cfV, kV, iV, fV, hD, gV, stV, knV, obV, asV, slV⟩ := id V
  obtain ⟨D', cfC, kC, iC, fC, hD', gC, stC, -, -, asC, slC⟩ := id C
  cases hD.symm.trans hD'
  obtain ⟨D2, kD, e1, e2, e3, e4, e5⟩ := id E
  cases hD.symm.trans e1
  obtain ⟨c2, k2, i1, i2, i3, -⟩ := Cond.instantiable_spec wi
  cases e2.symm.trans i1
  cases e3.symm.trans i2
  obtain ⟨kU, u1, u2⟩ := al.2.2 _ _ e3
  have hB : Blank ST x D P.U := ⟨hD, ⟨knV, fun q hq => by rw [hq] at obV; cases obV⟩, by rw [al.findClass]; exact e2, kU, u1, by rw [u2]; exact i3, by rw [u2]; exact e5 i3⟩
  have F1 : Found ST "value" "[B" fV P.U := ⟨SBG.found_only al ⟨cfV, kV, iV, gV⟩, stV⟩
  have F2 : Found ST "coder" "B" fC P.U := ⟨SBG.found_only al ⟨cfC, kC, iC, gC⟩, stC⟩
  have hA : Ch b A P.U := ⟨⟨K.1, State.isArrayOf_alike al K.2.1, K.2.2, by omega⟩, hty⟩
  have hS : StaticIs P.U ST "COMPACT_STRINGS" "Z" (.int z) := by
    obtain ⟨cfS, iS, kS, fS, st, cS, t1, t2, t3, t4, t5, t6, t7⟩ := S
    exact StaticIs.there (s := { Z with heap := P.U.heap }) ⟨cfS, iS, kS, fS, st, cS, t1, t2, t3, t4, t5, (fun q => by rw [q] at t6; cases t6), t7⟩ al rfl
  obtain ⟨v, B, X', ⟨⟨hv, E', V', q1, q2, q3, q4, q5, q6, q7, q8, q9, q10, q11⟩, hl, hc, hs⟩, st⟩ := New1.pays x D fV fC b A z (tab_of (moved hZ hw)) hfr hlo m meth c P g ig mk _ X hg hsize hdg hW hn ⟨r1, r2, rfl, hB, F1, F2, hA, hS, hz, l0, l2, hp⟩
  have al' : Z.vm.Alike B.U.vm := hZ.alike.trans X'.warmed.alike
  have hsz : E'.slots.size = D.slots.size := by
    obtain ⟨-, -, -, kB, w1, w2, w3⟩ := q1
    obtain ⟨kB', y1, y2⟩ := al'.2.2 _ _ e3
    rw [q2.2.1] at w1
    cases w1.symm.trans y1
    rw [w3, e5 i3, y2]
  refine ⟨v, B, X', ⟨_, ⟨hv, ?_, ⟨by omega, fun y cy hy hn' => q10 y cy (by simpa using hn') hy, fun y cy hy => ?_⟩, q11, ⟨E', _, q1.1, by rw [q2.2.1]; exact e2, by rw [q2.2.1]; exact e3, by rw [q2.1]; exact obV, fun _ => by rw [hsz]; exact e5 i3⟩,
    ⟨E', cfV, kV, iV, fV, q1.1, gV, stV, by rw [q2.1]; exact knV, by rw [q2.1]; exact obV, by rw [q2.2.1]; exact asV, q3⟩, ⟨E', cfC, kC, iC, fC, q1.1, gC, stC, by rw [q2.1]; exact knV, by rw [q2.1]; exact obV, by rw [q2.2.1]; exact asC, q4⟩,
    ⟨V', ⟨q5.1, State.isArrayOf_alike al'.symm q5.2.1, q5.2.2.1⟩, q6, by rw [← al'.findClass]; exact q7, q8, fun j hj => by have := q9 j hj; rwa [Nat.zero_add] at this⟩, fun O n d w F n1 n2 => ?_⟩, hl, hc, hs⟩, st⟩
  · intro y hy
    simp only [List.mem_cons, List.not_mem_nil, or_false] at hy
    rcases hy with rfl | rfl <;> rfl
  · by_cases q : y = x
    · subst q
      cases hD.symm.trans hy
      exact ⟨E', q1.1, q2.2.1, q2.1, hsz⟩
    · exact ⟨cy, q10 y cy q hy, rfl, rfl, rfl⟩
  · obtain ⟨D3, cf, k, i, f, g1, g2, g3, g4, g5, g6, g7⟩ := F
    cases hD.symm.trans g1
    simp only [RoadKit.slotOf, g2, gV, gC, Option.map_some, Option.getD_some] at n1 n2
    exact ⟨E', cf, k, i, f, q1.1, g2, g3, by rw [q2.1]; exact g4, by rw [q2.1]; exact g5, by rw [q2.2.1]; exact g6, by rw [q2.2.2 f.slot (by simp [n1, n2])]; exact g7⟩
end StrChars.Road
namespace StrChars.Road
open Jvm Sem ClassFile Op Lib Jvm.Stand Jvm.Free Jvm.Free.XT
/-- WHAT COMES BACK, the byte[] as a list of values -/
def QA (Z : State) (x : Addr) (zn : Int32) (cs : List Int32) (h : Heap) (v : Option Value) (h' : Heap) (L : List Loc) : Prop := v = none ∧ (∀ y ∈ L, y.base = x) ∧ RoadKit.Keep h h' [x] ∧ h'.size = h.size + 1 ∧ RoadKit.Exa Z h' x ST ∧ RoadKit.Fld Z h' x ST "value" "[B" (.ref h.size) ∧ RoadKit.Fld Z h' x ST "coder" "B" (.int 0) ∧
  (∃ kb, Z.vm.findClass "[B" = some kb ∧ RoadKit.Arv Z h' h.size kb .byte zn (cs.map fun c => .int (lo8 c)) (.int 0)) ∧
  ∀ (O n d : String) (w : Value), RoadKit.Fld Z h x O n d w → RoadKit.slotOf Z O n d ≠ RoadKit.slotOf Z ST "value" "[B" → RoadKit.slotOf Z O n d ≠ RoadKit.slotOf Z ST "coder" "B" → RoadKit.Fld Z h' x O n d w
/-- **new String(chars) AT A CALL, THE ARRAYS AS LISTS**: the char[] at b holds cs, not empty, no char above 255 -/
theorem backArv {p : Program} {l : Launch} {e : Env} {R : Room} {s : State} {args : Array Value} {below : List Frame} {len W : Nat} {Z : State} {a0 : Array Value} {h : Heap} (hZ : Z.Warmed39 s.vm) (hw : ∀ d ∈ words, d.before a0 Z = true) {kI : Nat} (wi : (Jvm.Cond.instantiable ST kI).before a0 Z = true)
    {x b : Addr} {k : ClassId} {zn z : Int32} {cs : List Int32} {dv v0 c0 : Value} (E : RoadKit.Exa Z h x ST) (V : RoadKit.Fld Z h x ST "value" "[B" v0) (C : RoadKit.Fld Z h x ST "coder" "B" c0) (K : RoadKit.Arv Z h b k .char zn (cs.map Value.int) dv) (S : RoadKit.Sta Z h ST "COMPACT_STRINGS" "Z" (.int z)) (hz : ¬ z = 0)
    (hlen : zn.toNatClampNeg = cs.length) (h0 : 0 < cs.length) (hbig : cs.length ≤ 536870912) (hall : ∀ c ∈ cs, ¬ 255 < c) (hfr : 4 ≤ R.frames) (hlo : W + 65 ≤ R.locals) :
    Back l R p e below s args New1.yN len W (fun P a => a = #[.ref x, .ref b] ∧ P.U.heap = h ∧ P.cells + 1 ≤ R.cells ∧ P.slots + cs.length ≤ R.slots)
      (fun P _ v B => ∃ L, QA Z x zn cs h v B.U.heap L ∧ B.locs = P.locs ++ L ∧ B.cells = P.cells + 1 ∧ B.slots = P.slots + cs.length) := by
  obtain ⟨A, K1, K2, K3, K4, K5, K6⟩ := K
  have e : A.slots.size = cs.length := K3.trans hlen
  have hat : ∀ (i : Nat) (hi : i < cs.length), A.slots[i]? = some (.int cs[i]) := fun i hi => by rw [K5 i (by omega)]; simp [List.getD_eq_getElem?_getD, hi]
  have hcv : ∀ (i : Nat) (hi : i < cs.length), cv A i = cs[i] := fun i hi => by unfold cv; rw [hat i hi]
  have hty : Typed .char A := fun i v hv => by
    have hi : i < A.slots.size := (Array.getElem?_eq_some_iff.mp hv).1
    have q := K5 i hi
    rw [hv] at q
    rw [Option.some.inj q]
    exact K6 i hi
  refine Back.mono (back hZ hw wi E V C K1 hty S hz (by omega) (by omega) (fun i hi => by rw [hcv i (by omega)]; exact hall _ (List.getElem_mem _)) hfr hlo) (fun P a hp => ⟨hp.1, hp.2.1, hp.2.2.1, by rw [e]; exact hp.2.2.2⟩) (fun P a v B hp hq => ?_)
  obtain ⟨L, ⟨q1, q2, q3, q4, q5, q6, q7, ⟨V', v1, v2, v3, v4, v5⟩, q9⟩, hl, hc, hs⟩ := hq
  refine ⟨L, ⟨q1, q2, q3, q4, q5, q6, q7, ⟨V'.cls, v3, V', v1, rfl, by rw [v4, e, hlen], K4, fun i hi => ?_, fun i hi => ?_⟩, q9⟩, hl, hc, by rw [hs, e]⟩
  · have hi' : i < cs.length := by omega
    rw [v5 i (by omega), hcv i hi']; simp [List.getD_eq_getElem?_getD, hi']
  · have hi' : i < cs.length := by omega
    simp only [List.getD_eq_getElem?_getD, List.getElem?_map, List.getElem?_eq_getElem hi', Option.map_some, Option.getD_some]
    exact fits_lo8 _
end StrChars.Road
namespace StrChars.Road
open Jvm Sem ClassFile Op Lib Jvm.Stand Jvm.Free Jvm.Free.XT
/-- WHAT COMES BACK, in the writer's own shape -/
def QV (Z : State) (x : Addr) (N : Int32) (bs : List Int32) (h : Heap) (n0 : Nat) (v : Option Value) (h' : Heap) (L : List Loc) : Prop := v = none ∧ RoadKit.Fr n0 L ∧ RoadKit.Keep h h' [x] ∧ RoadKit.Exa Z h' x ST ∧ RoadKit.Fld Z h' x ST "coder" "B" (.int 0) ∧
  ∃ (t : Addr) (kb : ClassId), n0 ≤ t ∧ h.size ≤ t ∧ ¬ t = x ∧ RoadKit.Fld Z h' x ST "value" "[B" (.ref t) ∧ RoadKit.Arv Z h' t kb .byte N (bs.map Value.int) (.int 0)
/-- **new String(chars) AT A CALL, FOR THE WRITER**: a char[] of n known ints, each 0 to 255 -/
theorem backV {p : Program} {l : Launch} {e : Env} {R : Room} {s : State} {args : Array Value} {below : List Frame} {len W : Nat} {Z : State} {a0 : Array Value} {h : Heap} (hZ : Z.Warmed39 s.vm) (hw : ∀ d ∈ words, d.before a0 Z = true) {kI : Nat} (wi : (Jvm.Cond.instantiable ST kI).before a0 Z = true)
    {x b : Addr} {kC : ClassId} {cs bs : List Int32} {d v0 c0 : Value} {z N : Int32} {n n0 : Nat} (hx0 : n0 ≤ x) (hh0 : n0 ≤ h.size) (E : RoadKit.Exa Z h x ST) (V : RoadKit.Fld Z h x ST "value" "[B" v0) (C : RoadKit.Fld Z h x ST "coder" "B" c0) (K : RoadKit.Arv Z h b kC .char N (cs.map Value.int) d) (S : RoadKit.Sta Z h ST "COMPACT_STRINGS" "Z" (.int z)) (hz : ¬ z = 0)
    (hn : cs.length = n) (hN : N = Int32.ofNat n) (l0 : 0 < n) (l2 : n ≤ 4000) (hp : ∀ c ∈ cs, ¬ c < 0 ∧ ¬ (255 : Int32) < c) (hb : bs = cs.map (fun c => c.toInt8.toInt32)) (hfr : 4 ≤ R.frames) (hlo : W + 65 ≤ R.locals) :
    Back l R p e below s args (⟨"java/lang/String", "<init>", "([C)V"⟩ : MethodName) len W (fun P a => a = #[.ref x, .ref b] ∧ P.U.heap = h ∧ P.cells + 1 ≤ R.cells ∧ P.slots + n ≤ R.slots)
      (fun P _ v B => ∃ L, QV Z x N bs h n0 v B.U.heap L ∧ B.locs = P.locs ++ L ∧ B.cells = P.cells + 1 ∧ B.slots = P.slots + n) := by
  subst hn hN hb
  refine Back.mono (backArv hZ hw wi E V C K S hz (n32 (by omega)) l0 (by omega) (fun c hc => (hp c hc).2) hfr hlo) (fun P a hp => hp) (fun P a v B hp hq => ?_)
  obtain ⟨L, ⟨q1, q2, q3, q4, q5, q6, q7, ⟨kb, v1, v2⟩, q9⟩, hl, hc, hs⟩ := hq
  exact ⟨L, ⟨q1, fun y hy => by rw [q2 y hy]; exact hx0, q3, q5, q7, h.size, kb, hh0, Nat.le_refl _, Nat.ne_of_gt E.lt, q6, by rw [List.map_map]; exact v2⟩, hl, hc, hs⟩
end StrChars.Road
namespace StrChars
open Jvm Sem ClassFile Op Lib Jvm.Stand Jvm.Free.XT Jvm.Free.ALB Jvm.Free.JM Jvm.Free
open Jvm.Lib.Cold (StaticIs)
def hi8 (x : Int32) : Int32 := lo8 (x >>> ((8 : Int32) &&& 31))
end StrChars
namespace StrChars.Road
open Jvm Sem ClassFile Op Lib Jvm.Stand Jvm.Free Jvm.Free.XT
open Jvm.Lib.Cold (StaticIs)
/-- the bytes of the chars cs, low before high -/
def wideBytes : List Int32 → List Value
  | [] => []
  | c :: cs => .int (lo8 c) :: .int (hi8 c) :: wideBytes cs
/-- an array of N2 bytes vs codes the chars cs by the coder cd -/
def CodA (cs : List Int32) (cd N2 : Int32) (vs : List Value) : Prop := (cd = 0 ∧ N2 = Int32.ofNat cs.length ∧ vs = (cs.map fun c => Value.int (lo8 c)) ∧ ∀ c ∈ cs, ¬ 255 < c) ∨ (cd = 1 ∧ N2 = Int32.ofNat (2 * cs.length) ∧ vs = wideBytes cs ∧ ∃ c ∈ cs, 255 < c)
end StrChars.Road
namespace StrChars.Road
open Jvm Sem ClassFile Op Lib Jvm.Stand Jvm.Free Jvm.Free.XT
open Jvm.Lib.Cold (StaticIs)
/-- what backV says of its String, as the contracts of this text ask it: cs's low bytes, coder 0 -/
theorem codOf {cs : List Int32} {n : Nat} (hn : cs.length = n) (hb : ∀ c ∈ cs, ¬ 255 < c) : CodA cs 0 (Int32.ofNat n) ((cs.map lo8).map Value.int) := Or.inl ⟨rfl, by rw [hn], by simp [List.map_map, Function.comp_def], hb⟩
end StrChars.Road
end Jvm.Pilot.@@N@@
namespace Jvm.Pilot.@@N@@
open Jvm Jvm.ClassFile Sem Op Lib Jvm.Free Jvm.Stand Jvm.LawKit Jvm.RoadKit Jvm.Own Bundle Jvm.Pilot.@@N@@.Jvm.D
/-- at a there stands a String that spells cs -/
def Str (Z : State) (h : Heap) (a : Addr) (cs : List Int32) : Prop := Exa Z h a "java/lang/String" ∧ (∀ c ∈ cs, ¬ c < 0 ∧ ¬ (65535 : Int32) < c) ∧ cs.length ≤ 4000 ∧ ∃ (t : Addr) (kb : ClassId) (cd N2 : Int32) (vs : List Value), Fld Z h a "java/lang/String" "value" "[B" (.ref t) ∧ Fld Z h a "java/lang/String" "coder" "B" (.int cd) ∧ Arv Z h t kb .byte N2 vs (.int 0) ∧ StrChars.Road.CodA cs cd N2 vs
section OwnS
variable {p : Program} {l : Launch} {e : Env} {R : Room} {s : State} {m : MethodId} {args : Array Value} {below : List Frame} {meth : Method} {c : Code} {T : State} {locs : List Loc} {cells slots : Nat} {Z : State} {a0 : Array Value} {h h' : Heap} {E : Outcome → State → Prop} {a : Addr} {cs : List Int32}
theorem Str.exa (A : Str Z h a cs) : Exa Z h a "java/lang/String" := A.1
theorem Str.lt (A : Str Z h a cs) : a < h.size := A.1.lt
theorem Str.ext (A : Str Z h a cs) (X : Ext h h') : Str Z h' a cs := by
  obtain ⟨h1, h2, h3, t, kb, cd, N2, vs, h4, h5, h6, h7⟩ := A
  exact ⟨h1.ext X, h2, h3, t, kb, cd, N2, vs, h4.ext X, h5.ext X, h6.ext X, h7⟩
theorem Str.keep0 (A : Str Z h a cs) (K : Keep h h' []) : Str Z h' a cs := by
  obtain ⟨h1, h2, h3, t, kb, cd, N2, vs, h4, h5, h6, h7⟩ := A
  exact ⟨h1.keep K, h2, h3, t, kb, cd, N2, vs, h4.keep K nin0, h5.keep K nin0, h6.keep K nin0, h7⟩
theorem Str.keep1 {w : Addr} {C : String} {n : Nat} (A : Str Z h a cs) (K : Keep h h' [w]) (hne : a ≠ w) (Ew : Exa Z h w C) (wi : (Jvm.Cond.instantiable C n).before a0 Z = true) : Str Z h' a cs := by
  obtain ⟨h1, h2, h3, t, kb, cd, N2, vs, h4, h5, h6, h7⟩ := A
  have ht : t ≠ w := by
    obtain ⟨cl, A', -⟩ := h6
    exact Ne.symm (ne_arr Ew wi A')
  exact ⟨h1.keep K, h2, h3, t, kb, cd, N2, vs, h4.keep K (ninS hne nin0), h5.keep K (ninS hne nin0), h6.keep K (ninS ht nin0), h7⟩
theorem Str.of {cs' : List Int32} (A : Str Z h a cs) (q : cs = cs') : Str Z h a cs' := q ▸ A
theorem narC {c : Int32} (h1 : ¬ c < 0) (h2 : ¬ (65535 : Int32) < c) : nar .char c = c := by
  have e := c_i2c c
  have e0 : (0 : Int32).toInt = 0 := rfl
  have e1 : (65535 : Int32).toInt = 65535 := rfl
  rw [Int32.lt_iff_toInt_lt] at h1 h2
  show c.toUInt32.toUInt16.toUInt32.toInt32 = c
  apply Int32.toInt_inj.mp
  omega
theorem le255 {c : Int32} (h : ¬ (255 : Int32) < c) : ¬ (65535 : Int32) < c := by
  have e0 : (255 : Int32).toInt = 255 := rfl
  have e1 : (65535 : Int32).toInt = 65535 := rfl
  rw [Int32.lt_iff_toInt_lt] at h ⊢
  omega
/-- new String(char[]) over known chars, each 0 to 255 -/
theorem goNewS {own : String} {idx : Nat} {x b : Addr} {kC : ClassId} {vs : List Value} {d v0 c0 : Value} {z N : Int32} {n0 : Nat} (n W : Nat) (X : Stand p l e R s m args below meth c T locs cells slots) (hx : p.tables.exec = Jvm.exec) (hZ : Z.Warmed39 s.vm) (hown : s.vm.findClass own = some m.cls) (hws : ∀ d ∈ StrChars.Road.words, d.before a0 Z = true)
    (w1 : (Jvm.Cond.methodLink own idx (⟨"java/lang/String", "<init>", "([C)V"⟩ : MethodName)).before a0 Z = true) (w2 : (Jvm.Cond.instanceMethod (⟨"java/lang/String", "<init>", "([C)V"⟩ : MethodName)).before a0 Z = true) (w4 : (Jvm.Cond.code (⟨"java/lang/String", "<init>", "([C)V"⟩ : MethodName) StrChars.New1.yB 2 none).before a0 Z = true) (wi : (Jvm.Cond.instantiable "java/lang/String" 4).before a0 Z = true)
    (hx0 : n0 ≤ x) (hh0 : n0 ≤ h.size) (Ex : Exa Z h x "java/lang/String") (V : Fld Z h x "java/lang/String" "value" "[B" v0) (C : Fld Z h x "java/lang/String" "coder" "B" c0) (K : Arv Z h b kC .char N vs d) (hvs : vs = cs.map Value.int) (S : Sta Z h "java/lang/String" "COMPACT_STRINGS" "Z" (.int z)) (hz : ¬ z = 0)
    (hn : cs.length = n) (hN : N = Int32.ofNat n) (l0 : 0 < n) (l2 : n ≤ 4000) (hp : ∀ c ∈ cs, ¬ c < 0 ∧ ¬ (255 : Int32) < c) (eT : T.heap = h) {g : JFrame} (hg : g.method = m) (hsize : g.locals.size = c.maxLocals) (rest : List Value) (hlen : ∀ sig, parseMethodDescriptor "([C)V" = some sig → [Value.ref b].length = sig.parameters.length) (hstack : g.stack = .ref b :: .ref x :: rest)
    (hW : 2 * g.monitorRoom + (rest.map fun v => v.category).sum ≤ W) (hd : decode c.code g.pc = .ok (.invokespecial idx, 3)) (hfr : 4 ≤ R.frames) (hlo : W + 65 ≤ R.locals) (hc : cells + 1 ≤ R.cells) (hs : slots + n ≤ R.slots)
    (k : ∀ T' L, Stand p l e R s m args below meth c T' (locs ++ L) (cells + 1) (slots + n) → Fr n0 L → Keep h T'.heap [x] → Str Z T'.heap x cs → Goes p e below E T' { g with pc := g.pc + 3, stack := rest }) : Goes p e below E T g := by
  subst hvs
  obtain ⟨v, vm₁, ⟨T', L', k', n'⟩, -, X', ⟨L, ⟨q0, q1, q2, q3, q4, t, kb, -, -, -, q5, q6⟩, r1, r2, r3⟩, st⟩ := X.specialBack hx (y := (⟨"java/lang/String", "<init>", "([C)V"⟩ : MethodName)) rfl hown (mvT hZ w1) (mvT hZ w2) (mvT hZ w4) (by decide) (StrChars.Road.backV (W := W) (n := n) hZ hws (kI := 4) wi (bs := cs.map (fun c => c.toInt8.toInt32)) hx0 hh0 Ex V C K S hz hn hN l0 l2 hp rfl hfr hlo) hg hsize (Steps.refl _) (a := x) (argsL := [.ref b]) (rest := rest) hlen hstack hW hd (fun _ _ => ⟨rfl, eT, hc, hs⟩)
  dsimp only [Pt.U, Pt.locs, Pt.cells, Pt.slots] at X' r1 r2 r3 st q2 q3 q4 q5 q6
  subst r1 r2 r3 q0
  refine Goes.of (fun _ => st.trans) (k T' L X' q1 q2 ⟨q3, fun c hc => ⟨(hp c hc).1, le255 (hp c hc).2⟩, by omega, t, kb, 0, N, _, q5, q4, q6, ?_⟩)
  rw [hN]
  exact StrChars.Road.codOf hn (fun c hc => (hp c hc).2)
end OwnS
end Jvm.Pilot.@@N@@
namespace Jvm.Pilot.@@N@@
open Jvm Jvm.ClassFile Sem Op Lib Jvm.Free Jvm.Stand Jvm.LawKit Jvm.RoadKit Jvm.Own Bundle Jvm.Pilot.@@N@@.Jvm.D
theorem ef_1 (m : MethodId) (x0 : Int32) : entryFrame m #[(.int x0)] 2 = mkF m 0 #[.val (.int x0), .unset] [] := by first | (simp [entryFrame, mkF, argsToLocals, Value.category]; done) | rfl
theorem d1_0 : decode method_2_code 0 = .ok (.iconst 2, 1) := by decide +kernel
theorem d1_1 : decode method_2_code 1 = .ok (.newarray .char, 2) := by decide +kernel
theorem d1_3 : decode method_2_code 3 = .ok (.astore_n 1, 1) := by decide +kernel
theorem d1_4 : decode method_2_code 4 = .ok (.aload_n 1, 1) := by decide +kernel
theorem d1_5 : decode method_2_code 5 = .ok (.iconst 0, 1) := by decide +kernel
theorem d1_6 : decode method_2_code 6 = .ok (.iload_n 0, 1) := by decide +kernel
theorem d1_7 : decode method_2_code 7 = .ok (.sipush 255, 3) := by decide +kernel
theorem d1_10 : decode method_2_code 10 = .ok (.iand, 1) := by decide +kernel
theorem d1_11 : decode method_2_code 11 = .ok (.i2c, 1) := by decide +kernel
theorem d1_12 : decode method_2_code 12 = .ok (.castore, 1) := by decide +kernel
theorem d1_13 : decode method_2_code 13 = .ok (.aload_n 1, 1) := by decide +kernel
theorem d1_14 : decode method_2_code 14 = .ok (.iconst 1, 1) := by decide +kernel
theorem d1_15 : decode method_2_code 15 = .ok (.iload_n 0, 1) := by decide +kernel
theorem d1_16 : decode method_2_code 16 = .ok (.bipush 8, 2) := by decide +kernel
theorem d1_18 : decode method_2_code 18 = .ok (.iushr, 1) := by decide +kernel
theorem d1_19 : decode method_2_code 19 = .ok (.sipush 255, 3) := by decide +kernel
theorem d1_22 : decode method_2_code 22 = .ok (.iand, 1) := by decide +kernel
theorem d1_23 : decode method_2_code 23 = .ok (.i2c, 1) := by decide +kernel
theorem d1_24 : decode method_2_code 24 = .ok (.castore, 1) := by decide +kernel
theorem d1_25 : decode method_2_code 25 = .ok (.new 7, 3) := by decide +kernel
theorem d1_28 : decode method_2_code 28 = .ok (.dup, 1) := by decide +kernel
theorem d1_29 : decode method_2_code 29 = .ok (.aload_n 1, 1) := by decide +kernel
theorem d1_30 : decode method_2_code 30 = .ok (.invokespecial 9, 3) := by decide +kernel
theorem pd___C_V : parseMethodDescriptor "([C)V" = some ⟨[(.array .char)], none⟩ := by decide +kernel
theorem d1_33 : decode method_2_code 33 = .ok (.areturn, 1) := by decide +kernel
theorem pn_com_example_keadby_keadby_model_NewJobOfPinLaw : plainName "com/example/keadby/keadby/model/NewJobOfPinLaw" = true := by first | (simp [plainName, overriddenIn]; done) | decide +kernel
theorem ef_10 (m : MethodId) (x0 : Addr) : entryFrame m #[(.ref x0)] 1 = mkF m 0 #[.val (.ref x0)] [] := by first | (simp [entryFrame, mkF, argsToLocals, Value.category]; done) | rfl
theorem d10_0 : decode jdk_30_method_1_code 0 = .ok (.aload_n 0, 1) := by decide +kernel
theorem d10_1 : decode jdk_30_method_1_code 1 = .ok (.invokespecial 1, 3) := by decide +kernel
theorem d10_4 : decode jdk_30_method_1_code 4 = .ok (.return_, 1) := by decide +kernel
theorem pn_java_lang_Record : plainName "java/lang/Record" = true := by first | (simp [plainName, overriddenIn]; done) | decide +kernel
theorem ef_9n4n5n6 (m : MethodId) (x0 : Addr) (x1 : Addr) (x2 : Addr) (x3 : Addr) : entryFrame m #[(.ref x0), (.ref x1), (.ref x2), (.ref x3), .null, .null, .null] 7 = mkF m 0 #[.val (.ref x0), .val (.ref x1), .val (.ref x2), .val (.ref x3), .val .null, .val .null, .val .null] [] := by first | (simp [entryFrame, mkF, argsToLocals, Value.category]; done) | rfl
theorem d9_0 : decode prog_10_method_1_code 0 = .ok (.aload_n 0, 1) := by decide +kernel
theorem d9_1 : decode prog_10_method_1_code 1 = .ok (.invokespecial 1, 3) := by decide +kernel
theorem pd___V : parseMethodDescriptor "()V" = some ⟨[], none⟩ := by decide +kernel
theorem d9_4 : decode prog_10_method_1_code 4 = .ok (.aload_n 0, 1) := by decide +kernel
theorem d9_5 : decode prog_10_method_1_code 5 = .ok (.aload_n 1, 1) := by decide +kernel
theorem d9_6 : decode prog_10_method_1_code 6 = .ok (.putfield 7, 3) := by decide +kernel
theorem d9_9 : decode prog_10_method_1_code 9 = .ok (.aload_n 0, 1) := by decide +kernel
theorem d9_10 : decode prog_10_method_1_code 10 = .ok (.aload_n 2, 1) := by decide +kernel
theorem d9_11 : decode prog_10_method_1_code 11 = .ok (.putfield 13, 3) := by decide +kernel
theorem d9_14 : decode prog_10_method_1_code 14 = .ok (.aload_n 0, 1) := by decide +kernel
theorem d9_15 : decode prog_10_method_1_code 15 = .ok (.aload_n 3, 1) := by decide +kernel
theorem d9_16 : decode prog_10_method_1_code 16 = .ok (.putfield 16, 3) := by decide +kernel
theorem d9_19 : decode prog_10_method_1_code 19 = .ok (.aload_n 0, 1) := by decide +kernel
theorem d9_20 : decode prog_10_method_1_code 20 = .ok (.aload 4, 2) := by decide +kernel
theorem d9_22 : decode prog_10_method_1_code 22 = .ok (.putfield 19, 3) := by decide +kernel
theorem d9_25 : decode prog_10_method_1_code 25 = .ok (.aload_n 0, 1) := by decide +kernel
theorem d9_26 : decode prog_10_method_1_code 26 = .ok (.aload 5, 2) := by decide +kernel
theorem d9_28 : decode prog_10_method_1_code 28 = .ok (.putfield 23, 3) := by decide +kernel
theorem d9_31 : decode prog_10_method_1_code 31 = .ok (.aload_n 0, 1) := by decide +kernel
theorem d9_32 : decode prog_10_method_1_code 32 = .ok (.aload 6, 2) := by decide +kernel
theorem d9_34 : decode prog_10_method_1_code 34 = .ok (.putfield 27, 3) := by decide +kernel
theorem d9_37 : decode prog_10_method_1_code 37 = .ok (.return_, 1) := by decide +kernel
theorem pn_com_example_keadby_keadby_model_NewJob : plainName "com/example/keadby/keadby/model/NewJob" = true := by first | (simp [plainName, overriddenIn]; done) | decide +kernel
theorem ef_8 (m : MethodId) (x0 : Addr) (x1 : Addr) (x2 : Addr) : entryFrame m #[(.ref x0), (.ref x1), (.ref x2)] 3 = mkF m 0 #[.val (.ref x0), .val (.ref x1), .val (.ref x2)] [] := by first | (simp [entryFrame, mkF, argsToLocals, Value.category]; done) | rfl
theorem d8_0 : decode prog_10_method_2_code 0 = .ok (.new 8, 3) := by decide +kernel
theorem d8_3 : decode prog_10_method_2_code 3 = .ok (.dup, 1) := by decide +kernel
theorem d8_4 : decode prog_10_method_2_code 4 = .ok (.aload_n 0, 1) := by decide +kernel
theorem d8_5 : decode prog_10_method_2_code 5 = .ok (.aload_n 1, 1) := by decide +kernel
theorem d8_6 : decode prog_10_method_2_code 6 = .ok (.aload_n 2, 1) := by decide +kernel
theorem d8_7 : decode prog_10_method_2_code 7 = .ok (.aconst_null, 1) := by decide +kernel
theorem d8_8 : decode prog_10_method_2_code 8 = .ok (.aconst_null, 1) := by decide +kernel
theorem d8_9 : decode prog_10_method_2_code 9 = .ok (.aconst_null, 1) := by decide +kernel
theorem d8_10 : decode prog_10_method_2_code 10 = .ok (.invokespecial 30, 3) := by decide +kernel
theorem pd__Ljava_lang_String_Ljava_lang_String_Ljava_lang_String_Ljava_lang_Integer_Ljava_time_Instant_Ljava_lang_Integer__V : parseMethodDescriptor "(Ljava/lang/String;Ljava/lang/String;Ljava/lang/String;Ljava/lang/Integer;Ljava/time/Instant;Ljava/lang/Integer;)V" = some ⟨[(.object "java/lang/String"), (.object "java/lang/String"), (.object "java/lang/String"), (.object "java/lang/Integer"), (.object "java/time/Instant"), (.object "java/lang/Integer")], none⟩ := by decide +kernel
theorem d8_13 : decode prog_10_method_2_code 13 = .ok (.areturn, 1) := by decide +kernel
theorem ef_11 (m : MethodId) (x0 : Addr) : entryFrame m #[(.ref x0)] 1 = mkF m 0 #[.val (.ref x0)] [] := by first | (simp [entryFrame, mkF, argsToLocals, Value.category]; done) | rfl
theorem d11_0 : decode prog_10_method_9_code 0 = .ok (.aload_n 0, 1) := by decide +kernel
theorem d11_1 : decode prog_10_method_9_code 1 = .ok (.getfield 7, 3) := by decide +kernel
theorem d11_4 : decode prog_10_method_9_code 4 = .ok (.areturn, 1) := by decide +kernel
theorem ef_12 (m : MethodId) (x0 : Addr) : entryFrame m #[(.ref x0)] 1 = mkF m 0 #[.val (.ref x0)] [] := by first | (simp [entryFrame, mkF, argsToLocals, Value.category]; done) | rfl
theorem d12_0 : decode prog_10_method_10_code 0 = .ok (.aload_n 0, 1) := by decide +kernel
theorem d12_1 : decode prog_10_method_10_code 1 = .ok (.getfield 13, 3) := by decide +kernel
theorem d12_4 : decode prog_10_method_10_code 4 = .ok (.areturn, 1) := by decide +kernel
theorem ef_13 (m : MethodId) (x0 : Addr) : entryFrame m #[(.ref x0)] 1 = mkF m 0 #[.val (.ref x0)] [] := by first | (simp [entryFrame, mkF, argsToLocals, Value.category]; done) | rfl
theorem d13_0 : decode prog_10_method_11_code 0 = .ok (.aload_n 0, 1) := by decide +kernel
theorem d13_1 : decode prog_10_method_11_code 1 = .ok (.getfield 16, 3) := by decide +kernel
theorem d13_4 : decode prog_10_method_11_code 4 = .ok (.areturn, 1) := by decide +kernel
theorem ef_15 (m : MethodId) (x0 : Addr) : entryFrame m #[(.ref x0)] 1 = mkF m 0 #[.val (.ref x0)] [] := by first | (simp [entryFrame, mkF, argsToLocals, Value.category]; done) | rfl
theorem d15_0 : decode prog_10_method_12_code 0 = .ok (.aload_n 0, 1) := by decide +kernel
theorem d15_1 : decode prog_10_method_12_code 1 = .ok (.getfield 19, 3) := by decide +kernel
theorem d15_4 : decode prog_10_method_12_code 4 = .ok (.areturn, 1) := by decide +kernel
theorem ef_16 (m : MethodId) (x0 : Addr) : entryFrame m #[(.ref x0)] 1 = mkF m 0 #[.val (.ref x0)] [] := by first | (simp [entryFrame, mkF, argsToLocals, Value.category]; done) | rfl
theorem d16_0 : decode prog_10_method_13_code 0 = .ok (.aload_n 0, 1) := by decide +kernel
theorem d16_1 : decode prog_10_method_13_code 1 = .ok (.getfield 23, 3) := by decide +kernel
theorem d16_4 : decode prog_10_method_13_code 4 = .ok (.areturn, 1) := by decide +kernel
theorem ef_17 (m : MethodId) (x0 : Addr) : entryFrame m #[(.ref x0)] 1 = mkF m 0 #[.val (.ref x0)] [] := by first | (simp [entryFrame, mkF, argsToLocals, Value.category]; done) | rfl
theorem d17_0 : decode prog_10_method_14_code 0 = .ok (.aload_n 0, 1) := by decide +kernel
theorem d17_1 : decode prog_10_method_14_code 1 = .ok (.getfield 27, 3) := by decide +kernel
theorem d17_4 : decode prog_10_method_14_code 4 = .ok (.areturn, 1) := by decide +kernel
theorem ef_14 (m : MethodId) (x0 : Addr) (x1 : Addr) : entryFrame m #[(.ref x0), (.ref x1)] 3 = mkF m 0 #[.val (.ref x0), .val (.ref x1), .unset] [] := by first | (simp [entryFrame, mkF, argsToLocals, Value.category]; done) | rfl
theorem d14_0 : decode jdk_42_method_66_code 0 = .ok (.aload_n 0, 1) := by decide +kernel
theorem d14_1 : decode jdk_42_method_66_code 1 = .ok (.aload_n 1, 1) := by decide +kernel
theorem d14_2 : decode jdk_42_method_66_code 2 = .ok (.if_acmp .ne 5, 3) := by decide +kernel
theorem d14_5 : decode jdk_42_method_66_code 5 = .ok (.iconst 1, 1) := by decide +kernel
theorem d14_6 : decode jdk_42_method_66_code 6 = .ok (.ireturn, 1) := by decide +kernel
theorem pn_java_lang_String : plainName "java/lang/String" = true := by first | (simp [plainName, overriddenIn]; done) | decide +kernel
theorem ef_0 (m : MethodId) (x0 : Int32) (x1 : Int32) (x2 : Int32) : entryFrame m #[(.int x0), (.int x1), (.int x2)] maxLocals = mkF m 0 #[.val (.int x0), .val (.int x1), .val (.int x2), .unset, .unset, .unset, .unset, .unset, .unset, .unset, .unset, .unset] [] := by first | (simp [entryFrame, mkF, argsToLocals, Value.category, maxLocals]; done) | rfl
theorem pd__I_Ljava_lang_String_ : parseMethodDescriptor "(I)Ljava/lang/String;" = some ⟨[.int], some (.object "java/lang/String")⟩ := by decide +kernel
theorem pd__Ljava_lang_String_Ljava_lang_String_Ljava_lang_String__Lcom_example_keadby_keadby_model_NewJob_ : parseMethodDescriptor "(Ljava/lang/String;Ljava/lang/String;Ljava/lang/String;)Lcom/example/keadby/keadby/model/NewJob;" = some ⟨[(.object "java/lang/String"), (.object "java/lang/String"), (.object "java/lang/String")], some (.object "com/example/keadby/keadby/model/NewJob")⟩ := by decide +kernel
theorem pd___Ljava_lang_String_ : parseMethodDescriptor "()Ljava/lang/String;" = some ⟨[], some (.object "java/lang/String")⟩ := by decide +kernel
theorem pd__Ljava_lang_Object__Z : parseMethodDescriptor "(Ljava/lang/Object;)Z" = some ⟨[(.object "java/lang/Object")], some .boolean⟩ := by decide +kernel
theorem pd___Ljava_lang_Integer_ : parseMethodDescriptor "()Ljava/lang/Integer;" = some ⟨[], some (.object "java/lang/Integer")⟩ := by decide +kernel
theorem pd___Ljava_time_Instant_ : parseMethodDescriptor "()Ljava/time/Instant;" = some ⟨[], some (.object "java/time/Instant")⟩ := by decide +kernel
theorem hwsOf {Z : State} {a0 : Array Value} (hw : ∀ d ∈ tables_1, d.before a0 Z = true) : ∀ d ∈ StrChars.Road.words, d.before a0 Z = true := fun d hd => hw d ((by decide +kernel : ∀ d ∈ StrChars.Road.words, d ∈ tables_1) d hd)
theorem chr8 (x : Int32) : ¬ (x &&& (255 : Int32)).toUInt32.toUInt16.toUInt32.toInt32 < 0 ∧ ¬ (255 : Int32) < (x &&& (255 : Int32)).toUInt32.toUInt16.toUInt32.toInt32 := by
  rw [i2c_mask]
  have e := c_mask x 255 8 (by decide) (by decide)
  have e0 : (0 : Int32).toInt = 0 := rfl
  have e1 : (255 : Int32).toInt = 255 := rfl
  rw [Int32.lt_iff_toInt_lt, Int32.lt_iff_toInt_lt]
  omega
set_option maxRecDepth 65536 in
set_option maxHeartbeats 40000000 in
theorem rm_two (l : Launch) (Z : State) (a0 : Array Value) (hw : ∀ d ∈ tables_1, d.before a0 Z = true) (x : Int32) (cz : Int32) (h0 : Heap) (n0 : Nat) (O0 : Old Z n0 h0) (Sc : Sta Z Z.heap "java/lang/String" "COMPACT_STRINGS" "Z" (.int cz)) (hcz : ¬ cz = 0) :
    Rm l (⟨"com/example/keadby/keadby/model/NewJobOfPinLaw", "two", "(I)Ljava/lang/String;"⟩ : MethodName) method_2_code 2 (some (.object "java/lang/String")) ({ frames := 4, cells := 3, slots := 8, locals := 66 } : Room) [] Z #[(.int x)] h0 (fun v h L => ∃ b, v = some (.ref b) ∧ Fr n0 L ∧ Keep h0 h [] ∧ n0 ≤ b ∧ Exa Z h b "java/lang/String") := by
  refine Rm.of (plainFor_of_name pn_com_example_keadby_keadby_model_NewJobOfPinLaw) ?_
  intro p e s m below meth cod T X hx hZ hby hml hown hnm hret hlk eT0
  have hown : s.vm.findClass "com/example/keadby/keadby/model/NewJobOfPinLaw" = some m.cls := hown
  have hnm : meth.name = "two" := hnm
  have N0 := Fr.nil n0
  have Kp := Keep.refl h0 []
  refine Goes.cast (ef_1 m x) ?_
  show Goes p e below _ T (mkF m 0 #[.val (.int x), .unset] [])
  refine Goes.of (fun _ => XS.iconst X.here hx rfl (hb hby d1_0)) ?_
  show Goes p e below _ T (mkF m 1 #[.val (.int x), .unset] [(.int (2 : Int32))])
  refine goNewP 2 X hx hZ (hw _ (List.mem_of_getElem? (i := 4) rfl)) eT0 (g := (mkF m 1 #[.val (.int x), .unset] [(.int (2 : Int32))])) rfl (hb hby d1_1) rfl (by decide) (by decide) (by decide) (by decide) (by decide) (ad := "[C") (by first | rfl | decide) ?_
  intro T1 h1 b1 kA1 X1 eT1 E1 hb1 V1 A1
  have g_b1 : n0 ≤ b1 := Nat.le_trans (oldLe O0) hb1
  have sz_b1 : h0.size ≤ b1 := Nat.le_trans Kp.1 hb1
  have Kp := Kp.ext E1
  have O0 := O0.ext E1
  have V1 : Arv Z h1 b1 kA1 .char (2 : Int32) [(.int (0 : Int32)), (.int (0 : Int32))] (.int (0 : Int32)) := V1
  show Goes p e below _ T1 (mkF m 3 #[.val (.int x), .unset] [(.ref b1)])
  refine Goes.of (fun _ => XS.astoreN X1.here hx rfl (hb hby d1_3) rfl rfl (l' := #[.val (.int x), .val (.ref b1)]) rfl) ?_
  show Goes p e below _ T1 (mkF m 4 #[.val (.int x), .val (.ref b1)] [])
  refine Goes.of (fun _ => XS.aloadN X1.here hx rfl (hb hby d1_4) rfl rfl) ?_
  show Goes p e below _ T1 (mkF m 5 #[.val (.int x), .val (.ref b1)] [(.ref b1)])
  refine Goes.of (fun _ => XS.iconst X1.here hx rfl (hb hby d1_5)) ?_
  show Goes p e below _ T1 (mkF m 6 #[.val (.int x), .val (.ref b1)] [(.int (0 : Int32)), (.ref b1)])
  refine Goes.of (fun _ => XS.iloadN X1.here hx rfl (hb hby d1_6) rfl) ?_
  show Goes p e below _ T1 (mkF m 7 #[.val (.int x), .val (.ref b1)] [(.int x), (.int (0 : Int32)), (.ref b1)])
  refine Goes.of (fun _ => XS.sipush X1.here hx rfl (hb hby d1_7)) ?_
  show Goes p e below _ T1 (mkF m 10 #[.val (.int x), .val (.ref b1)] [(.int (255 : Int32)), (.int x), (.int (0 : Int32)), (.ref b1)])
  refine Goes.of (fun _ => XS.iand X1.here hx rfl (hb hby d1_10) rfl) ?_
  show Goes p e below _ T1 (mkF m 11 #[.val (.int x), .val (.ref b1)] [(.int (x &&& (255 : Int32))), (.int (0 : Int32)), (.ref b1)])
  refine Goes.of (fun _ => XS.i2c X1.here hx rfl (hb hby d1_11) rfl) ?_
  show Goes p e below _ T1 (mkF m 12 #[.val (.int x), .val (.ref b1)] [(.int ((x &&& (255 : Int32)).toUInt32.toUInt16.toUInt32.toInt32)), (.int (0 : Int32)), (.ref b1)])
  refine goStC 0 X1 hx hZ eT1 V1 (by decide) (by decide) rfl (Nat.lt_of_lt_of_le (Nat.lt_succ_self _) (Nat.le_of_ble_eq_true rfl)) (g := (mkF m 12 #[.val (.int x), .val (.ref b1)] [(.int ((x &&& (255 : Int32)).toUInt32.toUInt16.toUInt32.toInt32)), (.int (0 : Int32)), (.ref b1)])) rfl rfl (hb hby d1_12) ?_
  intro T2 h2 X2 eT2 W2 V1
  have N2 := Fr.snoc X2 N0 g_b1
  have A1 := A1.wr W2
  have Kp := Kp.wr W2 (Or.inr sz_b1)
  have O0 := O0.wr W2 g_b1
  have V1 : Arv Z h2 b1 kA1 .char (2 : Int32) [(.int (nar .char ((x &&& (255 : Int32)).toUInt32.toUInt16.toUInt32.toInt32))), (.int (0 : Int32))] (.int (0 : Int32)) := V1
  show Goes p e below _ T2 (mkF m 13 #[.val (.int x), .val (.ref b1)] [])
  refine Goes.of (fun _ => XS.aloadN X2.here hx rfl (hb hby d1_13) rfl rfl) ?_
  show Goes p e below _ T2 (mkF m 14 #[.val (.int x), .val (.ref b1)] [(.ref b1)])
  refine Goes.of (fun _ => XS.iconst X2.here hx rfl (hb hby d1_14)) ?_
  show Goes p e below _ T2 (mkF m 15 #[.val (.int x), .val (.ref b1)] [(.int (1 : Int32)), (.ref b1)])
  refine Goes.of (fun _ => XS.iloadN X2.here hx rfl (hb hby d1_15) rfl) ?_
  show Goes p e below _ T2 (mkF m 16 #[.val (.int x), .val (.ref b1)] [(.int x), (.int (1 : Int32)), (.ref b1)])
  refine Goes.of (fun _ => XS.bipush X2.here hx rfl (hb hby d1_16)) ?_
  show Goes p e below _ T2 (mkF m 18 #[.val (.int x), .val (.ref b1)] [(.int (8 : Int32)), (.int x), (.int (1 : Int32)), (.ref b1)])
  refine Goes.of (fun _ => XS.iushr X2.here hx rfl (hb hby d1_18) rfl) ?_
  show Goes p e below _ T2 (mkF m 19 #[.val (.int x), .val (.ref b1)] [(.int ((x.toUInt32 >>> ((8 : Int32) &&& 31).toUInt32).toInt32)), (.int (1 : Int32)), (.ref b1)])
  refine Goes.of (fun _ => XS.sipush X2.here hx rfl (hb hby d1_19)) ?_
  show Goes p e below _ T2 (mkF m 22 #[.val (.int x), .val (.ref b1)] [(.int (255 : Int32)), (.int ((x.toUInt32 >>> ((8 : Int32) &&& 31).toUInt32).toInt32)), (.int (1 : Int32)), (.ref b1)])
  refine Goes.of (fun _ => XS.iand X2.here hx rfl (hb hby d1_22) rfl) ?_
  show Goes p e below _ T2 (mkF m 23 #[.val (.int x), .val (.ref b1)] [(.int (((x.toUInt32 >>> ((8 : Int32) &&& 31).toUInt32).toInt32) &&& (255 : Int32))), (.int (1 : Int32)), (.ref b1)])
  refine Goes.of (fun _ => XS.i2c X2.here hx rfl (hb hby d1_23) rfl) ?_
  show Goes p e below _ T2 (mkF m 24 #[.val (.int x), .val (.ref b1)] [(.int ((((x.toUInt32 >>> ((8 : Int32) &&& 31).toUInt32).toInt32) &&& (255 : Int32)).toUInt32.toUInt16.toUInt32.toInt32)), (.int (1 : Int32)), (.ref b1)])
  refine goStC 1 X2 hx hZ eT2 V1 (by decide) (by decide) rfl (Nat.lt_of_lt_of_le (Nat.lt_succ_self _) (Nat.le_of_ble_eq_true rfl)) (g := (mkF m 24 #[.val (.int x), .val (.ref b1)] [(.int ((((x.toUInt32 >>> ((8 : Int32) &&& 31).toUInt32).toInt32) &&& (255 : Int32)).toUInt32.toUInt16.toUInt32.toInt32)), (.int (1 : Int32)), (.ref b1)])) rfl rfl (hb hby d1_24) ?_
  intro T3 h3 X3 eT3 W3 V1
  have N3 := Fr.snoc X3 N2 g_b1
  have A1 := A1.wr W3
  have Kp := Kp.wr W3 (Or.inr sz_b1)
  have O0 := O0.wr W3 g_b1
  have V1 : Arv Z h3 b1 kA1 .char (2 : Int32) [(.int (nar .char ((x &&& (255 : Int32)).toUInt32.toUInt16.toUInt32.toInt32))), (.int (nar .char ((((x.toUInt32 >>> ((8 : Int32) &&& 31).toUInt32).toInt32) &&& (255 : Int32)).toUInt32.toUInt16.toUInt32.toInt32)))] (.int (0 : Int32)) := V1
  show Goes p e below _ T3 (mkF m 25 #[.val (.int x), .val (.ref b1)] [])
  refine goNew X3 hx hZ hown (hw _ (List.mem_of_getElem? (i := 5) rfl)) (hw _ (List.mem_of_getElem? (i := 6) rfl)) (hw _ (List.mem_of_getElem? (i := 7) rfl)) eT3 (g := (mkF m 25 #[.val (.int x), .val (.ref b1)] [])) rfl (hb hby d1_25) (by decide) (by decide) ?_
  intro T4 h4 b4 X4 eT4 E4 hb4 A4 D4
  have g_b4 : n0 ≤ b4 := Nat.le_trans (oldLe O0) hb4
  have sz_b4 : h0.size ≤ b4 := Nat.le_trans Kp.1 hb4
  have ne_b1_b4 : b1 ≠ b4 := Nat.ne_of_lt (Nat.lt_of_lt_of_le V1.lt hb4)
  have V1 := V1.ext E4
  have A1 := A1.ext E4
  have Kp := Kp.ext E4
  have O0 := O0.ext E4
  have F4_coder : Fld Z h4 b4 "java/lang/String" "coder" "B" (.int (0 : Int32)) := D4 (Or.inr (hw _ (List.mem_of_getElem? (i := 31) rfl))) (ty := .byte) (by decide)
  have F4_value : Fld Z h4 b4 "java/lang/String" "value" "[B" .null := D4 (Or.inr (hw _ (List.mem_of_getElem? (i := 33) rfl))) (ty := (.array .byte)) (by decide)
  show Goes p e below _ T4 (mkF m 28 #[.val (.int x), .val (.ref b1)] [(.ref b4)])
  refine Goes.of (fun _ => XS.dup X4.here hx rfl (hb hby d1_28) rfl rfl) ?_
  show Goes p e below _ T4 (mkF m 29 #[.val (.int x), .val (.ref b1)] [(.ref b4), (.ref b4)])
  refine Goes.of (fun _ => XS.aloadN X4.here hx rfl (hb hby d1_29) rfl rfl) ?_
  show Goes p e below _ T4 (mkF m 30 #[.val (.int x), .val (.ref b1)] [(.ref b1), (.ref b4), (.ref b4)])
  refine goNewS (cs := [(nar .char ((x &&& (255 : Int32)).toUInt32.toUInt16.toUInt32.toInt32)), (nar .char ((((x.toUInt32 >>> ((8 : Int32) &&& 31).toUInt32).toInt32) &&& (255 : Int32)).toUInt32.toUInt16.toUInt32.toInt32))]) 2 1 X4 hx hZ hown (hwsOf hw) (hw _ (List.mem_of_getElem? (i := 8) rfl)) (hw _ (List.mem_of_getElem? (i := 9) rfl)) (hw _ (List.mem_of_getElem? (i := 10) rfl)) (hw _ (List.mem_of_getElem? (i := 6) rfl)) g_b4 (oldLe O0) A4 F4_value F4_coder V1 rfl (Sc.ext O0.2) hcz rfl rfl (by decide) (by decide) (by intro c hc; simp only [List.mem_cons, List.not_mem_nil, or_false] at hc; rcases hc with rfl | rfl; (· rw [narC (chr8 _).1 (le255 (chr8 _).2)]; exact (chr8 _)); (· rw [narC (chr8 _).1 (le255 (chr8 _).2)]; exact (chr8 _))) eT4 (g := (mkF m 30 #[.val (.int x), .val (.ref b1)] [(.ref b1), (.ref b4), (.ref b4)])) rfl (by rw [hml]; rfl) [(.ref b4)] (lenOf pd___C_V rfl) rfl (by show 2 * 0 + _ ≤ _; exact Nat.le_of_eq rfl) (hb hby d1_30) (by decide) (by decide) (by decide) (by decide) ?_
  intro T5 L5 X5 Nq5 Kq5 S5
  have S5 := S5.of (show [(nar .char ((x &&& (255 : Int32)).toUInt32.toUInt16.toUInt32.toInt32)), (nar .char ((((x.toUInt32 >>> ((8 : Int32) &&& 31).toUInt32).toInt32) &&& (255 : Int32)).toUInt32.toUInt16.toUInt32.toInt32))] = [((x &&& (255 : Int32)).toUInt32.toUInt16.toUInt32.toInt32), ((((x.toUInt32 >>> ((8 : Int32) &&& 31).toUInt32).toInt32) &&& (255 : Int32)).toUInt32.toUInt16.toUInt32.toInt32)] by (try rw [narC (chr8 _).1 (le255 (chr8 _).2)]); (try rw [narC (chr8 _).1 (le255 (chr8 _).2)]))
  have N5 := Fr.app N3 Nq5
  have V1 := V1.keep Kq5 (ninS ne_b1_b4 nin0)
  have A1 := A1.keep Kq5
  have Kp := Kp.trans Kq5 (allS (Or.inr sz_b4) all0)
  have O0 := O0.keep Kq5 (allS g_b4 all0)
  show Goes p e below _ T5 (mkF m 33 #[.val (.int x), .val (.ref b1)] [(.ref b4)])
  exact retRef X5 hx hret hlk rfl rfl (hb hby d1_33) (rfl : T5.heap = _) (by decide) (by decide) ⟨b4, rfl, N5, Kp, g_b4, S5.1⟩
set_option maxRecDepth 65536 in
set_option maxHeartbeats 40000000 in
theorem rm_record (l : Launch) (Z : State) (a0 : Array Value) (hw : ∀ d ∈ tables_1, d.before a0 Z = true) (a : Addr) (h0 : Heap) (n0 : Nat) (O0 : Old Z n0 h0)  :
    Rm l (⟨"java/lang/Record", "<init>", "()V"⟩ : MethodName) jdk_30_method_1_code 1 none ({ frames := 1, cells := 0, slots := 0, locals := 12 } : Room) [] Z #[(.ref a)] h0 (fun v h L => v = none ∧ Fr n0 L ∧ h = h0) := by
  refine Rm.of (plainFor_of_name pn_java_lang_Record) ?_
  intro p e s m below meth cod T X hx hZ hby hml hown hnm hret hlk eT0
  have hown : s.vm.findClass "java/lang/Record" = some m.cls := hown
  have hnm : meth.name = "<init>" := hnm
  have N0 := Fr.nil n0
  refine Goes.cast (ef_10 m a) ?_
  show Goes p e below _ T (mkF m 0 #[.val (.ref a)] [])
  refine Goes.of (fun _ => XS.aloadN X.here hx rfl (hb hby d10_0) rfl rfl) ?_
  show Goes p e below _ T (mkF m 1 #[.val (.ref a)] [(.ref a)])
  refine goInitO 0 X hx hZ hown (hw _ (List.mem_of_getElem? (i := 48) rfl)) (hw _ (List.mem_of_getElem? (i := 16) rfl)) (hw _ (List.mem_of_getElem? (i := 17) rfl)) eT0 (g := (mkF m 1 #[.val (.ref a)] [(.ref a)])) rfl (by rw [hml]; rfl) rfl (hb hby d10_1) (by decide) (by show 2 * 0 + _ ≤ _; exact Nat.le_of_eq rfl) (by decide) ?_
  intro T1 X1 eT1
  show Goes p e below _ T1 (mkF m 4 #[.val (.ref a)] [])
  exact retVoid X1 hx hret hlk (hb hby d10_4) eT1 (by decide) (by decide) ⟨rfl, N0, rfl⟩
set_option maxRecDepth 65536 in
set_option maxHeartbeats 40000000 in
theorem rm_init (l : Launch) (Z : State) (a0 : Array Value) (hw : ∀ d ∈ tables_1, d.before a0 Z = true) (a u0 u1 u2 : Addr) (h0 : Heap) (n0 : Nat) (O0 : Old Z n0 h0) (g_a : n0 ≤ a) (Ex : Exa Z h0 a "com/example/keadby/keadby/model/NewJob") (F0 : Fld Z h0 a "com/example/keadby/keadby/model/NewJob" "tenant" "Ljava/lang/String;" .null) (F1 : Fld Z h0 a "com/example/keadby/keadby/model/NewJob" "kind" "Ljava/lang/String;" .null) (F2 : Fld Z h0 a "com/example/keadby/keadby/model/NewJob" "payload" "Ljava/lang/String;" .null) (F3 : Fld Z h0 a "com/example/keadby/keadby/model/NewJob" "priority" "Ljava/lang/Integer;" .null) (F4 : Fld Z h0 a "com/example/keadby/keadby/model/NewJob" "runAt" "Ljava/time/Instant;" .null) (F5 : Fld Z h0 a "com/example/keadby/keadby/model/NewJob" "maxAttempts" "Ljava/lang/Integer;" .null) :
    Rm l (⟨"com/example/keadby/keadby/model/NewJob", "<init>", "(Ljava/lang/String;Ljava/lang/String;Ljava/lang/String;Ljava/lang/Integer;Ljava/time/Instant;Ljava/lang/Integer;)V"⟩ : MethodName) prog_10_method_1_code 7 none ({ frames := 2, cells := 0, slots := 0, locals := 24 } : Room) [] Z #[(.ref a), (.ref u0), (.ref u1), (.ref u2), .null, .null, .null] h0 (fun v h L => v = none ∧ Fr n0 L ∧ Keep h0 h [a] ∧ Fld Z h a "com/example/keadby/keadby/model/NewJob" "tenant" "Ljava/lang/String;" (.ref u0) ∧ Fld Z h a "com/example/keadby/keadby/model/NewJob" "kind" "Ljava/lang/String;" (.ref u1) ∧ Fld Z h a "com/example/keadby/keadby/model/NewJob" "payload" "Ljava/lang/String;" (.ref u2) ∧ Fld Z h a "com/example/keadby/keadby/model/NewJob" "priority" "Ljava/lang/Integer;" .null ∧ Fld Z h a "com/example/keadby/keadby/model/NewJob" "runAt" "Ljava/time/Instant;" .null ∧ Fld Z h a "com/example/keadby/keadby/model/NewJob" "maxAttempts" "Ljava/lang/Integer;" .null) := by
  refine Rm.of (plainFor_of_name pn_com_example_keadby_keadby_model_NewJob) ?_
  intro p e s m below meth cod T X hx hZ hby hml hown hnm hret hlk eT0
  have hown : s.vm.findClass "com/example/keadby/keadby/model/NewJob" = some m.cls := hown
  have hnm : meth.name = "<init>" := hnm
  have N0 := Fr.nil n0
  have Kp := Keep.refl h0 [a]
  refine Goes.cast (ef_9n4n5n6 m a u0 u1 u2) ?_
  show Goes p e below _ T (mkF m 0 #[.val (.ref a), .val (.ref u0), .val (.ref u1), .val (.ref u2), .val .null, .val .null, .val .null] [])
  refine Goes.of (fun _ => XS.aloadN X.here hx rfl (hb hby d9_0) rfl rfl) ?_
  show Goes p e below _ T (mkF m 1 #[.val (.ref a), .val (.ref u0), .val (.ref u1), .val (.ref u2), .val .null, .val .null, .val .null] [(.ref a)])
  refine goSpecial 0 X hx hZ rfl hown (hw _ (List.mem_of_getElem? (i := 43) rfl)) (hw _ (List.mem_of_getElem? (i := 44) rfl)) (hw _ (List.mem_of_getElem? (i := 46) rfl)) (hw _ (List.mem_of_getElem? (i := 47) rfl)) (by decide) (rm_record l Z a0 hw a h0 n0 O0) eT0 (g := (mkF m 1 #[.val (.ref a), .val (.ref u0), .val (.ref u1), .val (.ref u2), .val .null, .val .null, .val .null] [(.ref a)])) rfl (by rw [hml]; rfl) a [] [] (lenOf pd___V rfl) rfl rfl (by show 2 * 0 + _ ≤ _; exact Nat.le_of_eq rfl) (hb hby d9_1) (by decide) (by decide) (by decide) (by decide) ?_
  intro v1 T1 L1 X1 q1
  obtain ⟨rfl, Nq1, eT1⟩ := q1
  have N1 := Fr.app N0 Nq1
  show Goes p e below _ T1 (mkF m 4 #[.val (.ref a), .val (.ref u0), .val (.ref u1), .val (.ref u2), .val .null, .val .null, .val .null] [])
  refine Goes.of (fun _ => XS.aloadN X1.here hx rfl (hb hby d9_4) rfl rfl) ?_
  show Goes p e below _ T1 (mkF m 5 #[.val (.ref a), .val (.ref u0), .val (.ref u1), .val (.ref u2), .val .null, .val .null, .val .null] [(.ref a)])
  refine Goes.of (fun _ => XS.aloadN X1.here hx rfl (hb hby d9_5) rfl rfl) ?_
  show Goes p e below _ T1 (mkF m 6 #[.val (.ref a), .val (.ref u0), .val (.ref u1), .val (.ref u2), .val .null, .val .null, .val .null] [(.ref u0), (.ref a)])
  refine goPut (ty := (.object "java/lang/String")) X1 hx hZ hown (host := "") (Or.inl (hw _ (List.mem_of_getElem? (i := 49) rfl))) Via.refl eT1 F0 Ex (Or.inr ⟨(hw _ (List.mem_of_getElem? (i := 50) rfl)), rfl, hnm⟩) (hw _ (List.mem_of_getElem? (i := 39) rfl)) (by decide) rfl rfl (g := (mkF m 6 #[.val (.ref a), .val (.ref u0), .val (.ref u1), .val (.ref u2), .val .null, .val .null, .val .null] [(.ref u0), (.ref a)])) rfl rfl (hb hby d9_6) ?_
  intro T2 h2 X2 eT2 W2
  have F0 := Fld.same W2 F0
  have N2 := Fr.snoc X2 N1 g_a
  have Ex := Ex.wr W2
  have F1 := F1.other W2 (Or.inr (slot_ne (Or.inr (hw _ (List.mem_of_getElem? (i := 52) rfl))) (Or.inr (hw _ (List.mem_of_getElem? (i := 50) rfl))) (by decide) (t := (.object "java/lang/String")) (t' := (.object "java/lang/String")) (by decide) (by decide)))
  have F2 := F2.other W2 (Or.inr (slot_ne (Or.inr (hw _ (List.mem_of_getElem? (i := 54) rfl))) (Or.inr (hw _ (List.mem_of_getElem? (i := 50) rfl))) (by decide) (t := (.object "java/lang/String")) (t' := (.object "java/lang/String")) (by decide) (by decide)))
  have F3 := F3.other W2 (Or.inr (slot_ne (Or.inr (hw _ (List.mem_of_getElem? (i := 56) rfl))) (Or.inr (hw _ (List.mem_of_getElem? (i := 50) rfl))) (by decide) (t := (.object "java/lang/Integer")) (t' := (.object "java/lang/String")) (by decide) (by decide)))
  have F4 := F4.other W2 (Or.inr (slot_ne (Or.inr (hw _ (List.mem_of_getElem? (i := 58) rfl))) (Or.inr (hw _ (List.mem_of_getElem? (i := 50) rfl))) (by decide) (t := (.object "java/time/Instant")) (t' := (.object "java/lang/String")) (by decide) (by decide)))
  have F5 := F5.other W2 (Or.inr (slot_ne (Or.inr (hw _ (List.mem_of_getElem? (i := 60) rfl))) (Or.inr (hw _ (List.mem_of_getElem? (i := 50) rfl))) (by decide) (t := (.object "java/lang/Integer")) (t' := (.object "java/lang/String")) (by decide) (by decide)))
  have Kp := Kp.wr W2 (Or.inl (List.mem_of_getElem? (i := 0) rfl))
  have O0 := O0.wr W2 g_a
  show Goes p e below _ T2 (mkF m 9 #[.val (.ref a), .val (.ref u0), .val (.ref u1), .val (.ref u2), .val .null, .val .null, .val .null] [])
  refine Goes.of (fun _ => XS.aloadN X2.here hx rfl (hb hby d9_9) rfl rfl) ?_
  show Goes p e below _ T2 (mkF m 10 #[.val (.ref a), .val (.ref u0), .val (.ref u1), .val (.ref u2), .val .null, .val .null, .val .null] [(.ref a)])
  refine Goes.of (fun _ => XS.aloadN X2.here hx rfl (hb hby d9_10) rfl rfl) ?_
  show Goes p e below _ T2 (mkF m 11 #[.val (.ref a), .val (.ref u0), .val (.ref u1), .val (.ref u2), .val .null, .val .null, .val .null] [(.ref u1), (.ref a)])
  refine goPut (ty := (.object "java/lang/String")) X2 hx hZ hown (host := "") (Or.inl (hw _ (List.mem_of_getElem? (i := 51) rfl))) Via.refl eT2 F1 Ex (Or.inr ⟨(hw _ (List.mem_of_getElem? (i := 52) rfl)), rfl, hnm⟩) (hw _ (List.mem_of_getElem? (i := 39) rfl)) (by decide) rfl rfl (g := (mkF m 11 #[.val (.ref a), .val (.ref u0), .val (.ref u1), .val (.ref u2), .val .null, .val .null, .val .null] [(.ref u1), (.ref a)])) rfl rfl (hb hby d9_11) ?_
  intro T3 h3 X3 eT3 W3
  have F1 := Fld.same W3 F1
  have N3 := Fr.snoc X3 N2 g_a
  have Ex := Ex.wr W3
  have F0 := F0.other W3 (Or.inr (slot_ne (Or.inr (hw _ (List.mem_of_getElem? (i := 50) rfl))) (Or.inr (hw _ (List.mem_of_getElem? (i := 52) rfl))) (by decide) (t := (.object "java/lang/String")) (t' := (.object "java/lang/String")) (by decide) (by decide)))
  have F2 := F2.other W3 (Or.inr (slot_ne (Or.inr (hw _ (List.mem_of_getElem? (i := 54) rfl))) (Or.inr (hw _ (List.mem_of_getElem? (i := 52) rfl))) (by decide) (t := (.object "java/lang/String")) (t' := (.object "java/lang/String")) (by decide) (by decide)))
  have F3 := F3.other W3 (Or.inr (slot_ne (Or.inr (hw _ (List.mem_of_getElem? (i := 56) rfl))) (Or.inr (hw _ (List.mem_of_getElem? (i := 52) rfl))) (by decide) (t := (.object "java/lang/Integer")) (t' := (.object "java/lang/String")) (by decide) (by decide)))
  have F4 := F4.other W3 (Or.inr (slot_ne (Or.inr (hw _ (List.mem_of_getElem? (i := 58) rfl))) (Or.inr (hw _ (List.mem_of_getElem? (i := 52) rfl))) (by decide) (t := (.object "java/time/Instant")) (t' := (.object "java/lang/String")) (by decide) (by decide)))
  have F5 := F5.other W3 (Or.inr (slot_ne (Or.inr (hw _ (List.mem_of_getElem? (i := 60) rfl))) (Or.inr (hw _ (List.mem_of_getElem? (i := 52) rfl))) (by decide) (t := (.object "java/lang/Integer")) (t' := (.object "java/lang/String")) (by decide) (by decide)))
  have Kp := Kp.wr W3 (Or.inl (List.mem_of_getElem? (i := 0) rfl))
  have O0 := O0.wr W3 g_a
  show Goes p e below _ T3 (mkF m 14 #[.val (.ref a), .val (.ref u0), .val (.ref u1), .val (.ref u2), .val .null, .val .null, .val .null] [])
  refine Goes.of (fun _ => XS.aloadN X3.here hx rfl (hb hby d9_14) rfl rfl) ?_
  show Goes p e below _ T3 (mkF m 15 #[.val (.ref a), .val (.ref u0), .val (.ref u1), .val (.ref u2), .val .null, .val .null, .val .null] [(.ref a)])
  refine Goes.of (fun _ => XS.aloadN X3.here hx rfl (hb hby d9_15) rfl rfl) ?_
  show Goes p e below _ T3 (mkF m 16 #[.val (.ref a), .val (.ref u0), .val (.ref u1), .val (.ref u2), .val .null, .val .null, .val .null] [(.ref u2), (.ref a)])
  refine goPut (ty := (.object "java/lang/String")) X3 hx hZ hown (host := "") (Or.inl (hw _ (List.mem_of_getElem? (i := 53) rfl))) Via.refl eT3 F2 Ex (Or.inr ⟨(hw _ (List.mem_of_getElem? (i := 54) rfl)), rfl, hnm⟩) (hw _ (List.mem_of_getElem? (i := 39) rfl)) (by decide) rfl rfl (g := (mkF m 16 #[.val (.ref a), .val (.ref u0), .val (.ref u1), .val (.ref u2), .val .null, .val .null, .val .null] [(.ref u2), (.ref a)])) rfl rfl (hb hby d9_16) ?_
  intro T4 h4 X4 eT4 W4
  have F2 := Fld.same W4 F2
  have N4 := Fr.snoc X4 N3 g_a
  have Ex := Ex.wr W4
  have F0 := F0.other W4 (Or.inr (slot_ne (Or.inr (hw _ (List.mem_of_getElem? (i := 50) rfl))) (Or.inr (hw _ (List.mem_of_getElem? (i := 54) rfl))) (by decide) (t := (.object "java/lang/String")) (t' := (.object "java/lang/String")) (by decide) (by decide)))
  have F1 := F1.other W4 (Or.inr (slot_ne (Or.inr (hw _ (List.mem_of_getElem? (i := 52) rfl))) (Or.inr (hw _ (List.mem_of_getElem? (i := 54) rfl))) (by decide) (t := (.object "java/lang/String")) (t' := (.object "java/lang/String")) (by decide) (by decide)))
  have F3 := F3.other W4 (Or.inr (slot_ne (Or.inr (hw _ (List.mem_of_getElem? (i := 56) rfl))) (Or.inr (hw _ (List.mem_of_getElem? (i := 54) rfl))) (by decide) (t := (.object "java/lang/Integer")) (t' := (.object "java/lang/String")) (by decide) (by decide)))
  have F4 := F4.other W4 (Or.inr (slot_ne (Or.inr (hw _ (List.mem_of_getElem? (i := 58) rfl))) (Or.inr (hw _ (List.mem_of_getElem? (i := 54) rfl))) (by decide) (t := (.object "java/time/Instant")) (t' := (.object "java/lang/String")) (by decide) (by decide)))
  have F5 := F5.other W4 (Or.inr (slot_ne (Or.inr (hw _ (List.mem_of_getElem? (i := 60) rfl))) (Or.inr (hw _ (List.mem_of_getElem? (i := 54) rfl))) (by decide) (t := (.object "java/lang/Integer")) (t' := (.object "java/lang/String")) (by decide) (by decide)))
  have Kp := Kp.wr W4 (Or.inl (List.mem_of_getElem? (i := 0) rfl))
  have O0 := O0.wr W4 g_a
  show Goes p e below _ T4 (mkF m 19 #[.val (.ref a), .val (.ref u0), .val (.ref u1), .val (.ref u2), .val .null, .val .null, .val .null] [])
  refine Goes.of (fun _ => XS.aloadN X4.here hx rfl (hb hby d9_19) rfl rfl) ?_
  show Goes p e below _ T4 (mkF m 20 #[.val (.ref a), .val (.ref u0), .val (.ref u1), .val (.ref u2), .val .null, .val .null, .val .null] [(.ref a)])
  refine Goes.of (fun _ => XS.aload X4.here hx rfl (hb hby d9_20) rfl rfl) ?_
  show Goes p e below _ T4 (mkF m 22 #[.val (.ref a), .val (.ref u0), .val (.ref u1), .val (.ref u2), .val .null, .val .null, .val .null] [.null, (.ref a)])
  refine goPut (ty := (.object "java/lang/Integer")) X4 hx hZ hown (host := "") (Or.inl (hw _ (List.mem_of_getElem? (i := 55) rfl))) Via.refl eT4 F3 Ex (Or.inr ⟨(hw _ (List.mem_of_getElem? (i := 56) rfl)), rfl, hnm⟩) (hw _ (List.mem_of_getElem? (i := 39) rfl)) (by decide) rfl rfl (g := (mkF m 22 #[.val (.ref a), .val (.ref u0), .val (.ref u1), .val (.ref u2), .val .null, .val .null, .val .null] [.null, (.ref a)])) rfl rfl (hb hby d9_22) ?_
  intro T5 h5 X5 eT5 W5
  have F3 := Fld.same W5 F3
  have N5 := Fr.snoc X5 N4 g_a
  have Ex := Ex.wr W5
  have F0 := F0.other W5 (Or.inr (slot_ne (Or.inr (hw _ (List.mem_of_getElem? (i := 50) rfl))) (Or.inr (hw _ (List.mem_of_getElem? (i := 56) rfl))) (by decide) (t := (.object "java/lang/String")) (t' := (.object "java/lang/Integer")) (by decide) (by decide)))
  have F1 := F1.other W5 (Or.inr (slot_ne (Or.inr (hw _ (List.mem_of_getElem? (i := 52) rfl))) (Or.inr (hw _ (List.mem_of_getElem? (i := 56) rfl))) (by decide) (t := (.object "java/lang/String")) (t' := (.object "java/lang/Integer")) (by decide) (by decide)))
  have F2 := F2.other W5 (Or.inr (slot_ne (Or.inr (hw _ (List.mem_of_getElem? (i := 54) rfl))) (Or.inr (hw _ (List.mem_of_getElem? (i := 56) rfl))) (by decide) (t := (.object "java/lang/String")) (t' := (.object "java/lang/Integer")) (by decide) (by decide)))
  have F4 := F4.other W5 (Or.inr (slot_ne (Or.inr (hw _ (List.mem_of_getElem? (i := 58) rfl))) (Or.inr (hw _ (List.mem_of_getElem? (i := 56) rfl))) (by decide) (t := (.object "java/time/Instant")) (t' := (.object "java/lang/Integer")) (by decide) (by decide)))
  have F5 := F5.other W5 (Or.inr (slot_ne (Or.inr (hw _ (List.mem_of_getElem? (i := 60) rfl))) (Or.inr (hw _ (List.mem_of_getElem? (i := 56) rfl))) (by decide) (t := (.object "java/lang/Integer")) (t' := (.object "java/lang/Integer")) (by decide) (by decide)))
  have Kp := Kp.wr W5 (Or.inl (List.mem_of_getElem? (i := 0) rfl))
  have O0 := O0.wr W5 g_a
  show Goes p e below _ T5 (mkF m 25 #[.val (.ref a), .val (.ref u0), .val (.ref u1), .val (.ref u2), .val .null, .val .null, .val .null] [])
  refine Goes.of (fun _ => XS.aloadN X5.here hx rfl (hb hby d9_25) rfl rfl) ?_
  show Goes p e below _ T5 (mkF m 26 #[.val (.ref a), .val (.ref u0), .val (.ref u1), .val (.ref u2), .val .null, .val .null, .val .null] [(.ref a)])
  refine Goes.of (fun _ => XS.aload X5.here hx rfl (hb hby d9_26) rfl rfl) ?_
  show Goes p e below _ T5 (mkF m 28 #[.val (.ref a), .val (.ref u0), .val (.ref u1), .val (.ref u2), .val .null, .val .null, .val .null] [.null, (.ref a)])
  refine goPut (ty := (.object "java/time/Instant")) X5 hx hZ hown (host := "") (Or.inl (hw _ (List.mem_of_getElem? (i := 57) rfl))) Via.refl eT5 F4 Ex (Or.inr ⟨(hw _ (List.mem_of_getElem? (i := 58) rfl)), rfl, hnm⟩) (hw _ (List.mem_of_getElem? (i := 39) rfl)) (by decide) rfl rfl (g := (mkF m 28 #[.val (.ref a), .val (.ref u0), .val (.ref u1), .val (.ref u2), .val .null, .val .null, .val .null] [.null, (.ref a)])) rfl rfl (hb hby d9_28) ?_
  intro T6 h6 X6 eT6 W6
  have F4 := Fld.same W6 F4
  have N6 := Fr.snoc X6 N5 g_a
  have Ex := Ex.wr W6
  have F0 := F0.other W6 (Or.inr (slot_ne (Or.inr (hw _ (List.mem_of_getElem? (i := 50) rfl))) (Or.inr (hw _ (List.mem_of_getElem? (i := 58) rfl))) (by decide) (t := (.object "java/lang/String")) (t' := (.object "java/time/Instant")) (by decide) (by decide)))
  have F1 := F1.other W6 (Or.inr (slot_ne (Or.inr (hw _ (List.mem_of_getElem? (i := 52) rfl))) (Or.inr (hw _ (List.mem_of_getElem? (i := 58) rfl))) (by decide) (t := (.object "java/lang/String")) (t' := (.object "java/time/Instant")) (by decide) (by decide)))
  have F2 := F2.other W6 (Or.inr (slot_ne (Or.inr (hw _ (List.mem_of_getElem? (i := 54) rfl))) (Or.inr (hw _ (List.mem_of_getElem? (i := 58) rfl))) (by decide) (t := (.object "java/lang/String")) (t' := (.object "java/time/Instant")) (by decide) (by decide)))
  have F3 := F3.other W6 (Or.inr (slot_ne (Or.inr (hw _ (List.mem_of_getElem? (i := 56) rfl))) (Or.inr (hw _ (List.mem_of_getElem? (i := 58) rfl))) (by decide) (t := (.object "java/lang/Integer")) (t' := (.object "java/time/Instant")) (by decide) (by decide)))
  have F5 := F5.other W6 (Or.inr (slot_ne (Or.inr (hw _ (List.mem_of_getElem? (i := 60) rfl))) (Or.inr (hw _ (List.mem_of_getElem? (i := 58) rfl))) (by decide) (t := (.object "java/lang/Integer")) (t' := (.object "java/time/Instant")) (by decide) (by decide)))
  have Kp := Kp.wr W6 (Or.inl (List.mem_of_getElem? (i := 0) rfl))
  have O0 := O0.wr W6 g_a
  show Goes p e below _ T6 (mkF m 31 #[.val (.ref a), .val (.ref u0), .val (.ref u1), .val (.ref u2), .val .null, .val .null, .val .null] [])
  refine Goes.of (fun _ => XS.aloadN X6.here hx rfl (hb hby d9_31) rfl rfl) ?_
  show Goes p e below _ T6 (mkF m 32 #[.val (.ref a), .val (.ref u0), .val (.ref u1), .val (.ref u2), .val .null, .val .null, .val .null] [(.ref a)])
  refine Goes.of (fun _ => XS.aload X6.here hx rfl (hb hby d9_32) rfl rfl) ?_
  show Goes p e below _ T6 (mkF m 34 #[.val (.ref a), .val (.ref u0), .val (.ref u1), .val (.ref u2), .val .null, .val .null, .val .null] [.null, (.ref a)])
  refine goPut (ty := (.object "java/lang/Integer")) X6 hx hZ hown (host := "") (Or.inl (hw _ (List.mem_of_getElem? (i := 59) rfl))) Via.refl eT6 F5 Ex (Or.inr ⟨(hw _ (List.mem_of_getElem? (i := 60) rfl)), rfl, hnm⟩) (hw _ (List.mem_of_getElem? (i := 39) rfl)) (by decide) rfl rfl (g := (mkF m 34 #[.val (.ref a), .val (.ref u0), .val (.ref u1), .val (.ref u2), .val .null, .val .null, .val .null] [.null, (.ref a)])) rfl rfl (hb hby d9_34) ?_
  intro T7 h7 X7 eT7 W7
  have F5 := Fld.same W7 F5
  have N7 := Fr.snoc X7 N6 g_a
  have Ex := Ex.wr W7
  have F0 := F0.other W7 (Or.inr (slot_ne (Or.inr (hw _ (List.mem_of_getElem? (i := 50) rfl))) (Or.inr (hw _ (List.mem_of_getElem? (i := 60) rfl))) (by decide) (t := (.object "java/lang/String")) (t' := (.object "java/lang/Integer")) (by decide) (by decide)))
  have F1 := F1.other W7 (Or.inr (slot_ne (Or.inr (hw _ (List.mem_of_getElem? (i := 52) rfl))) (Or.inr (hw _ (List.mem_of_getElem? (i := 60) rfl))) (by decide) (t := (.object "java/lang/String")) (t' := (.object "java/lang/Integer")) (by decide) (by decide)))
  have F2 := F2.other W7 (Or.inr (slot_ne (Or.inr (hw _ (List.mem_of_getElem? (i := 54) rfl))) (Or.inr (hw _ (List.mem_of_getElem? (i := 60) rfl))) (by decide) (t := (.object "java/lang/String")) (t' := (.object "java/lang/Integer")) (by decide) (by decide)))
  have F3 := F3.other W7 (Or.inr (slot_ne (Or.inr (hw _ (List.mem_of_getElem? (i := 56) rfl))) (Or.inr (hw _ (List.mem_of_getElem? (i := 60) rfl))) (by decide) (t := (.object "java/lang/Integer")) (t' := (.object "java/lang/Integer")) (by decide) (by decide)))
  have F4 := F4.other W7 (Or.inr (slot_ne (Or.inr (hw _ (List.mem_of_getElem? (i := 58) rfl))) (Or.inr (hw _ (List.mem_of_getElem? (i := 60) rfl))) (by decide) (t := (.object "java/time/Instant")) (t' := (.object "java/lang/Integer")) (by decide) (by decide)))
  have Kp := Kp.wr W7 (Or.inl (List.mem_of_getElem? (i := 0) rfl))
  have O0 := O0.wr W7 g_a
  show Goes p e below _ T7 (mkF m 37 #[.val (.ref a), .val (.ref u0), .val (.ref u1), .val (.ref u2), .val .null, .val .null, .val .null] [])
  exact retVoid X7 hx hret hlk (hb hby d9_37) eT7 (by decide) (by decide) ⟨rfl, N7, Kp, F0, F1, F2, F3, F4, F5⟩
set_option maxRecDepth 65536 in
set_option maxHeartbeats 40000000 in
theorem rm_of (l : Launch) (Z : State) (a0 : Array Value) (hw : ∀ d ∈ tables_1, d.before a0 Z = true) (u0 u1 u2 : Addr) (h0 : Heap) (n0 : Nat) (O0 : Old Z n0 h0)  :
    Rm l (⟨"com/example/keadby/keadby/model/NewJob", "of", "(Ljava/lang/String;Ljava/lang/String;Ljava/lang/String;)Lcom/example/keadby/keadby/model/NewJob;"⟩ : MethodName) prog_10_method_2_code 3 (some (.object "com/example/keadby/keadby/model/NewJob")) ({ frames := 3, cells := 1, slots := 6, locals := 43 } : Room) [] Z #[(.ref u0), (.ref u1), (.ref u2)] h0 (fun v h L => ∃ b, v = some (.ref b) ∧ Fr n0 L ∧ Keep h0 h [] ∧ Exa Z h b "com/example/keadby/keadby/model/NewJob" ∧ Fld Z h b "com/example/keadby/keadby/model/NewJob" "tenant" "Ljava/lang/String;" (.ref u0) ∧ Fld Z h b "com/example/keadby/keadby/model/NewJob" "kind" "Ljava/lang/String;" (.ref u1) ∧ Fld Z h b "com/example/keadby/keadby/model/NewJob" "payload" "Ljava/lang/String;" (.ref u2) ∧ Fld Z h b "com/example/keadby/keadby/model/NewJob" "priority" "Ljava/lang/Integer;" .null ∧ Fld Z h b "com/example/keadby/keadby/model/NewJob" "runAt" "Ljava/time/Instant;" .null ∧ Fld Z h b "com/example/keadby/keadby/model/NewJob" "maxAttempts" "Ljava/lang/Integer;" .null) := by
  refine Rm.of (plainFor_of_name pn_com_example_keadby_keadby_model_NewJob) ?_
  intro p e s m below meth cod T X hx hZ hby hml hown hnm hret hlk eT0
  have hown : s.vm.findClass "com/example/keadby/keadby/model/NewJob" = some m.cls := hown
  have hnm : meth.name = "of" := hnm
  have N0 := Fr.nil n0
  have Kp := Keep.refl h0 []
  refine Goes.cast (ef_8 m u0 u1 u2) ?_
  show Goes p e below _ T (mkF m 0 #[.val (.ref u0), .val (.ref u1), .val (.ref u2)] [])
  refine goNew X hx hZ hown (hw _ (List.mem_of_getElem? (i := 38) rfl)) (hw _ (List.mem_of_getElem? (i := 39) rfl)) (hw _ (List.mem_of_getElem? (i := 36) rfl)) eT0 (g := (mkF m 0 #[.val (.ref u0), .val (.ref u1), .val (.ref u2)] [])) rfl (hb hby d8_0) (by decide) (by decide) ?_
  intro T1 h1 b1 X1 eT1 E1 hb1 A1 D1
  have g_b1 : n0 ≤ b1 := Nat.le_trans (oldLe O0) hb1
  have sz_b1 : h0.size ≤ b1 := Nat.le_trans Kp.1 hb1
  have Kp := Kp.ext E1
  have O0 := O0.ext E1
  have F1_tenant : Fld Z h1 b1 "com/example/keadby/keadby/model/NewJob" "tenant" "Ljava/lang/String;" .null := D1 (Or.inr (hw _ (List.mem_of_getElem? (i := 50) rfl))) (ty := (.object "java/lang/String")) (by decide)
  have F1_kind : Fld Z h1 b1 "com/example/keadby/keadby/model/NewJob" "kind" "Ljava/lang/String;" .null := D1 (Or.inr (hw _ (List.mem_of_getElem? (i := 52) rfl))) (ty := (.object "java/lang/String")) (by decide)
  have F1_payload : Fld Z h1 b1 "com/example/keadby/keadby/model/NewJob" "payload" "Ljava/lang/String;" .null := D1 (Or.inr (hw _ (List.mem_of_getElem? (i := 54) rfl))) (ty := (.object "java/lang/String")) (by decide)
  have F1_priority : Fld Z h1 b1 "com/example/keadby/keadby/model/NewJob" "priority" "Ljava/lang/Integer;" .null := D1 (Or.inr (hw _ (List.mem_of_getElem? (i := 56) rfl))) (ty := (.object "java/lang/Integer")) (by decide)
  have F1_runAt : Fld Z h1 b1 "com/example/keadby/keadby/model/NewJob" "runAt" "Ljava/time/Instant;" .null := D1 (Or.inr (hw _ (List.mem_of_getElem? (i := 58) rfl))) (ty := (.object "java/time/Instant")) (by decide)
  have F1_maxAttempts : Fld Z h1 b1 "com/example/keadby/keadby/model/NewJob" "maxAttempts" "Ljava/lang/Integer;" .null := D1 (Or.inr (hw _ (List.mem_of_getElem? (i := 60) rfl))) (ty := (.object "java/lang/Integer")) (by decide)
  show Goes p e below _ T1 (mkF m 3 #[.val (.ref u0), .val (.ref u1), .val (.ref u2)] [(.ref b1)])
  refine Goes.of (fun _ => XS.dup X1.here hx rfl (hb hby d8_3) rfl rfl) ?_
  show Goes p e below _ T1 (mkF m 4 #[.val (.ref u0), .val (.ref u1), .val (.ref u2)] [(.ref b1), (.ref b1)])
  refine Goes.of (fun _ => XS.aloadN X1.here hx rfl (hb hby d8_4) rfl rfl) ?_
  show Goes p e below _ T1 (mkF m 5 #[.val (.ref u0), .val (.ref u1), .val (.ref u2)] [(.ref u0), (.ref b1), (.ref b1)])
  refine Goes.of (fun _ => XS.aloadN X1.here hx rfl (hb hby d8_5) rfl rfl) ?_
  show Goes p e below _ T1 (mkF m 6 #[.val (.ref u0), .val (.ref u1), .val (.ref u2)] [(.ref u1), (.ref u0), (.ref b1), (.ref b1)])
  refine Goes.of (fun _ => XS.aloadN X1.here hx rfl (hb hby d8_6) rfl rfl) ?_
  show Goes p e below _ T1 (mkF m 7 #[.val (.ref u0), .val (.ref u1), .val (.ref u2)] [(.ref u2), (.ref u1), (.ref u0), (.ref b1), (.ref b1)])
  refine Goes.of (fun _ => XS.aconstNull X1.here hx rfl (hb hby d8_7)) ?_
  show Goes p e below _ T1 (mkF m 8 #[.val (.ref u0), .val (.ref u1), .val (.ref u2)] [.null, (.ref u2), (.ref u1), (.ref u0), (.ref b1), (.ref b1)])
  refine Goes.of (fun _ => XS.aconstNull X1.here hx rfl (hb hby d8_8)) ?_
  show Goes p e below _ T1 (mkF m 9 #[.val (.ref u0), .val (.ref u1), .val (.ref u2)] [.null, .null, (.ref u2), (.ref u1), (.ref u0), (.ref b1), (.ref b1)])
  refine Goes.of (fun _ => XS.aconstNull X1.here hx rfl (hb hby d8_9)) ?_
  show Goes p e below _ T1 (mkF m 10 #[.val (.ref u0), .val (.ref u1), .val (.ref u2)] [.null, .null, .null, (.ref u2), (.ref u1), (.ref u0), (.ref b1), (.ref b1)])
  refine goSpecial 1 X1 hx hZ rfl hown (hw _ (List.mem_of_getElem? (i := 40) rfl)) (hw _ (List.mem_of_getElem? (i := 41) rfl)) (hw _ (List.mem_of_getElem? (i := 36) rfl)) (hw _ (List.mem_of_getElem? (i := 42) rfl)) (by decide) (rm_init l Z a0 hw b1 u0 u1 u2 h1 n0 O0 g_b1 A1 F1_tenant F1_kind F1_payload F1_priority F1_runAt F1_maxAttempts) eT1 (g := (mkF m 10 #[.val (.ref u0), .val (.ref u1), .val (.ref u2)] [.null, .null, .null, (.ref u2), (.ref u1), (.ref u0), (.ref b1), (.ref b1)])) rfl (by rw [hml]; rfl) b1 [(.ref u0), (.ref u1), (.ref u2), .null, .null, .null] [(.ref b1)] (lenOf pd__Ljava_lang_String_Ljava_lang_String_Ljava_lang_String_Ljava_lang_Integer_Ljava_time_Instant_Ljava_lang_Integer__V rfl) rfl rfl (by show 2 * 0 + _ ≤ _; exact Nat.le_of_eq rfl) (hb hby d8_10) (by decide) (by decide) (by decide) (by decide) ?_
  intro v2 T2 L2 X2 q2
  obtain ⟨rfl, Nq2, Kq2, H0_2, H1_2, H2_2, H3_2, H4_2, H5_2⟩ := q2
  have N2 := Fr.app N0 Nq2
  have A1 := A1.keep Kq2
  have Kp := Kp.trans Kq2 (allS (Or.inr sz_b1) all0)
  have O0 := O0.keep Kq2 (allS g_b1 all0)
  show Goes p e below _ T2 (mkF m 13 #[.val (.ref u0), .val (.ref u1), .val (.ref u2)] [(.ref b1)])
  exact retRef X2 hx hret hlk rfl rfl (hb hby d8_13) (rfl : T2.heap = _) (by decide) (by decide) ⟨b1, rfl, N2, Kp, A1, H0_2, H1_2, H2_2, H3_2, H4_2, H5_2⟩
set_option maxRecDepth 65536 in
set_option maxHeartbeats 40000000 in
theorem rm_get0 (l : Launch) (Z : State) (a0 : Array Value) (hw : ∀ d ∈ tables_1, d.before a0 Z = true) (a u : Addr) (h0 : Heap) (n0 : Nat) (O0 : Old Z n0 h0) (F0 : Fld Z h0 a "com/example/keadby/keadby/model/NewJob" "tenant" "Ljava/lang/String;" (.ref u)) :
    Rm l (⟨"com/example/keadby/keadby/model/NewJob", "tenant", "()Ljava/lang/String;"⟩ : MethodName) prog_10_method_9_code 1 (some (.object "java/lang/String")) ({ frames := 0, cells := 0, slots := 0, locals := 0 } : Room) [] Z #[(.ref a)] h0 (fun v h L => v = some (.ref u) ∧ Fr n0 L ∧ h = h0) := by
  refine Rm.of (plainFor_of_name pn_com_example_keadby_keadby_model_NewJob) ?_
  intro p e s m below meth cod T X hx hZ hby hml hown hnm hret hlk eT0
  have hown : s.vm.findClass "com/example/keadby/keadby/model/NewJob" = some m.cls := hown
  have hnm : meth.name = "tenant" := hnm
  have N0 := Fr.nil n0
  refine Goes.cast (ef_11 m a) ?_
  show Goes p e below _ T (mkF m 0 #[.val (.ref a)] [])
  refine Goes.of (fun _ => XS.aloadN X.here hx rfl (hb hby d11_0) rfl rfl) ?_
  show Goes p e below _ T (mkF m 1 #[.val (.ref a)] [(.ref a)])
  refine goGet X hx hZ hown (host := "") (Or.inl (hw _ (List.mem_of_getElem? (i := 49) rfl))) Via.refl eT0 F0 (g := (mkF m 1 #[.val (.ref a)] [(.ref a)])) rfl rfl (hb hby d11_1) ?_
  intro T1 X1 eT1
  show Goes p e below _ T1 (mkF m 4 #[.val (.ref a)] [(.ref u)])
  exact retRef X1 hx hret hlk rfl rfl (hb hby d11_4) eT1 (by decide) (by decide) ⟨rfl, N0, rfl⟩
set_option maxRecDepth 65536 in
set_option maxHeartbeats 40000000 in
theorem rm_get1 (l : Launch) (Z : State) (a0 : Array Value) (hw : ∀ d ∈ tables_1, d.before a0 Z = true) (a u : Addr) (h0 : Heap) (n0 : Nat) (O0 : Old Z n0 h0) (F0 : Fld Z h0 a "com/example/keadby/keadby/model/NewJob" "kind" "Ljava/lang/String;" (.ref u)) :
    Rm l (⟨"com/example/keadby/keadby/model/NewJob", "kind", "()Ljava/lang/String;"⟩ : MethodName) prog_10_method_10_code 1 (some (.object "java/lang/String")) ({ frames := 0, cells := 0, slots := 0, locals := 0 } : Room) [] Z #[(.ref a)] h0 (fun v h L => v = some (.ref u) ∧ Fr n0 L ∧ h = h0) := by
  refine Rm.of (plainFor_of_name pn_com_example_keadby_keadby_model_NewJob) ?_
  intro p e s m below meth cod T X hx hZ hby hml hown hnm hret hlk eT0
  have hown : s.vm.findClass "com/example/keadby/keadby/model/NewJob" = some m.cls := hown
  have hnm : meth.name = "kind" := hnm
  have N0 := Fr.nil n0
  refine Goes.cast (ef_12 m a) ?_
  show Goes p e below _ T (mkF m 0 #[.val (.ref a)] [])
  refine Goes.of (fun _ => XS.aloadN X.here hx rfl (hb hby d12_0) rfl rfl) ?_
  show Goes p e below _ T (mkF m 1 #[.val (.ref a)] [(.ref a)])
  refine goGet X hx hZ hown (host := "") (Or.inl (hw _ (List.mem_of_getElem? (i := 51) rfl))) Via.refl eT0 F0 (g := (mkF m 1 #[.val (.ref a)] [(.ref a)])) rfl rfl (hb hby d12_1) ?_
  intro T1 X1 eT1
  show Goes p e below _ T1 (mkF m 4 #[.val (.ref a)] [(.ref u)])
  exact retRef X1 hx hret hlk rfl rfl (hb hby d12_4) eT1 (by decide) (by decide) ⟨rfl, N0, rfl⟩
set_option maxRecDepth 65536 in
set_option maxHeartbeats 40000000 in
theorem rm_get2 (l : Launch) (Z : State) (a0 : Array Value) (hw : ∀ d ∈ tables_1, d.before a0 Z = true) (a u : Addr) (h0 : Heap) (n0 : Nat) (O0 : Old Z n0 h0) (F0 : Fld Z h0 a "com/example/keadby/keadby/model/NewJob" "payload" "Ljava/lang/String;" (.ref u)) :
    Rm l (⟨"com/example/keadby/keadby/model/NewJob", "payload", "()Ljava/lang/String;"⟩ : MethodName) prog_10_method_11_code 1 (some (.object "java/lang/String")) ({ frames := 0, cells := 0, slots := 0, locals := 0 } : Room) [] Z #[(.ref a)] h0 (fun v h L => v = some (.ref u) ∧ Fr n0 L ∧ h = h0) := by
  refine Rm.of (plainFor_of_name pn_com_example_keadby_keadby_model_NewJob) ?_
  intro p e s m below meth cod T X hx hZ hby hml hown hnm hret hlk eT0
  have hown : s.vm.findClass "com/example/keadby/keadby/model/NewJob" = some m.cls := hown
  have hnm : meth.name = "payload" := hnm
  have N0 := Fr.nil n0
  refine Goes.cast (ef_13 m a) ?_
  show Goes p e below _ T (mkF m 0 #[.val (.ref a)] [])
  refine Goes.of (fun _ => XS.aloadN X.here hx rfl (hb hby d13_0) rfl rfl) ?_
  show Goes p e below _ T (mkF m 1 #[.val (.ref a)] [(.ref a)])
  refine goGet X hx hZ hown (host := "") (Or.inl (hw _ (List.mem_of_getElem? (i := 53) rfl))) Via.refl eT0 F0 (g := (mkF m 1 #[.val (.ref a)] [(.ref a)])) rfl rfl (hb hby d13_1) ?_
  intro T1 X1 eT1
  show Goes p e below _ T1 (mkF m 4 #[.val (.ref a)] [(.ref u)])
  exact retRef X1 hx hret hlk rfl rfl (hb hby d13_4) eT1 (by decide) (by decide) ⟨rfl, N0, rfl⟩
set_option maxRecDepth 65536 in
set_option maxHeartbeats 40000000 in
theorem rm_get3 (l : Launch) (Z : State) (a0 : Array Value) (hw : ∀ d ∈ tables_1, d.before a0 Z = true) (a : Addr) (h0 : Heap) (n0 : Nat) (O0 : Old Z n0 h0) (F0 : Fld Z h0 a "com/example/keadby/keadby/model/NewJob" "priority" "Ljava/lang/Integer;" .null) :
    Rm l (⟨"com/example/keadby/keadby/model/NewJob", "priority", "()Ljava/lang/Integer;"⟩ : MethodName) prog_10_method_12_code 1 (some (.object "java/lang/Integer")) ({ frames := 0, cells := 0, slots := 0, locals := 0 } : Room) [] Z #[(.ref a)] h0 (fun v h L => v = some .null ∧ Fr n0 L ∧ h = h0) := by
  refine Rm.of (plainFor_of_name pn_com_example_keadby_keadby_model_NewJob) ?_
  intro p e s m below meth cod T X hx hZ hby hml hown hnm hret hlk eT0
  have hown : s.vm.findClass "com/example/keadby/keadby/model/NewJob" = some m.cls := hown
  have hnm : meth.name = "priority" := hnm
  have N0 := Fr.nil n0
  refine Goes.cast (ef_15 m a) ?_
  show Goes p e below _ T (mkF m 0 #[.val (.ref a)] [])
  refine Goes.of (fun _ => XS.aloadN X.here hx rfl (hb hby d15_0) rfl rfl) ?_
  show Goes p e below _ T (mkF m 1 #[.val (.ref a)] [(.ref a)])
  refine goGet X hx hZ hown (host := "") (Or.inl (hw _ (List.mem_of_getElem? (i := 55) rfl))) Via.refl eT0 F0 (g := (mkF m 1 #[.val (.ref a)] [(.ref a)])) rfl rfl (hb hby d15_1) ?_
  intro T1 X1 eT1
  show Goes p e below _ T1 (mkF m 4 #[.val (.ref a)] [.null])
  exact retRef X1 hx hret hlk rfl rfl (hb hby d15_4) eT1 (by decide) (by decide) ⟨rfl, N0, rfl⟩
set_option maxRecDepth 65536 in
set_option maxHeartbeats 40000000 in
theorem rm_get4 (l : Launch) (Z : State) (a0 : Array Value) (hw : ∀ d ∈ tables_1, d.before a0 Z = true) (a : Addr) (h0 : Heap) (n0 : Nat) (O0 : Old Z n0 h0) (F0 : Fld Z h0 a "com/example/keadby/keadby/model/NewJob" "runAt" "Ljava/time/Instant;" .null) :
    Rm l (⟨"com/example/keadby/keadby/model/NewJob", "runAt", "()Ljava/time/Instant;"⟩ : MethodName) prog_10_method_13_code 1 (some (.object "java/time/Instant")) ({ frames := 0, cells := 0, slots := 0, locals := 0 } : Room) [] Z #[(.ref a)] h0 (fun v h L => v = some .null ∧ Fr n0 L ∧ h = h0) := by
  refine Rm.of (plainFor_of_name pn_com_example_keadby_keadby_model_NewJob) ?_
  intro p e s m below meth cod T X hx hZ hby hml hown hnm hret hlk eT0
  have hown : s.vm.findClass "com/example/keadby/keadby/model/NewJob" = some m.cls := hown
  have hnm : meth.name = "runAt" := hnm
  have N0 := Fr.nil n0
  refine Goes.cast (ef_16 m a) ?_
  show Goes p e below _ T (mkF m 0 #[.val (.ref a)] [])
  refine Goes.of (fun _ => XS.aloadN X.here hx rfl (hb hby d16_0) rfl rfl) ?_
  show Goes p e below _ T (mkF m 1 #[.val (.ref a)] [(.ref a)])
  refine goGet X hx hZ hown (host := "") (Or.inl (hw _ (List.mem_of_getElem? (i := 57) rfl))) Via.refl eT0 F0 (g := (mkF m 1 #[.val (.ref a)] [(.ref a)])) rfl rfl (hb hby d16_1) ?_
  intro T1 X1 eT1
  show Goes p e below _ T1 (mkF m 4 #[.val (.ref a)] [.null])
  exact retRef X1 hx hret hlk rfl rfl (hb hby d16_4) eT1 (by decide) (by decide) ⟨rfl, N0, rfl⟩
set_option maxRecDepth 65536 in
set_option maxHeartbeats 40000000 in
theorem rm_get5 (l : Launch) (Z : State) (a0 : Array Value) (hw : ∀ d ∈ tables_1, d.before a0 Z = true) (a : Addr) (h0 : Heap) (n0 : Nat) (O0 : Old Z n0 h0) (F0 : Fld Z h0 a "com/example/keadby/keadby/model/NewJob" "maxAttempts" "Ljava/lang/Integer;" .null) :
    Rm l (⟨"com/example/keadby/keadby/model/NewJob", "maxAttempts", "()Ljava/lang/Integer;"⟩ : MethodName) prog_10_method_14_code 1 (some (.object "java/lang/Integer")) ({ frames := 0, cells := 0, slots := 0, locals := 0 } : Room) [] Z #[(.ref a)] h0 (fun v h L => v = some .null ∧ Fr n0 L ∧ h = h0) := by
  refine Rm.of (plainFor_of_name pn_com_example_keadby_keadby_model_NewJob) ?_
  intro p e s m below meth cod T X hx hZ hby hml hown hnm hret hlk eT0
  have hown : s.vm.findClass "com/example/keadby/keadby/model/NewJob" = some m.cls := hown
  have hnm : meth.name = "maxAttempts" := hnm
  have N0 := Fr.nil n0
  refine Goes.cast (ef_17 m a) ?_
  show Goes p e below _ T (mkF m 0 #[.val (.ref a)] [])
  refine Goes.of (fun _ => XS.aloadN X.here hx rfl (hb hby d17_0) rfl rfl) ?_
  show Goes p e below _ T (mkF m 1 #[.val (.ref a)] [(.ref a)])
  refine goGet X hx hZ hown (host := "") (Or.inl (hw _ (List.mem_of_getElem? (i := 59) rfl))) Via.refl eT0 F0 (g := (mkF m 1 #[.val (.ref a)] [(.ref a)])) rfl rfl (hb hby d17_1) ?_
  intro T1 X1 eT1
  show Goes p e below _ T1 (mkF m 4 #[.val (.ref a)] [.null])
  exact retRef X1 hx hret hlk rfl rfl (hb hby d17_4) eT1 (by decide) (by decide) ⟨rfl, N0, rfl⟩
set_option maxRecDepth 65536 in
set_option maxHeartbeats 40000000 in
theorem rm_same (l : Launch) (Z : State) (a0 : Array Value) (hw : ∀ d ∈ tables_1, d.before a0 Z = true) (a : Addr) (h0 : Heap) (n0 : Nat) (O0 : Old Z n0 h0)  :
    Rm l (⟨"java/lang/String", "equals", "(Ljava/lang/Object;)Z"⟩ : MethodName) jdk_42_method_66_code 3 (some .boolean) ({ frames := 0, cells := 0, slots := 0, locals := 0 } : Room) [] Z #[(.ref a), (.ref a)] h0 (fun v h L => v = some (.int 1) ∧ Fr n0 L ∧ h = h0) := by
  refine Rm.of (plainFor_of_name pn_java_lang_String) ?_
  intro p e s m below meth cod T X hx hZ hby hml hown hnm hret hlk eT0
  have hown : s.vm.findClass "java/lang/String" = some m.cls := hown
  have hnm : meth.name = "equals" := hnm
  have N0 := Fr.nil n0
  refine Goes.cast (ef_14 m a a) ?_
  show Goes p e below _ T (mkF m 0 #[.val (.ref a), .val (.ref a), .unset] [])
  refine Goes.of (fun _ => XS.aloadN X.here hx rfl (hb hby d14_0) rfl rfl) ?_
  show Goes p e below _ T (mkF m 1 #[.val (.ref a), .val (.ref a), .unset] [(.ref a)])
  refine Goes.of (fun _ => XS.aloadN X.here hx rfl (hb hby d14_1) rfl rfl) ?_
  show Goes p e below _ T (mkF m 2 #[.val (.ref a), .val (.ref a), .unset] [(.ref a), (.ref a)])
  refine Goes.of (fun _ => Jvm.RoadKit.acmp (g := (mkF m 2 #[.val (.ref a), .val (.ref a), .unset] [(.ref a), (.ref a)])) X hx rfl rfl rfl (pc0 := 2) (pc' := 5) (same := true) rfl (hb hby d14_2) rfl (decide_eq_true rfl) (by decide) (by decide)) ?_
  show Goes p e below _ T (mkF m 5 #[.val (.ref a), .val (.ref a), .unset] [])
  refine Goes.of (fun _ => XS.iconst X.here hx rfl (hb hby d14_5)) ?_
  show Goes p e below _ T (mkF m 6 #[.val (.ref a), .val (.ref a), .unset] [(.int (1 : Int32))])
  exact retZ (t := .boolean) X hx hret hlk (by simp) (hb hby d14_6) eT0 (by decide) (by decide) ⟨rfl, N0, rfl⟩
set_option maxRecDepth 65536 in
set_option maxHeartbeats 40000000 in
theorem rm_law (l : Launch) (Z : State) (a0 : Array Value) (hw : ∀ d ∈ tables_1, d.before a0 Z = true) (ws : List Jvm.Cond) (p1 p2 p3 : Int32) (cz : Int32) (h0 : Heap) (n0 : Nat) (O0 : Old Z n0 h0) (Sc : Sta Z Z.heap "java/lang/String" "COMPACT_STRINGS" "Z" (.int cz)) (hcz : ¬ cz = 0) :
    Rm l x code maxLocals ret room_1 ws Z #[(.int p1), (.int p2), (.int p3)] h0 (fun v h L => v = some (.int 1) ∧ Fr n0 L) := by
  refine Rm.of (plainFor_of_name pn_com_example_keadby_keadby_model_NewJobOfPinLaw) ?_
  intro p e s m below meth cod T X hx hZ hby hml hown hnm hret hlk eT0
  have hown : s.vm.findClass "com/example/keadby/keadby/model/NewJobOfPinLaw" = some m.cls := hown
  have hnm : meth.name = "law" := hnm
  have N0 := Fr.nil n0
  refine Goes.cast (ef_0 m p1 p2 p3) ?_
  show Goes p e below _ T (mkF m 0 #[.val (.int p1), .val (.int p2), .val (.int p3), .unset, .unset, .unset, .unset, .unset, .unset, .unset, .unset, .unset] [])
  refine Goes.of (fun _ => XS.iloadN X.here hx rfl (hb hby at_0) rfl) ?_
  show Goes p e below _ T (mkF m 1 #[.val (.int p1), .val (.int p2), .val (.int p3), .unset, .unset, .unset, .unset, .unset, .unset, .unset, .unset, .unset] [(.int p1)])
  refine goStatic 0 X hx hZ hown (hw _ (List.mem_of_getElem? (i := 0) rfl)) (hw _ (List.mem_of_getElem? (i := 1) rfl)) (hw _ (List.mem_of_getElem? (i := 2) rfl)) (hw _ (List.mem_of_getElem? (i := 3) rfl)) (by decide) (rm_two l Z a0 hw p1 cz h0 n0 O0 Sc hcz) eT0 (g := (mkF m 1 #[.val (.int p1), .val (.int p2), .val (.int p3), .unset, .unset, .unset, .unset, .unset, .unset, .unset, .unset, .unset] [(.int p1)])) rfl (by rw [hml]; rfl) [(.int p1)] [] (lenOf pd__I_Ljava_lang_String_ rfl) rfl rfl (by show 2 * 0 + _ ≤ _; exact Nat.le_of_eq rfl) (hb hby at_1) (by decide) (by decide) (by decide) (by decide) ?_
  intro v1 T1 L1 X1 q1
  obtain ⟨sb1, rfl, Nq1, Kq1, g_sb1, Es1⟩ := q1
  have N1 := Fr.app N0 Nq1
  have O0 := O0.keep Kq1 all0
  show Goes p e below _ T1 (mkF m 4 #[.val (.int p1), .val (.int p2), .val (.int p3), .unset, .unset, .unset, .unset, .unset, .unset, .unset, .unset, .unset] [(.ref sb1)])
  refine Goes.of (fun _ => XS.astoreN X1.here hx rfl (hb hby at_4) rfl rfl (l' := #[.val (.int p1), .val (.int p2), .val (.int p3), .val (.ref sb1), .unset, .unset, .unset, .unset, .unset, .unset, .unset, .unset]) rfl) ?_
  show Goes p e below _ T1 (mkF m 5 #[.val (.int p1), .val (.int p2), .val (.int p3), .val (.ref sb1), .unset, .unset, .unset, .unset, .unset, .unset, .unset, .unset] [])
  refine Goes.of (fun _ => XS.iloadN X1.here hx rfl (hb hby at_5) rfl) ?_
  show Goes p e below _ T1 (mkF m 6 #[.val (.int p1), .val (.int p2), .val (.int p3), .val (.ref sb1), .unset, .unset, .unset, .unset, .unset, .unset, .unset, .unset] [(.int p2)])
  refine goStatic 0 X1 hx hZ hown (hw _ (List.mem_of_getElem? (i := 0) rfl)) (hw _ (List.mem_of_getElem? (i := 1) rfl)) (hw _ (List.mem_of_getElem? (i := 2) rfl)) (hw _ (List.mem_of_getElem? (i := 3) rfl)) (by decide) (rm_two l Z a0 hw p2 cz T1.heap n0 O0 Sc hcz) (rfl : T1.heap = _) (g := (mkF m 6 #[.val (.int p1), .val (.int p2), .val (.int p3), .val (.ref sb1), .unset, .unset, .unset, .unset, .unset, .unset, .unset, .unset] [(.int p2)])) rfl (by rw [hml]; rfl) [(.int p2)] [] (lenOf pd__I_Ljava_lang_String_ rfl) rfl rfl (by show 2 * 0 + _ ≤ _; exact Nat.le_of_eq rfl) (hb hby at_6) (by decide) (by decide) (by decide) (by decide) ?_
  intro v2 T2 L2 X2 q2
  obtain ⟨sb2, rfl, Nq2, Kq2, g_sb2, Es2⟩ := q2
  have N2 := Fr.app N1 Nq2
  have Es1 := Es1.keep Kq2
  have O0 := O0.keep Kq2 all0
  show Goes p e below _ T2 (mkF m 9 #[.val (.int p1), .val (.int p2), .val (.int p3), .val (.ref sb1), .unset, .unset, .unset, .unset, .unset, .unset, .unset, .unset] [(.ref sb2)])
  refine Goes.of (fun _ => XS.astore X2.here hx rfl (hb hby at_9) rfl rfl (l' := #[.val (.int p1), .val (.int p2), .val (.int p3), .val (.ref sb1), .val (.ref sb2), .unset, .unset, .unset, .unset, .unset, .unset, .unset]) rfl) ?_
  show Goes p e below _ T2 (mkF m 11 #[.val (.int p1), .val (.int p2), .val (.int p3), .val (.ref sb1), .val (.ref sb2), .unset, .unset, .unset, .unset, .unset, .unset, .unset] [])
  refine Goes.of (fun _ => XS.iloadN X2.here hx rfl (hb hby at_11) rfl) ?_
  show Goes p e below _ T2 (mkF m 12 #[.val (.int p1), .val (.int p2), .val (.int p3), .val (.ref sb1), .val (.ref sb2), .unset, .unset, .unset, .unset, .unset, .unset, .unset] [(.int p3)])
  refine goStatic 0 X2 hx hZ hown (hw _ (List.mem_of_getElem? (i := 0) rfl)) (hw _ (List.mem_of_getElem? (i := 1) rfl)) (hw _ (List.mem_of_getElem? (i := 2) rfl)) (hw _ (List.mem_of_getElem? (i := 3) rfl)) (by decide) (rm_two l Z a0 hw p3 cz T2.heap n0 O0 Sc hcz) (rfl : T2.heap = _) (g := (mkF m 12 #[.val (.int p1), .val (.int p2), .val (.int p3), .val (.ref sb1), .val (.ref sb2), .unset, .unset, .unset, .unset, .unset, .unset, .unset] [(.int p3)])) rfl (by rw [hml]; rfl) [(.int p3)] [] (lenOf pd__I_Ljava_lang_String_ rfl) rfl rfl (by show 2 * 0 + _ ≤ _; exact Nat.le_of_eq rfl) (hb hby at_12) (by decide) (by decide) (by decide) (by decide) ?_
  intro v3 T3 L3 X3 q3
  obtain ⟨sb3, rfl, Nq3, Kq3, g_sb3, Es3⟩ := q3
  have N3 := Fr.app N2 Nq3
  have Es1 := Es1.keep Kq3
  have Es2 := Es2.keep Kq3
  have O0 := O0.keep Kq3 all0
  show Goes p e below _ T3 (mkF m 15 #[.val (.int p1), .val (.int p2), .val (.int p3), .val (.ref sb1), .val (.ref sb2), .unset, .unset, .unset, .unset, .unset, .unset, .unset] [(.ref sb3)])
  refine Goes.of (fun _ => XS.astore X3.here hx rfl (hb hby at_15) rfl rfl (l' := #[.val (.int p1), .val (.int p2), .val (.int p3), .val (.ref sb1), .val (.ref sb2), .val (.ref sb3), .unset, .unset, .unset, .unset, .unset, .unset]) rfl) ?_
  show Goes p e below _ T3 (mkF m 17 #[.val (.int p1), .val (.int p2), .val (.int p3), .val (.ref sb1), .val (.ref sb2), .val (.ref sb3), .unset, .unset, .unset, .unset, .unset, .unset] [])
  refine Goes.of (fun _ => XS.aloadN X3.here hx rfl (hb hby at_17) rfl rfl) ?_
  show Goes p e below _ T3 (mkF m 18 #[.val (.int p1), .val (.int p2), .val (.int p3), .val (.ref sb1), .val (.ref sb2), .val (.ref sb3), .unset, .unset, .unset, .unset, .unset, .unset] [(.ref sb1)])
  refine Goes.of (fun _ => XS.aload X3.here hx rfl (hb hby at_18) rfl rfl) ?_
  show Goes p e below _ T3 (mkF m 20 #[.val (.int p1), .val (.int p2), .val (.int p3), .val (.ref sb1), .val (.ref sb2), .val (.ref sb3), .unset, .unset, .unset, .unset, .unset, .unset] [(.ref sb2), (.ref sb1)])
  refine Goes.of (fun _ => XS.aload X3.here hx rfl (hb hby at_20) rfl rfl) ?_
  show Goes p e below _ T3 (mkF m 22 #[.val (.int p1), .val (.int p2), .val (.int p3), .val (.ref sb1), .val (.ref sb2), .val (.ref sb3), .unset, .unset, .unset, .unset, .unset, .unset] [(.ref sb3), (.ref sb2), (.ref sb1)])
  refine goStatic 0 X3 hx hZ hown (hw _ (List.mem_of_getElem? (i := 34) rfl)) (hw _ (List.mem_of_getElem? (i := 35) rfl)) (hw _ (List.mem_of_getElem? (i := 36) rfl)) (hw _ (List.mem_of_getElem? (i := 37) rfl)) (by decide) (rm_of l Z a0 hw sb1 sb2 sb3 T3.heap n0 O0) (rfl : T3.heap = _) (g := (mkF m 22 #[.val (.int p1), .val (.int p2), .val (.int p3), .val (.ref sb1), .val (.ref sb2), .val (.ref sb3), .unset, .unset, .unset, .unset, .unset, .unset] [(.ref sb3), (.ref sb2), (.ref sb1)])) rfl (by rw [hml]; rfl) [(.ref sb1), (.ref sb2), (.ref sb3)] [] (lenOf pd__Ljava_lang_String_Ljava_lang_String_Ljava_lang_String__Lcom_example_keadby_keadby_model_NewJob_ rfl) rfl rfl (by show 2 * 0 + _ ≤ _; exact Nat.le_of_eq rfl) (hb hby at_22) (by decide) (by decide) (by decide) (by decide) ?_
  intro v4 T4 L4 X4 q4
  obtain ⟨jb4, rfl, Nq4, Kq4, Ej4, J0_4, J1_4, J2_4, J3_4, J4_4, J5_4⟩ := q4
  have N4 := Fr.app N3 Nq4
  have Es1 := Es1.keep Kq4
  have Es2 := Es2.keep Kq4
  have Es3 := Es3.keep Kq4
  have O0 := O0.keep Kq4 all0
  show Goes p e below _ T4 (mkF m 25 #[.val (.int p1), .val (.int p2), .val (.int p3), .val (.ref sb1), .val (.ref sb2), .val (.ref sb3), .unset, .unset, .unset, .unset, .unset, .unset] [(.ref jb4)])
  refine Goes.of (fun _ => XS.astore X4.here hx rfl (hb hby at_25) rfl rfl (l' := #[.val (.int p1), .val (.int p2), .val (.int p3), .val (.ref sb1), .val (.ref sb2), .val (.ref sb3), .val (.ref jb4), .unset, .unset, .unset, .unset, .unset]) rfl) ?_
  show Goes p e below _ T4 (mkF m 27 #[.val (.int p1), .val (.int p2), .val (.int p3), .val (.ref sb1), .val (.ref sb2), .val (.ref sb3), .val (.ref jb4), .unset, .unset, .unset, .unset, .unset] [])
  refine Goes.of (fun _ => XS.aload X4.here hx rfl (hb hby at_27) rfl rfl) ?_
  show Goes p e below _ T4 (mkF m 29 #[.val (.int p1), .val (.int p2), .val (.int p3), .val (.ref sb1), .val (.ref sb2), .val (.ref sb3), .val (.ref jb4), .unset, .unset, .unset, .unset, .unset] [(.ref jb4)])
  refine Goes.of (fun _ => XS.ifnonnullYes X4.here hx rfl (pc0 := 29) (pc' := 34) rfl (hb hby at_29) rfl (by decide) (by decide)) ?_
  show Goes p e below _ T4 (mkF m 34 #[.val (.int p1), .val (.int p2), .val (.int p3), .val (.ref sb1), .val (.ref sb2), .val (.ref sb3), .val (.ref jb4), .unset, .unset, .unset, .unset, .unset] [])
  refine Goes.of (fun _ => XS.aload X4.here hx rfl (hb hby at_34) rfl rfl) ?_
  show Goes p e below _ T4 (mkF m 36 #[.val (.int p1), .val (.int p2), .val (.int p3), .val (.ref sb1), .val (.ref sb2), .val (.ref sb3), .val (.ref jb4), .unset, .unset, .unset, .unset, .unset] [(.ref jb4)])
  refine goVirtual 0 X4 hx hZ hown (hw _ (List.mem_of_getElem? (i := 61) rfl)) (hw _ (List.mem_of_getElem? (i := 62) rfl)) (notFace_of_selects (args := #[]) (mvT hZ (hw _ (List.mem_of_getElem? (i := 64) rfl)))) (hw _ (List.mem_of_getElem? (i := 64) rfl)) (hw _ (List.mem_of_getElem? (i := 63) rfl)) (hw _ (List.mem_of_getElem? (i := 36) rfl)) (hw _ (List.mem_of_getElem? (i := 65) rfl)) (by decide) (rm_get0 l Z a0 hw jb4 sb1 T4.heap n0 O0 J0_4) (rfl : T4.heap = _) Ej4 (g := (mkF m 36 #[.val (.int p1), .val (.int p2), .val (.int p3), .val (.ref sb1), .val (.ref sb2), .val (.ref sb3), .val (.ref jb4), .unset, .unset, .unset, .unset, .unset] [(.ref jb4)])) rfl (by rw [hml]; rfl) [] [] (lenOf pd___Ljava_lang_String_ rfl) rfl rfl (by show 2 * 0 + _ ≤ _; exact Nat.le_of_eq rfl) (hb hby at_36) (by decide) (by decide) (by decide) (by decide) ?_
  intro v5 T5 L5 X5 q5
  obtain ⟨rfl, Nq5, eT5⟩ := q5
  have N5 := Fr.app N4 Nq5
  show Goes p e below _ T5 (mkF m 39 #[.val (.int p1), .val (.int p2), .val (.int p3), .val (.ref sb1), .val (.ref sb2), .val (.ref sb3), .val (.ref jb4), .unset, .unset, .unset, .unset, .unset] [(.ref sb1)])
  refine Goes.of (fun _ => XS.astore X5.here hx rfl (hb hby at_39) rfl rfl (l' := #[.val (.int p1), .val (.int p2), .val (.int p3), .val (.ref sb1), .val (.ref sb2), .val (.ref sb3), .val (.ref jb4), .val (.ref sb1), .unset, .unset, .unset, .unset]) rfl) ?_
  show Goes p e below _ T5 (mkF m 41 #[.val (.int p1), .val (.int p2), .val (.int p3), .val (.ref sb1), .val (.ref sb2), .val (.ref sb3), .val (.ref jb4), .val (.ref sb1), .unset, .unset, .unset, .unset] [])
  refine Goes.of (fun _ => XS.aload X5.here hx rfl (hb hby at_41) rfl rfl) ?_
  show Goes p e below _ T5 (mkF m 43 #[.val (.int p1), .val (.int p2), .val (.int p3), .val (.ref sb1), .val (.ref sb2), .val (.ref sb3), .val (.ref jb4), .val (.ref sb1), .unset, .unset, .unset, .unset] [(.ref jb4)])
  refine goVirtual 0 X5 hx hZ hown (hw _ (List.mem_of_getElem? (i := 66) rfl)) (hw _ (List.mem_of_getElem? (i := 67) rfl)) (notFace_of_selects (args := #[]) (mvT hZ (hw _ (List.mem_of_getElem? (i := 69) rfl)))) (hw _ (List.mem_of_getElem? (i := 69) rfl)) (hw _ (List.mem_of_getElem? (i := 68) rfl)) (hw _ (List.mem_of_getElem? (i := 36) rfl)) (hw _ (List.mem_of_getElem? (i := 70) rfl)) (by decide) (rm_get1 l Z a0 hw jb4 sb2 T4.heap n0 O0 J1_4) eT5 Ej4 (g := (mkF m 43 #[.val (.int p1), .val (.int p2), .val (.int p3), .val (.ref sb1), .val (.ref sb2), .val (.ref sb3), .val (.ref jb4), .val (.ref sb1), .unset, .unset, .unset, .unset] [(.ref jb4)])) rfl (by rw [hml]; rfl) [] [] (lenOf pd___Ljava_lang_String_ rfl) rfl rfl (by show 2 * 0 + _ ≤ _; exact Nat.le_of_eq rfl) (hb hby at_43) (by decide) (by decide) (by decide) (by decide) ?_
  intro v6 T6 L6 X6 q6
  obtain ⟨rfl, Nq6, eT6⟩ := q6
  have N6 := Fr.app N5 Nq6
  show Goes p e below _ T6 (mkF m 46 #[.val (.int p1), .val (.int p2), .val (.int p3), .val (.ref sb1), .val (.ref sb2), .val (.ref sb3), .val (.ref jb4), .val (.ref sb1), .unset, .unset, .unset, .unset] [(.ref sb2)])
  refine Goes.of (fun _ => XS.astore X6.here hx rfl (hb hby at_46) rfl rfl (l' := #[.val (.int p1), .val (.int p2), .val (.int p3), .val (.ref sb1), .val (.ref sb2), .val (.ref sb3), .val (.ref jb4), .val (.ref sb1), .val (.ref sb2), .unset, .unset, .unset]) rfl) ?_
  show Goes p e below _ T6 (mkF m 48 #[.val (.int p1), .val (.int p2), .val (.int p3), .val (.ref sb1), .val (.ref sb2), .val (.ref sb3), .val (.ref jb4), .val (.ref sb1), .val (.ref sb2), .unset, .unset, .unset] [])
  refine Goes.of (fun _ => XS.aload X6.here hx rfl (hb hby at_48) rfl rfl) ?_
  show Goes p e below _ T6 (mkF m 50 #[.val (.int p1), .val (.int p2), .val (.int p3), .val (.ref sb1), .val (.ref sb2), .val (.ref sb3), .val (.ref jb4), .val (.ref sb1), .val (.ref sb2), .unset, .unset, .unset] [(.ref jb4)])
  refine goVirtual 0 X6 hx hZ hown (hw _ (List.mem_of_getElem? (i := 71) rfl)) (hw _ (List.mem_of_getElem? (i := 72) rfl)) (notFace_of_selects (args := #[]) (mvT hZ (hw _ (List.mem_of_getElem? (i := 74) rfl)))) (hw _ (List.mem_of_getElem? (i := 74) rfl)) (hw _ (List.mem_of_getElem? (i := 73) rfl)) (hw _ (List.mem_of_getElem? (i := 36) rfl)) (hw _ (List.mem_of_getElem? (i := 75) rfl)) (by decide) (rm_get2 l Z a0 hw jb4 sb3 T4.heap n0 O0 J2_4) eT6 Ej4 (g := (mkF m 50 #[.val (.int p1), .val (.int p2), .val (.int p3), .val (.ref sb1), .val (.ref sb2), .val (.ref sb3), .val (.ref jb4), .val (.ref sb1), .val (.ref sb2), .unset, .unset, .unset] [(.ref jb4)])) rfl (by rw [hml]; rfl) [] [] (lenOf pd___Ljava_lang_String_ rfl) rfl rfl (by show 2 * 0 + _ ≤ _; exact Nat.le_of_eq rfl) (hb hby at_50) (by decide) (by decide) (by decide) (by decide) ?_
  intro v7 T7 L7 X7 q7
  obtain ⟨rfl, Nq7, eT7⟩ := q7
  have N7 := Fr.app N6 Nq7
  show Goes p e below _ T7 (mkF m 53 #[.val (.int p1), .val (.int p2), .val (.int p3), .val (.ref sb1), .val (.ref sb2), .val (.ref sb3), .val (.ref jb4), .val (.ref sb1), .val (.ref sb2), .unset, .unset, .unset] [(.ref sb3)])
  refine Goes.of (fun _ => XS.astore X7.here hx rfl (hb hby at_53) rfl rfl (l' := #[.val (.int p1), .val (.int p2), .val (.int p3), .val (.ref sb1), .val (.ref sb2), .val (.ref sb3), .val (.ref jb4), .val (.ref sb1), .val (.ref sb2), .val (.ref sb3), .unset, .unset]) rfl) ?_
  show Goes p e below _ T7 (mkF m 55 #[.val (.int p1), .val (.int p2), .val (.int p3), .val (.ref sb1), .val (.ref sb2), .val (.ref sb3), .val (.ref jb4), .val (.ref sb1), .val (.ref sb2), .val (.ref sb3), .unset, .unset] [])
  refine Goes.of (fun _ => XS.aload X7.here hx rfl (hb hby at_55) rfl rfl) ?_
  show Goes p e below _ T7 (mkF m 57 #[.val (.int p1), .val (.int p2), .val (.int p3), .val (.ref sb1), .val (.ref sb2), .val (.ref sb3), .val (.ref jb4), .val (.ref sb1), .val (.ref sb2), .val (.ref sb3), .unset, .unset] [(.ref sb1)])
  refine Goes.of (fun _ => XS.ifnullNo X7.here hx rfl (hb hby at_57) rfl) ?_
  show Goes p e below _ T7 (mkF m 60 #[.val (.int p1), .val (.int p2), .val (.int p3), .val (.ref sb1), .val (.ref sb2), .val (.ref sb3), .val (.ref jb4), .val (.ref sb1), .val (.ref sb2), .val (.ref sb3), .unset, .unset] [])
  refine Goes.of (fun _ => XS.aload X7.here hx rfl (hb hby at_60) rfl rfl) ?_
  show Goes p e below _ T7 (mkF m 62 #[.val (.int p1), .val (.int p2), .val (.int p3), .val (.ref sb1), .val (.ref sb2), .val (.ref sb3), .val (.ref jb4), .val (.ref sb1), .val (.ref sb2), .val (.ref sb3), .unset, .unset] [(.ref sb2)])
  refine Goes.of (fun _ => XS.ifnullNo X7.here hx rfl (hb hby at_62) rfl) ?_
  show Goes p e below _ T7 (mkF m 65 #[.val (.int p1), .val (.int p2), .val (.int p3), .val (.ref sb1), .val (.ref sb2), .val (.ref sb3), .val (.ref jb4), .val (.ref sb1), .val (.ref sb2), .val (.ref sb3), .unset, .unset] [])
  refine Goes.of (fun _ => XS.aload X7.here hx rfl (hb hby at_65) rfl rfl) ?_
  show Goes p e below _ T7 (mkF m 67 #[.val (.int p1), .val (.int p2), .val (.int p3), .val (.ref sb1), .val (.ref sb2), .val (.ref sb3), .val (.ref jb4), .val (.ref sb1), .val (.ref sb2), .val (.ref sb3), .unset, .unset] [(.ref sb3)])
  refine Goes.of (fun _ => XS.ifnullNo X7.here hx rfl (hb hby at_67) rfl) ?_
  show Goes p e below _ T7 (mkF m 70 #[.val (.int p1), .val (.int p2), .val (.int p3), .val (.ref sb1), .val (.ref sb2), .val (.ref sb3), .val (.ref jb4), .val (.ref sb1), .val (.ref sb2), .val (.ref sb3), .unset, .unset] [])
  refine Goes.of (fun _ => XS.aload X7.here hx rfl (hb hby at_70) rfl rfl) ?_
  show Goes p e below _ T7 (mkF m 72 #[.val (.int p1), .val (.int p2), .val (.int p3), .val (.ref sb1), .val (.ref sb2), .val (.ref sb3), .val (.ref jb4), .val (.ref sb1), .val (.ref sb2), .val (.ref sb3), .unset, .unset] [(.ref sb1)])
  refine Goes.of (fun _ => XS.aloadN X7.here hx rfl (hb hby at_72) rfl rfl) ?_
  show Goes p e below _ T7 (mkF m 73 #[.val (.int p1), .val (.int p2), .val (.int p3), .val (.ref sb1), .val (.ref sb2), .val (.ref sb3), .val (.ref jb4), .val (.ref sb1), .val (.ref sb2), .val (.ref sb3), .unset, .unset] [(.ref sb1), (.ref sb1)])
  refine goVirtual 0 X7 hx hZ hown (hw _ (List.mem_of_getElem? (i := 76) rfl)) (hw _ (List.mem_of_getElem? (i := 77) rfl)) (notFace_of_selects (args := #[]) (mvT hZ (hw _ (List.mem_of_getElem? (i := 79) rfl)))) (hw _ (List.mem_of_getElem? (i := 79) rfl)) (hw _ (List.mem_of_getElem? (i := 78) rfl)) (hw _ (List.mem_of_getElem? (i := 7) rfl)) (hw _ (List.mem_of_getElem? (i := 80) rfl)) (by decide) (rm_same l Z a0 hw sb1 T4.heap n0 O0) eT7 Es1 (g := (mkF m 73 #[.val (.int p1), .val (.int p2), .val (.int p3), .val (.ref sb1), .val (.ref sb2), .val (.ref sb3), .val (.ref jb4), .val (.ref sb1), .val (.ref sb2), .val (.ref sb3), .unset, .unset] [(.ref sb1), (.ref sb1)])) rfl (by rw [hml]; rfl) [(.ref sb1)] [] (lenOf pd__Ljava_lang_Object__Z rfl) rfl rfl (by show 2 * 0 + _ ≤ _; exact Nat.le_of_eq rfl) (hb hby at_73) (by decide) (by decide) (by decide) (by decide) ?_
  intro v8 T8 L8 X8 q8
  obtain ⟨rfl, Nq8, eT8⟩ := q8
  have N8 := Fr.app N7 Nq8
  show Goes p e below _ T8 (mkF m 76 #[.val (.int p1), .val (.int p2), .val (.int p3), .val (.ref sb1), .val (.ref sb2), .val (.ref sb3), .val (.ref jb4), .val (.ref sb1), .val (.ref sb2), .val (.ref sb3), .unset, .unset] [(.int (1 : Int32))])
  refine Goes.of (fun _ => XS.ifNo X8.here hx rfl (hb hby at_76) rfl ((if0 _ _).trans (feq (by decide)).1)) ?_
  show Goes p e below _ T8 (mkF m 79 #[.val (.int p1), .val (.int p2), .val (.int p3), .val (.ref sb1), .val (.ref sb2), .val (.ref sb3), .val (.ref jb4), .val (.ref sb1), .val (.ref sb2), .val (.ref sb3), .unset, .unset] [])
  refine Goes.of (fun _ => XS.aload X8.here hx rfl (hb hby at_79) rfl rfl) ?_
  show Goes p e below _ T8 (mkF m 81 #[.val (.int p1), .val (.int p2), .val (.int p3), .val (.ref sb1), .val (.ref sb2), .val (.ref sb3), .val (.ref jb4), .val (.ref sb1), .val (.ref sb2), .val (.ref sb3), .unset, .unset] [(.ref sb2)])
  refine Goes.of (fun _ => XS.aload X8.here hx rfl (hb hby at_81) rfl rfl) ?_
  show Goes p e below _ T8 (mkF m 83 #[.val (.int p1), .val (.int p2), .val (.int p3), .val (.ref sb1), .val (.ref sb2), .val (.ref sb3), .val (.ref jb4), .val (.ref sb1), .val (.ref sb2), .val (.ref sb3), .unset, .unset] [(.ref sb2), (.ref sb2)])
  refine goVirtual 0 X8 hx hZ hown (hw _ (List.mem_of_getElem? (i := 76) rfl)) (hw _ (List.mem_of_getElem? (i := 77) rfl)) (notFace_of_selects (args := #[]) (mvT hZ (hw _ (List.mem_of_getElem? (i := 79) rfl)))) (hw _ (List.mem_of_getElem? (i := 79) rfl)) (hw _ (List.mem_of_getElem? (i := 78) rfl)) (hw _ (List.mem_of_getElem? (i := 7) rfl)) (hw _ (List.mem_of_getElem? (i := 80) rfl)) (by decide) (rm_same l Z a0 hw sb2 T4.heap n0 O0) eT8 Es2 (g := (mkF m 83 #[.val (.int p1), .val (.int p2), .val (.int p3), .val (.ref sb1), .val (.ref sb2), .val (.ref sb3), .val (.ref jb4), .val (.ref sb1), .val (.ref sb2), .val (.ref sb3), .unset, .unset] [(.ref sb2), (.ref sb2)])) rfl (by rw [hml]; rfl) [(.ref sb2)] [] (lenOf pd__Ljava_lang_Object__Z rfl) rfl rfl (by show 2 * 0 + _ ≤ _; exact Nat.le_of_eq rfl) (hb hby at_83) (by decide) (by decide) (by decide) (by decide) ?_
  intro v9 T9 L9 X9 q9
  obtain ⟨rfl, Nq9, eT9⟩ := q9
  have N9 := Fr.app N8 Nq9
  show Goes p e below _ T9 (mkF m 86 #[.val (.int p1), .val (.int p2), .val (.int p3), .val (.ref sb1), .val (.ref sb2), .val (.ref sb3), .val (.ref jb4), .val (.ref sb1), .val (.ref sb2), .val (.ref sb3), .unset, .unset] [(.int (1 : Int32))])
  refine Goes.of (fun _ => XS.ifNo X9.here hx rfl (hb hby at_86) rfl ((if0 _ _).trans (feq (by decide)).1)) ?_
  show Goes p e below _ T9 (mkF m 89 #[.val (.int p1), .val (.int p2), .val (.int p3), .val (.ref sb1), .val (.ref sb2), .val (.ref sb3), .val (.ref jb4), .val (.ref sb1), .val (.ref sb2), .val (.ref sb3), .unset, .unset] [])
  refine Goes.of (fun _ => XS.aload X9.here hx rfl (hb hby at_89) rfl rfl) ?_
  show Goes p e below _ T9 (mkF m 91 #[.val (.int p1), .val (.int p2), .val (.int p3), .val (.ref sb1), .val (.ref sb2), .val (.ref sb3), .val (.ref jb4), .val (.ref sb1), .val (.ref sb2), .val (.ref sb3), .unset, .unset] [(.ref sb3)])
  refine Goes.of (fun _ => XS.aload X9.here hx rfl (hb hby at_91) rfl rfl) ?_
  show Goes p e below _ T9 (mkF m 93 #[.val (.int p1), .val (.int p2), .val (.int p3), .val (.ref sb1), .val (.ref sb2), .val (.ref sb3), .val (.ref jb4), .val (.ref sb1), .val (.ref sb2), .val (.ref sb3), .unset, .unset] [(.ref sb3), (.ref sb3)])
  refine goVirtual 0 X9 hx hZ hown (hw _ (List.mem_of_getElem? (i := 76) rfl)) (hw _ (List.mem_of_getElem? (i := 77) rfl)) (notFace_of_selects (args := #[]) (mvT hZ (hw _ (List.mem_of_getElem? (i := 79) rfl)))) (hw _ (List.mem_of_getElem? (i := 79) rfl)) (hw _ (List.mem_of_getElem? (i := 78) rfl)) (hw _ (List.mem_of_getElem? (i := 7) rfl)) (hw _ (List.mem_of_getElem? (i := 80) rfl)) (by decide) (rm_same l Z a0 hw sb3 T4.heap n0 O0) eT9 Es3 (g := (mkF m 93 #[.val (.int p1), .val (.int p2), .val (.int p3), .val (.ref sb1), .val (.ref sb2), .val (.ref sb3), .val (.ref jb4), .val (.ref sb1), .val (.ref sb2), .val (.ref sb3), .unset, .unset] [(.ref sb3), (.ref sb3)])) rfl (by rw [hml]; rfl) [(.ref sb3)] [] (lenOf pd__Ljava_lang_Object__Z rfl) rfl rfl (by show 2 * 0 + _ ≤ _; exact Nat.le_of_eq rfl) (hb hby at_93) (by decide) (by decide) (by decide) (by decide) ?_
  intro v10 T10 L10 X10 q10
  obtain ⟨rfl, Nq10, eT10⟩ := q10
  have N10 := Fr.app N9 Nq10
  show Goes p e below _ T10 (mkF m 96 #[.val (.int p1), .val (.int p2), .val (.int p3), .val (.ref sb1), .val (.ref sb2), .val (.ref sb3), .val (.ref jb4), .val (.ref sb1), .val (.ref sb2), .val (.ref sb3), .unset, .unset] [(.int (1 : Int32))])
  refine Goes.of (fun _ => XS.ifNo X10.here hx rfl (hb hby at_96) rfl ((if0 _ _).trans (feq (by decide)).1)) ?_
  show Goes p e below _ T10 (mkF m 99 #[.val (.int p1), .val (.int p2), .val (.int p3), .val (.ref sb1), .val (.ref sb2), .val (.ref sb3), .val (.ref jb4), .val (.ref sb1), .val (.ref sb2), .val (.ref sb3), .unset, .unset] [])
  refine Goes.of (fun _ => XS.iconst X10.here hx rfl (hb hby at_99)) ?_
  show Goes p e below _ T10 (mkF m 100 #[.val (.int p1), .val (.int p2), .val (.int p3), .val (.ref sb1), .val (.ref sb2), .val (.ref sb3), .val (.ref jb4), .val (.ref sb1), .val (.ref sb2), .val (.ref sb3), .unset, .unset] [(.int (1 : Int32))])
  refine Goes.of (fun _ => XS.goto X10.here hx rfl (pc0 := 100) (pc' := 104) rfl (hb hby at_100) (by decide) (by decide)) ?_
  show Goes p e below _ T10 (mkF m 104 #[.val (.int p1), .val (.int p2), .val (.int p3), .val (.ref sb1), .val (.ref sb2), .val (.ref sb3), .val (.ref jb4), .val (.ref sb1), .val (.ref sb2), .val (.ref sb3), .unset, .unset] [(.int (1 : Int32))])
  refine Goes.of (fun _ => XS.istore X10.here hx rfl (hb hby at_104) rfl (l' := #[.val (.int p1), .val (.int p2), .val (.int p3), .val (.ref sb1), .val (.ref sb2), .val (.ref sb3), .val (.ref jb4), .val (.ref sb1), .val (.ref sb2), .val (.ref sb3), .val (.int (1 : Int32)), .unset]) rfl) ?_
  show Goes p e below _ T10 (mkF m 106 #[.val (.int p1), .val (.int p2), .val (.int p3), .val (.ref sb1), .val (.ref sb2), .val (.ref sb3), .val (.ref jb4), .val (.ref sb1), .val (.ref sb2), .val (.ref sb3), .val (.int (1 : Int32)), .unset] [])
  refine Goes.of (fun _ => XS.aload X10.here hx rfl (hb hby at_106) rfl rfl) ?_
  show Goes p e below _ T10 (mkF m 108 #[.val (.int p1), .val (.int p2), .val (.int p3), .val (.ref sb1), .val (.ref sb2), .val (.ref sb3), .val (.ref jb4), .val (.ref sb1), .val (.ref sb2), .val (.ref sb3), .val (.int (1 : Int32)), .unset] [(.ref jb4)])
  refine goVirtual 0 X10 hx hZ hown (hw _ (List.mem_of_getElem? (i := 81) rfl)) (hw _ (List.mem_of_getElem? (i := 82) rfl)) (notFace_of_selects (args := #[]) (mvT hZ (hw _ (List.mem_of_getElem? (i := 84) rfl)))) (hw _ (List.mem_of_getElem? (i := 84) rfl)) (hw _ (List.mem_of_getElem? (i := 83) rfl)) (hw _ (List.mem_of_getElem? (i := 36) rfl)) (hw _ (List.mem_of_getElem? (i := 85) rfl)) (by decide) (rm_get3 l Z a0 hw jb4  T4.heap n0 O0 J3_4) eT10 Ej4 (g := (mkF m 108 #[.val (.int p1), .val (.int p2), .val (.int p3), .val (.ref sb1), .val (.ref sb2), .val (.ref sb3), .val (.ref jb4), .val (.ref sb1), .val (.ref sb2), .val (.ref sb3), .val (.int (1 : Int32)), .unset] [(.ref jb4)])) rfl (by rw [hml]; rfl) [] [] (lenOf pd___Ljava_lang_Integer_ rfl) rfl rfl (by show 2 * 0 + _ ≤ _; exact Nat.le_of_eq rfl) (hb hby at_108) (by decide) (by decide) (by decide) (by decide) ?_
  intro v11 T11 L11 X11 q11
  obtain ⟨rfl, Nq11, eT11⟩ := q11
  have N11 := Fr.app N10 Nq11
  show Goes p e below _ T11 (mkF m 111 #[.val (.int p1), .val (.int p2), .val (.int p3), .val (.ref sb1), .val (.ref sb2), .val (.ref sb3), .val (.ref jb4), .val (.ref sb1), .val (.ref sb2), .val (.ref sb3), .val (.int (1 : Int32)), .unset] [.null])
  refine Goes.of (fun _ => XS.ifnonnullNo X11.here hx rfl (hb hby at_111) rfl) ?_
  show Goes p e below _ T11 (mkF m 114 #[.val (.int p1), .val (.int p2), .val (.int p3), .val (.ref sb1), .val (.ref sb2), .val (.ref sb3), .val (.ref jb4), .val (.ref sb1), .val (.ref sb2), .val (.ref sb3), .val (.int (1 : Int32)), .unset] [])
  refine Goes.of (fun _ => XS.aload X11.here hx rfl (hb hby at_114) rfl rfl) ?_
  show Goes p e below _ T11 (mkF m 116 #[.val (.int p1), .val (.int p2), .val (.int p3), .val (.ref sb1), .val (.ref sb2), .val (.ref sb3), .val (.ref jb4), .val (.ref sb1), .val (.ref sb2), .val (.ref sb3), .val (.int (1 : Int32)), .unset] [(.ref jb4)])
  refine goVirtual 0 X11 hx hZ hown (hw _ (List.mem_of_getElem? (i := 86) rfl)) (hw _ (List.mem_of_getElem? (i := 87) rfl)) (notFace_of_selects (args := #[]) (mvT hZ (hw _ (List.mem_of_getElem? (i := 89) rfl)))) (hw _ (List.mem_of_getElem? (i := 89) rfl)) (hw _ (List.mem_of_getElem? (i := 88) rfl)) (hw _ (List.mem_of_getElem? (i := 36) rfl)) (hw _ (List.mem_of_getElem? (i := 90) rfl)) (by decide) (rm_get4 l Z a0 hw jb4  T4.heap n0 O0 J4_4) eT11 Ej4 (g := (mkF m 116 #[.val (.int p1), .val (.int p2), .val (.int p3), .val (.ref sb1), .val (.ref sb2), .val (.ref sb3), .val (.ref jb4), .val (.ref sb1), .val (.ref sb2), .val (.ref sb3), .val (.int (1 : Int32)), .unset] [(.ref jb4)])) rfl (by rw [hml]; rfl) [] [] (lenOf pd___Ljava_time_Instant_ rfl) rfl rfl (by show 2 * 0 + _ ≤ _; exact Nat.le_of_eq rfl) (hb hby at_116) (by decide) (by decide) (by decide) (by decide) ?_
  intro v12 T12 L12 X12 q12
  obtain ⟨rfl, Nq12, eT12⟩ := q12
  have N12 := Fr.app N11 Nq12
  show Goes p e below _ T12 (mkF m 119 #[.val (.int p1), .val (.int p2), .val (.int p3), .val (.ref sb1), .val (.ref sb2), .val (.ref sb3), .val (.ref jb4), .val (.ref sb1), .val (.ref sb2), .val (.ref sb3), .val (.int (1 : Int32)), .unset] [.null])
  refine Goes.of (fun _ => XS.ifnonnullNo X12.here hx rfl (hb hby at_119) rfl) ?_
  show Goes p e below _ T12 (mkF m 122 #[.val (.int p1), .val (.int p2), .val (.int p3), .val (.ref sb1), .val (.ref sb2), .val (.ref sb3), .val (.ref jb4), .val (.ref sb1), .val (.ref sb2), .val (.ref sb3), .val (.int (1 : Int32)), .unset] [])
  refine Goes.of (fun _ => XS.aload X12.here hx rfl (hb hby at_122) rfl rfl) ?_
  show Goes p e below _ T12 (mkF m 124 #[.val (.int p1), .val (.int p2), .val (.int p3), .val (.ref sb1), .val (.ref sb2), .val (.ref sb3), .val (.ref jb4), .val (.ref sb1), .val (.ref sb2), .val (.ref sb3), .val (.int (1 : Int32)), .unset] [(.ref jb4)])
  refine goVirtual 0 X12 hx hZ hown (hw _ (List.mem_of_getElem? (i := 91) rfl)) (hw _ (List.mem_of_getElem? (i := 92) rfl)) (notFace_of_selects (args := #[]) (mvT hZ (hw _ (List.mem_of_getElem? (i := 94) rfl)))) (hw _ (List.mem_of_getElem? (i := 94) rfl)) (hw _ (List.mem_of_getElem? (i := 93) rfl)) (hw _ (List.mem_of_getElem? (i := 36) rfl)) (hw _ (List.mem_of_getElem? (i := 95) rfl)) (by decide) (rm_get5 l Z a0 hw jb4  T4.heap n0 O0 J5_4) eT12 Ej4 (g := (mkF m 124 #[.val (.int p1), .val (.int p2), .val (.int p3), .val (.ref sb1), .val (.ref sb2), .val (.ref sb3), .val (.ref jb4), .val (.ref sb1), .val (.ref sb2), .val (.ref sb3), .val (.int (1 : Int32)), .unset] [(.ref jb4)])) rfl (by rw [hml]; rfl) [] [] (lenOf pd___Ljava_lang_Integer_ rfl) rfl rfl (by show 2 * 0 + _ ≤ _; exact Nat.le_of_eq rfl) (hb hby at_124) (by decide) (by decide) (by decide) (by decide) ?_
  intro v13 T13 L13 X13 q13
  obtain ⟨rfl, Nq13, eT13⟩ := q13
  have N13 := Fr.app N12 Nq13
  show Goes p e below _ T13 (mkF m 127 #[.val (.int p1), .val (.int p2), .val (.int p3), .val (.ref sb1), .val (.ref sb2), .val (.ref sb3), .val (.ref jb4), .val (.ref sb1), .val (.ref sb2), .val (.ref sb3), .val (.int (1 : Int32)), .unset] [.null])
  refine Goes.of (fun _ => XS.ifnonnullNo X13.here hx rfl (hb hby at_127) rfl) ?_
  show Goes p e below _ T13 (mkF m 130 #[.val (.int p1), .val (.int p2), .val (.int p3), .val (.ref sb1), .val (.ref sb2), .val (.ref sb3), .val (.ref jb4), .val (.ref sb1), .val (.ref sb2), .val (.ref sb3), .val (.int (1 : Int32)), .unset] [])
  refine Goes.of (fun _ => XS.iconst X13.here hx rfl (hb hby at_130)) ?_
  show Goes p e below _ T13 (mkF m 131 #[.val (.int p1), .val (.int p2), .val (.int p3), .val (.ref sb1), .val (.ref sb2), .val (.ref sb3), .val (.ref jb4), .val (.ref sb1), .val (.ref sb2), .val (.ref sb3), .val (.int (1 : Int32)), .unset] [(.int (1 : Int32))])
  refine Goes.of (fun _ => XS.goto X13.here hx rfl (pc0 := 131) (pc' := 135) rfl (hb hby at_131) (by decide) (by decide)) ?_
  show Goes p e below _ T13 (mkF m 135 #[.val (.int p1), .val (.int p2), .val (.int p3), .val (.ref sb1), .val (.ref sb2), .val (.ref sb3), .val (.ref jb4), .val (.ref sb1), .val (.ref sb2), .val (.ref sb3), .val (.int (1 : Int32)), .unset] [(.int (1 : Int32))])
  refine Goes.of (fun _ => XS.istore X13.here hx rfl (hb hby at_135) rfl (l' := #[.val (.int p1), .val (.int p2), .val (.int p3), .val (.ref sb1), .val (.ref sb2), .val (.ref sb3), .val (.ref jb4), .val (.ref sb1), .val (.ref sb2), .val (.ref sb3), .val (.int (1 : Int32)), .val (.int (1 : Int32))]) rfl) ?_
  show Goes p e below _ T13 (mkF m 137 #[.val (.int p1), .val (.int p2), .val (.int p3), .val (.ref sb1), .val (.ref sb2), .val (.ref sb3), .val (.ref jb4), .val (.ref sb1), .val (.ref sb2), .val (.ref sb3), .val (.int (1 : Int32)), .val (.int (1 : Int32))] [])
  refine Goes.of (fun _ => XS.iload X13.here hx rfl (hb hby at_137) rfl) ?_
  show Goes p e below _ T13 (mkF m 139 #[.val (.int p1), .val (.int p2), .val (.int p3), .val (.ref sb1), .val (.ref sb2), .val (.ref sb3), .val (.ref jb4), .val (.ref sb1), .val (.ref sb2), .val (.ref sb3), .val (.int (1 : Int32)), .val (.int (1 : Int32))] [(.int (1 : Int32))])
  refine Goes.of (fun _ => XS.ifNo X13.here hx rfl (hb hby at_139) rfl ((if0 _ _).trans (feq (by decide)).1)) ?_
  show Goes p e below _ T13 (mkF m 142 #[.val (.int p1), .val (.int p2), .val (.int p3), .val (.ref sb1), .val (.ref sb2), .val (.ref sb3), .val (.ref jb4), .val (.ref sb1), .val (.ref sb2), .val (.ref sb3), .val (.int (1 : Int32)), .val (.int (1 : Int32))] [])
  refine Goes.of (fun _ => XS.iload X13.here hx rfl (hb hby at_142) rfl) ?_
  show Goes p e below _ T13 (mkF m 144 #[.val (.int p1), .val (.int p2), .val (.int p3), .val (.ref sb1), .val (.ref sb2), .val (.ref sb3), .val (.ref jb4), .val (.ref sb1), .val (.ref sb2), .val (.ref sb3), .val (.int (1 : Int32)), .val (.int (1 : Int32))] [(.int (1 : Int32))])
  refine Goes.of (fun _ => XS.ifNo X13.here hx rfl (hb hby at_144) rfl ((if0 _ _).trans (feq (by decide)).1)) ?_
  show Goes p e below _ T13 (mkF m 147 #[.val (.int p1), .val (.int p2), .val (.int p3), .val (.ref sb1), .val (.ref sb2), .val (.ref sb3), .val (.ref jb4), .val (.ref sb1), .val (.ref sb2), .val (.ref sb3), .val (.int (1 : Int32)), .val (.int (1 : Int32))] [])
  refine Goes.of (fun _ => XS.iconst X13.here hx rfl (hb hby at_147)) ?_
  show Goes p e below _ T13 (mkF m 148 #[.val (.int p1), .val (.int p2), .val (.int p3), .val (.ref sb1), .val (.ref sb2), .val (.ref sb3), .val (.ref jb4), .val (.ref sb1), .val (.ref sb2), .val (.ref sb3), .val (.int (1 : Int32)), .val (.int (1 : Int32))] [(.int (1 : Int32))])
  refine Goes.of (fun _ => XS.goto X13.here hx rfl (pc0 := 148) (pc' := 152) rfl (hb hby at_148) (by decide) (by decide)) ?_
  show Goes p e below _ T13 (mkF m 152 #[.val (.int p1), .val (.int p2), .val (.int p3), .val (.ref sb1), .val (.ref sb2), .val (.ref sb3), .val (.ref jb4), .val (.ref sb1), .val (.ref sb2), .val (.ref sb3), .val (.int (1 : Int32)), .val (.int (1 : Int32))] [(.int (1 : Int32))])
  exact retZ (t := .boolean) X13 hx hret hlk (by simp) (hb hby at_152) eT13 (by decide) (by decide) ⟨rfl, N13⟩
set_option maxRecDepth 65536 in
set_option maxHeartbeats 40000000 in
theorem comes_1 {Post : Tables → Env → Array Value → State → Outcome → State → Prop} (hpost : ∀ tb e args s v u, (limb_1_1.after args s (.returned v) u = true ∧ limb_1_2.after args s (.returned v) u = true ∧ True) → FrameEnd s (.returned v) u (Jvm.fieldLocs frame_1_writes args s ++ Jvm.arrayLocs frame_1_arrays args s ++ Jvm.staticLocs frame_1_statics s) 32 128 → Post tb e args s (.returned v) u) :
    ArmFor flags0 classFile x code maxLocals ret World_1 tables_1 room_1 Calls_1 rest_1 Pre_1 Post := by
  intro l hfl _ _ p e ha hc hk s m args below hf hA hF happ hP
  obtain ⟨hcalls, hrest, hpre⟩ := hP
  obtain ⟨-, -, -, hnamed, -, -, -, hat⟩ := (Spec.applies_iff hf).mp happ
  obtain ⟨hg, hn⟩ := and_e (Cond.before_iff.mp (show (Jvm.Cond.and given_1 narrow_1).before args s = true from hpre))
  obtain ⟨hcount, hg0⟩ := and_e hg
  obtain ⟨hv0, hg1⟩ := and_e hg0
  obtain ⟨hv1, hg2⟩ := and_e hg1
  have hv2 := hg2
  obtain ⟨w0, w1, w2, rfl⟩ : ∃ w0 w1 w2 : Value, args = #[w0, w1, w2] := by
    have hs : args.size = 3 := by simpa [Cond.value, given_1] using hcount
    obtain ⟨L⟩ := args
    match L, hs with
    | [w0, w1, w2], _ => exact ⟨w0, w1, w2, rfl⟩
  have hw := fun d (hd : d ∈ tables_1) => atoms_spec (ws := Jvm.Cond.code x code maxLocals ret :: tables_1) hat d (List.mem_cons_of_mem _ hd)
  have hfit : Fit s := fun {y c} hc i hi => by
    obtain ⟨ha, rfl⟩ := Array.getElem?_eq_some_iff.mp hc
    have q := List.all_eq_true.mp ((Array.all_eq_true_iff_forall_mem.mp hF) _ (Array.getElem_mem ha)) i (List.mem_range.mpr hi)
    simpa [Array.getElem?_eq_getElem hi] using q
  obtain ⟨hsets, hown0⟩ := atoms_of _ (rest_1_c_eq ▸ (show rest_1_c.before _ s = true from hrest))
  obtain ⟨i0, ei0⟩ := is_v hv0
  obtain rfl : w0 = (.int i0) := Option.some.inj ei0
  obtain ⟨i1, ei1⟩ := is_v hv1
  obtain rfl : w1 = (.int i1) := Option.some.inj ei1
  obtain ⟨i2, ei2⟩ := is_v hv2
  obtain rfl : w2 = (.int i2) := Option.some.inj ei2
  obtain ⟨cz, evcz⟩ := is_v (Cond.before_iff.mp (hsets _ (List.mem_of_getElem? (i := 1) rfl)))
  have Sc := Sta.start evcz (Or.inl (hsets _ (List.mem_of_getElem? (i := 0) rfl)))
  have hcz := ne_of_not evcz (hsets _ (List.mem_of_getElem? (i := 2) rfl))
  obtain ⟨n, o, h1, h2, h3, _, L, rfl, ⟨rfl, N⟩, hq⟩ := rm_law l s _ hw tables_1 i0 i1 i2 cz s.heap s.heap.size (Old.start s) Sc hcz p e ha hc hk s m _ below hf ((Spec.applies_iff_loose hf).mp happ).1 ⟨rfl, State.Warmed39.refl s, rfl⟩ trivial
  refine ⟨n, _, h1, h2, h3, hpost _ _ _ _ _ _ ⟨Cond.after_iff.mpr rfl, Cond.after_iff.mpr (eq_i res_at (Term.int_eval (1)) rfl), trivial⟩ ⟨hq.1, hq.2.1, (hq.2.2.sift fun y hy => Or.inr (N y hy)).mono (by decide) (by decide)⟩⟩
theorem main_1_1 : Claimed_1_1 := comes_1 fun _ _ _ _ _ _ h hF => ⟨h.1, hF⟩
theorem main_1_2 : Claimed_1_2 := comes_1 fun _ _ _ _ _ _ h hF => ⟨h.2.1, hF⟩
end Jvm.Pilot.@@N@@
namespace Jvm.Pilot.@@N@@
open Jvm Jvm.ClassFile Sem Op Lib Jvm.Free Jvm.Stand Jvm.Pilot.@@N@@.Jvm.D
/-! MADE BY PROGRAM (witnessworld.py) out of the Statement's table words and the real class files: 21 classes; the members and pool entries that the words name. The judged class is class 1, her method 2. -/
namespace start1
open Jvm.ClassFile
def u (s : String) : CpInfo := .utf8 (stringToUtf16 s)
/-- a pool by its gaps: so many unusable entries, then the entry; so many at the end -/
def gap : Nat → List CpInfo → List CpInfo
  | 0, r => r
  | n + 1, r => .unusable :: gap n r
def poolList (es : List (Nat × CpInfo)) (last : Nat) : List CpInfo := es.foldr (fun e r => gap e.1 (e.2 :: r)) (gap last [])
def pool (es : List (Nat × CpInfo)) (last : Nat) : Array CpInfo := ⟨poolList es last⟩
def fileOf (pool : Array CpInfo) (this : Nat) (attrs : Array Attribute := #[]) (ms : Array MethodInfo := #[]) (fl : Nat := 33) (sup : Nat := 0) (ifs : Array Nat := #[]) (fds : Array FieldInfo := #[]) : ClassFile where
  minorVersion := 0
  majorVersion := 65
  constantPool := pool
  accessFlags := fl
  thisClass := this
  superClass := sup
  interfaces := ifs
  fields := fds
  methods := ms
  attributes := attrs
def plain (name : String) (sup : Option ClassId) : Class where
  name := name
  kind := .ordinary
  loader := none
  accessFlags := 33
  super := sup
  interfaces := #[]
  cf := none
  fields := #[]
  methods := #[]
  instanceTypes := #[]
  staticTypes := #[]
  resolved := #[]
  callSites := []
  init := .initialized
  statics := none
  mirror := none

def pool0 : Array CpInfo := pool [(5, u "<init>"), (0, u "()V"), (1, .class_ 10), (1, u "java/lang/Object")] 113

def k0c0 : Code := { maxStack := 0, maxLocals := 1, code := object_method_1_code, exceptionTable := #[], attributes := #[] }
def k0m0 : Method := { name := "<init>", desc := "()V", sig := { parameters := [], returnType := none }, accessFlags := 1, code := some k0c0 }
/-- java/lang/Object -/
def k0 : Class := { plain "java/lang/Object" none with
  accessFlags := 33
  interfaces := #[]
  cf := some (fileOf pool0 8 #[] #[{ accessFlags := 1, nameIndex := 5, descriptorIndex := 6, attributes := #[] }] 33 0 #[] #[])
  fields := #[]
  methods := #[k0m0]
  instanceTypes := #[]
  staticTypes := #[]
  resolved := Array.replicate 124 none
  statics := none }

def pool1 : Array CpInfo := pool [(2, .class_ 4), (1, u "java/lang/Object"), (0, u "<init>"), (0, u "()V"), (0, .class_ 8), (0, u "java/lang/String"), (0, .methodref 7 10), (0, .nameAndType 5 11), (0, u "([C)V"), (0, .methodref 13 14), (0, .class_ 15), (0, .nameAndType 16 17), (0, u "com/example/keadby/keadby/model/NewJobOfPinLaw"), (0, u "two"), (0, u "(I)Ljava/lang/String;"), (0, .methodref 19 20), (0, .class_ 21), (0, .nameAndType 22 23), (0, u "com/example/keadby/keadby/model/NewJob"), (0, u "of"), (0, u "(Ljava/lang/String;Ljava/lang/String;Ljava/lang/String;)Lcom/example/keadby/keadby/model/NewJob;"), (0, .methodref 19 25), (0, .nameAndType 26 27), (0, u "tenant"), (0, u "()Ljava/lang/String;"), (0, .methodref 19 29), (0, .nameAndType 30 27), (0, u "kind"), (0, .methodref 19 32), (0, .nameAndType 33 27), (0, u "payload"), (0, .methodref 7 35), (0, .nameAndType 36 37), (0, u "equals"), (0, u "(Ljava/lang/Object;)Z"), (0, .methodref 19 39), (0, .nameAndType 40 41), (0, u "priority"), (0, u "()Ljava/lang/Integer;"), (0, .methodref 19 43), (0, .nameAndType 44 45), (0, u "runAt"), (0, u "()Ljava/time/Instant;"), (0, .methodref 19 47), (0, .nameAndType 48 41), (0, u "maxAttempts"), (2, u "law"), (0, u "(III)Z")] 3

def k1m0 : Method := { name := "<init>", desc := "()V", sig := { parameters := [], returnType := none }, accessFlags := 1, code := none }
def k1c1 : Code := { maxStack := 4, maxLocals := 2, code := method_2_code, exceptionTable := #[], attributes := #[] }
def k1m1 : Method := { name := "two", desc := "(I)Ljava/lang/String;", sig := { parameters := [.int], returnType := some (.object "java/lang/String") }, accessFlags := 10, code := some k1c1 }
def k1c2 : Code := { maxStack := 3, maxLocals := 12, code := code, exceptionTable := #[], attributes := #[] }
def k1m2 : Method := { name := "law", desc := "(III)Z", sig := { parameters := [.int, .int, .int], returnType := some .boolean }, accessFlags := 9, code := some k1c2 }
/-- com/example/keadby/keadby/model/NewJobOfPinLaw -/
def k1 : Class := { plain "com/example/keadby/keadby/model/NewJobOfPinLaw" (some 0) with
  accessFlags := 49
  interfaces := #[]
  cf := some (fileOf pool1 13 #[] #[{ accessFlags := 1, nameIndex := 5, descriptorIndex := 6, attributes := #[] }, { accessFlags := 10, nameIndex := 16, descriptorIndex := 17, attributes := #[] }, { accessFlags := 9, nameIndex := 51, descriptorIndex := 52, attributes := #[] }] 49 2 #[] #[])
  fields := #[]
  methods := #[k1m0, k1m1, k1m2]
  instanceTypes := #[]
  staticTypes := #[]
  resolved := Array.replicate 56 none
  statics := none }

def pool2 : Array CpInfo := pool [(1, .class_ 2), (0, u "java/io/Serializable"), (0, .class_ 4), (0, u "java/lang/Object")] 2

/-- java/io/Serializable -/
def k2 : Class := { plain "java/io/Serializable" (some 0) with
  accessFlags := 1537
  interfaces := #[]
  cf := some (fileOf pool2 1 #[] #[] 1537 3 #[] #[])
  fields := #[]
  methods := #[]
  instanceTypes := #[]
  staticTypes := #[]
  resolved := Array.replicate 7 none
  statics := none }

def pool3 : Array CpInfo := pool [(1, .class_ 2), (0, u "java/lang/Comparable"), (0, .class_ 4), (0, u "java/lang/Object")] 7

/-- java/lang/Comparable -/
def k3 : Class := { plain "java/lang/Comparable" (some 0) with
  accessFlags := 1537
  interfaces := #[]
  cf := some (fileOf pool3 1 #[] #[] 1537 3 #[] #[])
  fields := #[]
  methods := #[]
  instanceTypes := #[]
  staticTypes := #[]
  resolved := Array.replicate 12 none
  statics := none }

def pool4 : Array CpInfo := pool [(2, .class_ 4), (1, u "java/lang/CharSequence"), (42, .class_ 48), (0, u "java/lang/CharSequence$1CodePointIterator"), (10, .class_ 60), (0, u "java/lang/CharSequence$1CharIterator"), (5, .class_ 67), (0, u "java/lang/Object")] 63

/-- java/lang/CharSequence -/
def k4 : Class := { plain "java/lang/CharSequence" (some 0) with
  accessFlags := 1537
  interfaces := #[]
  cf := some (fileOf pool4 2 #[.nestMembers #[47, 59]] #[] 1537 66 #[] #[])
  fields := #[]
  methods := #[]
  instanceTypes := #[]
  staticTypes := #[]
  resolved := Array.replicate 131 none
  statics := none }

def pool5 : Array CpInfo := pool [(1, .class_ 2), (0, u "java/lang/constant/Constable"), (0, .class_ 4), (0, u "java/lang/Object")] 6

/-- java/lang/constant/Constable -/
def k5 : Class := { plain "java/lang/constant/Constable" (some 0) with
  accessFlags := 1537
  interfaces := #[]
  cf := some (fileOf pool5 1 #[] #[] 1537 3 #[] #[])
  fields := #[]
  methods := #[]
  instanceTypes := #[]
  staticTypes := #[]
  resolved := Array.replicate 11 none
  statics := none }

def pool6 : Array CpInfo := pool [(1, .class_ 2), (0, u "java/lang/constant/ConstantDesc"), (0, .class_ 4), (0, u "java/lang/Object")] 32

/-- java/lang/constant/ConstantDesc -/
def k6 : Class := { plain "java/lang/constant/ConstantDesc" (some 0) with
  accessFlags := 1537
  interfaces := #[]
  cf := some (fileOf pool6 1 #[] #[] 1537 3 #[] #[])
  fields := #[]
  methods := #[]
  instanceTypes := #[]
  staticTypes := #[]
  resolved := Array.replicate 37 none
  statics := none }

def pool7 : Array CpInfo := pool [(1, .methodref 2 3), (0, .class_ 4), (0, .nameAndType 5 6), (0, u "java/lang/Object"), (0, u "<init>"), (0, u "()V"), (2, .fieldref 10 11), (0, .class_ 12), (0, .nameAndType 13 14), (0, u "java/lang/String"), (0, u "value"), (0, u "[B"), (0, .fieldref 10 16), (0, .nameAndType 17 18), (0, u "coder"), (0, u "B"), (2, u "hash"), (0, u "I"), (2, u "hashIsZero"), (0, u "Z"), (0, .methodref 10 28), (0, .nameAndType 5 29), (0, u "([CIILjava/lang/Void;)V"), (8, .fieldref 10 39), (0, .nameAndType 40 26), (0, u "COMPACT_STRINGS"), (1, .class_ 44), (1, u "java/lang/StringUTF16"), (0, u "compress"), (1, .methodref 42 48), (0, .nameAndType 49 50), (0, u "coderFromArrayLen"), (0, u "([BI)B"), (126, .methodref 42 178), (0, .nameAndType 45 179), (0, u "([CII)[B"), (363, u "equals"), (29, u "(Ljava/lang/Object;)Z"), (1, .class_ 576), (0, u "java/lang/CharSequence"), (22, u "CASE_INSENSITIVE_ORDER"), (0, u "Ljava/util/Comparator;"), (409, u "([C)V"), (90, u "serialPersistentFields"), (0, u "[Ljava/io/ObjectStreamField;"), (0, .class_ 1104), (0, u "java/lang/String$CaseInsensitiveComparator"), (1, .class_ 1107), (0, u "java/io/Serializable"), (0, .class_ 1109), (0, u "java/lang/Comparable"), (0, .class_ 1111), (0, u "java/lang/constant/Constable"), (0, .class_ 1113), (0, u "java/lang/constant/ConstantDesc"), (2, u "serialVersionUID"), (0, u "J"), (3, u "REPL"), (0, u "C"), (2, u "LATIN1"), (1, u "UTF16")] 323

def k7m0 : Method := { name := "<init>", desc := "()V", sig := { parameters := [], returnType := none }, accessFlags := 1, code := none }
def k7c1 : Code := { maxStack := 5, maxLocals := 2, code := jdk_42_method_3_code, exceptionTable := #[], attributes := #[] }
def k7m1 : Method := { name := "<init>", desc := "([C)V", sig := { parameters := [(.array .char)], returnType := none }, accessFlags := 1, code := some k7c1 }
def k7c2 : Code := { maxStack := 2, maxLocals := 3, code := jdk_42_method_66_code, exceptionTable := #[], attributes := #[] }
def k7m2 : Method := { name := "equals", desc := "(Ljava/lang/Object;)Z", sig := { parameters := [(.object "java/lang/Object")], returnType := some .boolean }, accessFlags := 1, code := some k7c2 }
def k7c3 : Code := { maxStack := 4, maxLocals := 6, code := jdk_42_method_149_code, exceptionTable := #[], attributes := #[] }
def k7m3 : Method := { name := "<init>", desc := "([CIILjava/lang/Void;)V", sig := { parameters := [(.array .char), .int, .int, (.object "java/lang/Void")], returnType := none }, accessFlags := 2, code := some k7c3 }
/-- java/lang/String -/
def k7 : Class := { plain "java/lang/String" (some 0) with
  accessFlags := 49
  interfaces := #[2, 3, 4, 5, 6]
  cf := some (fileOf pool7 10 #[.nestMembers #[1103]] #[{ accessFlags := 1, nameIndex := 5, descriptorIndex := 6, attributes := #[] }, { accessFlags := 1, nameIndex := 5, descriptorIndex := 1010, attributes := #[] }, { accessFlags := 1, nameIndex := 543, descriptorIndex := 573, attributes := #[] }, { accessFlags := 2, nameIndex := 5, descriptorIndex := 29, attributes := #[] }] 49 2 #[1106, 1108, 575, 1110, 1112] #[{ accessFlags := 18, nameIndex := 13, descriptorIndex := 14, attributes := #[] }, { accessFlags := 18, nameIndex := 17, descriptorIndex := 18, attributes := #[] }, { accessFlags := 2, nameIndex := 21, descriptorIndex := 22, attributes := #[] }, { accessFlags := 2, nameIndex := 25, descriptorIndex := 26, attributes := #[] }, { accessFlags := 26, nameIndex := 1116, descriptorIndex := 1117, attributes := #[] }, { accessFlags := 24, nameIndex := 40, descriptorIndex := 26, attributes := #[] }, { accessFlags := 26, nameIndex := 1101, descriptorIndex := 1102, attributes := #[] }, { accessFlags := 26, nameIndex := 1121, descriptorIndex := 1122, attributes := #[] }, { accessFlags := 25, nameIndex := 599, descriptorIndex := 600, attributes := #[] }, { accessFlags := 24, nameIndex := 1125, descriptorIndex := 18, attributes := #[] }, { accessFlags := 24, nameIndex := 1127, descriptorIndex := 18, attributes := #[] }])
  fields := #[{ name := "value", type := (.array .byte), accessFlags := 18, slot := 0, constantValue := 0 }, { name := "coder", type := .byte, accessFlags := 18, slot := 1, constantValue := 0 }, { name := "hash", type := .int, accessFlags := 2, slot := 2, constantValue := 0 }, { name := "hashIsZero", type := .boolean, accessFlags := 2, slot := 3, constantValue := 0 }, { name := "serialVersionUID", type := .long, accessFlags := 26, slot := 0, constantValue := 0 }, { name := "COMPACT_STRINGS", type := .boolean, accessFlags := 24, slot := 1, constantValue := 0 }, { name := "serialPersistentFields", type := (.array (.object "java/io/ObjectStreamField")), accessFlags := 26, slot := 2, constantValue := 0 }, { name := "REPL", type := .char, accessFlags := 26, slot := 3, constantValue := 0 }, { name := "CASE_INSENSITIVE_ORDER", type := (.object "java/util/Comparator"), accessFlags := 25, slot := 4, constantValue := 0 }, { name := "LATIN1", type := .byte, accessFlags := 24, slot := 5, constantValue := 0 }, { name := "UTF16", type := .byte, accessFlags := 24, slot := 6, constantValue := 0 }]
  methods := #[k7m0, k7m1, k7m2, k7m3]
  instanceTypes := #[(.array .byte), .byte, .int, .boolean]
  staticTypes := #[.long, .boolean, (.array (.object "java/io/ObjectStreamField")), .char, (.object "java/util/Comparator"), .byte, .byte]
  resolved := Array.replicate 1451 none
  statics := some 0 }

def pool8 : Array CpInfo := pool [(6, .class_ 8), (1, u "java/lang/Object"), (0, u "<init>"), (0, u "()V"), (1, .class_ 14), (1, u "java/lang/StringUTF16"), (31, u "$assertionsDisabled"), (0, u "Z"), (13, u "HI_BYTE_SHIFT"), (0, u "I"), (2, u "LO_BYTE_SHIFT"), (49, .methodref 12 116), (0, .nameAndType 117 118), (0, u "compress"), (0, u "([CI[BII)I"), (3, u "([CII)[B"), (138, u "coderFromArrayLen"), (0, u "([BI)B"), (106, .class_ 371), (1, u "java/lang/StringUTF16$LinesSpliterator"), (58, u "MAX_LENGTH"), (196, .class_ 628), (0, u "java/lang/StringUTF16$CodePointsSpliterator"), (0, .class_ 630), (0, u "java/lang/StringUTF16$CharsSpliterator")] 4

def k8m0 : Method := { name := "<init>", desc := "()V", sig := { parameters := [], returnType := none }, accessFlags := 0, code := none }
def k8c1 : Code := { maxStack := 2, maxLocals := 2, code := jdk_52_method_15_code, exceptionTable := #[], attributes := #[] }
def k8m1 : Method := { name := "coderFromArrayLen", desc := "([BI)B", sig := { parameters := [(.array .byte), .int], returnType := some .byte }, accessFlags := 8, code := some k8c1 }
def k8c2 : Code := { maxStack := 5, maxLocals := 6, code := jdk_52_method_16_code, exceptionTable := #[], attributes := #[] }
def k8m2 : Method := { name := "compress", desc := "([CII)[B", sig := { parameters := [(.array .char), .int, .int], returnType := some (.array .byte) }, accessFlags := 9, code := some k8c2 }
def k8c3 : Code := { maxStack := 3, maxLocals := 7, code := jdk_52_method_21_code, exceptionTable := #[], attributes := #[] }
def k8m3 : Method := { name := "compress", desc := "([CI[BII)I", sig := { parameters := [(.array .char), .int, (.array .byte), .int, .int], returnType := some .int }, accessFlags := 9, code := some k8c3 }
/-- java/lang/StringUTF16 -/
def k8 : Class := { plain "java/lang/StringUTF16" (some 0) with
  accessFlags := 48
  interfaces := #[]
  cf := some (fileOf pool8 12 #[.nestMembers #[627, 629, 369]] #[{ accessFlags := 0, nameIndex := 9, descriptorIndex := 10, attributes := #[] }, { accessFlags := 8, nameIndex := 261, descriptorIndex := 262, attributes := #[] }, { accessFlags := 9, nameIndex := 117, descriptorIndex := 122, attributes := #[] }, { accessFlags := 9, nameIndex := 117, descriptorIndex := 118, attributes := #[] }] 48 6 #[] #[{ accessFlags := 26, nameIndex := 61, descriptorIndex := 62, attributes := #[] }, { accessFlags := 26, nameIndex := 65, descriptorIndex := 62, attributes := #[] }, { accessFlags := 24, nameIndex := 430, descriptorIndex := 62, attributes := #[] }, { accessFlags := 4120, nameIndex := 46, descriptorIndex := 47, attributes := #[] }])
  fields := #[{ name := "HI_BYTE_SHIFT", type := .int, accessFlags := 26, slot := 0, constantValue := 0 }, { name := "LO_BYTE_SHIFT", type := .int, accessFlags := 26, slot := 1, constantValue := 0 }, { name := "MAX_LENGTH", type := .int, accessFlags := 24, slot := 2, constantValue := 0 }, { name := "$assertionsDisabled", type := .boolean, accessFlags := 4120, slot := 3, constantValue := 0 }]
  methods := #[k8m0, k8m1, k8m2, k8m3]
  instanceTypes := #[]
  staticTypes := #[.int, .int, .int, .boolean]
  resolved := Array.replicate 635 none
  statics := none }

def pool9 : Array CpInfo := pool [(1, .methodref 2 3), (0, .class_ 4), (0, .nameAndType 5 6), (0, u "java/lang/Object"), (0, u "<init>"), (0, u "()V"), (0, .class_ 8), (0, u "java/lang/Record")] 13

def k9c0 : Code := { maxStack := 1, maxLocals := 1, code := jdk_30_method_1_code, exceptionTable := #[], attributes := #[] }
def k9m0 : Method := { name := "<init>", desc := "()V", sig := { parameters := [], returnType := none }, accessFlags := 4, code := some k9c0 }
/-- java/lang/Record -/
def k9 : Class := { plain "java/lang/Record" (some 0) with
  accessFlags := 1057
  interfaces := #[]
  cf := some (fileOf pool9 7 #[] #[{ accessFlags := 4, nameIndex := 5, descriptorIndex := 6, attributes := #[] }] 1057 2 #[] #[])
  fields := #[]
  methods := #[k9m0]
  instanceTypes := #[]
  staticTypes := #[]
  resolved := Array.replicate 22 none
  statics := none }

def pool10 : Array CpInfo := pool [(1, .methodref 2 3), (0, .class_ 4), (0, .nameAndType 5 6), (0, u "java/lang/Record"), (0, u "<init>"), (0, u "()V"), (0, .fieldref 8 9), (0, .class_ 10), (0, .nameAndType 11 12), (0, u "com/example/keadby/keadby/model/NewJob"), (0, u "tenant"), (0, u "Ljava/lang/String;"), (0, .fieldref 8 14), (0, .nameAndType 15 12), (0, u "kind"), (0, .fieldref 8 17), (0, .nameAndType 18 12), (0, u "payload"), (0, .fieldref 8 20), (0, .nameAndType 21 22), (0, u "priority"), (0, u "Ljava/lang/Integer;"), (0, .fieldref 8 24), (0, .nameAndType 25 26), (0, u "runAt"), (0, u "Ljava/time/Instant;"), (0, .fieldref 8 28), (0, .nameAndType 29 22), (0, u "maxAttempts"), (0, .methodref 8 31), (0, .nameAndType 5 32), (0, u "(Ljava/lang/String;Ljava/lang/String;Ljava/lang/String;Ljava/lang/Integer;Ljava/time/Instant;Ljava/lang/Integer;)V"), (21, u "of"), (0, u "(Ljava/lang/String;Ljava/lang/String;Ljava/lang/String;)Lcom/example/keadby/keadby/model/NewJob;"), (5, u "()Ljava/lang/String;"), (2, u "()Ljava/lang/Integer;"), (0, u "()Ljava/time/Instant;")] 25

def k10c0 : Code := { maxStack := 2, maxLocals := 7, code := prog_10_method_1_code, exceptionTable := #[], attributes := #[] }
def k10m0 : Method := { name := "<init>", desc := "(Ljava/lang/String;Ljava/lang/String;Ljava/lang/String;Ljava/lang/Integer;Ljava/time/Instant;Ljava/lang/Integer;)V", sig := { parameters := [(.object "java/lang/String"), (.object "java/lang/String"), (.object "java/lang/String"), (.object "java/lang/Integer"), (.object "java/time/Instant"), (.object "java/lang/Integer")], returnType := none }, accessFlags := 1, code := some k10c0 }
def k10c1 : Code := { maxStack := 8, maxLocals := 3, code := prog_10_method_2_code, exceptionTable := #[], attributes := #[] }
def k10m1 : Method := { name := "of", desc := "(Ljava/lang/String;Ljava/lang/String;Ljava/lang/String;)Lcom/example/keadby/keadby/model/NewJob;", sig := { parameters := [(.object "java/lang/String"), (.object "java/lang/String"), (.object "java/lang/String")], returnType := some (.object "com/example/keadby/keadby/model/NewJob") }, accessFlags := 9, code := some k10c1 }
def k10c2 : Code := { maxStack := 1, maxLocals := 1, code := prog_10_method_9_code, exceptionTable := #[], attributes := #[] }
def k10m2 : Method := { name := "tenant", desc := "()Ljava/lang/String;", sig := { parameters := [], returnType := some (.object "java/lang/String") }, accessFlags := 1, code := some k10c2 }
def k10c3 : Code := { maxStack := 1, maxLocals := 1, code := prog_10_method_10_code, exceptionTable := #[], attributes := #[] }
def k10m3 : Method := { name := "kind", desc := "()Ljava/lang/String;", sig := { parameters := [], returnType := some (.object "java/lang/String") }, accessFlags := 1, code := some k10c3 }
def k10c4 : Code := { maxStack := 1, maxLocals := 1, code := prog_10_method_11_code, exceptionTable := #[], attributes := #[] }
def k10m4 : Method := { name := "payload", desc := "()Ljava/lang/String;", sig := { parameters := [], returnType := some (.object "java/lang/String") }, accessFlags := 1, code := some k10c4 }
def k10c5 : Code := { maxStack := 1, maxLocals := 1, code := prog_10_method_12_code, exceptionTable := #[], attributes := #[] }
def k10m5 : Method := { name := "priority", desc := "()Ljava/lang/Integer;", sig := { parameters := [], returnType := some (.object "java/lang/Integer") }, accessFlags := 1, code := some k10c5 }
def k10c6 : Code := { maxStack := 1, maxLocals := 1, code := prog_10_method_13_code, exceptionTable := #[], attributes := #[] }
def k10m6 : Method := { name := "runAt", desc := "()Ljava/time/Instant;", sig := { parameters := [], returnType := some (.object "java/time/Instant") }, accessFlags := 1, code := some k10c6 }
def k10c7 : Code := { maxStack := 1, maxLocals := 1, code := prog_10_method_14_code, exceptionTable := #[], attributes := #[] }
def k10m7 : Method := { name := "maxAttempts", desc := "()Ljava/lang/Integer;", sig := { parameters := [], returnType := some (.object "java/lang/Integer") }, accessFlags := 1, code := some k10c7 }
/-- com/example/keadby/keadby/model/NewJob -/
def k10 : Class := { plain "com/example/keadby/keadby/model/NewJob" (some 9) with
  accessFlags := 49
  interfaces := #[]
  cf := some (fileOf pool10 8 #[] #[{ accessFlags := 1, nameIndex := 5, descriptorIndex := 32, attributes := #[] }, { accessFlags := 9, nameIndex := 54, descriptorIndex := 55, attributes := #[] }, { accessFlags := 1, nameIndex := 11, descriptorIndex := 61, attributes := #[] }, { accessFlags := 1, nameIndex := 15, descriptorIndex := 61, attributes := #[] }, { accessFlags := 1, nameIndex := 18, descriptorIndex := 61, attributes := #[] }, { accessFlags := 1, nameIndex := 21, descriptorIndex := 64, attributes := #[] }, { accessFlags := 1, nameIndex := 25, descriptorIndex := 65, attributes := #[] }, { accessFlags := 1, nameIndex := 29, descriptorIndex := 64, attributes := #[] }] 49 2 #[] #[{ accessFlags := 18, nameIndex := 11, descriptorIndex := 12, attributes := #[] }, { accessFlags := 18, nameIndex := 15, descriptorIndex := 12, attributes := #[] }, { accessFlags := 18, nameIndex := 18, descriptorIndex := 12, attributes := #[] }, { accessFlags := 18, nameIndex := 21, descriptorIndex := 22, attributes := #[] }, { accessFlags := 18, nameIndex := 25, descriptorIndex := 26, attributes := #[] }, { accessFlags := 18, nameIndex := 29, descriptorIndex := 22, attributes := #[] }])
  fields := #[{ name := "tenant", type := (.object "java/lang/String"), accessFlags := 18, slot := 0, constantValue := 0 }, { name := "kind", type := (.object "java/lang/String"), accessFlags := 18, slot := 1, constantValue := 0 }, { name := "payload", type := (.object "java/lang/String"), accessFlags := 18, slot := 2, constantValue := 0 }, { name := "priority", type := (.object "java/lang/Integer"), accessFlags := 18, slot := 3, constantValue := 0 }, { name := "runAt", type := (.object "java/time/Instant"), accessFlags := 18, slot := 4, constantValue := 0 }, { name := "maxAttempts", type := (.object "java/lang/Integer"), accessFlags := 18, slot := 5, constantValue := 0 }]
  methods := #[k10m0, k10m1, k10m2, k10m3, k10m4, k10m5, k10m6, k10m7]
  instanceTypes := #[(.object "java/lang/String"), (.object "java/lang/String"), (.object "java/lang/String"), (.object "java/lang/Integer"), (.object "java/time/Instant"), (.object "java/lang/Integer")]
  staticTypes := #[]
  resolved := Array.replicate 91 none
  statics := none }

def pool11 : Array CpInfo := pool [(4, .class_ 6), (1, u "java/lang/Object"), (0, u "<init>"), (0, u "()V"), (5, .class_ 16), (1, u "java/lang/StringLatin1"), (104, u "$assertionsDisabled"), (0, u "Z"), (98, .class_ 223), (1, u "java/lang/StringLatin1$LinesSpliterator"), (166, .class_ 391), (0, u "java/lang/StringLatin1$CharsSpliterator")] 3

def k11m0 : Method := { name := "<init>", desc := "()V", sig := { parameters := [], returnType := none }, accessFlags := 0, code := none }
/-- java/lang/StringLatin1 -/
def k11 : Class := { plain "java/lang/StringLatin1" (some 0) with
  accessFlags := 48
  interfaces := #[]
  cf := some (fileOf pool11 14 #[.nestMembers #[390, 221]] #[{ accessFlags := 0, nameIndex := 7, descriptorIndex := 8, attributes := #[] }] 48 4 #[] #[{ accessFlags := 4120, nameIndex := 121, descriptorIndex := 122, attributes := #[] }])
  fields := #[{ name := "$assertionsDisabled", type := .boolean, accessFlags := 4120, slot := 0, constantValue := 0 }]
  methods := #[k11m0]
  instanceTypes := #[]
  staticTypes := #[.boolean]
  resolved := Array.replicate 395 none
  statics := none }

def pool12 : Array CpInfo := pool [(2, .class_ 4), (1, u "java/lang/Object"), (0, u "<init>"), (0, u "()V"), (17, .class_ 26), (1, u "jdk/internal/util/Preconditions"), (28, .class_ 56), (0, u "jdk/internal/util/Preconditions$4"), (57, .class_ 115), (0, u "jdk/internal/util/Preconditions$1"), (7, u "SIOOBE_FORMATTER"), (0, u "Ljava/util/function/BiFunction;"), (0, .class_ 126), (0, u "jdk/internal/util/Preconditions$2"), (3, u "AIOOBE_FORMATTER"), (0, .class_ 132), (0, u "jdk/internal/util/Preconditions$3"), (3, u "IOOBE_FORMATTER")] 57

def k12m0 : Method := { name := "<init>", desc := "()V", sig := { parameters := [], returnType := none }, accessFlags := 1, code := none }
/-- jdk/internal/util/Preconditions -/
def k12 : Class := { plain "jdk/internal/util/Preconditions" (some 0) with
  accessFlags := 33
  interfaces := #[]
  cf := some (fileOf pool12 24 #[.nestMembers #[55, 131, 125, 114]] #[{ accessFlags := 1, nameIndex := 5, descriptorIndex := 6, attributes := #[] }] 33 2 #[] #[{ accessFlags := 25, nameIndex := 123, descriptorIndex := 124, attributes := #[] }, { accessFlags := 25, nameIndex := 130, descriptorIndex := 124, attributes := #[] }, { accessFlags := 25, nameIndex := 136, descriptorIndex := 124, attributes := #[] }])
  fields := #[{ name := "SIOOBE_FORMATTER", type := (.object "java/util/function/BiFunction"), accessFlags := 25, slot := 0, constantValue := 0 }, { name := "AIOOBE_FORMATTER", type := (.object "java/util/function/BiFunction"), accessFlags := 25, slot := 1, constantValue := 0 }, { name := "IOOBE_FORMATTER", type := (.object "java/util/function/BiFunction"), accessFlags := 25, slot := 2, constantValue := 0 }]
  methods := #[k12m0]
  instanceTypes := #[]
  staticTypes := #[(.object "java/util/function/BiFunction"), (.object "java/util/function/BiFunction"), (.object "java/util/function/BiFunction")]
  resolved := Array.replicate 194 none
  statics := some 1 }

def pool13 : Array CpInfo := pool [(9, u "<init>"), (6, .class_ 18), (1, u "java/lang/Object"), (0, u "()V"), (1, .class_ 23), (1, u "jdk/internal/util/ArraysSupport"), (0, u "LOG2_ARRAY_LONG_INDEX_SCALE"), (0, u "I"), (2, u "U"), (0, u "Ljdk/internal/misc/Unsafe;"), (8, u "BIG_ENDIAN"), (0, u "Z"), (8, u "LOG2_BYTE_BIT_SIZE"), (4, u "LOG2_ARRAY_INT_INDEX_SCALE"), (54, u "JLA"), (0, u "Ljdk/internal/access/JavaLangAccess;"), (11, u "LOG2_ARRAY_BOOLEAN_INDEX_SCALE"), (9, u "LOG2_ARRAY_BYTE_INDEX_SCALE"), (5, u "LOG2_ARRAY_CHAR_INDEX_SCALE"), (5, u "LOG2_ARRAY_SHORT_INDEX_SCALE"), (18, u "LOG2_ARRAY_FLOAT_INDEX_SCALE"), (24, u "LOG2_ARRAY_DOUBLE_INDEX_SCALE"), (89, u "T_BOOLEAN"), (2, u "T_CHAR"), (1, u "T_FLOAT"), (1, u "T_DOUBLE"), (1, u "T_BYTE"), (1, u "T_SHORT"), (1, u "T_INT"), (1, u "T_LONG"), (1, u "SOFT_MAX_ARRAY_LENGTH")] 83

def k13m0 : Method := { name := "<init>", desc := "()V", sig := { parameters := [], returnType := none }, accessFlags := 2, code := none }
/-- jdk/internal/util/ArraysSupport -/
def k13 : Class := { plain "jdk/internal/util/ArraysSupport" (some 0) with
  accessFlags := 33
  interfaces := #[]
  cf := some (fileOf pool13 21 #[] #[{ accessFlags := 2, nameIndex := 9, descriptorIndex := 19, attributes := #[] }] 33 16 #[] #[{ accessFlags := 24, nameIndex := 28, descriptorIndex := 29, attributes := #[] }, { accessFlags := 26, nameIndex := 38, descriptorIndex := 39, attributes := #[] }, { accessFlags := 25, nameIndex := 121, descriptorIndex := 25, attributes := #[] }, { accessFlags := 25, nameIndex := 131, descriptorIndex := 25, attributes := #[] }, { accessFlags := 25, nameIndex := 137, descriptorIndex := 25, attributes := #[] }, { accessFlags := 25, nameIndex := 143, descriptorIndex := 25, attributes := #[] }, { accessFlags := 25, nameIndex := 53, descriptorIndex := 25, attributes := #[] }, { accessFlags := 25, nameIndex := 24, descriptorIndex := 25, attributes := #[] }, { accessFlags := 25, nameIndex := 162, descriptorIndex := 25, attributes := #[] }, { accessFlags := 25, nameIndex := 187, descriptorIndex := 25, attributes := #[] }, { accessFlags := 26, nameIndex := 48, descriptorIndex := 25, attributes := #[] }, { accessFlags := 25, nameIndex := 277, descriptorIndex := 25, attributes := #[] }, { accessFlags := 25, nameIndex := 280, descriptorIndex := 25, attributes := #[] }, { accessFlags := 25, nameIndex := 282, descriptorIndex := 25, attributes := #[] }, { accessFlags := 25, nameIndex := 284, descriptorIndex := 25, attributes := #[] }, { accessFlags := 25, nameIndex := 286, descriptorIndex := 25, attributes := #[] }, { accessFlags := 25, nameIndex := 288, descriptorIndex := 25, attributes := #[] }, { accessFlags := 25, nameIndex := 290, descriptorIndex := 25, attributes := #[] }, { accessFlags := 25, nameIndex := 292, descriptorIndex := 25, attributes := #[] }, { accessFlags := 26, nameIndex := 108, descriptorIndex := 109, attributes := #[] }, { accessFlags := 25, nameIndex := 294, descriptorIndex := 25, attributes := #[] }])
  fields := #[{ name := "U", type := (.object "jdk/internal/misc/Unsafe"), accessFlags := 24, slot := 0, constantValue := 0 }, { name := "BIG_ENDIAN", type := .boolean, accessFlags := 26, slot := 1, constantValue := 0 }, { name := "LOG2_ARRAY_BOOLEAN_INDEX_SCALE", type := .int, accessFlags := 25, slot := 2, constantValue := 0 }, { name := "LOG2_ARRAY_BYTE_INDEX_SCALE", type := .int, accessFlags := 25, slot := 3, constantValue := 0 }, { name := "LOG2_ARRAY_CHAR_INDEX_SCALE", type := .int, accessFlags := 25, slot := 4, constantValue := 0 }, { name := "LOG2_ARRAY_SHORT_INDEX_SCALE", type := .int, accessFlags := 25, slot := 5, constantValue := 0 }, { name := "LOG2_ARRAY_INT_INDEX_SCALE", type := .int, accessFlags := 25, slot := 6, constantValue := 0 }, { name := "LOG2_ARRAY_LONG_INDEX_SCALE", type := .int, accessFlags := 25, slot := 7, constantValue := 0 }, { name := "LOG2_ARRAY_FLOAT_INDEX_SCALE", type := .int, accessFlags := 25, slot := 8, constantValue := 0 }, { name := "LOG2_ARRAY_DOUBLE_INDEX_SCALE", type := .int, accessFlags := 25, slot := 9, constantValue := 0 }, { name := "LOG2_BYTE_BIT_SIZE", type := .int, accessFlags := 26, slot := 10, constantValue := 0 }, { name := "T_BOOLEAN", type := .int, accessFlags := 25, slot := 11, constantValue := 0 }, { name := "T_CHAR", type := .int, accessFlags := 25, slot := 12, constantValue := 0 }, { name := "T_FLOAT", type := .int, accessFlags := 25, slot := 13, constantValue := 0 }, { name := "T_DOUBLE", type := .int, accessFlags := 25, slot := 14, constantValue := 0 }, { name := "T_BYTE", type := .int, accessFlags := 25, slot := 15, constantValue := 0 }, { name := "T_SHORT", type := .int, accessFlags := 25, slot := 16, constantValue := 0 }, { name := "T_INT", type := .int, accessFlags := 25, slot := 17, constantValue := 0 }, { name := "T_LONG", type := .int, accessFlags := 25, slot := 18, constantValue := 0 }, { name := "JLA", type := (.object "jdk/internal/access/JavaLangAccess"), accessFlags := 26, slot := 19, constantValue := 0 }, { name := "SOFT_MAX_ARRAY_LENGTH", type := .int, accessFlags := 25, slot := 20, constantValue := 0 }]
  methods := #[k13m0]
  instanceTypes := #[]
  staticTypes := #[(.object "jdk/internal/misc/Unsafe"), .boolean, .int, .int, .int, .int, .int, .int, .int, .int, .int, .int, .int, .int, .int, .int, .int, .int, .int, (.object "jdk/internal/access/JavaLangAccess"), .int]
  resolved := Array.replicate 378 none
  statics := none }

def pool14 : Array CpInfo := pool [(1, u "java/lang/Cloneable"), (0, .class_ 1), (0, u "java/lang/Object"), (0, .class_ 3)] 3

/-- java/lang/Cloneable -/
def k14 : Class := { plain "java/lang/Cloneable" (some 0) with
  accessFlags := 1537
  interfaces := #[]
  cf := some (fileOf pool14 2 #[] #[] 1537 4 #[] #[])
  fields := #[]
  methods := #[]
  instanceTypes := #[]
  staticTypes := #[]
  resolved := Array.replicate 8 none
  statics := none }

/-- the primitive byte -/
def k15 : Class := { plain "byte" none with kind := .primitive 'B', accessFlags := 0x411 }
/-- [B -/
def k16 : Class := { plain "[B" (some 0) with kind := .array 15 .byte, interfaces := #[14, 2], accessFlags := 1041 }

/-- the primitive char -/
def k17 : Class := { plain "char" none with kind := .primitive 'C', accessFlags := 0x411 }
/-- [C -/
def k18 : Class := { plain "[C" (some 0) with kind := .array 17 .char, interfaces := #[14, 2], accessFlags := 1041 }

/-- the primitive int -/
def k19 : Class := { plain "int" none with kind := .primitive 'I', accessFlags := 0x411 }
/-- [I -/
def k20 : Class := { plain "[I" (some 0) with kind := .array 19 .int, interfaces := #[14, 2], accessFlags := 1041 }

def heap : Heap := #[{ cls := 7, slots := #[.long 0, .int 1, .null, .int 0, .null, .int 0, .int 0], vm := .statics 7 },
  { cls := 12, slots := #[.null, .null, .null], vm := .statics 12 }]
def classes : Array Class := #[k0, k1, k2, k3, k4, k5, k6, k7, k8, k9, k10, k11, k12, k13, k14, k15, k16, k17, k18, k19, k20]
def interned : List (Array UInt16 × Addr) := []
def slotsUsed : Nat := 10
def theMethod : MethodId := ⟨1, 2⟩
def args0 : Array Value := #[.int 5, .int 1, .int 3]
def aboutOver (below : List Frame) : State where
  vm := { classes := classes, interned := interned.toArray }
  heap := heap
  slotsUsed := slotsUsed
  threads := #[{ frames := .invoking theMethod args0 :: below }]
def below0 : List Frame := [.native { method := ⟨0, 0⟩, args := #[] }]
def about1 : State := aboutOver below0
def p0 : Program := .bare "" "" ""
def e0 : Env := launch0.env 0 0 0
theorem w_frames : about1.frames = Frame.invoking theMethod args0 :: below0 := rfl
set_option maxRecDepth 65536 in
theorem w_args : argsFit about1.vm theMethod args0 = true := by decide +kernel
set_option maxRecDepth 65536 in
theorem w_heap : heapFits about1 = true := by decide +kernel
set_option maxRecDepth 65536 in
theorem w_runnable : about1.curStatus? = some .runnable := by decide +kernel
set_option maxRecDepth 65536 in
theorem w_alone : about1.alone = true := by decide +kernel
set_option maxRecDepth 65536 in
theorem w_named : about1.methodNamed? x = some theMethod := by decide +kernel
set_option maxRecDepth 65536 in
theorem w_hears : about1.hears theMethod below0 = true := by decide +kernel
set_option maxRecDepth 65536 in
theorem w_ripe : about1.ripe theMethod args0 below0 = true := by decide +kernel
theorem w_running : about1.status = .running := rfl
set_option maxRecDepth 65536 in
theorem w_room : about1.hasRoom e0.platform room_1 = true :=
  launch0.hasRoom_least _ room_1 (by decide +kernel) (by decide +kernel) (by decide +kernel) (by decide +kernel) (by decide +kernel) (by decide +kernel)
theorem allAtoms_all (ts : List Jvm.Cond) (a : Array Jvm.Value) (st : Jvm.State) : (allAtoms ts).before a st = ts.all (fun c => c.before a st) := by
  induction ts with
  | nil => rfl
  | cons c t ih =>
    show (Jvm.Cond.and c (allAtoms t)).before a st = _
    rw [Jvm.Cond.before_and, ih, List.all_cons]
def words1 : List Jvm.Cond := Jvm.Cond.code x code maxLocals ret :: tables_1
/-- a 'code' word, met by the world's own term for the bytes: nothing is compared byte by byte -/
theorem code_word {y : MethodName} {bytes : ByteArray} {mx : Nat} {rt : Option FieldType} {a : Array Value} {s : State} {m : MethodId} {meth : Method} {c : Code} (h1 : s.methodNamed? y = some m) (h2 : s.vm.method? m = some meth) (h3 : meth.code = some c) (h4 : c.code = bytes)
    (h5 : (c.maxLocals == mx && c.exceptionTable.isEmpty && decide (c.maxStack ≤ mostOperands) && decide (meth.sig.returnType = rt) && !meth.locks && decide (parseMethodDescriptor y.desc = some meth.sig)) = true) : (Jvm.Cond.code y bytes mx rt).before a s = true := by
  simp only [Bool.and_eq_true, beq_iff_eq, Bool.not_eq_true', decide_eq_true_eq] at h5
  obtain ⟨⟨⟨⟨⟨g1, g2⟩, g3⟩, g4⟩, g5⟩, g6⟩ := h5
  simp [Cond.before, Cond.holds, Cond.value, h1, h2, h3, h4, g1, g2, g3, g4, g5, g6]
def isCode : Jvm.Cond → Bool
  | .code _ _ _ _ => true
  | _ => false
theorem all_split {L : List Jvm.Cond} {P : Jvm.Cond → Bool} (h1 : L.all (fun c => isCode c || P c) = true) (h2 : ∀ c ∈ L.filter isCode, P c = true) : L.all P = true := by
  refine List.all_eq_true.mpr fun c hc => ?_
  have h := List.all_eq_true.mp h1 c hc
  rcases Bool.eq_false_or_eq_true (isCode c) with hi | hi
  · exact h2 c (List.mem_filter.mpr ⟨hc, hi⟩)
  · simpa [hi] using h
set_option maxRecDepth 65536 in
theorem w_c0 : (Jvm.Cond.code x code maxLocals ret).before args0 about1 = true := code_word (m := ⟨1, 2⟩) (meth := k1m2) (c := k1c2) (by decide +kernel) rfl rfl rfl (by decide +kernel)
set_option maxRecDepth 65536 in
theorem w_c1 : (Jvm.Cond.code ({ cls := "com/example/keadby/keadby/model/NewJobOfPinLaw", name := "two", desc := "(I)Ljava/lang/String;" } : Jvm.MethodName) method_2_code (2 : Nat) (Option.some (Jvm.ClassFile.FieldType.object "java/lang/String"))).before args0 about1 = true := code_word (m := ⟨1, 1⟩) (meth := k1m1) (c := k1c1) (by decide +kernel) rfl rfl rfl (by decide +kernel)
set_option maxRecDepth 65536 in
theorem w_c2 : (Jvm.Cond.code ({ cls := "java/lang/String", name := "<init>", desc := "([C)V" } : Jvm.MethodName) jdk_42_method_3_code (2 : Nat) (Option.none : Option Jvm.ClassFile.FieldType)).before args0 about1 = true := code_word (m := ⟨7, 1⟩) (meth := k7m1) (c := k7c1) (by decide +kernel) rfl rfl rfl (by decide +kernel)
set_option maxRecDepth 65536 in
theorem w_c3 : (Jvm.Cond.code ({ cls := "java/lang/String", name := "<init>", desc := "([CIILjava/lang/Void;)V" } : Jvm.MethodName) jdk_42_method_149_code (6 : Nat) (Option.none : Option Jvm.ClassFile.FieldType)).before args0 about1 = true := code_word (m := ⟨7, 3⟩) (meth := k7m3) (c := k7c3) (by decide +kernel) rfl rfl rfl (by decide +kernel)
set_option maxRecDepth 65536 in
theorem w_c4 : (Jvm.Cond.code ({ cls := "java/lang/Object", name := "<init>", desc := "()V" } : Jvm.MethodName) object_method_1_code (1 : Nat) (Option.none : Option Jvm.ClassFile.FieldType)).before args0 about1 = true := code_word (m := ⟨0, 0⟩) (meth := k0m0) (c := k0c0) (by decide +kernel) rfl rfl rfl (by decide +kernel)
set_option maxRecDepth 65536 in
theorem w_c5 : (Jvm.Cond.code ({ cls := "java/lang/StringUTF16", name := "compress", desc := "([CII)[B" } : Jvm.MethodName) jdk_52_method_16_code (6 : Nat) (Option.some (Jvm.ClassFile.FieldType.array Jvm.ClassFile.FieldType.byte))).before args0 about1 = true := code_word (m := ⟨8, 2⟩) (meth := k8m2) (c := k8c2) (by decide +kernel) rfl rfl rfl (by decide +kernel)
set_option maxRecDepth 65536 in
theorem w_c6 : (Jvm.Cond.code ({ cls := "java/lang/StringUTF16", name := "compress", desc := "([CI[BII)I" } : Jvm.MethodName) jdk_52_method_21_code (7 : Nat) (Option.some Jvm.ClassFile.FieldType.int)).before args0 about1 = true := code_word (m := ⟨8, 3⟩) (meth := k8m3) (c := k8c3) (by decide +kernel) rfl rfl rfl (by decide +kernel)
set_option maxRecDepth 65536 in
theorem w_c7 : (Jvm.Cond.code ({ cls := "java/lang/StringUTF16", name := "coderFromArrayLen", desc := "([BI)B" } : Jvm.MethodName) jdk_52_method_15_code (2 : Nat) (Option.some Jvm.ClassFile.FieldType.byte)).before args0 about1 = true := code_word (m := ⟨8, 1⟩) (meth := k8m1) (c := k8c1) (by decide +kernel) rfl rfl rfl (by decide +kernel)
set_option maxRecDepth 65536 in
theorem w_c8 : (Jvm.Cond.code ({ cls := "com/example/keadby/keadby/model/NewJob", name := "of", desc := "(Ljava/lang/String;Ljava/lang/String;Ljava/lang/String;)Lcom/example/keadby/keadby/model/NewJob;" } : Jvm.MethodName) prog_10_method_2_code (3 : Nat) (Option.some (Jvm.ClassFile.FieldType.object "com/example/keadby/keadby/model/NewJob"))).before args0 about1 = true := code_word (m := ⟨10, 1⟩) (meth := k10m1) (c := k10c1) (by decide +kernel) rfl rfl rfl (by decide +kernel)
set_option maxRecDepth 65536 in
theorem w_c9 : (Jvm.Cond.code ({ cls := "com/example/keadby/keadby/model/NewJob", name := "<init>", desc := "(Ljava/lang/String;Ljava/lang/String;Ljava/lang/String;Ljava/lang/Integer;Ljava/time/Instant;Ljava/lang/Integer;)V" } : Jvm.MethodName) prog_10_method_1_code (7 : Nat) (Option.none : Option Jvm.ClassFile.FieldType)).before args0 about1 = true := code_word (m := ⟨10, 0⟩) (meth := k10m0) (c := k10c0) (by decide +kernel) rfl rfl rfl (by decide +kernel)
set_option maxRecDepth 65536 in
theorem w_c10 : (Jvm.Cond.code ({ cls := "java/lang/Record", name := "<init>", desc := "()V" } : Jvm.MethodName) jdk_30_method_1_code (1 : Nat) (Option.none : Option Jvm.ClassFile.FieldType)).before args0 about1 = true := code_word (m := ⟨9, 0⟩) (meth := k9m0) (c := k9c0) (by decide +kernel) rfl rfl rfl (by decide +kernel)
set_option maxRecDepth 65536 in
theorem w_c11 : (Jvm.Cond.code ({ cls := "com/example/keadby/keadby/model/NewJob", name := "tenant", desc := "()Ljava/lang/String;" } : Jvm.MethodName) prog_10_method_9_code (1 : Nat) (Option.some (Jvm.ClassFile.FieldType.object "java/lang/String"))).before args0 about1 = true := code_word (m := ⟨10, 2⟩) (meth := k10m2) (c := k10c2) (by decide +kernel) rfl rfl rfl (by decide +kernel)
set_option maxRecDepth 65536 in
theorem w_c12 : (Jvm.Cond.code ({ cls := "com/example/keadby/keadby/model/NewJob", name := "kind", desc := "()Ljava/lang/String;" } : Jvm.MethodName) prog_10_method_10_code (1 : Nat) (Option.some (Jvm.ClassFile.FieldType.object "java/lang/String"))).before args0 about1 = true := code_word (m := ⟨10, 3⟩) (meth := k10m3) (c := k10c3) (by decide +kernel) rfl rfl rfl (by decide +kernel)
set_option maxRecDepth 65536 in
theorem w_c13 : (Jvm.Cond.code ({ cls := "com/example/keadby/keadby/model/NewJob", name := "payload", desc := "()Ljava/lang/String;" } : Jvm.MethodName) prog_10_method_11_code (1 : Nat) (Option.some (Jvm.ClassFile.FieldType.object "java/lang/String"))).before args0 about1 = true := code_word (m := ⟨10, 4⟩) (meth := k10m4) (c := k10c4) (by decide +kernel) rfl rfl rfl (by decide +kernel)
set_option maxRecDepth 65536 in
theorem w_c14 : (Jvm.Cond.code ({ cls := "java/lang/String", name := "equals", desc := "(Ljava/lang/Object;)Z" } : Jvm.MethodName) jdk_42_method_66_code (3 : Nat) (Option.some Jvm.ClassFile.FieldType.boolean)).before args0 about1 = true := code_word (m := ⟨7, 2⟩) (meth := k7m2) (c := k7c2) (by decide +kernel) rfl rfl rfl (by decide +kernel)
set_option maxRecDepth 65536 in
theorem w_c15 : (Jvm.Cond.code ({ cls := "com/example/keadby/keadby/model/NewJob", name := "priority", desc := "()Ljava/lang/Integer;" } : Jvm.MethodName) prog_10_method_12_code (1 : Nat) (Option.some (Jvm.ClassFile.FieldType.object "java/lang/Integer"))).before args0 about1 = true := code_word (m := ⟨10, 5⟩) (meth := k10m5) (c := k10c5) (by decide +kernel) rfl rfl rfl (by decide +kernel)
set_option maxRecDepth 65536 in
theorem w_c16 : (Jvm.Cond.code ({ cls := "com/example/keadby/keadby/model/NewJob", name := "runAt", desc := "()Ljava/time/Instant;" } : Jvm.MethodName) prog_10_method_13_code (1 : Nat) (Option.some (Jvm.ClassFile.FieldType.object "java/time/Instant"))).before args0 about1 = true := code_word (m := ⟨10, 6⟩) (meth := k10m6) (c := k10c6) (by decide +kernel) rfl rfl rfl (by decide +kernel)
set_option maxRecDepth 65536 in
theorem w_c17 : (Jvm.Cond.code ({ cls := "com/example/keadby/keadby/model/NewJob", name := "maxAttempts", desc := "()Ljava/lang/Integer;" } : Jvm.MethodName) prog_10_method_14_code (1 : Nat) (Option.some (Jvm.ClassFile.FieldType.object "java/lang/Integer"))).before args0 about1 = true := code_word (m := ⟨10, 7⟩) (meth := k10m7) (c := k10c7) (by decide +kernel) rfl rfl rfl (by decide +kernel)
def codes1 : List Jvm.Cond := [Jvm.Cond.code x code maxLocals ret, Jvm.Cond.code ({ cls := "com/example/keadby/keadby/model/NewJobOfPinLaw", name := "two", desc := "(I)Ljava/lang/String;" } : Jvm.MethodName) method_2_code (2 : Nat) (Option.some (Jvm.ClassFile.FieldType.object "java/lang/String")), Jvm.Cond.code ({ cls := "java/lang/String", name := "<init>", desc := "([C)V" } : Jvm.MethodName) jdk_42_method_3_code (2 : Nat) (Option.none : Option Jvm.ClassFile.FieldType), Jvm.Cond.code ({ cls := "java/lang/String", name := "<init>", desc := "([CIILjava/lang/Void;)V" } : Jvm.MethodName) jdk_42_method_149_code (6 : Nat) (Option.none : Option Jvm.ClassFile.FieldType), Jvm.Cond.code ({ cls := "java/lang/Object", name := "<init>", desc := "()V" } : Jvm.MethodName) object_method_1_code (1 : Nat) (Option.none : Option Jvm.ClassFile.FieldType), Jvm.Cond.code ({ cls := "java/lang/StringUTF16", name := "compress", desc := "([CII)[B" } : Jvm.MethodName) jdk_52_method_16_code (6 : Nat) (Option.some (Jvm.ClassFile.FieldType.array Jvm.ClassFile.FieldType.byte)), Jvm.Cond.code ({ cls := "java/lang/StringUTF16", name := "compress", desc := "([CI[BII)I" } : Jvm.MethodName) jdk_52_method_21_code (7 : Nat) (Option.some Jvm.ClassFile.FieldType.int), Jvm.Cond.code ({ cls := "java/lang/StringUTF16", name := "coderFromArrayLen", desc := "([BI)B" } : Jvm.MethodName) jdk_52_method_15_code (2 : Nat) (Option.some Jvm.ClassFile.FieldType.byte), Jvm.Cond.code ({ cls := "com/example/keadby/keadby/model/NewJob", name := "of", desc := "(Ljava/lang/String;Ljava/lang/String;Ljava/lang/String;)Lcom/example/keadby/keadby/model/NewJob;" } : Jvm.MethodName) prog_10_method_2_code (3 : Nat) (Option.some (Jvm.ClassFile.FieldType.object "com/example/keadby/keadby/model/NewJob")), Jvm.Cond.code ({ cls := "com/example/keadby/keadby/model/NewJob", name := "<init>", desc := "(Ljava/lang/String;Ljava/lang/String;Ljava/lang/String;Ljava/lang/Integer;Ljava/time/Instant;Ljava/lang/Integer;)V" } : Jvm.MethodName) prog_10_method_1_code (7 : Nat) (Option.none : Option Jvm.ClassFile.FieldType), Jvm.Cond.code ({ cls := "java/lang/Record", name := "<init>", desc := "()V" } : Jvm.MethodName) jdk_30_method_1_code (1 : Nat) (Option.none : Option Jvm.ClassFile.FieldType), Jvm.Cond.code ({ cls := "com/example/keadby/keadby/model/NewJob", name := "tenant", desc := "()Ljava/lang/String;" } : Jvm.MethodName) prog_10_method_9_code (1 : Nat) (Option.some (Jvm.ClassFile.FieldType.object "java/lang/String")), Jvm.Cond.code ({ cls := "com/example/keadby/keadby/model/NewJob", name := "kind", desc := "()Ljava/lang/String;" } : Jvm.MethodName) prog_10_method_10_code (1 : Nat) (Option.some (Jvm.ClassFile.FieldType.object "java/lang/String")), Jvm.Cond.code ({ cls := "com/example/keadby/keadby/model/NewJob", name := "payload", desc := "()Ljava/lang/String;" } : Jvm.MethodName) prog_10_method_11_code (1 : Nat) (Option.some (Jvm.ClassFile.FieldType.object "java/lang/String")), Jvm.Cond.code ({ cls := "java/lang/String", name := "equals", desc := "(Ljava/lang/Object;)Z" } : Jvm.MethodName) jdk_42_method_66_code (3 : Nat) (Option.some Jvm.ClassFile.FieldType.boolean), Jvm.Cond.code ({ cls := "com/example/keadby/keadby/model/NewJob", name := "priority", desc := "()Ljava/lang/Integer;" } : Jvm.MethodName) prog_10_method_12_code (1 : Nat) (Option.some (Jvm.ClassFile.FieldType.object "java/lang/Integer")), Jvm.Cond.code ({ cls := "com/example/keadby/keadby/model/NewJob", name := "runAt", desc := "()Ljava/time/Instant;" } : Jvm.MethodName) prog_10_method_13_code (1 : Nat) (Option.some (Jvm.ClassFile.FieldType.object "java/time/Instant")), Jvm.Cond.code ({ cls := "com/example/keadby/keadby/model/NewJob", name := "maxAttempts", desc := "()Ljava/lang/Integer;" } : Jvm.MethodName) prog_10_method_14_code (1 : Nat) (Option.some (Jvm.ClassFile.FieldType.object "java/lang/Integer"))]
set_option maxRecDepth 65536 in
theorem codes_eq : words1.filter isCode = codes1 := rfl
theorem w_codes : ∀ c ∈ words1.filter isCode, c.before args0 about1 = true := by
  rw [codes_eq]
  intro c hc
  simp only [codes1, List.mem_cons, List.not_mem_nil, or_false] at hc
  rcases hc with rfl | rfl | rfl | rfl | rfl | rfl | rfl | rfl | rfl | rfl | rfl | rfl | rfl | rfl | rfl | rfl | rfl | rfl
  · exact w_c0
  · exact w_c1
  · exact w_c2
  · exact w_c3
  · exact w_c4
  · exact w_c5
  · exact w_c6
  · exact w_c7
  · exact w_c8
  · exact w_c9
  · exact w_c10
  · exact w_c11
  · exact w_c12
  · exact w_c13
  · exact w_c14
  · exact w_c15
  · exact w_c16
  · exact w_c17
set_option maxRecDepth 65536 in
theorem w_t1 : (words1.take 24).all (fun c => isCode c || c.before args0 about1) = true := by decide +kernel
set_option maxRecDepth 65536 in
theorem w_t2 : ((words1.drop 24).take 24).all (fun c => isCode c || c.before args0 about1) = true := by decide +kernel
set_option maxRecDepth 65536 in
theorem w_t3 : (((words1.drop 24).drop 24).take 24).all (fun c => isCode c || c.before args0 about1) = true := by decide +kernel
set_option maxRecDepth 65536 in
theorem w_t4 : ((((words1.drop 24).drop 24).drop 24).take 24).all (fun c => isCode c || c.before args0 about1) = true := by decide +kernel
set_option maxRecDepth 65536 in
theorem w_t5 : ((((words1.drop 24).drop 24).drop 24).drop 24).all (fun c => isCode c || c.before args0 about1) = true := by decide +kernel
theorem w_tables : (allAtoms (Jvm.Cond.code x code maxLocals ret :: tables_1)).before args0 about1 = true := by
  rw [allAtoms_all]
  show words1.all (fun c => c.before args0 about1) = true
  refine all_split ?_ w_codes
  rw [← List.take_append_drop 24 words1, List.all_append, w_t1, ← List.take_append_drop 24 (words1.drop 24), List.all_append, w_t2, ← List.take_append_drop 24 ((words1.drop 24).drop 24), List.all_append, w_t3, ← List.take_append_drop 24 (((words1.drop 24).drop 24).drop 24), List.all_append, w_t4, w_t5]
  rfl
set_option maxRecDepth 65536 in
theorem w_rest : rest_1_c.before args0 about1 = true := by decide +kernel
set_option maxRecDepth 65536 in
theorem w_case : (Jvm.Cond.and given_1 narrow_1).before args0 about1 = true := by decide +kernel
theorem w_applies : (headSpec (Jvm.Cond.code x code maxLocals ret :: tables_1) room_1).applies x e0.platform about1 = true :=
  (Spec.applies_iff w_frames).mpr ⟨w_running, w_runnable, w_alone, w_named, w_hears, w_ripe, w_room, w_tables⟩
theorem atStart : AtStart classFile x code maxLocals ret World_1 tables_1 room_1 Calls_1 rest_1 Pre_1 launch0 p0 e0 about1 theMethod args0 below0 :=
  ⟨lists_1, trivial, launch0.admits_env _ _ _, launch0.least_env, fairChoices_fair.cas, fairChoices_fair.clock, w_frames, w_args, w_heap, w_applies, trivial, w_rest, w_case⟩
end start1
theorem witness_1 : WitnessClaimed_1 := ⟨start1.p0, start1.e0, start1.about1, start1.theMethod, start1.args0, start1.below0, start1.atStart⟩
end Jvm.Pilot.@@N@@
