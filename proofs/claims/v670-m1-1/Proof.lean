import JvmDerived
import JvmDerived.Pilot.@@N@@Statement
import JvmDerived.Pilot.@@N@@Code
set_option linter.unusedVariables false
set_option linter.unusedSimpArgs false
namespace Jvm.Own
open Jvm Sem ClassFile Op Lib Jvm.Stand Jvm.Free Jvm.LawKit Jvm.RoadKit
/-- from this state and frame the run comes to an end that E says -/
def Goes (p : Program) (e : Env) (below : List Frame) (E : Outcome → State → Prop) (T : State) (f : JFrame) : Prop :=
  ∃ s₂ o, Steps p.tables e below (T.setTop f) s₂ ∧ s₂.status = .running ∧ Ended s₂ below o ∧ E o s₂
/-- the end of a walk that interns nothing -/
def EndN (s : State) (Q : Option Value → Heap → List Loc → Prop) (K N : Nat) (o : Outcome) (U : State) : Prop :=
  ∃ v L, o = .returned v ∧ Q v U.heap L ∧ FrameEnd s o U L K N
/-- a body's contract -/
def Rm (l : Launch) (y : MethodName) (bytes : ByteArray) (maxL : Nat) (ret : Option FieldType) (rm : Room) (ws : List Jvm.Cond) (Z : State) (as' : Array Value) (h : Heap) (Q : Option Value → Heap → List Loc → Prop) : Prop :=
  MetFree l y (head1 (Jvm.Cond.code y bytes maxL ret :: ws) rm) (fun a U => a = as' ∧ Z.Warmed39 U.vm ∧ U.heap = h) (fun _ _ _ _ _ => True) (fun _ U o U' => ∃ v L, o = .returned v ∧ Q v U'.heap L ∧ FrameEnd U o U' L rm.cells rm.slots)
section Own1
variable {p : Program} {l : Launch} {e : Env} {R : Room} {s : State} {m : MethodId} {args : Array Value} {below : List Frame} {meth : Method} {c : Code} {T : State} {locs : List Loc} {cells slots : Nat} {Z : State} {a0 : Array Value} {h : Heap} {E : Outcome → State → Prop}
theorem Goes.of {T T' : State} {f f' : JFrame} (st : ∀ t, Steps p.tables e below (T'.setTop f') t → Steps p.tables e below (T.setTop f) t) (k : Goes p e below E T' f') : Goes p e below E T f := by
  obtain ⟨s₂, o, h1, h2⟩ := k
  exact ⟨s₂, o, st _ h1, h2⟩
theorem Goes.cast {T : State} {f f' : JFrame} (q : f = f') (k : Goes p e below E T f') : Goes p e below E T f := q ▸ k
theorem oldLe {n0 : Nat} (O : Old Z n0 h) : n0 ≤ h.size := O.1 ▸ O.2.1
theorem goRet {Q : Option Value → Heap → List Loc → Prop} {K N : Nat} {g : JFrame} {v : Option Value} (X : Stand p l e R s m args below meth c T locs cells slots) (hv : meth.sig.returnType = none → v = none) (hlocks : meth.locks = false) (eT : T.heap = h) (hQ : Q v h locs) (hK : cells ≤ K) (hN : slots ≤ N)
    (st : ∀ fs, (∀ (f : JFrame) (acts : List Action), f.method = m → f.locked = none → f.entered = [] → (doReturn e (T.setTop f) acts v).1 = T.setFrames fs) → Steps p.tables e below (T.setTop g) (T.setFrames fs)) : Goes p e below (EndN s Q K N) T g := by
  obtain ⟨fs, hr, hrun, hended, hW, hsame⟩ := X.leave (v := v) hv hlocks
  subst eT
  exact ⟨_, _, st fs hr, hrun, hended, _, _, rfl, hQ, ⟨_, rfl⟩, hW, hsame.mono hK hN⟩
theorem retZ {Q : Option Value → Heap → List Loc → Prop} {K N pc : Nat} {Ls : Array Slot} {z : Int32} {t : FieldType} {rest : List Value} (X : Stand p l e R s m args below meth c T locs cells slots) (hx : p.tables.exec = Jvm.exec) (hret : meth.sig.returnType = some t) (hlocks : meth.locks = false) (ht : t = .boolean ∨ t = .byte ∨ t = .char ∨ t = .short)
    (hd : decode c.code pc = .ok (.ireturn, 1)) (eT : T.heap = h) (hK : cells ≤ K) (hN : slots ≤ N) (hQ : Q (some (.int (nar t z))) h locs) : Goes p e below (EndN s Q K N) T (mkF m pc Ls (.int z :: rest)) :=
  goRet X (fun q => by rw [hret] at q; cases q) hlocks eT hQ hK hN fun fs hr => retN X hx hret ht hd hr
theorem retInt {Q : Option Value → Heap → List Loc → Prop} {K N pc : Nat} {Ls : Array Slot} {z : Int32} {rest : List Value} (X : Stand p l e R s m args below meth c T locs cells slots) (hx : p.tables.exec = Jvm.exec) (hret : meth.sig.returnType = some .int) (hlocks : meth.locks = false)
    (hd : decode c.code pc = .ok (.ireturn, 1)) (eT : T.heap = h) (hK : cells ≤ K) (hN : slots ≤ N) (hQ : Q (some (.int z)) h locs) : Goes p e below (EndN s Q K N) T (mkF m pc Ls (.int z :: rest)) :=
  goRet X (fun q => by rw [hret] at q; cases q) hlocks eT hQ hK hN fun fs hr => by
    have hm' : T.vm.method? m = some meth := X.method'
    have hn : narrow .int (.int z) = .int z := rfl
    show Steps p.tables e below (T.setTop { method := m, pc := pc, locals := Ls, stack := _ :: rest, locked := none }) _
    jvm_step X.here [X.here.top, hx, hd, hm', hret, hn]
    first | (intro acts; rw [hr _ acts rfl rfl rfl]) | rw [hr _ _ rfl rfl rfl]
    exact Steps.refl _
theorem retLong {Q : Option Value → Heap → List Loc → Prop} {K N pc : Nat} {Ls : Array Slot} {z : Int64} {rest : List Value} (X : Stand p l e R s m args below meth c T locs cells slots) (hx : p.tables.exec = Jvm.exec) (hret : meth.sig.returnType = some .long) (hlocks : meth.locks = false)
    (hd : decode c.code pc = .ok (.lreturn, 1)) (eT : T.heap = h) (hK : cells ≤ K) (hN : slots ≤ N) (hQ : Q (some (.long z)) h locs) : Goes p e below (EndN s Q K N) T (mkF m pc Ls (.long z :: rest)) :=
  goRet X (fun q => by rw [hret] at q; cases q) hlocks eT hQ hK hN fun fs hr => by
    have hm' : T.vm.method? m = some meth := X.method'
    show Steps p.tables e below (T.setTop { method := m, pc := pc, locals := Ls, stack := _ :: rest, locked := none }) _
    jvm_step X.here [X.here.top, hx, hd, hm', hret, narrow]
    first | (intro acts; rw [hr _ acts rfl rfl rfl]) | rw [hr _ _ rfl rfl rfl]
    exact Steps.refl _
theorem retRef {Q : Option Value → Heap → List Loc → Prop} {K N pc : Nat} {Ls : Array Slot} {z : Value} {t : FieldType} {rest : List Value} (X : Stand p l e R s m args below meth c T locs cells slots) (hx : p.tables.exec = Jvm.exec) (hret : meth.sig.returnType = some t) (hlocks : meth.locks = false) (ht : t.isReference = true) (hz : z.isRef = true)
    (hd : decode c.code pc = .ok (.areturn, 1)) (eT : T.heap = h) (hK : cells ≤ K) (hN : slots ≤ N) (hQ : Q (some z) h locs) : Goes p e below (EndN s Q K N) T (mkF m pc Ls (z :: rest)) :=
  goRet X (fun q => by rw [hret] at q; cases q) hlocks eT hQ hK hN fun fs hr => by
    have hm' : T.vm.method? m = some meth := X.method'
    show Steps p.tables e below (T.setTop { method := m, pc := pc, locals := Ls, stack := _ :: rest, locked := none }) _
    rcases ref_cases hz with rfl | ⟨_, rfl⟩
    all_goals
      jvm_step X.here [X.here.top, hx, hd, hm', hret, ht, Value.isRef]
      first | (intro acts; rw [hr _ acts rfl rfl rfl]) | rw [hr _ _ rfl rfl rfl]
      exact Steps.refl _
theorem retVoid {Q : Option Value → Heap → List Loc → Prop} {K N pc : Nat} {Ls : Array Slot} {rest : List Value} (X : Stand p l e R s m args below meth c T locs cells slots) (hx : p.tables.exec = Jvm.exec) (hret : meth.sig.returnType = none) (hlocks : meth.locks = false)
    (hd : decode c.code pc = .ok (.return_, 1)) (eT : T.heap = h) (hK : cells ≤ K) (hN : slots ≤ N) (hQ : Q none h locs) : Goes p e below (EndN s Q K N) T (mkF m pc Ls rest) :=
  goRet X (fun _ => rfl) hlocks eT hQ hK hN fun fs hr => by
    have hm' : T.vm.method? m = some meth := X.method'
    show Steps p.tables e below (T.setTop { method := m, pc := pc, locals := Ls, stack := rest, locked := none }) _
    jvm_step X.here [X.here.top, hx, hd, hm', hret]
    first | (intro acts; rw [hr _ acts rfl rfl rfl]) | rw [hr _ _ rfl rfl rfl]
    exact Steps.refl _
/-- a body's contract out of its walk -/
theorem Rm.of {ws : List Jvm.Cond} {y : MethodName} {bytes : ByteArray} {maxL : Nat} {ret : Option FieldType} {rm : Room} {as' : Array Value} {h : Heap} {Q : Option Value → Heap → List Loc → Prop} (hp : plainFor y = true)
    (body : ∀ (p : Program) (e : Env) (s : State) (m : MethodId) (below : List Frame) (meth : Method) (c : Code) (T : State), Stand p l e rm s m as' below meth c T [] 0 0 → p.tables.exec = Jvm.exec → Z.Warmed39 s.vm → c.code = bytes → c.maxLocals = maxL → s.vm.findClass y.cls = some m.cls → meth.name = y.name → meth.sig.returnType = ret → meth.locks = false → T.heap = h →
      Goes p e below (EndN s Q rm.cells rm.slots) T (entryFrame m as' maxL)) : Rm l y bytes maxL ret rm ws Z as' h Q := by
  refine MetFree.of_bodySF hp hisR ?_
  intro p e s m args below meth c s₁ Bd hml0 hP hK
  obtain ⟨rfl, hZ, hh⟩ := hP
  exact body p e s m below meth c s₁ (Stand.of_body Bd) Bd.exec hZ Bd.bytes hml0 (findClass_of_methodNamed Bd.named) (name_of_methodNamed Bd.named Bd.method).1 Bd.returns Bd.notSynchronized (by rw [← hh, Bd.state]; rfl)
theorem goStatic {own : String} {index : Nat} {y : MethodName} {bytes : ByteArray} {maxL : Nat} {ret : Option FieldType} {rm : Room} {as' : Array Value} {Q : Option Value → Heap → List Loc → Prop} (W : Nat)
    (X : Stand p l e R s m args below meth c T locs cells slots) (hx : p.tables.exec = Jvm.exec) (hZ : Z.Warmed39 s.vm) (hown : s.vm.findClass own = some m.cls) (w1 : (Jvm.Cond.methodLink own index y).before a0 Z = true) (w2 : (Jvm.Cond.static y).before a0 Z = true) (w3 : (Jvm.Cond.initialized y.cls).before a0 Z = true) (w4 : (Jvm.Cond.code y bytes maxL ret).before a0 Z = true)
    (hy : y.cls ≠ "java/lang/invoke/MethodHandle" ∧ y.cls ≠ "java/lang/invoke/VarHandle") (r : Rm l y bytes maxL ret rm [] Z as' h Q) (eT : T.heap = h) {g : JFrame} (hg : g.method = m) (hsize : g.locals.size = c.maxLocals) (argsL rest : List Value) (hlen : ∀ sig, parseMethodDescriptor y.desc = some sig → argsL.length = sig.parameters.length)
    (hstack : g.stack = argsL.reverse ++ rest) (has : argsL.toArray = as') (hW : 2 * g.monitorRoom + (rest.map fun v => v.category).sum ≤ W) (hd : decode c.code g.pc = .ok (.invokestatic index, 3)) (hf : rm.frames + 1 ≤ R.frames) (hl : W + (maxL + 11) + rm.locals ≤ R.locals) (hc : cells + rm.cells ≤ R.cells) (hs : slots + rm.slots ≤ R.slots)
    (k : ∀ v T' L, Stand p l e R s m args below meth c T' (locs ++ L) (cells + rm.cells) (slots + rm.slots) → Q v T'.heap L → Goes p e below E T' { g with pc := g.pc + 3, stack := v.toList ++ rest }) : Goes p e below E T g := by
  obtain ⟨v, vm₁, ⟨T', L', k', n'⟩, -, X', ⟨L, hQ, q1, q2, q3⟩, st⟩ := Jvm.LawKit.callS X hx (y := y) hown (mvT hZ w1) (mvT hZ w2) (mvT hZ w3) (mvT hZ w4) hy (backOf (W := W) r hZ w4 w3 hf hl) hg hsize hlen hstack hW hd (fun _ _ => ⟨has, eT, hc, hs⟩)
  dsimp only [Pt.U, Pt.locs, Pt.cells, Pt.slots] at X' q1 q2 q3 st hQ
  subst q1 q2 q3
  exact Goes.of st (k v T' L X' hQ)
theorem goSpecial {own : String} {index : Nat} {y : MethodName} {bytes : ByteArray} {maxL : Nat} {rm : Room} {as' : Array Value} {Q : Option Value → Heap → List Loc → Prop} (W : Nat)
    (X : Stand p l e R s m args below meth c T locs cells slots) (hx : p.tables.exec = Jvm.exec) (hZ : Z.Warmed39 s.vm) (hy1 : y.name = "<init>") (hown : s.vm.findClass own = some m.cls) (w1 : (Jvm.Cond.methodLink own index y).before a0 Z = true) (w2 : (Jvm.Cond.instanceMethod y).before a0 Z = true) (w3 : (Jvm.Cond.initialized y.cls).before a0 Z = true) (w4 : (Jvm.Cond.code y bytes maxL none).before a0 Z = true)
    (hy : y.cls ≠ "java/lang/invoke/MethodHandle" ∧ y.cls ≠ "java/lang/invoke/VarHandle") (r : Rm l y bytes maxL none rm [] Z as' h Q) (eT : T.heap = h) {g : JFrame} (hg : g.method = m) (hsize : g.locals.size = c.maxLocals) (a : Addr) (argsL rest : List Value) (hlen : ∀ sig, parseMethodDescriptor y.desc = some sig → argsL.length = sig.parameters.length)
    (hstack : g.stack = argsL.reverse ++ .ref a :: rest) (has : (.ref a :: argsL).toArray = as') (hW : 2 * g.monitorRoom + (rest.map fun v => v.category).sum ≤ W) (hd : decode c.code g.pc = .ok (.invokespecial index, 3)) (hf : rm.frames + 1 ≤ R.frames) (hl : W + (maxL + 11) + rm.locals ≤ R.locals) (hc : cells + rm.cells ≤ R.cells) (hs : slots + rm.slots ≤ R.slots)
    (k : ∀ v T' L, Stand p l e R s m args below meth c T' (locs ++ L) (cells + rm.cells) (slots + rm.slots) → Q v T'.heap L → Goes p e below E T' { g with pc := g.pc + 3, stack := v.toList ++ rest }) : Goes p e below E T g := by
  obtain ⟨v, vm₁, ⟨T', L', k', n'⟩, -, X', ⟨L, hQ, q1, q2, q3⟩, st⟩ := X.specialBack hx (y := y) hy1 hown (mvT hZ w1) (mvT hZ w2) (mvT hZ w4) hy (backOf (W := W) r hZ w4 w3 hf hl) hg hsize (Steps.refl _) (a := a) hlen hstack hW hd (fun _ _ => ⟨has, eT, hc, hs⟩)
  dsimp only [Pt.U, Pt.locs, Pt.cells, Pt.slots] at X' q1 q2 q3 st hQ
  subst q1 q2 q3
  exact Goes.of (fun _ => st.trans) (k v T' L X' hQ)
theorem goVirtual {own C : String} {index : Nat} {y z : MethodName} {bytes : ByteArray} {maxL : Nat} {ret : Option FieldType} {rm : Room} {as' : Array Value} {Q : Option Value → Heap → List Loc → Prop} (W : Nat)
    (X : Stand p l e R s m args below meth c T locs cells slots) (hx : p.tables.exec = Jvm.exec) (hZ : Z.Warmed39 s.vm) (hown : s.vm.findClass own = some m.cls) (w1 : (Jvm.Cond.methodLink own index y).before a0 Z = true) (w2 : (Jvm.Cond.declares y).before a0 Z = true) (hnf : NotFace s y) (w3 : (Jvm.Cond.selects C y z).before a0 Z = true) (w4 : (Jvm.Cond.instanceMethod z).before a0 Z = true) (w5 : (Jvm.Cond.initialized z.cls).before a0 Z = true) (w6 : (Jvm.Cond.code z bytes maxL ret).before a0 Z = true)
    (hy : y.cls ≠ "java/lang/invoke/MethodHandle" ∧ y.cls ≠ "java/lang/invoke/VarHandle") (r : Rm l z bytes maxL ret rm [] Z as' h Q) (eT : T.heap = h) {a : Addr} (F : Exa Z h a C) {g : JFrame} (hg : g.method = m) (hsize : g.locals.size = c.maxLocals) (argsL rest : List Value) (hlen : ∀ sig, parseMethodDescriptor y.desc = some sig → argsL.length = sig.parameters.length)
    (hstack : g.stack = argsL.reverse ++ .ref a :: rest) (has : (.ref a :: argsL).toArray = as') (hW : 2 * g.monitorRoom + (rest.map fun v => v.category).sum ≤ W) (hd : decode c.code g.pc = .ok (.invokevirtual index, 3)) (hf : rm.frames + 1 ≤ R.frames) (hl : W + (maxL + 11) + rm.locals ≤ R.locals) (hc : cells + rm.cells ≤ R.cells) (hs : slots + rm.slots ≤ R.slots)
    (k : ∀ v T' L, Stand p l e R s m args below meth c T' (locs ++ L) (cells + rm.cells) (slots + rm.slots) → Q v T'.heap L → Goes p e below E T' { g with pc := g.pc + 3, stack := v.toList ++ rest }) : Goes p e below E T g := by
  obtain ⟨cq, kq, qa, qb, qc⟩ := isOf hZ eT F
  obtain ⟨v, vm₁, ⟨T', L', k', n'⟩, -, X', ⟨L, hQ, q1, q2, q3⟩, st⟩ := X.virtualBack hx (y := y) (z := z) hown (mvT hZ w1) (mvT hZ w2) hnf (mvT hZ w3) (mvT hZ w4) hy (backOf (W := W) r hZ w6 w5 hf hl) qa qc hg hsize (Steps.refl _) hlen hstack hW hd (fun _ _ => ⟨has, eT, hc, hs⟩)
  dsimp only [Pt.U, Pt.locs, Pt.cells, Pt.slots] at X' q1 q2 q3 st hQ
  subst q1 q2 q3
  exact Goes.of (fun _ => st.trans) (k v T' L X' hQ)
theorem goNew {own C : String} {index n : Nat} (X : Stand p l e R s m args below meth c T locs cells slots) (hx : p.tables.exec = Jvm.exec) (hZ : Z.Warmed39 s.vm) (hown : s.vm.findClass own = some m.cls) (w : (Jvm.Cond.classLink own index C).before a0 Z = true) (wi : (Jvm.Cond.instantiable C n).before a0 Z = true) (wz : (Jvm.Cond.initialized C).before a0 Z = true) (eT : T.heap = h)
    {g : JFrame} (hg : g.method = m) (hd : decode c.code g.pc = .ok (.new index, 3)) (hc : cells + 1 ≤ R.cells) (hl : slots + n ≤ R.slots)
    (k : ∀ T' h' b, Stand p l e R s m args below meth c T' locs (cells + 1) (slots + n) → T'.heap = h' → Ext h h' → h.size ≤ b → Exa Z h' b C → (∀ {O nm d : String} {ty : FieldType}, Laid Z a0 C O nm d → parseFieldDescriptor d = some ty → Fld Z h' b O nm d (defaultValue ty)) → Goes p e below E T' { g with pc := g.pc + 3, stack := .ref b :: g.stack }) : Goes p e below E T g := by
  obtain ⟨T', h', X', e', E', A', D', -, st⟩ := newO X hx hZ hown w wi wz eT hg hd hc hl
  exact Goes.of st (k T' h' _ X' e' E' (Nat.le_refl _) A' D')
theorem goInitO {own : String} {idx : Nat} (W : Nat) (X : Stand p l e R s m args below meth c T locs cells slots) (hx : p.tables.exec = Jvm.exec) (hZ : Z.Warmed39 s.vm) (hown : s.vm.findClass own = some m.cls) (w1 : (Jvm.Cond.methodLink own idx Lib.objectInit).before a0 Z = true) (w2 : (Jvm.Cond.instanceMethod Lib.objectInit).before a0 Z = true)
    (w3 : (Jvm.Cond.code Lib.objectInit ⟨#[0xb1]⟩ 1 none).before a0 Z = true) (eT : T.heap = h) {g : JFrame} (hg : g.method = m) (hsize : g.locals.size = c.maxLocals) {a : Addr} {rest : List Value} (hs : g.stack = .ref a :: rest) (hd : decode c.code g.pc = .ok (.invokespecial idx, 3))
    (hf : 1 ≤ R.frames) (hW : 2 * g.monitorRoom + (rest.map fun v => v.category).sum ≤ W) (hl : W + 12 ≤ R.locals) (k : ∀ T', Stand p l e R s m args below meth c T' locs cells slots → T'.heap = h → Goes p e below E T' { g with pc := g.pc + 3, stack := rest }) : Goes p e below E T g := by
  obtain ⟨T', X', e', st⟩ := initO X hx hZ hown w1 w2 w3 eT hg hsize hs hd hf hW hl
  exact Goes.of st (k T' X' e')
theorem goGet {own R0 O n d host : String} {index : Nat} (X : Stand p l e R s m args below meth c T locs cells slots) (hx : p.tables.exec = Jvm.exec) (hZ : Z.Warmed39 s.vm) (hown : s.vm.findClass own = some m.cls) (w : (Jvm.Cond.fieldLink own index R0 n d).before a0 Z = true ∨ (Jvm.Cond.fieldLinkNest own index R0 n d host).before a0 Z = true) (via : Via Z R0 O n d)
    (eT : T.heap = h) {a : Addr} {v : Value} (F : Fld Z h a O n d v) {g : JFrame} (hg : g.method = m) {rest : List Value} (hs : g.stack = .ref a :: rest) (hd : decode c.code g.pc = .ok (.getfield index, 3))
    (k : ∀ T', Stand p l e R s m args below meth c T' locs cells slots → T'.heap = h → Goes p e below E T' { g with pc := g.pc + 3, stack := v :: rest }) : Goes p e below E T g := by
  obtain ⟨T', X', e', st⟩ := getF X hx hZ hown w via eT F hg hs hd
  exact Goes.of st (k T' X' e')
theorem goGetS {own R0 O n d host : String} {index : Nat} (X : Stand p l e R s m args below meth c T locs cells slots) (hx : p.tables.exec = Jvm.exec) (hZ : Z.Warmed39 s.vm) (hown : s.vm.findClass own = some m.cls) (w : (Jvm.Cond.fieldLink own index R0 n d).before a0 Z = true ∨ (Jvm.Cond.fieldLinkNest own index R0 n d host).before a0 Z = true) (via : Via Z R0 O n d)
    (eT : T.heap = h) {v : Value} (F : Sta Z h O n d v) {g : JFrame} (hg : g.method = m) (hd : decode c.code g.pc = .ok (.getstatic index, 3))
    (k : ∀ T', Stand p l e R s m args below meth c T' locs cells slots → T'.heap = h → Goes p e below E T' { g with pc := g.pc + 3, stack := v :: g.stack }) : Goes p e below E T g := by
  obtain ⟨T', X', e', st⟩ := getS2 X hx hZ hown w via eT F hg hd
  exact Goes.of st (k T' X' e')
theorem goPut {own R0 O n d host C : String} {index kk : Nat} {ty : FieldType} (X : Stand p l e R s m args below meth c T locs cells slots) (hx : p.tables.exec = Jvm.exec) (hZ : Z.Warmed39 s.vm) (hown : s.vm.findClass own = some m.cls) (w : (Jvm.Cond.fieldLink own index R0 n d).before a0 Z = true ∨ (Jvm.Cond.fieldLinkNest own index R0 n d host).before a0 Z = true) (via : Via Z R0 O n d)
    (eT : T.heap = h) {a : Addr} {v old : Value} (F : Fld Z h a O n d old) (Ex : Exa Z h a C) (L : (Jvm.Cond.lays C O n d).before a0 Z = true ∨ ((Jvm.Cond.laysFinal C O n d).before a0 Z = true ∧ own = O ∧ meth.name = "<init>")) (wi : (Jvm.Cond.instantiable C kk).before a0 Z = true)
    (hty : parseFieldDescriptor d = some ty) (hn : narrow ty v = v) (hf : fits ty v = true) {g : JFrame} (hg : g.method = m) {rest : List Value} (hs : g.stack = v :: .ref a :: rest) (hd : decode c.code g.pc = .ok (.putfield index, 3))
    (k : ∀ T' h', Stand p l e R s m args below meth c T' (locs ++ [⟨a, Jvm.RoadKit.slotOf Z O n d⟩]) cells slots → T'.heap = h' → Wr h h' a (Jvm.RoadKit.slotOf Z O n d) v → Goes p e below E T' { g with pc := g.pc + 3, stack := rest }) : Goes p e below E T g := by
  obtain ⟨T', h', X', e', W', st⟩ := putF X hx hZ hown w via eT F Ex L wi hty hn hf hg hs hd
  exact Goes.of st (k T' h' X' e' W')
theorem goCast {own K : String} {index : Nat} (X : Stand p l e R s m args below meth c T locs cells slots) (hx : p.tables.exec = Jvm.exec) (hZ : Z.Warmed39 s.vm) (hown : s.vm.findClass own = some m.cls) (w : (Jvm.Cond.classLink own index K).before a0 Z = true) (eT : T.heap = h) {a : Addr} (F : Ins Z h a K true)
    {g : JFrame} (hg : g.method = m) {rest : List Value} (hs : g.stack = .ref a :: rest) (hd : decode c.code g.pc = .ok (.checkcast index, 3))
    (k : ∀ T', Stand p l e R s m args below meth c T' locs cells slots → T'.heap = h → Goes p e below E T' { g with pc := g.pc + 3 }) : Goes p e below E T g := by
  obtain ⟨T', X', e', st⟩ := castY X hx hZ hown w eT F hg hs hd
  exact Goes.of st (k T' X' e')
theorem goInstY {own K : String} {index : Nat} (X : Stand p l e R s m args below meth c T locs cells slots) (hx : p.tables.exec = Jvm.exec) (hZ : Z.Warmed39 s.vm) (hown : s.vm.findClass own = some m.cls) (w : (Jvm.Cond.classLink own index K).before a0 Z = true) (eT : T.heap = h) {a : Addr} (F : Ins Z h a K true)
    {g : JFrame} (hg : g.method = m) {rest : List Value} (hs : g.stack = .ref a :: rest) (hd : decode c.code g.pc = .ok (.instanceof index, 3))
    (k : ∀ T', Stand p l e R s m args below meth c T' locs cells slots → T'.heap = h → Goes p e below E T' { g with pc := g.pc + 3, stack := .int 1 :: rest }) : Goes p e below E T g := by
  obtain ⟨T', X', e', st⟩ := instY X hx hZ hown w eT F hg hs hd
  exact Goes.of st (k T' X' e')
theorem goInstN {own K C : String} {index : Nat} (X : Stand p l e R s m args below meth c T locs cells slots) (hx : p.tables.exec = Jvm.exec) (hZ : Z.Warmed39 s.vm) (hown : s.vm.findClass own = some m.cls) (w : (Jvm.Cond.classLink own index K).before a0 Z = true) (eT : T.heap = h) {a : Addr} (Ex : Exa Z h a C) (F : ∃ c t, Z.vm.findClass C = some c ∧ Z.vm.findClass K = some t ∧ Z.vm.assignable c t = false)
    {g : JFrame} (hg : g.method = m) {rest : List Value} (hs : g.stack = .ref a :: rest) (hd : decode c.code g.pc = .ok (.instanceof index, 3))
    (k : ∀ T', Stand p l e R s m args below meth c T' locs cells slots → T'.heap = h → Goes p e below E T' { g with pc := g.pc + 3, stack := .int 0 :: rest }) : Goes p e below E T g := by
  obtain ⟨T', X', e', st⟩ := Jvm.RoadKit.instNo X hx hZ hown w eT Ex F hg hs hd
  exact Goes.of st (k T' X' e')
theorem goNewP {aty : ArrayType} (cap : Nat) (X : Stand p l e R s m args below meth c T locs cells slots) (hx : p.tables.exec = Jvm.exec) (hZ : Z.Warmed39 s.vm) (w : (Jvm.Cond.arrayClass (newarray.typeOf aty)).before a0 Z = true) (eT : T.heap = h) {g : JFrame} (hg : g.method = m) (hd : decode c.code g.pc = .ok (.newarray aty, 2)) {n : Int32} {rest : List Value} (hs : g.stack = .int n :: rest)
    (hn : ¬ n < 0) (hcap : n.toNatClampNeg ≤ cap) (hb : cap * 8 ≤ 536870912) (hc : cells + 1 ≤ R.cells) (hl : slots + cap ≤ R.slots) {ad : String} (had : "[" ++ (newarray.typeOf aty).toString = ad) 
    (k : ∀ T' h' b cA, Stand p l e R s m args below meth c T' locs (cells + 1) (slots + cap) → T'.heap = h' → Ext h h' → h.size ≤ b → Arv Z h' b cA (newarray.typeOf aty) n (List.replicate cap (defaultValue (newarray.typeOf aty))) (defaultValue (newarray.typeOf aty)) → Exa Z h' b ad → Goes p e below E T' { g with pc := g.pc + 2, stack := .ref b :: rest }) : Goes p e below E T g := by
  obtain ⟨T', h', cA, X', e', E', A', Ex', st⟩ := newPE X hx hZ w eT hg hd hs hn hcap hb hc hl had
  exact Goes.of st (k T' h' _ cA X' e' E' (Nat.le_refl _) ((Arv.new A' hn).pad (pad_rep [] _ cap)) Ex')
theorem goNewR {own C : String} {index : Nat} (cap : Nat) (X : Stand p l e R s m args below meth c T locs cells slots) (hx : p.tables.exec = Jvm.exec) (hZ : Z.Warmed39 s.vm) (hown : s.vm.findClass own = some m.cls) (w1 : (Jvm.Cond.classLink own index C).before a0 Z = true) (w2 : (Jvm.Cond.arrayOver (.object C)).before a0 Z = true) (eT : T.heap = h) {g : JFrame} (hg : g.method = m) (hd : decode c.code g.pc = .ok (.anewarray index, 3)) {n : Int32} {rest : List Value} (hs : g.stack = .int n :: rest)
    (hn : ¬ n < 0) (hcap : n.toNatClampNeg ≤ cap) (hb : cap * 8 ≤ 536870912) (hc : cells + 1 ≤ R.cells) (hl : slots + cap ≤ R.slots)
    (k : ∀ T' h' b cA, Stand p l e R s m args below meth c T' locs (cells + 1) (slots + cap) → T'.heap = h' → Ext h h' → h.size ≤ b → Arv Z h' b cA (.object C) n (List.replicate cap .null) .null → Ovr Z cA C → Goes p e below E T' { g with pc := g.pc + 3, stack := .ref b :: rest }) : Goes p e below E T g := by
  obtain ⟨T', h', cA, X', e', E', A', O', st⟩ := newR X hx hZ hown w1 w2 eT hg hd hs hn hcap hb hc hl
  exact Goes.of st (k T' h' _ cA X' e' E' (Nat.le_refl _) ((Arv.new A' hn).pad (pad_rep [] _ cap)) O')
theorem inbV {cl : Cell} {z j : Int32} (S : cl.slots.size = z.toNatClampNeg) (hj : ¬ j < 0) (hj' : j < z) : ¬ (j < 0 ∨ cl.slots.size ≤ j.toNatClampNeg) := inb_of S ⟨hj, hj'⟩
theorem goStI {a : Addr} {kc : ClassId} {z j x : Int32} {vs : List Value} {dv : Value} (i : Nat) (X : Stand p l e R s m args below meth c T locs cells slots) (hx : p.tables.exec = Jvm.exec) (hZ : Z.Warmed39 s.vm) (eT : T.heap = h) (V : Arv Z h a kc .int z vs dv) (hj : ¬ j < 0) (hj' : j < z) (hi : j.toNatClampNeg = i) (hl : i < vs.length)
    {g : JFrame} (hg : g.method = m) {rest : List Value} (hs : g.stack = .int x :: .int j :: .ref a :: rest) (hd : decode c.code g.pc = .ok (.iastore, 1))
    (k : ∀ T' h', Stand p l e R s m args below meth c T' (locs ++ [⟨a, j.toNatClampNeg⟩]) cells slots → T'.heap = h' → Wr h h' a j.toNatClampNeg (.int x) → Arv Z h' a kc .int z (vs.set i (.int x)) dv → Goes p e below E T' { g with pc := g.pc + 1, stack := rest }) : Goes p e below E T g := by
  obtain ⟨cl, A, q1, S, q3, H, G⟩ := V
  obtain ⟨T', h', X', e', W', st⟩ := stI X hx hZ eT A (inbV S hj hj') hg hs hd
  exact Goes.of st (k T' h' X' e' W' (Arv.set A q1 S q3 H G rfl W' i hi hl))
theorem goStJ {a : Addr} {kc : ClassId} {z j : Int32} {x : Int64} {vs : List Value} {dv : Value} (i : Nat) (X : Stand p l e R s m args below meth c T locs cells slots) (hx : p.tables.exec = Jvm.exec) (hZ : Z.Warmed39 s.vm) (eT : T.heap = h) (V : Arv Z h a kc .long z vs dv) (hj : ¬ j < 0) (hj' : j < z) (hi : j.toNatClampNeg = i) (hl : i < vs.length)
    {g : JFrame} (hg : g.method = m) {rest : List Value} (hs : g.stack = .long x :: .int j :: .ref a :: rest) (hd : decode c.code g.pc = .ok (.lastore, 1))
    (k : ∀ T' h', Stand p l e R s m args below meth c T' (locs ++ [⟨a, j.toNatClampNeg⟩]) cells slots → T'.heap = h' → Wr h h' a j.toNatClampNeg (.long x) → Arv Z h' a kc .long z (vs.set i (.long x)) dv → Goes p e below E T' { g with pc := g.pc + 1, stack := rest }) : Goes p e below E T g := by
  obtain ⟨cl, A, q1, S, q3, H, G⟩ := V
  obtain ⟨T', h', X', e', W', st⟩ := stJ X hx hZ eT A (inbV S hj hj') hg hs hd
  exact Goes.of st (k T' h' X' e' W' (Arv.set A q1 S q3 H G rfl W' i hi hl))
theorem goStC {a : Addr} {kc : ClassId} {z j x : Int32} {vs : List Value} {dv : Value} (i : Nat) (X : Stand p l e R s m args below meth c T locs cells slots) (hx : p.tables.exec = Jvm.exec) (hZ : Z.Warmed39 s.vm) (eT : T.heap = h) (V : Arv Z h a kc .char z vs dv) (hj : ¬ j < 0) (hj' : j < z) (hi : j.toNatClampNeg = i) (hl : i < vs.length)
    {g : JFrame} (hg : g.method = m) {rest : List Value} (hs : g.stack = .int x :: .int j :: .ref a :: rest) (hd : decode c.code g.pc = .ok (.castore, 1))
    (k : ∀ T' h', Stand p l e R s m args below meth c T' (locs ++ [⟨a, j.toNatClampNeg⟩]) cells slots → T'.heap = h' → Wr h h' a j.toNatClampNeg (.int (nar .char x)) → Arv Z h' a kc .char z (vs.set i (.int (nar .char x))) dv → Goes p e below E T' { g with pc := g.pc + 1, stack := rest }) : Goes p e below E T g := by
  obtain ⟨cl, A, q1, S, q3, H, G⟩ := V
  obtain ⟨T', h', X', e', W', st⟩ := stC X hx hZ eT A (inbV S hj hj') hg hs hd
  exact Goes.of st (k T' h' X' e' W' (Arv.set A q1 S q3 H G (fits_nar_char _) W' i hi hl))
theorem goStB {a : Addr} {kc : ClassId} {z j x : Int32} {vs : List Value} {dv : Value} (i : Nat) (X : Stand p l e R s m args below meth c T locs cells slots) (hx : p.tables.exec = Jvm.exec) (hZ : Z.Warmed39 s.vm) (eT : T.heap = h) (V : Arv Z h a kc .byte z vs dv) (hj : ¬ j < 0) (hj' : j < z) (hi : j.toNatClampNeg = i) (hl : i < vs.length)
    {g : JFrame} (hg : g.method = m) {rest : List Value} (hs : g.stack = .int x :: .int j :: .ref a :: rest) (hd : decode c.code g.pc = .ok (.bastore, 1))
    (k : ∀ T' h', Stand p l e R s m args below meth c T' (locs ++ [⟨a, j.toNatClampNeg⟩]) cells slots → T'.heap = h' → Wr h h' a j.toNatClampNeg (.int (nar .byte x)) → Arv Z h' a kc .byte z (vs.set i (.int (nar .byte x))) dv → Goes p e below E T' { g with pc := g.pc + 1, stack := rest }) : Goes p e below E T g := by
  obtain ⟨cl, A, q1, S, q3, H, G⟩ := V
  obtain ⟨T', h', X', e', W', st⟩ := stB X hx hZ eT A (inbV S hj hj') hg hs hd
  exact Goes.of st (k T' h' X' e' W' (Arv.set A q1 S q3 H G (fits_nar_byte _) W' i hi hl))
theorem goStZ {a : Addr} {kc : ClassId} {z j x : Int32} {vs : List Value} {dv : Value} (i : Nat) (X : Stand p l e R s m args below meth c T locs cells slots) (hx : p.tables.exec = Jvm.exec) (hZ : Z.Warmed39 s.vm) (eT : T.heap = h) (V : Arv Z h a kc .boolean z vs dv) (hj : ¬ j < 0) (hj' : j < z) (hi : j.toNatClampNeg = i) (hl : i < vs.length)
    {g : JFrame} (hg : g.method = m) {rest : List Value} (hs : g.stack = .int x :: .int j :: .ref a :: rest) (hd : decode c.code g.pc = .ok (.bastore, 1))
    (k : ∀ T' h', Stand p l e R s m args below meth c T' (locs ++ [⟨a, j.toNatClampNeg⟩]) cells slots → T'.heap = h' → Wr h h' a j.toNatClampNeg (.int (nar .boolean x)) → Arv Z h' a kc .boolean z (vs.set i (.int (nar .boolean x))) dv → Goes p e below E T' { g with pc := g.pc + 1, stack := rest }) : Goes p e below E T g := by
  obtain ⟨cl, A, q1, S, q3, H, G⟩ := V
  obtain ⟨T', h', X', e', W', st⟩ := stZ X hx hZ eT A (inbV S hj hj') hg hs hd
  exact Goes.of st (k T' h' X' e' W' (Arv.set A q1 S q3 H G (fits_nar_bool _) W' i hi hl))
theorem goStR {a y : Addr} {C : String} {kc : ClassId} {z j : Int32} {vs : List Value} {dv : Value} (i : Nat) (X : Stand p l e R s m args below meth c T locs cells slots) (hx : p.tables.exec = Jvm.exec) (hZ : Z.Warmed39 s.vm) (eT : T.heap = h) (V : Arv Z h a kc (.object C) z vs dv) (O : Ovr Z kc C) (I : Ins Z h y C true) (hj : ¬ j < 0) (hj' : j < z) (hi : j.toNatClampNeg = i) (hl : i < vs.length)
    {g : JFrame} (hg : g.method = m) {rest : List Value} (hs : g.stack = .ref y :: .int j :: .ref a :: rest) (hd : decode c.code g.pc = .ok (.aastore, 1))
    (k : ∀ T' h', Stand p l e R s m args below meth c T' (locs ++ [⟨a, j.toNatClampNeg⟩]) cells slots → T'.heap = h' → Wr h h' a j.toNatClampNeg (.ref y) → Arv Z h' a kc (.object C) z (vs.set i (.ref y)) dv → Goes p e below E T' { g with pc := g.pc + 1, stack := rest }) : Goes p e below E T g := by
  obtain ⟨cl, A, q1, S, q3, H, G⟩ := V
  obtain ⟨T', h', X', e', W', st⟩ := stR X hx hZ eT A (inbV S hj hj') rfl (Sto.ofV A q1 O I) hg hs hd
  exact Goes.of st (k T' h' X' e' W' (Arv.set A q1 S q3 H G rfl W' i hi hl))
theorem goLdI {a : Addr} {kc : ClassId} {z j : Int32} {vs : List Value} {dv : Value} (v : Value) (X : Stand p l e R s m args below meth c T locs cells slots) (hx : p.tables.exec = Jvm.exec) (hZ : Z.Warmed39 s.vm) (eT : T.heap = h) (V : Arv Z h a kc .int z vs dv) (hj : ¬ j < 0) (hj' : j < z) (hv : vs.getD j.toNatClampNeg dv = v)
    {g : JFrame} (hg : g.method = m) {rest : List Value} (hs : g.stack = .int j :: .ref a :: rest) (hd : decode c.code g.pc = .ok (.iaload, 1)) (k : Goes p e below E T { g with pc := g.pc + 1, stack := v :: rest }) : Goes p e below E T g := by
  obtain ⟨cl, A, q1, S, q3, H, G⟩ := V
  exact Goes.of (fun t q => X.iaload hx (by rw [eT]; exact A.1) (State.isArrayOf_alike hZ.alike A.2.1) A.2.2 (inbV S hj hj') (H.at (inbV S hj hj') hv) hg hs hd t q) k
theorem goLdJ {a : Addr} {kc : ClassId} {z j : Int32} {vs : List Value} {dv : Value} (v : Value) (X : Stand p l e R s m args below meth c T locs cells slots) (hx : p.tables.exec = Jvm.exec) (hZ : Z.Warmed39 s.vm) (eT : T.heap = h) (V : Arv Z h a kc .long z vs dv) (hj : ¬ j < 0) (hj' : j < z) (hv : vs.getD j.toNatClampNeg dv = v)
    {g : JFrame} (hg : g.method = m) {rest : List Value} (hs : g.stack = .int j :: .ref a :: rest) (hd : decode c.code g.pc = .ok (.laload, 1)) (k : Goes p e below E T { g with pc := g.pc + 1, stack := v :: rest }) : Goes p e below E T g := by
  obtain ⟨cl, A, q1, S, q3, H, G⟩ := V
  exact Goes.of (fun t q => X.laload hx (by rw [eT]; exact A.1) (State.isArrayOf_alike hZ.alike A.2.1) A.2.2 (inbV S hj hj') (H.at (inbV S hj hj') hv) hg hs hd t q) k
theorem goLdC {a : Addr} {kc : ClassId} {z j : Int32} {vs : List Value} {dv : Value} (v : Value) (X : Stand p l e R s m args below meth c T locs cells slots) (hx : p.tables.exec = Jvm.exec) (hZ : Z.Warmed39 s.vm) (eT : T.heap = h) (V : Arv Z h a kc .char z vs dv) (hj : ¬ j < 0) (hj' : j < z) (hv : vs.getD j.toNatClampNeg dv = v)
    {g : JFrame} (hg : g.method = m) {rest : List Value} (hs : g.stack = .int j :: .ref a :: rest) (hd : decode c.code g.pc = .ok (.caload, 1)) (k : Goes p e below E T { g with pc := g.pc + 1, stack := v :: rest }) : Goes p e below E T g := by
  obtain ⟨cl, A, q1, S, q3, H, G⟩ := V
  exact Goes.of (fun t q => X.caload hx (by rw [eT]; exact A.1) (State.isArrayOf_alike hZ.alike A.2.1) A.2.2 (inbV S hj hj') (H.at (inbV S hj hj') hv) hg hs hd t q) k
theorem goLdB {a : Addr} {kc : ClassId} {z j : Int32} {vs : List Value} {dv : Value} (v : Value) (X : Stand p l e R s m args below meth c T locs cells slots) (hx : p.tables.exec = Jvm.exec) (hZ : Z.Warmed39 s.vm) (eT : T.heap = h) (V : Arv Z h a kc .byte z vs dv) (hj : ¬ j < 0) (hj' : j < z) (hv : vs.getD j.toNatClampNeg dv = v)
    {g : JFrame} (hg : g.method = m) {rest : List Value} (hs : g.stack = .int j :: .ref a :: rest) (hd : decode c.code g.pc = .ok (.baload, 1)) (k : Goes p e below E T { g with pc := g.pc + 1, stack := v :: rest }) : Goes p e below E T g := by
  obtain ⟨cl, A, q1, S, q3, H, G⟩ := V
  exact Goes.of (fun t q => X.baloadBytes hx (by rw [eT]; exact A.1) (State.isArrayOf_alike hZ.alike A.2.1) A.2.2 (inbV S hj hj') (H.at (inbV S hj hj') hv) hg hs hd t q) k
theorem goLdZ {a : Addr} {kc : ClassId} {z j : Int32} {vs : List Value} {dv : Value} (v : Value) (X : Stand p l e R s m args below meth c T locs cells slots) (hx : p.tables.exec = Jvm.exec) (hZ : Z.Warmed39 s.vm) (eT : T.heap = h) (V : Arv Z h a kc .boolean z vs dv) (hj : ¬ j < 0) (hj' : j < z) (hv : vs.getD j.toNatClampNeg dv = v)
    {g : JFrame} (hg : g.method = m) {rest : List Value} (hs : g.stack = .int j :: .ref a :: rest) (hd : decode c.code g.pc = .ok (.baload, 1)) (k : Goes p e below E T { g with pc := g.pc + 1, stack := v :: rest }) : Goes p e below E T g := by
  obtain ⟨cl, A, q1, S, q3, H, G⟩ := V
  exact Goes.of (fun t q => X.baloadBooleans hx (by rw [eT]; exact A.1) (State.isArrayOf_alike hZ.alike A.2.1) A.2.2 (inbV S hj hj') (H.at (inbV S hj hj') hv) hg hs hd t q) k
theorem goLdR {a : Addr} {C : String} {kc : ClassId} {z j : Int32} {vs : List Value} {dv : Value} (v : Value) (X : Stand p l e R s m args below meth c T locs cells slots) (hx : p.tables.exec = Jvm.exec) (hZ : Z.Warmed39 s.vm) (eT : T.heap = h) (V : Arv Z h a kc (.object C) z vs dv) (hj : ¬ j < 0) (hj' : j < z) (hv : vs.getD j.toNatClampNeg dv = v)
    {g : JFrame} (hg : g.method = m) {rest : List Value} (hs : g.stack = .int j :: .ref a :: rest) (hd : decode c.code g.pc = .ok (.aaload, 1)) (k : Goes p e below E T { g with pc := g.pc + 1, stack := v :: rest }) : Goes p e below E T g := by
  obtain ⟨cl, A, q1, S, q3, H, G⟩ := V
  exact Goes.of (fun t q => X.aaload hx (by rw [eT]; exact A.1) (State.isArrayOf_alike hZ.alike A.2.1) rfl A.2.2 (inbV S hj hj') (H.at (inbV S hj hj') hv) hg hs hd t q) k
theorem goLen {a : Addr} {kc : ClassId} {ty : FieldType} {z : Int32} {vs : List Value} {dv : Value} (X : Stand p l e R s m args below meth c T locs cells slots) (hx : p.tables.exec = Jvm.exec) (hZ : Z.Warmed39 s.vm) (eT : T.heap = h) (V : Arv Z h a kc ty z vs dv)
    {g : JFrame} (hg : g.method = m) {rest : List Value} (hs : g.stack = .ref a :: rest) (hd : decode c.code g.pc = .ok (.arraylength, 1)) (k : Goes p e below E T { g with pc := g.pc + 1, stack := .int z :: rest }) : Goes p e below E T g := by
  obtain ⟨cl, A, q1, S, q3, H, G⟩ := V
  exact Goes.of (fun t q => X.arraylength hx (by rw [eT]; exact A.1) (State.isArrayOf_alike hZ.alike A.2.1) hg hs hd t (by rw [len_of S q3]; exact q)) k
/-- a start fact out of a case's word -/
theorem fld_of_eq {args : Array Value} {t u : Term} {C n d : String} {a : Addr} {v : Value} (ev : t.eval args s none [] s = some (.ref a)) (hu : u.eval args s none [] s = some v) (h : (Jvm.Cond.eq (.field t C n d) u).value args s none s [] = some true) : Fld s s.heap a C n d v := by
  refine Fld.start ?_
  simp only [Jvm.Cond.value, fld_at ev, hu] at h
  cases hf : s.fieldOf? a C n d with
  | none => simp [hf] at h
  | some x => cases x <;> cases v <;> simp [hf] at h ⊢ <;> exact h
theorem sta_at {args : Array Value} {C n d : String} {v : Value} (ev : (Term.static C n d).eval args s none [] s = some v) (w1 : (Jvm.Cond.initialized C).before args s = true) (w2 : (Jvm.Cond.laysStatic C n d).before args s = true) : Sta s s.heap C n d v := Sta.start ev (Or.inr ⟨w1, w2⟩)
/-- an enum constant: the static, the object's class, its ordinal -/
def Con (Z : State) (C f : String) (d : String) (k : Int32) (a : Addr) : Prop := Sta Z Z.heap C f d (.ref a) ∧ Exa Z Z.heap a C ∧ Fld Z Z.heap a "java/lang/Enum" "ordinal" "I" (.int k)
theorem con_of {args : Array Value} {C f d : String} {k : Int32} (h1 : (Jvm.Cond.exactly (.static C f d) C).value args s none s [] = some true) (h2 : (Jvm.Cond.eq (.field (.static C f d) "java/lang/Enum" "ordinal" "I") (.int k)).value args s none s [] = some true)
    (w1 : (Jvm.Cond.initialized C).before args s = true) (w2 : (Jvm.Cond.laysStatic C f d).before args s = true) : ∃ a, Con s C f d k a ∧ (Term.static C f d).eval args s none [] s = some (.ref a) := by
  obtain ⟨a, ev⟩ := exa_v h1
  exact ⟨a, ⟨sta_at ev w1 w2, Exa.start ev h1, fld_of_eq ev (Term.int_eval k) h2⟩, ev⟩
theorem Con.ne {C f d C' f' d' : String} {k k' : Int32} {a b : Addr} (F : Con Z C f d k a) (G : Con Z C' f' d' k' b) (q : k ≠ k') : a ≠ b := Fld.ne F.2.2 G.2.2 (fun h => q (Value.int.inj h))
theorem mask31 (x : Int32) : (x &&& (2147483647 : Int32)).toInt = x.toInt % 2147483648 := c_mask x _ 31 (by decide) (by decide)
theorem div_pos (x y : Int32) {k : Int} (hx : ¬ x < 0) (hy : y.toInt = k) (h1 : y ≠ -1) : (x / y).toInt = x.toInt / k := (c_idiv x y k hy h1).1 (by rw [Int32.lt_iff_toInt_lt] at hx; have : (0 : Int32).toInt = 0 := rfl; omega)
theorem rem_pos {x y : Int32} {k : Int} (h : 0 ≤ x.toInt) (hy : y.toInt = k) : (x - (x / y) * y).toInt = x.toInt % k := by
  rw [irem_eq_mod]; exact (c_irem x y k hy).1 h
theorem rem31 (x y : Int32) {k : Int} (hy : y.toInt = k) : ((x &&& (2147483647 : Int32)) - ((x &&& (2147483647 : Int32)) / y) * y).toInt = (x.toInt % 2147483648) % k := by
  have e := mask31 x
  rw [rem_pos (by omega) hy, e]
def Cst (Z : State) (C f : String) (d : String) (a : Addr) : Prop := Sta Z Z.heap C f d (.ref a) ∧ Exa Z Z.heap a C
theorem cst_of {args : Array Value} {C f d : String} (h1 : (Jvm.Cond.exactly (.static C f d) C).value args s none s [] = some true)
    (w1 : (Jvm.Cond.initialized C).before args s = true) (w2 : (Jvm.Cond.laysStatic C f d).before args s = true) : ∃ a, Cst s C f d a ∧ (Term.static C f d).eval args s none [] s = some (.ref a) := by
  obtain ⟨a, ev⟩ := exa_v h1
  exact ⟨a, ⟨sta_at ev w1 w2, Exa.start ev h1⟩, ev⟩
theorem goClone {own ad : String} {index : Nat} {ty : FieldType} {a : Addr} {kc : ClassId} {z : Int32} {vs : List Value} {dv : Value} (W cap : Nat) (X : Stand p l e R s m args below meth c T locs cells slots) (hx : p.tables.exec = Jvm.exec) (hZ : Z.Warmed39 s.vm) (hown : s.vm.findClass own = some m.cls)
    (w1 : (Jvm.Cond.methodLink own index ⟨ad, "clone", "()Ljava/lang/Object;"⟩).before a0 Z = true) (w2 : (Jvm.Cond.sameMethod ad "java/lang/Object" "clone" "()Ljava/lang/Object;").before a0 Z = true) (w3 : (Jvm.Cond.native ⟨"java/lang/Object", "clone", "()Ljava/lang/Object;"⟩).before a0 Z = true)
    (w4 : (Jvm.Cond.instanceMethod ⟨"java/lang/Object", "clone", "()Ljava/lang/Object;"⟩).before a0 Z = true) (w5 : (Jvm.Cond.selects ad ⟨ad, "clone", "()Ljava/lang/Object;"⟩ ⟨"java/lang/Object", "clone", "()Ljava/lang/Object;"⟩).before a0 Z = true) (w6 : (Jvm.Cond.castable ad "java/lang/Cloneable").before a0 Z = true)
    (eT : T.heap = h) (V : Arv Z h a kc ty z vs dv) (Ex : Exa Z h a ad) {g : JFrame} (hg : g.method = m) (hsize : g.locals.size = c.maxLocals) {rest : List Value} (hst : g.stack = .ref a :: rest) (hd : decode c.code g.pc = .ok (.invokevirtual index, 3))
    (hf : 1 ≤ R.frames) (hW : 2 * g.monitorRoom + (rest.map fun v => v.category).sum ≤ W) (hl : W + 14 ≤ R.locals) (hcap : z.toNatClampNeg ≤ cap) (hc : cells + 1 ≤ R.cells) (hsl : slots + cap ≤ R.slots)
    (k : ∀ T' h' b, Stand p l e R s m args below meth c T' locs (cells + 1) (slots + cap) → T'.heap = h' → Ext h h' → h.size ≤ b → Arv Z h' b kc ty z vs dv → Exa Z h' b ad → Goes p e below E T' { g with pc := g.pc + 3, stack := .ref b :: rest }) : Goes p e below E T g := by
  obtain ⟨T', h', X', e', E', A', Ex', st⟩ := cloneH X hx hZ hown w1 w2 w3 w4 w5 w6 eT V.arh Ex hg hsize hst hd hf hW hl hcap hc hsl
  exact Goes.of st (k T' h' _ X' e' E' (Nat.le_refl _) A' Ex')
theorem nsRoot {O K : String} {n : Nat} (w : (Jvm.Cond.noSuperclass O).before a0 Z = true) (wk : (Jvm.Cond.instantiable K n).before a0 Z = true) (hn : O ≠ K) : NS Z O K := by
  obtain ⟨c, k, h1, h2, h3, -, -⟩ := Cond.noSuperclass_spec w
  obtain ⟨t, kt, g1, -⟩ := Cond.instantiable_spec wk
  have ne := ids_ne h1 g1 hn
  refine ⟨c, t, h1, g1, fun fuel => ?_⟩
  cases fuel with
  | zero => rfl
  | succ f => simp [Vm.isSubclassAux, ne, h2, h3]
theorem nsNo {C S K : String} {n : Nat} (w : (Jvm.Cond.superclass C S).before a0 Z = true) (wk : (Jvm.Cond.instantiable K n).before a0 Z = true) (q : NS Z C K) (hn : C ≠ K) : ∃ c t, Z.vm.findClass C = some c ∧ Z.vm.findClass K = some t ∧ Z.vm.assignable c t = false := by
  obtain ⟨c, t, h0, g0, n3⟩ := q
  obtain ⟨p, k, kp, h1, h2, h3, h4, h5, -, h7⟩ := Cond.superclass_spec h0 w
  obtain ⟨t', kt, g1, g2, g5, g7, -⟩ := Cond.instantiable_spec wk
  cases g0.symm.trans g1
  have g8 : kt.isInterface = false := by simp only [Bool.or_eq_false_iff] at g7; exact g7.1
  have ne := ids_ne h0 g0 hn
  refine ⟨c, t, h0, g0, ?_⟩
  show Z.vm.assignableAux (255 + 1) c t = false
  simp [Vm.assignableAux, ne, h2, g2, h5, g5, g8, Vm.isSubclass, n3]
/-- what is known of Integer's cache at the start -/
def IntC (Z : State) (ca : Addr) (cl : Cell) : Prop := Sta Z Z.heap "java/lang/Integer$IntegerCache" "high" "I" (.int 127) ∧ Sta Z Z.heap "java/lang/Integer$IntegerCache" "cache" "[Ljava/lang/Integer;" (.ref ca) ∧ Arr Z Z.heap ca cl (.object "java/lang/Integer") ∧ cl.slots.size = 256 ∧ ∀ j, j < 256 → ∃ b, cl.slots[j]? = some (.ref b) ∧ Exa Z Z.heap b "java/lang/Integer"
theorem ne_of_not {args : Array Value} {t : Term} {x : Int32} (ev : t.eval args s none [] s = some (.int x)) (h : (Jvm.Cond.not (.eq t (.int 0))).before args s = true) : ¬ x = 0 := by
  intro q
  subst q
  have e := Cond.before_iff.mp h
  simp [Jvm.Cond.value, ev, Term.eval] at e
end Own1
end Jvm.Own
namespace Jvm.Own
open Jvm Sem ClassFile Op Lib Jvm.Stand Jvm.Free Jvm.LawKit Jvm.RoadKit
/-- the end of a walk that may have interned -/
def EndW (Z s : State) (EL : List (String × Nat)) (Q : Option Value → Heap → List Loc → Prop) (K N : Nat) (o : Outcome) (U : State) : Prop :=
  ∃ v L, o = .returned v ∧ Q v U.heap L ∧ CHr Z EL s.vm s.heap U.vm U.heap ∧ ReturnedEndW s o U L K N
/-- the contract of a body that may intern, the read constants held -/
def RmH (l : Launch) (y : MethodName) (bytes : ByteArray) (maxL : Nat) (ret : Option FieldType) (rm : Room) (ws : List Jvm.Cond) (Z : State) (EL : List (String × Nat)) (as' : Array Value) (h : Heap) (Q : Option Value → Heap → List Loc → Prop) : Prop :=
  MetFree l y (head1 (Jvm.Cond.code y bytes maxL ret :: ws) rm) (fun a U => a = as' ∧ Z.Warmed39 U.vm ∧ U.heap = h ∧ CHv Z EL U.vm h) (fun _ _ _ _ _ => True) (fun _ U o U' => ∃ v L, o = .returned v ∧ Q v U'.heap L ∧ CHr Z EL U.vm U.heap U'.vm U'.heap ∧ ReturnedEndW U o U' L rm.cells rm.slots)
section Own2
variable {p : Program} {l : Launch} {e : Env} {R : Room} {s : State} {m : MethodId} {args : Array Value} {below : List Frame} {meth : Method} {c : Code} {T : State} {locs : List Loc} {cells slots : Nat} {Z : State} {a0 : Array Value} {h : Heap} {E : Outcome → State → Prop} {vm0 : Vm} {k0 : Nat} {EL : List (String × Nat)} {v00 : Vm} {h00 : Heap}
theorem RmH.of {ws : List Jvm.Cond} {y : MethodName} {bytes : ByteArray} {maxL : Nat} {ret : Option FieldType} {rm : Room} {as' : Array Value} {h : Heap} {Q : Option Value → Heap → List Loc → Prop} (hp : plainFor y = true)
    (body : ∀ (p : Program) (e : Env) (s : State) (m : MethodId) (below : List Frame) (meth : Method) (c : Code) (T : State), Stand p l e rm (s.setVm s.vm) m as' below meth c T [] 0 0 → p.tables.exec = Jvm.exec → Z.Warmed39 s.vm → c.code = bytes → c.maxLocals = maxL → s.vm.findClass y.cls = some m.cls → meth.name = y.name → meth.sig.returnType = ret → meth.locks = false → T.heap = h → s.Since s.vm 0 → 0 ≤ h.size → CHr Z EL s.vm s.heap s.vm h →
      Goes p e below (EndW Z s EL Q rm.cells rm.slots) T (entryFrame m as' maxL)) : RmH l y bytes maxL ret rm ws Z EL as' h Q := by
  refine MetFree.of_bodySF hp hisR ?_
  intro p e s m args below meth c s₁ Bd hml0 hP hK
  obtain ⟨rfl, hZ, hh, hC⟩ := hP
  exact body p e s m below meth c s₁ (Stand.of_body Bd) Bd.exec hZ Bd.bytes hml0 (findClass_of_methodNamed Bd.named) (name_of_methodNamed Bd.named Bd.method).1 Bd.returns Bd.notSynchronized (by rw [← hh, Bd.state]; rfl) ((State.WarmedH.refl s).since 0) (Nat.zero_le _) (by rw [hh]; exact CHr.refl hC)
theorem goRetW {Q : Option Value → Heap → List Loc → Prop} {K N : Nat} {g : JFrame} {v : Option Value} (X : Stand p l e R (s.setVm vm0) m args below meth c T locs cells slots) (hS : s.Since vm0 k0) (hk : k0 ≤ h.size) (hZ : Z.Warmed39 vm0) (hEL : EW Z a0 EL) (H : CHr Z EL s.vm s.heap vm0 h) (hv : meth.sig.returnType = none → v = none) (hlocks : meth.locks = false) (eT : T.heap = h) (hQ : Q v h locs) (hK : cells ≤ K) (hN : slots ≤ N)
    (st : ∀ fs, (∀ (f : JFrame) (acts : List Action), f.method = m → f.locked = none → f.entered = [] → (doReturn e (T.setTop f) acts v).1 = T.setFrames fs) → Steps p.tables e below (T.setTop g) (T.setFrames fs)) : Goes p e below (EndW Z s EL Q K N) T g := by
  obtain ⟨fs, hr, hrun, hended, hW⟩ := X.leaveW hS (by rw [eT]; exact hk) (v := v) hv hlocks
  subst eT
  have hH := H.trans (CHv.at X hZ hEL H.1)
  exact ⟨_, _, st fs hr, hrun, hended, _, _, rfl, hQ, hH, hW.1, hW.2.1, hW.2.2.1, hW.2.2.2.mono hK hN⟩
theorem retZW {Q : Option Value → Heap → List Loc → Prop} {K N pc : Nat} {Ls : Array Slot} {z : Int32} {t : FieldType} {rest : List Value} (X : Stand p l e R (s.setVm vm0) m args below meth c T locs cells slots) (hS : s.Since vm0 k0) (hk : k0 ≤ h.size) (hZ : Z.Warmed39 vm0) (hEL : EW Z a0 EL) (H : CHr Z EL s.vm s.heap vm0 h) (hx : p.tables.exec = Jvm.exec) (hret : meth.sig.returnType = some t) (hlocks : meth.locks = false) (ht : t = .boolean ∨ t = .byte ∨ t = .char ∨ t = .short)
    (hd : decode c.code pc = .ok (.ireturn, 1)) (eT : T.heap = h) (hK : cells ≤ K) (hN : slots ≤ N) (hQ : Q (some (.int (nar t z))) h locs) : Goes p e below (EndW Z s EL Q K N) T (mkF m pc Ls (.int z :: rest)) :=
  goRetW X hS hk hZ hEL H (fun q => by rw [hret] at q; cases q) hlocks eT hQ hK hN fun fs hr => retN X hx hret ht hd hr
theorem retRefW {Q : Option Value → Heap → List Loc → Prop} {K N pc : Nat} {Ls : Array Slot} {z : Value} {t : FieldType} {rest : List Value} (X : Stand p l e R (s.setVm vm0) m args below meth c T locs cells slots) (hS : s.Since vm0 k0) (hk : k0 ≤ h.size) (hZ : Z.Warmed39 vm0) (hEL : EW Z a0 EL) (H : CHr Z EL s.vm s.heap vm0 h) (hx : p.tables.exec = Jvm.exec) (hret : meth.sig.returnType = some t) (hlocks : meth.locks = false) (ht : t.isReference = true) (hz : z.isRef = true)
    (hd : decode c.code pc = .ok (.areturn, 1)) (eT : T.heap = h) (hK : cells ≤ K) (hN : slots ≤ N) (hQ : Q (some z) h locs) : Goes p e below (EndW Z s EL Q K N) T (mkF m pc Ls (z :: rest)) :=
  goRetW X hS hk hZ hEL H (fun q => by rw [hret] at q; cases q) hlocks eT hQ hK hN fun fs hr => by
    have hm' : T.vm.method? m = some meth := X.method'
    show Steps p.tables e below (T.setTop { method := m, pc := pc, locals := Ls, stack := _ :: rest, locked := none }) _
    rcases ref_cases hz with rfl | ⟨_, rfl⟩
    all_goals
      jvm_step X.here [X.here.top, hx, hd, hm', hret, ht, Value.isRef]
      first | (intro acts; rw [hr _ acts rfl rfl rfl]) | rw [hr _ _ rfl rfl rfl]
      exact Steps.refl _
theorem retIntW {Q : Option Value → Heap → List Loc → Prop} {K N pc : Nat} {Ls : Array Slot} {z : Int32} {rest : List Value} (X : Stand p l e R (s.setVm vm0) m args below meth c T locs cells slots) (hS : s.Since vm0 k0) (hk : k0 ≤ h.size) (hZ : Z.Warmed39 vm0) (hEL : EW Z a0 EL) (H : CHr Z EL s.vm s.heap vm0 h) (hx : p.tables.exec = Jvm.exec) (hret : meth.sig.returnType = some .int) (hlocks : meth.locks = false)
    (hd : decode c.code pc = .ok (.ireturn, 1)) (eT : T.heap = h) (hK : cells ≤ K) (hN : slots ≤ N) (hQ : Q (some (.int z)) h locs) : Goes p e below (EndW Z s EL Q K N) T (mkF m pc Ls (.int z :: rest)) :=
  goRetW X hS hk hZ hEL H (fun q => by rw [hret] at q; cases q) hlocks eT hQ hK hN fun fs hr => by
    have hm' : T.vm.method? m = some meth := X.method'
    have hn : narrow .int (.int z) = .int z := rfl
    show Steps p.tables e below (T.setTop { method := m, pc := pc, locals := Ls, stack := _ :: rest, locked := none }) _
    jvm_step X.here [X.here.top, hx, hd, hm', hret, hn]
    first | (intro acts; rw [hr _ acts rfl rfl rfl]) | rw [hr _ _ rfl rfl rfl]
    exact Steps.refl _
theorem retVoidW {Q : Option Value → Heap → List Loc → Prop} {K N pc : Nat} {Ls : Array Slot} {rest : List Value} (X : Stand p l e R (s.setVm vm0) m args below meth c T locs cells slots) (hS : s.Since vm0 k0) (hk : k0 ≤ h.size) (hZ : Z.Warmed39 vm0) (hEL : EW Z a0 EL) (H : CHr Z EL s.vm s.heap vm0 h) (hx : p.tables.exec = Jvm.exec) (hret : meth.sig.returnType = none) (hlocks : meth.locks = false)
    (hd : decode c.code pc = .ok (.return_, 1)) (eT : T.heap = h) (hK : cells ≤ K) (hN : slots ≤ N) (hQ : Q none h locs) : Goes p e below (EndW Z s EL Q K N) T (mkF m pc Ls rest) :=
  goRetW X hS hk hZ hEL H (fun _ => rfl) hlocks eT hQ hK hN fun fs hr => by
    have hm' : T.vm.method? m = some meth := X.method'
    show Steps p.tables e below (T.setTop { method := m, pc := pc, locals := Ls, stack := rest, locked := none }) _
    jvm_step X.here [X.here.top, hx, hd, hm', hret]
    first | (intro acts; rw [hr _ acts rfl rfl rfl]) | rw [hr _ _ rfl rfl rfl]
    exact Steps.refl _
theorem goStaticW {own : String} {index : Nat} {y : MethodName} {bytes : ByteArray} {maxL : Nat} {ret : Option FieldType} {rm : Room} {as' : Array Value} {Q : Option Value → Heap → List Loc → Prop} (W : Nat)
    (X : Stand p l e R (s.setVm vm0) m args below meth c T locs cells slots) (hS : s.Since vm0 k0) (hk : k0 ≤ h.size) (hEL : EW Z a0 EL) (H : CHr Z EL v00 h00 vm0 h) (hx : p.tables.exec = Jvm.exec) (hZ : Z.Warmed39 vm0) (hown : vm0.findClass own = some m.cls) (w1 : (Jvm.Cond.methodLink own index y).before a0 Z = true) (w2 : (Jvm.Cond.static y).before a0 Z = true) (w3 : (Jvm.Cond.initialized y.cls).before a0 Z = true) (w4 : (Jvm.Cond.code y bytes maxL ret).before a0 Z = true)
    (hy : y.cls ≠ "java/lang/invoke/MethodHandle" ∧ y.cls ≠ "java/lang/invoke/VarHandle") (r : RmH l y bytes maxL ret rm [] Z EL as' h Q) (eT : T.heap = h) {g : JFrame} (hg : g.method = m) (hsize : g.locals.size = c.maxLocals) (argsL rest : List Value) (hlen : ∀ sig, parseMethodDescriptor y.desc = some sig → argsL.length = sig.parameters.length)
    (hstack : g.stack = argsL.reverse ++ rest) (has : argsL.toArray = as') (hW : 2 * g.monitorRoom + (rest.map fun v => v.category).sum ≤ W) (hd : decode c.code g.pc = .ok (.invokestatic index, 3)) (hf : rm.frames + 1 ≤ R.frames) (hl : W + (maxL + 11) + rm.locals ≤ R.locals) (hc : cells + rm.cells ≤ R.cells) (hs : slots + rm.slots ≤ R.slots)
    (k : ∀ v T' L k1, Stand p l e R (s.setVm T'.vm) m args below meth c T' (locs ++ L) (cells + rm.cells) (slots + rm.slots) → s.Since T'.vm k1 → k1 ≤ T'.heap.size → Z.Warmed39 T'.vm → T'.vm.findClass own = some m.cls → CHr Z EL v00 h00 T'.vm T'.heap → Q v T'.heap L → Goes p e below E T' { g with pc := g.pc + 3, stack := v.toList ++ rest }) : Goes p e below E T g := by
  obtain ⟨v, vm₁, ⟨T', L', k', n'⟩, -, X', hS', hgr, ⟨L, hQ, q1, q2, q3, hC⟩, st⟩ := callSS X hx (y := y) hown (mvT (s := s.setVm vm0) hZ w1) (mvT (s := s.setVm vm0) hZ w2) (mvT (s := s.setVm vm0) hZ w3) (mvT (s := s.setVm vm0) hZ w4) hy (backOfSH (W := W) r hZ w4 w3 hf hl hEL H.1) hg hsize hlen hstack hW hd (fun _ _ => ⟨has, eT, hc, hs⟩)
  dsimp only [Pt.U, Pt.locs, Pt.cells, Pt.slots] at X' q1 q2 q3 st hQ hS' hgr hC
  subst q1 q2 q3
  exact Goes.of (fun _ => st.trans) (k v T' L _ X' (hS.trans hS' (Nat.le_trans hk (eT ▸ hgr))) (Nat.le_refl _) (State.Warmed39.trans (t := s.setVm vm0) hZ hS'.1) (by rw [hS'.1.alike.findClass]; exact hown) (H.trans hC) hQ)
theorem goSpecialW {own : String} {index : Nat} {y : MethodName} {bytes : ByteArray} {maxL : Nat} {rm : Room} {as' : Array Value} {Q : Option Value → Heap → List Loc → Prop} (W : Nat)
    (X : Stand p l e R (s.setVm vm0) m args below meth c T locs cells slots) (hS : s.Since vm0 k0) (hk : k0 ≤ h.size) (hEL : EW Z a0 EL) (H : CHr Z EL v00 h00 vm0 h) (hx : p.tables.exec = Jvm.exec) (hZ : Z.Warmed39 vm0) (hy1 : y.name = "<init>") (hown : vm0.findClass own = some m.cls) (w1 : (Jvm.Cond.methodLink own index y).before a0 Z = true) (w2 : (Jvm.Cond.instanceMethod y).before a0 Z = true) (w3 : (Jvm.Cond.initialized y.cls).before a0 Z = true) (w4 : (Jvm.Cond.code y bytes maxL none).before a0 Z = true)
    (hy : y.cls ≠ "java/lang/invoke/MethodHandle" ∧ y.cls ≠ "java/lang/invoke/VarHandle") (r : RmH l y bytes maxL none rm [] Z EL as' h Q) (eT : T.heap = h) {g : JFrame} (hg : g.method = m) (hsize : g.locals.size = c.maxLocals) (a : Addr) (argsL rest : List Value) (hlen : ∀ sig, parseMethodDescriptor y.desc = some sig → argsL.length = sig.parameters.length)
    (hstack : g.stack = argsL.reverse ++ .ref a :: rest) (has : (.ref a :: argsL).toArray = as') (hW : 2 * g.monitorRoom + (rest.map fun v => v.category).sum ≤ W) (hd : decode c.code g.pc = .ok (.invokespecial index, 3)) (hf : rm.frames + 1 ≤ R.frames) (hl : W + (maxL + 11) + rm.locals ≤ R.locals) (hc : cells + rm.cells ≤ R.cells) (hs : slots + rm.slots ≤ R.slots)
    (k : ∀ v T' L k1, Stand p l e R (s.setVm T'.vm) m args below meth c T' (locs ++ L) (cells + rm.cells) (slots + rm.slots) → s.Since T'.vm k1 → k1 ≤ T'.heap.size → Z.Warmed39 T'.vm → T'.vm.findClass own = some m.cls → CHr Z EL v00 h00 T'.vm T'.heap → Q v T'.heap L → Goes p e below E T' { g with pc := g.pc + 3, stack := v.toList ++ rest }) : Goes p e below E T g := by
  obtain ⟨v, vm₁, ⟨T', L', k', n'⟩, -, X', hS', hgr, ⟨L, hQ, q1, q2, q3, hC⟩, st⟩ := X.specialBackS hx (y := y) hy1 hown (mvT (s := s.setVm vm0) hZ w1) (mvT (s := s.setVm vm0) hZ w2) (mvT (s := s.setVm vm0) hZ w4) hy (backOfSH (W := W) r hZ w4 w3 hf hl hEL H.1) hg hsize (Steps.refl _) (a := a) hlen hstack hW hd (fun _ _ => ⟨has, eT, hc, hs⟩)
  dsimp only [Pt.U, Pt.locs, Pt.cells, Pt.slots] at X' q1 q2 q3 st hQ hS' hgr hC
  subst q1 q2 q3
  exact Goes.of (fun _ => st.trans) (k v T' L _ X' (hS.trans hS' (Nat.le_trans hk (eT ▸ hgr))) (Nat.le_refl _) (State.Warmed39.trans (t := s.setVm vm0) hZ hS'.1) (by rw [hS'.1.alike.findClass]; exact hown) (H.trans hC) hQ)
theorem goVirtualW {own C : String} {index : Nat} {y z : MethodName} {bytes : ByteArray} {maxL : Nat} {ret : Option FieldType} {rm : Room} {as' : Array Value} {Q : Option Value → Heap → List Loc → Prop} (W : Nat)
    (X : Stand p l e R (s.setVm vm0) m args below meth c T locs cells slots) (hS : s.Since vm0 k0) (hk : k0 ≤ h.size) (hEL : EW Z a0 EL) (H : CHr Z EL v00 h00 vm0 h) (hx : p.tables.exec = Jvm.exec) (hZ : Z.Warmed39 vm0) (hown : vm0.findClass own = some m.cls) (w1 : (Jvm.Cond.methodLink own index y).before a0 Z = true) (w2 : (Jvm.Cond.declares y).before a0 Z = true) (hnf : NotFace (s.setVm vm0) y) (w3 : (Jvm.Cond.selects C y z).before a0 Z = true) (w4 : (Jvm.Cond.instanceMethod z).before a0 Z = true) (w5 : (Jvm.Cond.initialized z.cls).before a0 Z = true) (w6 : (Jvm.Cond.code z bytes maxL ret).before a0 Z = true)
    (hy : y.cls ≠ "java/lang/invoke/MethodHandle" ∧ y.cls ≠ "java/lang/invoke/VarHandle") (r : RmH l z bytes maxL ret rm [] Z EL as' h Q) (eT : T.heap = h) {a : Addr} (F : Exa Z h a C) {g : JFrame} (hg : g.method = m) (hsize : g.locals.size = c.maxLocals) (argsL rest : List Value) (hlen : ∀ sig, parseMethodDescriptor y.desc = some sig → argsL.length = sig.parameters.length)
    (hstack : g.stack = argsL.reverse ++ .ref a :: rest) (has : (.ref a :: argsL).toArray = as') (hW : 2 * g.monitorRoom + (rest.map fun v => v.category).sum ≤ W) (hd : decode c.code g.pc = .ok (.invokevirtual index, 3)) (hf : rm.frames + 1 ≤ R.frames) (hl : W + (maxL + 11) + rm.locals ≤ R.locals) (hc : cells + rm.cells ≤ R.cells) (hs : slots + rm.slots ≤ R.slots)
    (k : ∀ v T' L k1, Stand p l e R (s.setVm T'.vm) m args below meth c T' (locs ++ L) (cells + rm.cells) (slots + rm.slots) → s.Since T'.vm k1 → k1 ≤ T'.heap.size → Z.Warmed39 T'.vm → T'.vm.findClass own = some m.cls → CHr Z EL v00 h00 T'.vm T'.heap → Q v T'.heap L → Goes p e below E T' { g with pc := g.pc + 3, stack := v.toList ++ rest }) : Goes p e below E T g := by
  obtain ⟨cq, kq, qa, qb, qc⟩ := isOf (s := s.setVm vm0) hZ eT F
  obtain ⟨v, vm₁, ⟨T', L', k', n'⟩, -, X', hS', hgr, ⟨L, hQ, q1, q2, q3, hC⟩, st⟩ := X.virtualBackS hx (y := y) (z := z) hown (mvT (s := s.setVm vm0) hZ w1) (mvT (s := s.setVm vm0) hZ w2) hnf (mvT (s := s.setVm vm0) hZ w3) (mvT (s := s.setVm vm0) hZ w4) hy (backOfSH (W := W) r hZ w6 w5 hf hl hEL H.1) qa qc hg hsize (Steps.refl _) hlen hstack hW hd (fun _ _ => ⟨has, eT, hc, hs⟩)
  dsimp only [Pt.U, Pt.locs, Pt.cells, Pt.slots] at X' q1 q2 q3 st hQ hS' hgr hC
  subst q1 q2 q3
  exact Goes.of (fun _ => st.trans) (k v T' L _ X' (hS.trans hS' (Nat.le_trans hk (eT ▸ hgr))) (Nat.le_refl _) (State.Warmed39.trans (t := s.setVm vm0) hZ hS'.1) (by rw [hS'.1.alike.findClass]; exact hown) (H.trans hC) hQ)
/-- a literal, its text not read -/
theorem goLdcO {own text : String} {index : Nat} (n : Nat) (X : Stand p l e R (s.setVm vm0) m args below meth c T locs cells slots) (hS : s.Since vm0 k0) (hk : k0 ≤ h.size) (hEL : EW Z a0 EL) (H : CHr Z EL v00 h00 vm0 h) (hx : p.tables.exec = Jvm.exec) (hZ : Z.Warmed39 vm0) (hown : vm0.findClass own = some m.cls) (w : (Jvm.Cond.stringLink own index text).before a0 Z = true) (wS : ∀ a ∈ Bundle.stringAtoms, a.before a0 Z = true) (eT : T.heap = h)
    {g : JFrame} (hg : g.method = m) (hd : decode c.code g.pc = .ok (.ldc index, 2)) (hn : 4 * text.toList.length ≤ n) (hbig : n ≤ 536870912) (hc : cells + 2 ≤ R.cells) (hl : slots + (n + 4) ≤ R.slots)
    (k : ∀ a T' h' k1, Stand p l e R (s.setVm T'.vm) m args below meth c T' locs (cells + 2) (slots + (n + 4)) → T'.heap = h' → Ext h h' → s.Since T'.vm k1 → k1 ≤ h'.size → Z.Warmed39 T'.vm → T'.vm.findClass own = some m.cls → CHr Z EL v00 h00 T'.vm h' → Goes p e below E T' { g with pc := g.pc + 2, stack := .ref a :: g.stack }) : Goes p e below E T g := by
  obtain ⟨a, T', h', k1, X', e', E', hS', hk', hZ', hown', hC, -, st⟩ := ldcOH X hx hZ hown w wS eT hS hk hEL H.1 hg hd hn hbig hc hl
  exact Goes.of st (k a T' h' k1 X' e' E' hS' hk' hZ' hown' (H.trans hC))
/-- a literal whose text is read -/
theorem goLdcC {own text : String} {index : Nat} {vs : List Value} {z : Int32} (n : Nat) (X : Stand p l e R (s.setVm vm0) m args below meth c T locs cells slots) (hS : s.Since vm0 k0) (hk : k0 ≤ h.size) (hEL : EW Z a0 EL) (hmem : (own, index) ∈ EL) (H : CHr Z EL v00 h00 vm0 h) (hx : p.tables.exec = Jvm.exec) (hZ : Z.Warmed39 vm0) (hown : vm0.findClass own = some m.cls) (w : (Jvm.Cond.stringLink own index text).before a0 Z = true) (wS : ∀ a ∈ Bundle.stringAtoms, a.before a0 Z = true) (eT : T.heap = h)
    (ht : (∀ c ∈ text.toList, c.toNat < 256) ∧ text.toList.map (fun c => Value.int (Jvm.Lit.byteI c.toNat.toUInt16)) = vs) (hz : ¬ z < 0) (hzl : z.toNatClampNeg = vs.length)
    {g : JFrame} (hg : g.method = m) (hd : decode c.code g.pc = .ok (.ldc index, 2)) (hn : 4 * text.toList.length ≤ n) (hbig : n ≤ 536870912) (hc : cells + 2 ≤ R.cells) (hl : slots + (n + 4) ≤ R.slots)
    (k : ∀ a T' h' k1 b kb, Stand p l e R (s.setVm T'.vm) m args below meth c T' locs (cells + 2) (slots + (n + 4)) → T'.heap = h' → Ext h h' → s.Since T'.vm k1 → k1 ≤ h'.size → Z.Warmed39 T'.vm → T'.vm.findClass own = some m.cls → CHr Z EL v00 h00 T'.vm h' → CHr Z EL vm0 h T'.vm h' → Exa Z h' a "java/lang/String" → Fld Z h' a "java/lang/String" "coder" "B" (.int 0) → Fld Z h' a "java/lang/String" "value" "[B" (.ref b) → Arv Z h' b kb .byte z vs (.int 0) → (∀ x, Safe Z EL T'.vm h' x → x ≠ a ∧ x ≠ b) → Goes p e below E T' { g with pc := g.pc + 2, stack := .ref a :: g.stack }) : Goes p e below E T g := by
  obtain ⟨a, T', h', k1, b, kb, X', e', E', hS', hk', hZ', hown', F1, F2, F3, F4, -, -, hC, -, hs, st⟩ := ldcCH X hx hZ hown w wS eT hS hk hEL hmem H.1 ht hz hzl hg hd hn hbig hc hl
  exact Goes.of st (k a T' h' k1 b kb X' e' E' hS' hk' hZ' hown' (H.trans hC) hC F1 F2 F3 F4 hs)
/-- a String whose value is null is no constant's -/
theorem safeNull {vm : Vm} {x : Addr} (hal : Z.vm.Alike vm) (Ex : Exa Z h x "java/lang/String") (F : Fld Z h x "java/lang/String" "value" "[B" .null) : Safe Z EL vm h x := fun B => by
  obtain ⟨q0, -, u, b, -, q, -, G, rfl | rfl⟩ := B
  · obtain ⟨cell, cf, k, i, f, h1, h2, -, -, -, -, h7⟩ := F
    cases (show h[q.sa]? = some q.sC from G.ha).symm.trans h1
    obtain ⟨cS, ⟨⟨-, -, -, ⟨c1, k1, i1, f1, -⟩, -, -, -, v1, -⟩, -⟩, -⟩ := G
    obtain ⟨k3, e3, -⟩ := State.fieldFound?_setVm (s := ({ Z with heap := h } : State)) hal h2
    have e4 := e3.symm.trans f1
    simp only [Option.some.injEq, Prod.mk.injEq] at e4
    rw [e4.2.2.2, v1] at h7
    cases h7
  · obtain ⟨cell, k, e1, e2, e3, -, -⟩ := Ex
    cases (show h[q.sd]? = some q.SA from G.hd).symm.trans e1
    obtain ⟨cS, -, -, f, -⟩ := G
    rw [show (Wst Z vm h).vm.findClass "[B" = vm.findClass "[B" from rfl, hal.findClass] at f
    obtain ⟨k1, q1, q2⟩ := Vm.findClass_spec f
    obtain ⟨k2, q3, q4⟩ := Vm.findClass_spec e2
    cases q1.symm.trans q3
    exact absurd (q2.symm.trans q4) (by decide)
end Own2
end Jvm.Own
/- laws to paste: Road.backV, Road.eqW, Road.codOf (cut by pick.py; bodies as the Statement names them) -/
namespace Jvm.Pilot.@@N@@
namespace StrChars
open Jvm Sem ClassFile Op Lib Jvm.Stand Jvm.Free.XT Jvm.Free.ALB Jvm.Free.JM Jvm.Free
open Jvm.Lib.Cold (StaticIs)
/-- a char array whose places are chars -/
def Ch (a : Addr) (A : Cell) (U : State) : Prop := Arr .char a A U ∧ Typed .char A
theorem Ch.mv {a : Addr} {A : Cell} {U U' : State} (h : Ch a A U) (hal : U.vm.Alike U'.vm) (hh : U'.heap = U.heap) : Ch a A U' := ⟨h.1.mv hal hh, h.2⟩
theorem Ch.keep {a : Addr} {A : Cell} {U U' : State} (h : Ch a A U) (hal : U.vm.Alike U'.vm) (hk : U'.heap[a]? = some A) : Ch a A U' := ⟨h.1.keep hal hk, h.2⟩
/-- what place i of a char[]'s cell holds -/
def cv (A : Cell) (i : Nat) : Int32 := match A.slots[i]? with | some (.int x) => x | _ => 0
theorem Ch.get {a : Addr} {A : Cell} {U : State} (h : Ch a A U) {i : Nat} (hi : i < A.slots.size) : A.slots[i]? = some (.int (cv A i)) := by
  have e := Array.getElem?_eq_getElem hi
  have f := h.2 i _ e
  unfold cv; rw [e]
  generalize A.slots[i] = v at f
  cases v <;> simp [fits] at f ⊢
/-- the byte that i2b leaves of a char -/
def lo8 (x : Int32) : Int32 := x.toInt8.toInt32
theorem fits_lo8 (y : Int32) : fits .byte (.int (lo8 y)) = true := by
  have h1 := y.toInt8.le_toInt
  have h2 := y.toInt8.toInt_lt
  simp only [lo8, fits, Bool.and_eq_true, decide_eq_true_eq, Int32.le_iff_toInt_le, Int8.toInt_toInt32, show (-128 : Int32).toInt = -128 from by decide, show (127 : Int32).toInt = 127 from by decide]
  omega
/-- A' is A but that each place j of lo .. hi - 1 holds f j -/
def Laid (A A' : Cell) (lo hi : Nat) (f : Nat → Value) : Prop := A'.cls = A.cls ∧ A'.vm = A.vm ∧ A'.slots.size = A.slots.size ∧ ∀ i, A'.slots[i]? = if lo ≤ i ∧ i < hi then some (f i) else A.slots[i]?
theorem Laid.zero (A : Cell) (lo : Nat) (f : Nat → Value) : Laid A A lo (lo + 0) f := ⟨rfl, rfl, rfl, fun i => by rw [if_neg (by omega)]⟩
theorem Laid.step {A Ak : Cell} {lo k : Nat} {f : Nat → Value} {v : Value} (h : Laid A Ak lo k f) (hlo : lo ≤ k) (hk : k < Ak.slots.size) (hv : v = f k) : Laid A (Ak.setSlot k v) lo (k + 1) f := by
  refine ⟨h.1, h.2.1, by simpa [Cell.setSlot] using h.2.2.1, fun i => ?_⟩
  by_cases e : k = i
  · subst e; rw [Cell.slots_setSlot_self v hk, if_pos (by omega), hv]
  · rw [Cell.slots_setSlot_ne v e, h.2.2.2 i]
    by_cases q : lo ≤ i ∧ i < k
    · rw [if_pos q, if_pos (by omega)]
    · rw [if_neg q, if_neg (by omega)]
def U16 : String := "java/lang/StringUTF16"
namespace Cmp5
def yN : MethodName := ⟨"java/lang/StringUTF16", "compress", "([CI[BII)I"⟩
abbrev yB : ByteArray := jdk_52_method_21_code
theorem d0 : decode yB 0 = .ok (.iconst 0, 1) := by decide +kernel
theorem d1 : decode yB 1 = .ok (.istore 5, 2) := by decide +kernel
theorem d3 : decode yB 3 = .ok (.iload 5, 2) := by decide +kernel
theorem d5 : decode yB 5 = .ok (.iload 4, 2) := by decide +kernel
theorem d7 : decode yB 7 = .ok (.if_icmp (.ge) 37, 3) := by decide +kernel
theorem d10 : decode yB 10 = .ok (.aload_n 0, 1) := by decide +kernel
theorem d11 : decode yB 11 = .ok (.iload_n 1, 1) := by decide +kernel
theorem d12 : decode yB 12 = .ok (.caload, 1) := by decide +kernel
theorem d13 : decode yB 13 = .ok (.istore 6, 2) := by decide +kernel
theorem d15 : decode yB 15 = .ok (.iload 6, 2) := by decide +kernel
theorem d17 : decode yB 17 = .ok (.sipush 255, 3) := by decide +kernel
theorem d20 : decode yB 20 = .ok (.if_icmp (.le) 6, 3) := by decide +kernel
theorem d26 : decode yB 26 = .ok (.aload_n 2, 1) := by decide +kernel
theorem d27 : decode yB 27 = .ok (.iload_n 3, 1) := by decide +kernel
theorem d28 : decode yB 28 = .ok (.iload 6, 2) := by decide +kernel
theorem d30 : decode yB 30 = .ok (.i2b, 1) := by decide +kernel
theorem d31 : decode yB 31 = .ok (.bastore, 1) := by decide +kernel
theorem d32 : decode yB 32 = .ok (.iinc 1 1, 3) := by decide +kernel
theorem d35 : decode yB 35 = .ok (.iinc 3 1, 3) := by decide +kernel
theorem d38 : decode yB 38 = .ok (.iinc 5 1, 3) := by decide +kernel
theorem d41 : decode yB 41 = .ok (.goto (-38), 3) := by decide +kernel
theorem d44 : decode yB 44 = .ok (.iload 4, 2) := by decide +kernel
theorem d46 : decode yB 46 = .ok (.ireturn, 1) := by decide +kernel
def site : List Cond := []
def tab : Cond := tabOf yN yB 7 (some .int) site
def P (b : Addr) (A : Cell) (d : Addr) (B : Cell) (o q len : Nat) (args : Array Value) (s : State) : Prop := args = #[.ref b, .int (Int32.ofNat o), .ref d, .int (Int32.ofNat q), .int (Int32.ofNat len)] ∧ Ch b A s ∧ Arr .byte d B s ∧ b ≠ d ∧ o + len ≤ A.slots.size ∧ q + len ≤ B.slots.size ∧ ∀ i, i < len → ¬ 255 < cv A (o + i)
def E (b : Addr) (A : Cell) (d : Addr) (B : Cell) (o q len : Nat) (r : Option Value) (s u : State) : Prop := r = some (.int (Int32.ofNat len)) ∧ ∃ B', Put d B' s u ∧ Laid B B' q (q + len) (fun j => Value.int (lo8 (cv A (o + (j - q)))))
/-- no char of the range above 255: len; the places written hold each char's low byte -/
theorem law (l : Launch) (b : Addr) (A : Cell) (d : Addr) (B : Cell) (o q len : Nat) : Law l yN 5 5 0 0 yB 7 (some .int) site (P b A d B o q len) (E b A d B o q len) (copyLocs d q len) 0 0 := by
  refine Law.of_walk (plainFor_of_name (by decide +kernel)) (by decide +kernel) (by decide +kernel) (by decide) (fun _ _ h => by rw [h.1]; rfl) (fun _ U U' hal hh h => ⟨h.1, h.2.1.mv hal hh, h.2.2.1.mv hal hh, h.2.2.2⟩) (fun r U U' V V' h1 hal h2 h => ⟨h.1, h.2.elim fun B' q => ⟨B', q.1.mv h1 h2, q.2⟩⟩) ?_
  intro p e s m args below meth c s₁ X0 hexec hbytes hml hret hlk hnm hown hh0 W hP
  obtain ⟨rfl, hA, hB, hne, l1, l2, hp⟩ := hP
  have c1 : Steps p.tables e below (s₁.setTop (entryFrame m #[.ref b, .int (Int32.ofNat o), .ref d, .int (Int32.ofNat q), .int (Int32.ofNat len)] 7)) (s₁.setTop (mkF m 0 #[.val (.ref b), .val (.int (Int32.ofNat o)), .val (.ref d), .val (.int (Int32.ofNat q)), .val (.int (Int32.ofNat len)), .unset, .unset] [])) := entry rfl
  have hA0 := hA.1.mv X0.warmed.alike hh0
  have hB0 := hB.mv X0.warmed.alike hh0
  have a31 := hA.1.2.2.2
  have c2 : Steps p.tables e below (s₁.setTop (entryFrame m #[.ref b, .int (Int32.ofNat o), .ref d, .int (Int32.ofNat q), .int (Int32.ofNat len)] 7)) (s₁.setTop (mkF m 3 #[.val (.ref b), .val (.int (Int32.ofNat o)), .val (.ref d), .val (.int (Int32.ofNat q)), .val (.int (Int32.ofNat len)), .val (.int 0), .unset] [])) := c1.trans (by
    refine iconstV X0.here hexec rfl 0 (hb hbytes d0) (by decide) ?_
    refine XS.istore X0.here hexec rfl (hb hbytes d1) rfl rfl ?_
    exact Steps.refl _)
  have loop : ∀ (r i : Nat), i + r = len → ∀ (z : Slot), (z = .unset ∨ ∃ w, z = .val w ∧ w.category = 1) → ∀ (Tl : State) (Bk : Cell), Stand p l e { frames := 0, locals := 0, cells := 0, slots := 0 } s m #[.ref b, .int (Int32.ofNat o), .ref d, .int (Int32.ofNat q), .int (Int32.ofNat len)] below meth c Tl ([] ++ copyLocs d q i) 0 0 → Put d Bk s₁ Tl → Laid B Bk q (q + i) (fun j => Value.int (lo8 (cv A (o + (j - q))))) →
      Steps p.tables e below (s₁.setTop (entryFrame m #[.ref b, .int (Int32.ofNat o), .ref d, .int (Int32.ofNat q), .int (Int32.ofNat len)] 7)) (Tl.setTop (mkF m 3 #[.val (.ref b), .val (.int (Int32.ofNat (o + i))), .val (.ref d), .val (.int (Int32.ofNat (q + i))), .val (.int (Int32.ofNat len)), .val (.int (Int32.ofNat i)), z] [])) → ∃ (T' : State) (B' : Cell) (z' : Slot), Stand p l e { frames := 0, locals := 0, cells := 0, slots := 0 } s m #[.ref b, .int (Int32.ofNat o), .ref d, .int (Int32.ofNat q), .int (Int32.ofNat len)] below meth c T' ([] ++ copyLocs d q len) 0 0 ∧ Put d B' s₁ T' ∧ Laid B B' q (q + len) (fun j => Value.int (lo8 (cv A (o + (j - q))))) ∧
      Steps p.tables e below (s₁.setTop (entryFrame m #[.ref b, .int (Int32.ofNat o), .ref d, .int (Int32.ofNat q), .int (Int32.ofNat len)] 7)) (T'.setTop (mkF m 3 #[.val (.ref b), .val (.int (Int32.ofNat (o + len))), .val (.ref d), .val (.int (Int32.ofNat (q + len))), .val (.int (Int32.ofNat len)), .val (.int (Int32.ofNat len)), z'] [])) := by
    intro r
    induction r with
    | zero =>
      intro i hi z hz Tl Bk Xl pl fl cl
      have hil : i = len := by omega
      rw [hil] at Xl fl cl
      exact ⟨Tl, Bk, z, Xl, pl, fl, cl⟩
    | succ r ih =>
      intro i hi z hz Tl Bk Xl pl fl cl
      have all := X0.warmed.alike.symm.trans Xl.warmed.alike
      have hAl := hA0.keep all (pl.other hne hA0.1)
      have hBk := hB0.like all pl.1 fl.1 fl.2.1 fl.2.2.1
      have hlt : q + i < Bk.slots.size := by rw [fl.2.2.1]; omega
      have c3 : Steps p.tables e below (s₁.setTop (entryFrame m #[.ref b, .int (Int32.ofNat o), .ref d, .int (Int32.ofNat q), .int (Int32.ofNat len)] 7)) (Tl.setTop (mkF m 12 #[.val (.ref b), .val (.int (Int32.ofNat (o + i))), .val (.ref d), .val (.int (Int32.ofNat (q + i))), .val (.int (Int32.ofNat len)), .val (.int (Int32.ofNat i)), z] [.int (Int32.ofNat (o + i)), .ref b])) := cl.trans (by
        refine XS.iload Xl.here hexec rfl (hb hbytes d3) rfl ?_
        refine XS.iload Xl.here hexec rfl (hb hbytes d5) rfl ?_
        refine XS.icmpNo Xl.here hexec rfl (hb hbytes d7) rfl (ii_ge_f (lt32 (by omega) (by omega))) ?_
        refine XS.aloadN Xl.here hexec rfl (hb hbytes d10) rfl rfl ?_
        refine XS.iloadN Xl.here hexec rfl (hb hbytes d11) rfl ?_
        exact Steps.refl _)
      have c4 : Steps p.tables e below (s₁.setTop (entryFrame m #[.ref b, .int (Int32.ofNat o), .ref d, .int (Int32.ofNat q), .int (Int32.ofNat len)] 7)) (Tl.setTop (mkF m 13 #[.val (.ref b), .val (.int (Int32.ofNat (o + i))), .val (.ref d), .val (.int (Int32.ofNat (q + i))), .val (.int (Int32.ofNat len)), .val (.int (Int32.ofNat i)), z] [.int (cv A (o + i))])) := c3.trans (by
        refine Xl.aget hexec hAl rfl (hA.get (i := o + i) (by omega)) rfl rfl (hb hbytes d12) ?_
        exact Steps.refl _)
      have c5 : Steps p.tables e below (s₁.setTop (entryFrame m #[.ref b, .int (Int32.ofNat o), .ref d, .int (Int32.ofNat q), .int (Int32.ofNat len)] 7)) (Tl.setTop (mkF m 15 #[.val (.ref b), .val (.int (Int32.ofNat (o + i))), .val (.ref d), .val (.int (Int32.ofNat (q + i))), .val (.int (Int32.ofNat len)), .val (.int (Int32.ofNat i)), .val (.int (cv A (o + i)))] [])) := c4.trans (by
        refine XS.istoreS Xl.here hexec rfl (hb hbytes d13) rfl rfl hz ?_
        exact Steps.refl _)
      have c6 : Steps p.tables e below (s₁.setTop (entryFrame m #[.ref b, .int (Int32.ofNat o), .ref d, .int (Int32.ofNat q), .int (Int32.ofNat len)] 7)) (Tl.setTop (mkF m 31 #[.val (.ref b), .val (.int (Int32.ofNat (o + i))), .val (.ref d), .val (.int (Int32.ofNat (q + i))), .val (.int (Int32.ofNat len)), .val (.int (Int32.ofNat i)), .val (.int (cv A (o + i)))] [.int (lo8 (cv A (o + i))), .int (Int32.ofNat (q + i)), .ref d])) := c5.trans (by
        refine XS.iload Xl.here hexec rfl (hb hbytes d15) rfl ?_
        refine sipushV Xl.here hexec rfl 255 (hb hbytes d17) (by decide) ?_
        refine XS.icmpYes Xl.here hexec rfl (pc0 := 20) rfl (hb hbytes d20) rfl (ii_le_t (hp i (by omega))) (by decide) rfl ?_
        refine XS.aloadN Xl.here hexec rfl (hb hbytes d26) rfl rfl ?_
        refine XS.iloadN Xl.here hexec rfl (hb hbytes d27) rfl ?_
        refine XS.iload Xl.here hexec rfl (hb hbytes d28) rfl ?_
        refine i2b Xl.here hexec rfl (hb hbytes d30) rfl ?_
        exact Steps.refl _)
      obtain ⟨T7, X7, p7, st7⟩ := Xl.aput hexec hBk rfl hlt rfl (fits_lo8 (cv A (o + i))) (g := (mkF m 31 #[.val (.ref b), .val (.int (Int32.ofNat (o + i))), .val (.ref d), .val (.int (Int32.ofNat (q + i))), .val (.int (Int32.ofNat len)), .val (.int (Int32.ofNat i)), .val (.int (cv A (o + i)))] [.int (lo8 (cv A (o + i))), .int (Int32.ofNat (q + i)), .ref d])) rfl (rest := []) rfl (hb hbytes d31)
      have c8 : Steps p.tables e below (s₁.setTop (entryFrame m #[.ref b, .int (Int32.ofNat o), .ref d, .int (Int32.ofNat q), .int (Int32.ofNat len)] 7)) (T7.setTop (mkF m 32 #[.val (.ref b), .val (.int (Int32.ofNat (o + i))), .val (.ref d), .val (.int (Int32.ofNat (q + i))), .val (.int (Int32.ofNat len)), .val (.int (Int32.ofNat i)), .val (.int (cv A (o + i)))] [])) := c6.trans (st7 _ (Steps.refl _))
      have c9 : Steps p.tables e below (s₁.setTop (entryFrame m #[.ref b, .int (Int32.ofNat o), .ref d, .int (Int32.ofNat q), .int (Int32.ofNat len)] 7)) (T7.setTop (mkF m 3 #[.val (.ref b), .val (.int (Int32.ofNat (o + i) + 1)), .val (.ref d), .val (.int (Int32.ofNat (q + i) + 1)), .val (.int (Int32.ofNat len)), .val (.int (Int32.ofNat i + 1)), .val (.int (cv A (o + i)))] [])) := c8.trans (by
        refine iincV X7.here hexec rfl 1 (hb hbytes d32) (by decide) rfl rfl ?_
        refine iincV X7.here hexec rfl 1 (hb hbytes d35) (by decide) rfl rfl ?_
        refine iincV X7.here hexec rfl 1 (hb hbytes d38) (by decide) rfl rfl ?_
        refine XS.goto X7.here hexec rfl (pc0 := 41) rfl (hb hbytes d41) (by decide) rfl ?_
        exact Steps.refl _)
      have c10 : Steps p.tables e below (s₁.setTop (entryFrame m #[.ref b, .int (Int32.ofNat o), .ref d, .int (Int32.ofNat q), .int (Int32.ofNat len)] 7)) (T7.setTop (mkF m 3 #[.val (.ref b), .val (.int (Int32.ofNat (o + (i + 1)))), .val (.ref d), .val (.int (Int32.ofNat (q + (i + 1)))), .val (.int (Int32.ofNat len)), .val (.int (Int32.ofNat (i + 1))), .val (.int (cv A (o + i)))] [])) := by
        have := c9
        rw [succ32, succ32, succ32] at this
        exact this
      exact ih (i + 1) (by omega) _ (Or.inr ⟨_, rfl, rfl⟩) T7 _ (by rw [copyLocs_step, ← List.append_assoc]; exact X7) (pl.trans p7) (fl.step (by omega) hlt (by simp)) c10
  obtain ⟨T9, B9, z9, X9, p9, f9, g9⟩ := loop len 0 (by omega) .unset (Or.inl rfl) s₁ B (by simpa [copyLocs] using X0) ⟨hB0.1, fun _ _ => rfl, rfl⟩ (Laid.zero _ _ _) c2
  have c11 : Steps p.tables e below (s₁.setTop (entryFrame m #[.ref b, .int (Int32.ofNat o), .ref d, .int (Int32.ofNat q), .int (Int32.ofNat len)] 7)) (T9.setTop (mkF m 46 #[.val (.ref b), .val (.int (Int32.ofNat (o + len))), .val (.ref d), .val (.int (Int32.ofNat (q + len))), .val (.int (Int32.ofNat len)), .val (.int (Int32.ofNat len)), z9] [.int (Int32.ofNat len)])) := g9.trans (by
    refine XS.iload X9.here hexec rfl (hb hbytes d3) rfl ?_
    refine XS.iload X9.here hexec rfl (hb hbytes d5) rfl ?_
    refine XS.icmpYes X9.here hexec rfl (pc0 := 7) rfl (hb hbytes d7) rfl (ii_ge_t (nlt32 (by omega) (Nat.le_refl _))) (by decide) rfl ?_
    refine XS.iload X9.here hexec rfl (hb hbytes d44) rfl ?_
    exact Steps.refl _)
  exact ⟨T9, some (.int (Int32.ofNat len)), _, _, _, X9, by simp, rfl, rfl, (fun h => by cases h), ⟨rfl, B9, p9.from hh0, f9⟩, fun fs hl => c11.trans (X9.ireturnOut hexec hret rfl (Or.inl rfl) (hb hbytes d46) hl)⟩
end Cmp5
namespace Cmp3
def yN : MethodName := ⟨"java/lang/StringUTF16", "compress", "([CII)[B"⟩
abbrev yB : ByteArray := jdk_52_method_16_code
theorem d0 : decode yB 0 = .ok (.iload_n 2, 1) := by decide +kernel
theorem d1 : decode yB 1 = .ok (.newarray .byte, 2) := by decide +kernel
theorem d3 : decode yB 3 = .ok (.astore_n 3, 1) := by decide +kernel
theorem d4 : decode yB 4 = .ok (.aload_n 0, 1) := by decide +kernel
theorem d5 : decode yB 5 = .ok (.iload_n 1, 1) := by decide +kernel
theorem d6 : decode yB 6 = .ok (.aload_n 3, 1) := by decide +kernel
theorem d7 : decode yB 7 = .ok (.iconst 0, 1) := by decide +kernel
theorem d8 : decode yB 8 = .ok (.iload_n 2, 1) := by decide +kernel
theorem d9 : decode yB 9 = .ok (.invokestatic 115, 3) := by decide +kernel
theorem d12 : decode yB 12 = .ok (.istore 4, 2) := by decide +kernel
theorem d14 : decode yB 14 = .ok (.iload 4, 2) := by decide +kernel
theorem d16 : decode yB 16 = .ok (.iload_n 2, 1) := by decide +kernel
theorem d17 : decode yB 17 = .ok (.if_icmp (.eq) 40, 3) := by decide +kernel
theorem d57 : decode yB 57 = .ok (.aload_n 3, 1) := by decide +kernel
theorem d58 : decode yB 58 = .ok (.areturn, 1) := by decide +kernel
def site : List Cond := [.arrayClass .byte, Cmp5.tab] ++ staticW U16 115 Cmp5.yN
def tab : Cond := tabOf yN yB 6 (some (.array .byte)) site
def P (b : Addr) (A : Cell) (o len : Nat) (args : Array Value) (s : State) : Prop := args = #[.ref b, .int (Int32.ofNat o), .int (Int32.ofNat len)] ∧ Ch b A s ∧ o + len ≤ A.slots.size ∧ len ≤ 536870912 ∧ ∀ i, i < len → ¬ 255 < cv A (o + i)
def E (b : Addr) (A : Cell) (o len : Nat) (r : Option Value) (s u : State) : Prop := NewArr .byte "[B" len (fun j => .int (lo8 (cv A (o + j)))) r s u ∧ u.heap.size = s.heap.size + 1
/-- no char of the range above 255: a new byte[] of their low bytes -/
theorem law (l : Launch) (b : Addr) (A : Cell) (o len : Nat) : Law l yN 3 3 1 18 yB 6 (some (.array .byte)) site (P b A o len) (E b A o len) [] 1 len := by
  refine Law.of_walk (plainFor_of_name (by decide +kernel)) (by decide +kernel) (by decide +kernel) (by decide) (fun _ _ h => by rw [h.1]; rfl) (fun _ U U' hal hh h => ⟨h.1, h.2.1.mv hal hh, h.2.2⟩) (fun r U U' V V' h1 hal h2 h => ⟨NewArr.mv r U U' V V' h1 hal h2 h.1, by rw [h1, h2]; exact h.2⟩) ?_
  intro p e s m args below meth c s₁ X0 hexec hbytes hml hret hlk hnm hown hh0 W hP
  obtain ⟨rfl, hA, l1, l2, hp⟩ := hP
  have a31 := hA.1.2.2.2
  have c1 : Steps p.tables e below (s₁.setTop (entryFrame m #[.ref b, .int (Int32.ofNat o), .int (Int32.ofNat len)] 6)) (s₁.setTop (mkF m 0 #[.val (.ref b), .val (.int (Int32.ofNat o)), .val (.int (Int32.ofNat len)), .unset, .unset, .unset] [])) := entry rfl
  have c2 : Steps p.tables e below (s₁.setTop (entryFrame m #[.ref b, .int (Int32.ofNat o), .int (Int32.ofNat len)] 6)) (s₁.setTop (mkF m 1 #[.val (.ref b), .val (.int (Int32.ofNat o)), .val (.int (Int32.ofNat len)), .unset, .unset, .unset] [.int (Int32.ofNat len)])) := c1.trans (by
    refine XS.iloadN X0.here hexec rfl (hb hbytes d0) rfl ?_
    exact Steps.refl _)
  obtain ⟨T3, B3, X3, ba3, bs3, bv3, bh3, bf3, st3⟩ := X0.anew hexec (atype := .byte) (wk W (.arrayClass .byte)) rfl (by show len * 1 ≤ _; omega) (by omega) (g := (mkF m 1 #[.val (.ref b), .val (.int (Int32.ofNat o)), .val (.int (Int32.ofNat len)), .unset, .unset, .unset] [.int (Int32.ofNat len)])) rfl (hb hbytes d1) (rest := []) rfl (Nat.le_refl _) (by show 0 + len ≤ len; omega)
  rw [hh0] at ba3 st3
  have kp3 : XT.Kept s T3 := (XT.Kept.of_eq hh0).push bh3
  have hA3 := hA.keep X3.warmed.alike (kp3 _ _ hA.1.1)
  have hne : b ≠ s.heap.size := hA.1.ne
  have c4 : Steps p.tables e below (s₁.setTop (entryFrame m #[.ref b, .int (Int32.ofNat o), .int (Int32.ofNat len)] 6)) (T3.setTop (mkF m 3 #[.val (.ref b), .val (.int (Int32.ofNat o)), .val (.int (Int32.ofNat len)), .unset, .unset, .unset] [.ref s.heap.size])) := c2.trans (st3 _ (Steps.refl _))
  have c5 : Steps p.tables e below (s₁.setTop (entryFrame m #[.ref b, .int (Int32.ofNat o), .int (Int32.ofNat len)] 6)) (T3.setTop (mkF m 9 #[.val (.ref b), .val (.int (Int32.ofNat o)), .val (.int (Int32.ofNat len)), .val (.ref s.heap.size), .unset, .unset] [.int (Int32.ofNat len), .int 0, .ref s.heap.size, .int (Int32.ofNat o), .ref b])) := c4.trans (by
    refine XS.astoreN X3.here hexec rfl (hb hbytes d3) rfl rfl rfl ?_
    refine XS.aloadN X3.here hexec rfl (hb hbytes d4) rfl rfl ?_
    refine XS.iloadN X3.here hexec rfl (hb hbytes d5) rfl ?_
    refine XS.aloadN X3.here hexec rfl (hb hbytes d6) rfl rfl ?_
    refine iconstV X3.here hexec rfl 0 (hb hbytes d7) (by decide) ?_
    refine XS.iloadN X3.here hexec rfl (hb hbytes d8) rfl ?_
    exact Steps.refl _)
  obtain ⟨v6, T6, X6, E6, g6⟩ := X3.callS hexec (Cmp5.law l b A s.heap.size B3 o 0 len) hown (wks W (staticW U16 115 Cmp5.yN)) (wk W Cmp5.tab) (W := 0) (Nat.le_of_ble_eq_true rfl) (Nat.le_of_ble_eq_true rfl) (Nat.le_refl _) (by show 0 + len + 0 ≤ len; omega) (g := (mkF m 9 #[.val (.ref b), .val (.int (Int32.ofNat o)), .val (.int (Int32.ofNat len)), .val (.ref s.heap.size), .unset, .unset] [.int (Int32.ofNat len), .int (Int32.ofNat 0), .ref s.heap.size, .int (Int32.ofNat o), .ref b])) rfl (by rw [hml]; rfl) c5 (argsL := [.ref b, .int (Int32.ofNat o), .ref s.heap.size, .int (Int32.ofNat 0), .int (Int32.ofNat len)]) (rest := []) rfl rfl (by show 2 * 0 + 0 ≤ _; decide) (hb hbytes d9) (⟨rfl, hA3, ba3, hne, l1, by rw [bs3]; simp, hp⟩)
  obtain ⟨rfl, B6, p6, f6⟩ := E6
  have c7 : Steps p.tables e below (s₁.setTop (entryFrame m #[.ref b, .int (Int32.ofNat o), .int (Int32.ofNat len)] 6)) (T6.setTop (mkF m 12 #[.val (.ref b), .val (.int (Int32.ofNat o)), .val (.int (Int32.ofNat len)), .val (.ref s.heap.size), .unset, .unset] [.int (Int32.ofNat len)])) := g6
  have c8 : Steps p.tables e below (s₁.setTop (entryFrame m #[.ref b, .int (Int32.ofNat o), .int (Int32.ofNat len)] 6)) (T6.setTop (mkF m 58 #[.val (.ref b), .val (.int (Int32.ofNat o)), .val (.int (Int32.ofNat len)), .val (.ref s.heap.size), .val (.int (Int32.ofNat len)), .unset] [.ref s.heap.size])) := c7.trans (by
    refine XS.istore X6.here hexec rfl (hb hbytes d12) rfl rfl ?_
    refine XS.iload X6.here hexec rfl (hb hbytes d14) rfl ?_
    refine XS.iloadN X6.here hexec rfl (hb hbytes d16) rfl ?_
    refine XS.icmpYes X6.here hexec rfl (pc0 := 17) rfl (hb hbytes d17) rfl (ii_eq_t rfl) (by decide) rfl ?_
    refine XS.aloadN X6.here hexec rfl (hb hbytes d57) rfl rfl ?_
    exact Steps.refl _)
  have X8 := X6.wide (L' := []) (cells' := 1) (slots' := len) (fun x hx hlt => by
    simp only [List.nil_append, copyLocs, List.mem_map, List.mem_range] at hx
    obtain ⟨i, -, rfl⟩ := hx
    exact absurd hlt (Nat.lt_irrefl _)) (Nat.le_refl _) (by omega)
  exact ⟨T6, some (.ref s.heap.size), _, _, _, X8, rfl, rfl, rfl, (fun h => by cases h), ⟨⟨rfl, B6, ba3.like (X3.warmed.alike.symm.trans X6.warmed.alike) p6.1 f6.1 f6.2.1 f6.2.2.1, f6.2.1.trans bv3, by rw [X6.warmed.alike.findClass, f6.1]; exact bf3, by rw [f6.2.2.1, bs3]; simp, fun j hj => by rw [f6.2.2.2 j, if_pos (by omega)]; rfl, kp3.put p6 (Nat.le_refl _)⟩, by rw [p6.2.2, bh3, hh0]; simp⟩, fun fs hl => c8.trans (X8.areturnOut hexec rfl hret rfl (hb hbytes d58) hl)⟩
end Cmp3
namespace CodL
def yN : MethodName := ⟨"java/lang/StringUTF16", "coderFromArrayLen", "([BI)B"⟩
abbrev yB : ByteArray := jdk_52_method_15_code
theorem d0 : decode yB 0 = .ok (.iload_n 1, 1) := by decide +kernel
theorem d1 : decode yB 1 = .ok (.aload_n 0, 1) := by decide +kernel
theorem d2 : decode yB 2 = .ok (.arraylength, 1) := by decide +kernel
theorem d3 : decode yB 3 = .ok (.isub, 1) := by decide +kernel
theorem d4 : decode yB 4 = .ok (.bipush 31, 2) := by decide +kernel
theorem d6 : decode yB 6 = .ok (.iushr, 1) := by decide +kernel
theorem d7 : decode yB 7 = .ok (.i2b, 1) := by decide +kernel
theorem d8 : decode yB 8 = .ok (.ireturn, 1) := by decide +kernel
def site : List Cond := []
def tab : Cond := tabOf yN yB 2 (some .byte) site
def P (d : Addr) (B : Cell) (args : Array Value) (s : State) : Prop := args = #[.ref d, .int (Int32.ofNat B.slots.size)] ∧ Arr .byte d B s
def E (r : Option Value) (s u : State) : Prop := XT.PureE (some (.int 0)) r s u
/-- an array as long as the number of chars: LATIN1 -/
theorem law (l : Launch) (d : Addr) (B : Cell) : Law l yN 2 2 0 0 yB 2 (some .byte) site (P d B) E [] 0 0 := by
  refine Law.of_walk (plainFor_of_name (by decide +kernel)) (by decide +kernel) (by decide +kernel) (by decide) (fun _ _ h => by rw [h.1]; rfl) (fun _ U U' hal hh h => ⟨h.1, h.2.mv hal hh⟩) (fun r U U' V V' h1 hal h2 h => XT.PureE.mv r U U' V V' h1 hal h2 h) ?_
  intro p e s m args below meth c s₁ X0 hexec hbytes hml hret hlk hnm hown hh0 W hP
  obtain ⟨rfl, hB⟩ := hP
  have hB0 := hB.mv X0.warmed.alike hh0
  have c1 : Steps p.tables e below (s₁.setTop (entryFrame m #[.ref d, .int (Int32.ofNat B.slots.size)] 2)) (s₁.setTop (mkF m 0 #[.val (.ref d), .val (.int (Int32.ofNat B.slots.size))] [])) := entry rfl
  have c2 : Steps p.tables e below (s₁.setTop (entryFrame m #[.ref d, .int (Int32.ofNat B.slots.size)] 2)) (s₁.setTop (mkF m 2 #[.val (.ref d), .val (.int (Int32.ofNat B.slots.size))] [.ref d, .int (Int32.ofNat B.slots.size)])) := c1.trans (by
    refine XS.iloadN X0.here hexec rfl (hb hbytes d0) rfl ?_
    refine XS.aloadN X0.here hexec rfl (hb hbytes d1) rfl rfl ?_
    exact Steps.refl _)
  have c3 : Steps p.tables e below (s₁.setTop (entryFrame m #[.ref d, .int (Int32.ofNat B.slots.size)] 2)) (s₁.setTop (mkF m 8 #[.val (.ref d), .val (.int (Int32.ofNat B.slots.size))] [.int (lo8 (ushr (Int32.ofNat B.slots.size - Int32.ofNat B.slots.size) 31))])) := c2.trans (by
    refine X0.alen hexec hB0 rfl rfl (hb hbytes d2) ?_
    refine XS.isub X0.here hexec rfl (hb hbytes d3) rfl ?_
    refine bipushV X0.here hexec rfl 31 (hb hbytes d4) (by decide) ?_
    refine iushr X0.here hexec rfl (hb hbytes d6) rfl ?_
    refine i2b X0.here hexec rfl (hb hbytes d7) rfl ?_
    exact Steps.refl _)
  have e0 : lo8 (ushr (Int32.ofNat B.slots.size - Int32.ofNat B.slots.size) 31) = 0 := by rw [Int32.sub_self]; decide
  rw [e0] at c3
  exact ⟨s₁, some (.int 0), _, _, _, X0, rfl, rfl, rfl, (fun h => by cases h), ⟨rfl, hh0⟩, fun fs hl => c3.trans (X0.ireturnOut hexec hret rfl (Or.inr (Or.inr (Or.inl rfl))) (hb hbytes d8) hl)⟩
end CodL
/-- the String at a is Latin-1 over a new byte[] (the heap's one new cell): the low bytes of the len chars of A from o on; every cell but a is kept -/
def Got (a : Addr) (D : Cell) (fV fC : Field) (A : Cell) (o len : Nat) (r : Option Value) (s u : State) : Prop := r = none ∧ ∃ D' V : Cell, Blank "java/lang/String" a D' u ∧ Same D D' [fV.slot, fC.slot] ∧ D'.slots[fV.slot]? = some (.ref s.heap.size) ∧ D'.slots[fC.slot]? = some (.int 0) ∧ Arr .byte s.heap.size V u ∧ V.vm = .none ∧ u.vm.findClass "[B" = some V.cls ∧ V.slots.size = len ∧ (∀ j, j < len → V.slots[j]? = some (.int (lo8 (cv A (o + j))))) ∧ (∀ (y : Addr) (c : Cell), y ≠ a → s.heap[y]? = some c → u.heap[y]? = some c) ∧ u.heap.size = s.heap.size + 1
theorem Got.mv {a : Addr} {D A : Cell} {fV fC : Field} {o len : Nat} : ∀ r (U U' V V' : State), U'.heap = U.heap → V.vm.Alike V'.vm → V'.heap = V.heap → Got a D fV fC A o len r U V → Got a D fV fC A o len r U' V' :=
  fun r U U' V V' h1 hal h2 ⟨e0, D', X, a1, a2, a3, a4, a5, a6, a7, a8, a9, a10, a11⟩ => ⟨e0, D', X, a1.mv hal h2, a2, by rw [h1]; exact a3, a4, by rw [h1]; exact a5.mv hal h2, a6, by rw [hal.findClass]; exact a7, a8, a9, by rw [h1, h2]; exact a10, by rw [h1, h2]; exact a11⟩
namespace New4
def yN : MethodName := ⟨"java/lang/String", "<init>", "([CIILjava/lang/Void;)V"⟩
abbrev yB : ByteArray := jdk_42_method_149_code
theorem d0 : decode yB 0 = .ok (.aload_n 0, 1) := by decide +kernel
theorem d1 : decode yB 1 = .ok (.invokespecial 1, 3) := by decide +kernel
theorem d4 : decode yB 4 = .ok (.iload_n 3, 1) := by decide +kernel
theorem d5 : decode yB 5 = .ok (.ifCond (.ne) 22, 3) := by decide +kernel
theorem d27 : decode yB 27 = .ok (.getstatic 38, 3) := by decide +kernel
theorem d30 : decode yB 30 = .ok (.ifCond (.eq) 28, 3) := by decide +kernel
theorem d33 : decode yB 33 = .ok (.aload_n 1, 1) := by decide +kernel
theorem d34 : decode yB 34 = .ok (.iload_n 2, 1) := by decide +kernel
theorem d35 : decode yB 35 = .ok (.iload_n 3, 1) := by decide +kernel
theorem d36 : decode yB 36 = .ok (.invokestatic 177, 3) := by decide +kernel
theorem d39 : decode yB 39 = .ok (.astore 5, 2) := by decide +kernel
theorem d41 : decode yB 41 = .ok (.aload_n 0, 1) := by decide +kernel
theorem d42 : decode yB 42 = .ok (.aload 5, 2) := by decide +kernel
theorem d44 : decode yB 44 = .ok (.iload_n 3, 1) := by decide +kernel
theorem d45 : decode yB 45 = .ok (.invokestatic 47, 3) := by decide +kernel
theorem d48 : decode yB 48 = .ok (.putfield 15, 3) := by decide +kernel
theorem d51 : decode yB 51 = .ok (.aload_n 0, 1) := by decide +kernel
theorem d52 : decode yB 52 = .ok (.aload 5, 2) := by decide +kernel
theorem d54 : decode yB 54 = .ok (.putfield 9, 3) := by decide +kernel
theorem d57 : decode yB 57 = .ok (.return_, 1) := by decide +kernel
def site : List Cond := [.fieldLink "java/lang/String" 38 "java/lang/String" "COMPACT_STRINGS" "Z", Cmp3.tab, CodL.tab, .laysFinal "java/lang/String" "java/lang/String" "value" "[B", .fieldLink "java/lang/String" 9 "java/lang/String" "value" "[B", .laysFinal "java/lang/String" "java/lang/String" "coder" "B", .fieldLink "java/lang/String" 15 "java/lang/String" "coder" "B"] ++ objW "java/lang/String" 1 ++ staticW "java/lang/String" 177 Cmp3.yN ++ staticW "java/lang/String" 47 CodL.yN
def tab : Cond := tabOf yN yB 6 none site
def P (a : Addr) (D : Cell) (fV fC : Field) (b : Addr) (A : Cell) (z : Int32) (o len : Nat) (args : Array Value) (s : State) : Prop := args = #[.ref a, .ref b, .int (Int32.ofNat o), .int (Int32.ofNat len), .null] ∧ Blank "java/lang/String" a D s ∧ Found "java/lang/String" "value" "[B" fV s ∧ Found "java/lang/String" "coder" "B" fC s ∧ Ch b A s ∧ StaticIs s "java/lang/String" "COMPACT_STRINGS" "Z" (.int z) ∧ ¬ z = 0 ∧ 0 < len ∧ o + len ≤ A.slots.size ∧ len ≤ 536870912 ∧ ∀ i, i < len → ¬ 255 < cv A (o + i)
def E (a : Addr) (D : Cell) (fV fC : Field) (A : Cell) (o len : Nat) (r : Option Value) (s u : State) : Prop := Got a D fV fC A o len r s u
/-- len > 0, no char of the range above 255: a Latin-1 String of their low bytes -/
theorem law (l : Launch) (a : Addr) (D : Cell) (fV fC : Field) (b : Addr) (A : Cell) (z : Int32) (o len : Nat) : Law l yN 5 4 2 35 yB 6 none site (P a D fV fC b A z o len) (E a D fV fC A o len) [⟨a, fC.slot⟩, ⟨a, fV.slot⟩] 1 len := by
  refine Law.of_walk (plainFor_of_name (by decide +kernel)) (by decide +kernel) (by decide +kernel) (by decide) (fun _ _ h => by rw [h.1]; rfl) (fun _ U U' hal hh h => ⟨h.1, h.2.1.mv hal hh, h.2.2.1.al hal, h.2.2.2.1.al hal, h.2.2.2.2.1.mv hal hh, h.2.2.2.2.2.1.there hal hh, h.2.2.2.2.2.2⟩) (fun r U U' V V' h1 hal h2 h => Got.mv r U U' V V' h1 hal h2 h) ?_
  intro p e s m args below meth c s₁ X0 hexec hbytes hml hret hlk hnm hown hh0 W hP
  obtain ⟨rfl, hB, f1, f2, hA, s1, hz, l0, l1, l2, hp⟩ := hP
  have a31 := hA.1.2.2.2
  have c1 : Steps p.tables e below (s₁.setTop (entryFrame m #[.ref a, .ref b, .int (Int32.ofNat o), .int (Int32.ofNat len), .null] 6)) (s₁.setTop (mkF m 0 #[.val (.ref a), .val (.ref b), .val (.int (Int32.ofNat o)), .val (.int (Int32.ofNat len)), .val .null, .unset] [])) := entry rfl
  have c2 : Steps p.tables e below (s₁.setTop (entryFrame m #[.ref a, .ref b, .int (Int32.ofNat o), .int (Int32.ofNat len), .null] 6)) (s₁.setTop (mkF m 1 #[.val (.ref a), .val (.ref b), .val (.int (Int32.ofNat o)), .val (.int (Int32.ofNat len)), .val .null, .unset] [.ref a])) := c1.trans (by
    refine XS.aloadN X0.here hexec rfl (hb hbytes d0) rfl rfl ?_
    exact Steps.refl _)
  obtain ⟨T3, X3, q3, st3⟩ := X0.oinit hexec hown (wks W (objW "java/lang/String" 1)) (g := (mkF m 1 #[.val (.ref a), .val (.ref b), .val (.int (Int32.ofNat o)), .val (.int (Int32.ofNat len)), .val .null, .unset] [.ref a])) rfl (by rw [hml]; rfl) (rest := []) rfl (hb hbytes d1) (W := 0) (by show 2 * 0 + 0 ≤ _; decide) (Nat.le_of_ble_eq_true rfl) (Nat.le_of_ble_eq_true rfl)
  have hh3 := q3.trans hh0
  have c4 : Steps p.tables e below (s₁.setTop (entryFrame m #[.ref a, .ref b, .int (Int32.ofNat o), .int (Int32.ofNat len), .null] 6)) (T3.setTop (mkF m 27 #[.val (.ref a), .val (.ref b), .val (.int (Int32.ofNat o)), .val (.int (Int32.ofNat len)), .val .null, .unset] [])) := (c2.trans (st3 _ (Steps.refl _))).trans (by
    refine XS.iloadN X3.here hexec rfl (hb hbytes d4) rfl ?_
    refine XS.ifYes X3.here hexec rfl (pc0 := 5) rfl (hb hbytes d5) rfl (i0_ne_t (nz32 (by omega) l0)) (by decide) rfl ?_
    exact Steps.refl _)
  obtain ⟨T5, X5, q5, st5⟩ := X3.sget hexec hown (wk W (.fieldLink "java/lang/String" 38 "java/lang/String" "COMPACT_STRINGS" "Z")) s1 (fun _ _ h => by rw [hh3]; exact h) (g := (mkF m 27 #[.val (.ref a), .val (.ref b), .val (.int (Int32.ofNat o)), .val (.int (Int32.ofNat len)), .val .null, .unset] [])) rfl (hb hbytes d27)
  have hh5 := q5.trans hh3
  have c6 : Steps p.tables e below (s₁.setTop (entryFrame m #[.ref a, .ref b, .int (Int32.ofNat o), .int (Int32.ofNat len), .null] 6)) (T5.setTop (mkF m 30 #[.val (.ref a), .val (.ref b), .val (.int (Int32.ofNat o)), .val (.int (Int32.ofNat len)), .val .null, .unset] [.int z])) := c4.trans (st5 _ (Steps.refl _))
  have c7 : Steps p.tables e below (s₁.setTop (entryFrame m #[.ref a, .ref b, .int (Int32.ofNat o), .int (Int32.ofNat len), .null] 6)) (T5.setTop (mkF m 36 #[.val (.ref a), .val (.ref b), .val (.int (Int32.ofNat o)), .val (.int (Int32.ofNat len)), .val .null, .unset] [.int (Int32.ofNat len), .int (Int32.ofNat o), .ref b])) := c6.trans (by
    refine XS.ifNo X5.here hexec rfl (hb hbytes d30) rfl (i0_eq_f hz) ?_
    refine XS.aloadN X5.here hexec rfl (hb hbytes d33) rfl rfl ?_
    refine XS.iloadN X5.here hexec rfl (hb hbytes d34) rfl ?_
    refine XS.iloadN X5.here hexec rfl (hb hbytes d35) rfl ?_
    exact Steps.refl _)
  obtain ⟨v8, T8, X8, E8, g8⟩ := X5.callS hexec (Cmp3.law l b A o len) hown (wks W (staticW "java/lang/String" 177 Cmp3.yN)) (wk W Cmp3.tab) (W := 0) (Nat.le_of_ble_eq_true rfl) (Nat.le_of_ble_eq_true rfl) (Nat.le_refl _) (by show 0 + len ≤ len; omega) (g := (mkF m 36 #[.val (.ref a), .val (.ref b), .val (.int (Int32.ofNat o)), .val (.int (Int32.ofNat len)), .val .null, .unset] [.int (Int32.ofNat len), .int (Int32.ofNat o), .ref b])) rfl (by rw [hml]; rfl) c7 (argsL := [.ref b, .int (Int32.ofNat o), .int (Int32.ofNat len)]) (rest := []) rfl rfl (by show 2 * 0 + 0 ≤ _; decide) (hb hbytes d36) (⟨rfl, hA.mv X5.warmed.alike hh5, l1, l2, hp⟩)
  obtain ⟨e8, z8⟩ := E8
  obtain ⟨rfl, N, n1, n2, n3, n4, n5, n6⟩ := NewArr.mv _ T5 s _ _ hh5.symm (Vm.Alike.refl _) rfl e8
  rw [hh5] at z8
  have hB1 := hB.keep X8.warmed.alike (n6 _ _ hB.1)
  have hne : s.heap.size ≠ a := (Nat.ne_of_lt (Array.getElem?_eq_some_iff.mp hB.1).1).symm
  have c9 : Steps p.tables e below (s₁.setTop (entryFrame m #[.ref a, .ref b, .int (Int32.ofNat o), .int (Int32.ofNat len), .null] 6)) (T8.setTop (mkF m 39 #[.val (.ref a), .val (.ref b), .val (.int (Int32.ofNat o)), .val (.int (Int32.ofNat len)), .val .null, .unset] [.ref s.heap.size])) := g8
  have c10 : Steps p.tables e below (s₁.setTop (entryFrame m #[.ref a, .ref b, .int (Int32.ofNat o), .int (Int32.ofNat len), .null] 6)) (T8.setTop (mkF m 45 #[.val (.ref a), .val (.ref b), .val (.int (Int32.ofNat o)), .val (.int (Int32.ofNat len)), .val .null, .val (.ref s.heap.size)] [.int (Int32.ofNat N.slots.size), .ref s.heap.size, .ref a])) := by
    have hc : Steps p.tables e below (s₁.setTop (entryFrame m #[.ref a, .ref b, .int (Int32.ofNat o), .int (Int32.ofNat len), .null] 6)) (T8.setTop (mkF m 45 #[.val (.ref a), .val (.ref b), .val (.int (Int32.ofNat o)), .val (.int (Int32.ofNat len)), .val .null, .val (.ref s.heap.size)] [.int (Int32.ofNat len), .ref s.heap.size, .ref a])) := c9.trans (by
      refine XS.astore X8.here hexec rfl (hb hbytes d39) rfl rfl rfl ?_
      refine XS.aloadN X8.here hexec rfl (hb hbytes d41) rfl rfl ?_
      refine XS.aload X8.here hexec rfl (hb hbytes d42) rfl rfl ?_
      refine XS.iloadN X8.here hexec rfl (hb hbytes d44) rfl ?_
      exact Steps.refl _)
    rw [n4]; exact hc
  obtain ⟨v11, T11, X11, E11, g11⟩ := X8.callS hexec (CodL.law l s.heap.size N) hown (wks W (staticW "java/lang/String" 47 CodL.yN)) (wk W CodL.tab) (W := 1) (Nat.le_of_ble_eq_true rfl) (Nat.le_of_ble_eq_true rfl) (Nat.le_refl _) (by show 0 + len + 0 ≤ len; omega) (g := (mkF m 45 #[.val (.ref a), .val (.ref b), .val (.int (Int32.ofNat o)), .val (.int (Int32.ofNat len)), .val .null, .val (.ref s.heap.size)] [.int (Int32.ofNat N.slots.size), .ref s.heap.size, .ref a])) rfl (by rw [hml]; rfl) c10 (argsL := [.ref s.heap.size, .int (Int32.ofNat N.slots.size)]) (rest := [.ref a]) rfl rfl (by show 2 * 0 + (1 + 0) ≤ _; decide) (hb hbytes d45) (⟨rfl, n1⟩)
  obtain ⟨rfl, q11⟩ := E11
  have hB11 := hB1.mv (X8.warmed.alike.symm.trans X11.warmed.alike) q11
  have c12 : Steps p.tables e below (s₁.setTop (entryFrame m #[.ref a, .ref b, .int (Int32.ofNat o), .int (Int32.ofNat len), .null] 6)) (T11.setTop (mkF m 48 #[.val (.ref a), .val (.ref b), .val (.int (Int32.ofNat o)), .val (.int (Int32.ofNat len)), .val .null, .val (.ref s.heap.size)] [.int 0, .ref a])) := g11
  obtain ⟨T13, X13, p13, bl13, sl13, st13⟩ := X11.finit hexec hown (wk W (.fieldLink "java/lang/String" 15 "java/lang/String" "coder" "B")) (Or.inr ⟨_, (wk W (.laysFinal "java/lang/String" "java/lang/String" "coder" "B"))⟩) (Or.inl ⟨rfl, hnm⟩) f2 (Or.inl rfl) hB11 (t := .byte) (by decide +kernel) rfl (g := (mkF m 48 #[.val (.ref a), .val (.ref b), .val (.int (Int32.ofNat o)), .val (.int (Int32.ofNat len)), .val .null, .val (.ref s.heap.size)] [.int 0, .ref a])) rfl (rest := []) rfl (hb hbytes d48)
  have c14 : Steps p.tables e below (s₁.setTop (entryFrame m #[.ref a, .ref b, .int (Int32.ofNat o), .int (Int32.ofNat len), .null] 6)) (T13.setTop (mkF m 54 #[.val (.ref a), .val (.ref b), .val (.int (Int32.ofNat o)), .val (.int (Int32.ofNat len)), .val .null, .val (.ref s.heap.size)] [.ref s.heap.size, .ref a])) := (c12.trans (st13 _ (Steps.refl _))).trans (by
    refine XS.aloadN X13.here hexec rfl (hb hbytes d51) rfl rfl ?_
    refine XS.aload X13.here hexec rfl (hb hbytes d52) rfl rfl ?_
    exact Steps.refl _)
  obtain ⟨T15, X15, p15, bl15, sl15, st15⟩ := X13.finit hexec hown (wk W (.fieldLink "java/lang/String" 9 "java/lang/String" "value" "[B")) (Or.inr ⟨_, (wk W (.laysFinal "java/lang/String" "java/lang/String" "value" "[B"))⟩) (Or.inl ⟨rfl, hnm⟩) f1 (Or.inl rfl) bl13 (t := (.array .byte)) (by decide +kernel) rfl (g := (mkF m 54 #[.val (.ref a), .val (.ref b), .val (.int (Int32.ofNat o)), .val (.int (Int32.ofNat len)), .val .null, .val (.ref s.heap.size)] [.ref s.heap.size, .ref a])) rfl (rest := []) rfl (hb hbytes d54)
  have c16 : Steps p.tables e below (s₁.setTop (entryFrame m #[.ref a, .ref b, .int (Int32.ofNat o), .int (Int32.ofNat len), .null] 6)) (T15.setTop (mkF m 57 #[.val (.ref a), .val (.ref b), .val (.int (Int32.ofNat o)), .val (.int (Int32.ofNat len)), .val .null, .val (.ref s.heap.size)] [])) := c14.trans (st15 _ (Steps.refl _))
  have ap := apart (Or.inr ⟨_, (wk W (.laysFinal "java/lang/String" "java/lang/String" "value" "[B"))⟩) (Or.inr ⟨_, (wk W (.laysFinal "java/lang/String" "java/lang/String" "coder" "B"))⟩) f1 f2 (t₁ := .array .byte) (t₂ := .byte) (by decide +kernel) (by decide +kernel) (by decide)
  have al := X8.warmed.alike.symm.trans X15.warmed.alike
  have n7 : T11.heap[s.heap.size]? = some N := by rw [q11]; exact n1.1
  exact ⟨T15, none, _, _, _, X15, by simp, rfl, by omega, (fun _ => rfl), ⟨rfl, _, N, bl15, ((Same.refl D _).set _ (by simp)).set _ (by simp), sl15, (Cell.slots_setSlot_ne _ ap).trans sl13, n1.keep al (p15.other hne (p13.other hne n7)), n2, by rw [al.findClass]; exact n3, n4, n5, fun y c h1 h2 => p15.other h1 (p13.other h1 (by rw [q11]; exact n6 y c h2)), by rw [p15.2.2, p13.2.2, q11]; exact z8⟩, fun fs hl => c16.trans (X15.returnOut hexec hret (hb hbytes d57) hl)⟩
end New4
namespace New1
def yN : MethodName := ⟨"java/lang/String", "<init>", "([C)V"⟩
abbrev yB : ByteArray := jdk_42_method_3_code
theorem d0 : decode yB 0 = .ok (.aload_n 0, 1) := by decide +kernel
theorem d1 : decode yB 1 = .ok (.aload_n 1, 1) := by decide +kernel
theorem d2 : decode yB 2 = .ok (.iconst 0, 1) := by decide +kernel
theorem d3 : decode yB 3 = .ok (.aload_n 1, 1) := by decide +kernel
theorem d4 : decode yB 4 = .ok (.arraylength, 1) := by decide +kernel
theorem d5 : decode yB 5 = .ok (.aconst_null, 1) := by decide +kernel
theorem d6 : decode yB 6 = .ok (.invokespecial 27, 3) := by decide +kernel
theorem d9 : decode yB 9 = .ok (.return_, 1) := by decide +kernel
def site : List Cond := [New4.tab] ++ initW "java/lang/String" 27 New4.yN
def tab : Cond := tabOf yN yB 2 none site
def P (a : Addr) (D : Cell) (fV fC : Field) (b : Addr) (A : Cell) (z : Int32) (args : Array Value) (s : State) : Prop := args = #[.ref a, .ref b] ∧ Blank "java/lang/String" a D s ∧ Found "java/lang/String" "value" "[B" fV s ∧ Found "java/lang/String" "coder" "B" fC s ∧ Ch b A s ∧ StaticIs s "java/lang/String" "COMPACT_STRINGS" "Z" (.int z) ∧ ¬ z = 0 ∧ 0 < A.slots.size ∧ A.slots.size ≤ 536870912 ∧ ∀ i, i < A.slots.size → ¬ 255 < cv A i
def E (a : Addr) (D : Cell) (fV fC : Field) (A : Cell) (r : Option Value) (s u : State) : Prop := Got a D fV fC A 0 A.slots.size r s u
/-- new String(chars), not empty, no char above 255: a Latin-1 String of their low bytes -/
theorem law (l : Launch) (a : Addr) (D : Cell) (fV fC : Field) (b : Addr) (A : Cell) (z : Int32) : Law l yN 2 1 3 52 yB 2 none site (P a D fV fC b A z) (E a D fV fC A) [⟨a, fC.slot⟩, ⟨a, fV.slot⟩] 1 A.slots.size := by
  refine Law.of_walk (plainFor_of_name (by decide +kernel)) (by decide +kernel) (by decide +kernel) (by decide) (fun _ _ h => by rw [h.1]; rfl) (fun _ U U' hal hh h => ⟨h.1, h.2.1.mv hal hh, h.2.2.1.al hal, h.2.2.2.1.al hal, h.2.2.2.2.1.mv hal hh, h.2.2.2.2.2.1.there hal hh, h.2.2.2.2.2.2⟩) (fun r U U' V V' h1 hal h2 h => Got.mv r U U' V V' h1 hal h2 h) ?_
  intro p e s m args below meth c s₁ X0 hexec hbytes hml hret hlk hnm hown hh0 W hP
  obtain ⟨rfl, hB, f1, f2, hA, s1, hz, l0, l2, hp⟩ := hP
  have c1 : Steps p.tables e below (s₁.setTop (entryFrame m #[.ref a, .ref b] 2)) (s₁.setTop (mkF m 0 #[.val (.ref a), .val (.ref b)] [])) := entry rfl
  have c2 : Steps p.tables e below (s₁.setTop (entryFrame m #[.ref a, .ref b] 2)) (s₁.setTop (mkF m 6 #[.val (.ref a), .val (.ref b)] [.null, .int (Int32.ofNat A.slots.size), .int 0, .ref b, .ref a])) := c1.trans (by
    refine XS.aloadN X0.here hexec rfl (hb hbytes d0) rfl rfl ?_
    refine XS.aloadN X0.here hexec rfl (hb hbytes d1) rfl rfl ?_
    refine iconstV X0.here hexec rfl 0 (hb hbytes d2) (by decide) ?_
    refine XS.aloadN X0.here hexec rfl (hb hbytes d3) rfl rfl ?_
    refine X0.alen hexec (hA.1.mv X0.warmed.alike hh0) rfl rfl (hb hbytes d4) ?_
    refine XS.aconstNull X0.here hexec rfl (hb hbytes d5) ?_
    exact Steps.refl _)
  obtain ⟨v3, T3, X3, E3, g3⟩ := X0.callN hexec (New4.law l a D fV fC b A z 0 A.slots.size) rfl hown (wks W (initW "java/lang/String" 27 New4.yN)) (W New4.tab (by simp only [site, List.mem_cons, List.mem_append, true_or, or_true])) (W := 0) (Nat.le_of_ble_eq_true rfl) (Nat.le_of_ble_eq_true rfl) (Nat.le_refl _) (by show 0 + A.slots.size ≤ A.slots.size; omega) (g := (mkF m 6 #[.val (.ref a), .val (.ref b)] [.null, .int (Int32.ofNat A.slots.size), .int (Int32.ofNat 0), .ref b, .ref a])) rfl (by rw [hml]; rfl) c2 (argsL := [.ref b, .int (Int32.ofNat 0), .int (Int32.ofNat A.slots.size), .null]) (rest := []) rfl rfl (by show 2 * 0 + 0 ≤ _; decide) (hb hbytes d6) (⟨rfl, hB.mv X0.warmed.alike hh0, f1.al X0.warmed.alike, f2.al X0.warmed.alike, hA.mv X0.warmed.alike hh0, s1.there X0.warmed.alike hh0, hz, l0, by omega, l2, fun i hi => by rw [Nat.zero_add]; exact hp i hi⟩)
  have e0 := Got.mv _ s₁ s _ _ hh0.symm (Vm.Alike.refl _) rfl E3
  obtain rfl := e0.1
  have c4 : Steps p.tables e below (s₁.setTop (entryFrame m #[.ref a, .ref b] 2)) (T3.setTop (mkF m 9 #[.val (.ref a), .val (.ref b)] [])) := g3
  exact ⟨T3, none, _, _, _, X3, by simp, rfl, by omega, (fun _ => rfl), e0, fun fs hl => c4.trans (X3.returnOut hexec hret (hb hbytes d9) hl)⟩
theorem pays {l : Launch} {R : Room} {p : Program} {e : Env} {below : List Frame} {s : State} {sargs : Array Value} {len W : Nat} (a : Addr) (D : Cell) (fV fC : Field) (b : Addr) (A : Cell) (z : Int32) (htab : tab.before sargs s = true) (hfr : 4 ≤ R.frames) (hlo : W + 65 ≤ R.locals) :
    Back l R p e below s sargs yN len W (fun A₁ a₁ => A₁.cells + 1 ≤ R.cells ∧ A₁.slots + A.slots.size ≤ R.slots ∧ P a D fV fC b A z a₁ A₁.U) (fun A₁ _ v₁ B₁ => E a D fV fC A v₁ A₁.U B₁.U ∧ B₁.locs = A₁.locs ++ [⟨a, fC.slot⟩, ⟨a, fV.slot⟩] ∧ B₁.cells = A₁.cells + 1 ∧ B₁.slots = A₁.slots + A.slots.size) :=
  (law l a D fV fC b A z).pays htab hfr (by omega)
end New1
/-- the byte, read back as charAt reads it, is the char -/
theorem lo8_mask {x : Int32} (h0 : ¬ x < 0) (h1 : ¬ 255 < x) : lo8 x &&& 255 = x := by
  have t : ∀ k : Fin 256, lo8 (Int32.ofNat k.val) &&& 255 = Int32.ofNat k.val := by decide +kernel
  rw [Int32.lt_iff_toInt_lt] at h0 h1
  have e0 : (0 : Int32).toInt = 0 := rfl
  have e1 : (255 : Int32).toInt = 255 := rfl
  obtain ⟨k, hk⟩ : ∃ k : Nat, x.toInt = k := ⟨x.toInt.toNat, by omega⟩
  have hx : x = Int32.ofNat k := Int32.toInt_inj.mp (by rw [hk, Int32.toInt_ofNat_small (by omega)])
  rw [hx]
  exact t ⟨k, by omega⟩
end StrChars
namespace StrChars.Road
open Jvm Sem ClassFile Op Lib Jvm.Stand Jvm.Free Jvm.Free.XT
open Jvm.Lib.Cold (StaticIs)
abbrev ST : String := "java/lang/String"
/-- every table word that New1's law asks, flat -/
abbrev words : List Jvm.Cond := [.code New1.yN New1.yB 2 none, .initialized ST, .methodLink ST 27 New4.yN, .instanceMethod New4.yN,
  .code New4.yN New4.yB 6 none, .fieldLink ST 38 ST "COMPACT_STRINGS" "Z", .laysFinal ST ST "value" "[B", .fieldLink ST 9 ST "value" "[B", .laysFinal ST ST "coder" "B", .fieldLink ST 15 ST "coder" "B",
  .methodLink ST 1 Lib.objectInit, .instanceMethod Lib.objectInit, .code Lib.objectInit ⟨#[0xb1]⟩ 1 none, .methodLink ST 177 Cmp3.yN, .static Cmp3.yN, .methodLink ST 47 CodL.yN, .static CodL.yN,
  .code Cmp3.yN Cmp3.yB 6 (some (.array .byte)), .initialized U16, .arrayClass .byte, .methodLink U16 115 Cmp5.yN, .static Cmp5.yN, .code Cmp5.yN Cmp5.yB 7 (some .int), .code CodL.yN CodL.yB 2 (some .byte)]
theorem tab_of {a : Array Value} {s : State} (h : ∀ w ∈ words, w.before a s = true) : New1.tab.before a s = true := by
  have h5 : Cmp5.tab.before a s = true := unparts (wk h (.code Cmp5.yN Cmp5.yB 7 (some .int))) (wks h (.initialized Cmp5.yN.cls :: Cmp5.site))
  have hc : CodL.tab.before a s = true := unparts (wk h (.code CodL.yN CodL.yB 2 (some .byte))) (wks h (.initialized CodL.yN.cls :: CodL.site))
  have q5 : ∀ w ∈ Cmp5.tab :: words, w.before a s = true := fun w hw => (List.mem_cons.mp hw).elim (fun e => e ▸ h5) (h w)
  have h3 : Cmp3.tab.before a s = true := unparts (wk q5 (.code Cmp3.yN Cmp3.yB 6 (some (.array .byte)))) (wks q5 (.initialized Cmp3.yN.cls :: Cmp3.site))
  have q3 : ∀ w ∈ Cmp3.tab :: CodL.tab :: words, w.before a s = true := fun w hw => (List.mem_cons.mp hw).elim (fun e => e ▸ h3) fun hw => (List.mem_cons.mp hw).elim (fun e => e ▸ hc) (h w)
  have h4 : New4.tab.before a s = true := unparts (wk q3 (.code New4.yN New4.yB 6 none)) (wks q3 (.initialized New4.yN.cls :: New4.site))
  have q4 : ∀ w ∈ New4.tab :: words, w.before a s = true := fun w hw => (List.mem_cons.mp hw).elim (fun e => e ▸ h4) (h w)
  exact unparts (wk q4 (.code New1.yN New1.yB 2 none)) (wks q4 (.initialized New1.yN.cls :: New1.site))
/-- the words ride from the start Z to the walk's own state -/
theorem moved {Z s : State} {a0 args : Array Value} (hZ : Z.Warmed39 s.vm) (hw : ∀ d ∈ words, d.before a0 Z = true) : ∀ d ∈ words, d.before args s = true := fun d hd => by
  have q := hw d hd
  have t : ∀ d ∈ words, d = .arrayClass .byte ∨ (d.onTables && d.keepsFace) = true := by decide +kernel
  rcases t d hd with rfl | t
  · exact RoadKit.mvA hZ q
  · exact RoadKit.mv hZ q t
/-- WHAT COMES BACK, over the tables of the start Z: h the heap at the call, h' behind it -/
def Q (Z : State) (x : Addr) (A : Cell) (h : Heap) (v : Option Value) (h' : Heap) (L : List Loc) : Prop := v = none ∧ (∀ y ∈ L, y.base = x) ∧ RoadKit.Keep h h' [x] ∧ h'.size = h.size + 1 ∧ RoadKit.Exa Z h' x ST ∧ RoadKit.Fld Z h' x ST "value" "[B" (.ref h.size) ∧ RoadKit.Fld Z h' x ST "coder" "B" (.int 0) ∧
  (∃ V : Cell, RoadKit.Arr Z h' h.size V .byte ∧ V.vm = .none ∧ Z.vm.findClass "[B" = some V.cls ∧ V.slots.size = A.slots.size ∧ ∀ j, j < A.slots.size → V.slots[j]? = some (.int (lo8 (cv A j)))) ∧
  ∀ (O n d : String) (w : Value), RoadKit.Fld Z h x O n d w → RoadKit.slotOf Z O n d ≠ RoadKit.slotOf Z ST "value" "[B" → RoadKit.slotOf Z O n d ≠ RoadKit.slotOf Z ST "coder" "B" → RoadKit.Fld Z h' x O n d w
/-- **new String(chars) AT A CALL, IN THE ROAD'S FORM**: for specialBack behind newO: x the fresh String, b the char[] with the cell A -/
theorem back {p : Program} {l : Launch} {e : Env} {R : Room} {s : State} {args : Array Value} {below : List Frame} {len W : Nat} {Z : State} {a0 : Array Value} {h : Heap} (hZ : Z.Warmed39 s.vm) (hw : ∀ d ∈ words, d.before a0 Z = true) {kI : Nat} (wi : (Jvm.Cond.instantiable ST kI).before a0 Z = true)
    {x b : Addr} {A : Cell} {z : Int32} {v0 c0 : Value} (E : RoadKit.Exa Z h x ST) (V : RoadKit.Fld Z h x ST "value" "[B" v0) (C : RoadKit.Fld Z h x ST "coder" "B" c0) (K : RoadKit.Arr Z h b A .char) (hty : Typed .char A) (S : RoadKit.Sta Z h ST "COMPACT_STRINGS" "Z" (.int z)) (hz : ¬ z = 0)
    (l0 : 0 < A.slots.size) (l2 : A.slots.size ≤ 536870912) (hp : ∀ i, i < A.slots.size → ¬ 255 < cv A i) (hfr : 4 ≤ R.frames) (hlo : W + 65 ≤ R.locals) :
    Back l R p e below s args New1.yN len W (fun P a => a = #[.ref x, .ref b] ∧ P.U.heap = h ∧ P.cells + 1 ≤ R.cells ∧ P.slots + A.slots.size ≤ R.slots)
      (fun P _ v B => ∃ L, Q Z x A h v B.U.heap L ∧ B.locs = P.locs ++ L ∧ B.cells = P.cells + 1 ∧ B.slots = P.slots + A.slots.size) := by
  intro m meth c P g ig mk a X hg hsize hdg hW hn hp'
  obtain ⟨rfl, rfl, r1, r2⟩ := hp'
  have al : Z.vm.Alike P.U.vm := hZ.alike.trans X.warmed.alike
  obtain ⟨D, cfV, kV, iV, fV, hD, gV, stV, knV, obV, asV, slV⟩ := id V
  obtain ⟨D', cfC, kC, iC, fC, hD', gC, stC, -, -, asC, slC⟩ := id C
  cases hD.symm.trans hD'
  obtain ⟨D2, kD, e1, e2, e3, e4, e5⟩ := id E
  cases hD.symm.trans e1
  obtain ⟨c2, k2, i1, i2, i3, -⟩ := Cond.instantiable_spec wi
  cases e2.symm.trans i1
  cases e3.symm.trans i2
  obtain ⟨kU, u1, u2⟩ := al.2.2 _ _ e3
  have hB : Blank ST x D P.U := ⟨hD, ⟨knV, fun q hq => by rw [hq] at obV; cases obV⟩, by rw [al.findClass]; exact e2, kU, u1, by rw [u2]; exact i3, by rw [u2]; exact e5 i3⟩
  have F1 : Found ST "value" "[B" fV P.U := ⟨SBG.found_only al ⟨cfV, kV, iV, gV⟩, stV⟩
  have F2 : Found ST "coder" "B" fC P.U := ⟨SBG.found_only al ⟨cfC, kC, iC, gC⟩, stC⟩
  have hA : Ch b A P.U := ⟨⟨K.1, State.isArrayOf_alike al K.2.1, K.2.2, by omega⟩, hty⟩
  have hS : StaticIs P.U ST "COMPACT_STRINGS" "Z" (.int z) := by
    obtain ⟨cfS, iS, kS, fS, st, cS, t1, t2, t3, t4, t5, t6, t7⟩ := S
    exact StaticIs.there (s := { Z with heap := P.U.heap }) ⟨cfS, iS, kS, fS, st, cS, t1, t2, t3, t4, t5, (fun q => by rw [q] at t6; cases t6), t7⟩ al rfl
  obtain ⟨v, B, X', ⟨⟨hv, E', V', q1, q2, q3, q4, q5, q6, q7, q8, q9, q10, q11⟩, hl, hc, hs⟩, st⟩ := New1.pays x D fV fC b A z (tab_of (moved hZ hw)) hfr hlo m meth c P g ig mk _ X hg hsize hdg hW hn ⟨r1, r2, rfl, hB, F1, F2, hA, hS, hz, l0, l2, hp⟩
  have al' : Z.vm.Alike B.U.vm := hZ.alike.trans X'.warmed.alike
  have hsz : E'.slots.size = D.slots.size := by
    obtain ⟨-, -, -, kB, w1, w2, w3⟩ := q1
    obtain ⟨kB', y1, y2⟩ := al'.2.2 _ _ e3
    rw [q2.2.1] at w1
    cases w1.symm.trans y1
    rw [w3, e5 i3, y2]
  refine ⟨v, B, X', ⟨_, ⟨hv, ?_, ⟨by omega, fun y cy hy hn' => q10 y cy (by simpa using hn') hy, fun y cy hy => ?_⟩, q11, ⟨E', _, q1.1, by rw [q2.2.1]; exact e2, by rw [q2.2.1]; exact e3, by rw [q2.1]; exact obV, fun _ => by rw [hsz]; exact e5 i3⟩,
    ⟨E', cfV, kV, iV, fV, q1.1, gV, stV, by rw [q2.1]; exact knV, by rw [q2.1]; exact obV, by rw [q2.2.1]; exact asV, q3⟩, ⟨E', cfC, kC, iC, fC, q1.1, gC, stC, by rw [q2.1]; exact knV, by rw [q2.1]; exact obV, by rw [q2.2.1]; exact asC, q4⟩,
    ⟨V', ⟨q5.1, State.isArrayOf_alike al'.symm q5.2.1, q5.2.2.1⟩, q6, by rw [← al'.findClass]; exact q7, q8, fun j hj => by have := q9 j hj; rwa [Nat.zero_add] at this⟩, fun O n d w F n1 n2 => ?_⟩, hl, hc, hs⟩, st⟩
  · intro y hy
    simp only [List.mem_cons, List.not_mem_nil, or_false] at hy
    rcases hy with rfl | rfl <;> rfl
  · by_cases q : y = x
    · subst q
      cases hD.symm.trans hy
      exact ⟨E', q1.1, q2.2.1, q2.1, hsz⟩
    · exact ⟨cy, q10 y cy q hy, rfl, rfl, rfl⟩
  · obtain ⟨D3, cf, k, i, f, g1, g2, g3, g4, g5, g6, g7⟩ := F
    cases hD.symm.trans g1
    simp only [RoadKit.slotOf, g2, gV, gC, Option.map_some, Option.getD_some] at n1 n2
    exact ⟨E', cf, k, i, f, q1.1, g2, g3, by rw [q2.1]; exact g4, by rw [q2.1]; exact g5, by rw [q2.2.1]; exact g6, by rw [q2.2.2 f.slot (by simp [n1, n2])]; exact g7⟩
end StrChars.Road
namespace StrChars.Road
open Jvm Sem ClassFile Op Lib Jvm.Stand Jvm.Free Jvm.Free.XT
/-- WHAT COMES BACK, the byte[] as a list of values -/
def QA (Z : State) (x : Addr) (zn : Int32) (cs : List Int32) (h : Heap) (v : Option Value) (h' : Heap) (L : List Loc) : Prop := v = none ∧ (∀ y ∈ L, y.base = x) ∧ RoadKit.Keep h h' [x] ∧ h'.size = h.size + 1 ∧ RoadKit.Exa Z h' x ST ∧ RoadKit.Fld Z h' x ST "value" "[B" (.ref h.size) ∧ RoadKit.Fld Z h' x ST "coder" "B" (.int 0) ∧
  (∃ kb, Z.vm.findClass "[B" = some kb ∧ RoadKit.Arv Z h' h.size kb .byte zn (cs.map fun c => .int (lo8 c)) (.int 0)) ∧
  ∀ (O n d : String) (w : Value), RoadKit.Fld Z h x O n d w → RoadKit.slotOf Z O n d ≠ RoadKit.slotOf Z ST "value" "[B" → RoadKit.slotOf Z O n d ≠ RoadKit.slotOf Z ST "coder" "B" → RoadKit.Fld Z h' x O n d w
/-- **new String(chars) AT A CALL, THE ARRAYS AS LISTS**: the char[] at b holds cs, not empty, no char above 255 -/
theorem backArv {p : Program} {l : Launch} {e : Env} {R : Room} {s : State} {args : Array Value} {below : List Frame} {len W : Nat} {Z : State} {a0 : Array Value} {h : Heap} (hZ : Z.Warmed39 s.vm) (hw : ∀ d ∈ words, d.before a0 Z = true) {kI : Nat} (wi : (Jvm.Cond.instantiable ST kI).before a0 Z = true)
    {x b : Addr} {k : ClassId} {zn z : Int32} {cs : List Int32} {dv v0 c0 : Value} (E : RoadKit.Exa Z h x ST) (V : RoadKit.Fld Z h x ST "value" "[B" v0) (C : RoadKit.Fld Z h x ST "coder" "B" c0) (K : RoadKit.Arv Z h b k .char zn (cs.map Value.int) dv) (S : RoadKit.Sta Z h ST "COMPACT_STRINGS" "Z" (.int z)) (hz : ¬ z = 0)
    (hlen : zn.toNatClampNeg = cs.length) (h0 : 0 < cs.length) (hbig : cs.length ≤ 536870912) (hall : ∀ c ∈ cs, ¬ 255 < c) (hfr : 4 ≤ R.frames) (hlo : W + 65 ≤ R.locals) :
    Back l R p e below s args New1.yN len W (fun P a => a = #[.ref x, .ref b] ∧ P.U.heap = h ∧ P.cells + 1 ≤ R.cells ∧ P.slots + cs.length ≤ R.slots)
      (fun P _ v B => ∃ L, QA Z x zn cs h v B.U.heap L ∧ B.locs = P.locs ++ L ∧ B.cells = P.cells + 1 ∧ B.slots = P.slots + cs.length) := by
  obtain ⟨A, K1, K2, K3, K4, K5, K6⟩ := K
  have e : A.slots.size = cs.length := K3.trans hlen
  have hat : ∀ (i : Nat) (hi : i < cs.length), A.slots[i]? = some (.int cs[i]) := fun i hi => by rw [K5 i (by omega)]; simp [List.getD_eq_getElem?_getD, hi]
  have hcv : ∀ (i : Nat) (hi : i < cs.length), cv A i = cs[i] := fun i hi => by unfold cv; rw [hat i hi]
  have hty : Typed .char A := fun i v hv => by
    have hi : i < A.slots.size := (Array.getElem?_eq_some_iff.mp hv).1
    have q := K5 i hi
    rw [hv] at q
    rw [Option.some.inj q]
    exact K6 i hi
  refine Back.mono (back hZ hw wi E V C K1 hty S hz (by omega) (by omega) (fun i hi => by rw [hcv i (by omega)]; exact hall _ (List.getElem_mem _)) hfr hlo) (fun P a hp => ⟨hp.1, hp.2.1, hp.2.2.1, by rw [e]; exact hp.2.2.2⟩) (fun P a v B hp hq => ?_)
  obtain ⟨L, ⟨q1, q2, q3, q4, q5, q6, q7, ⟨V', v1, v2, v3, v4, v5⟩, q9⟩, hl, hc, hs⟩ := hq
  refine ⟨L, ⟨q1, q2, q3, q4, q5, q6, q7, ⟨V'.cls, v3, V', v1, rfl, by rw [v4, e, hlen], K4, fun i hi => ?_, fun i hi => ?_⟩, q9⟩, hl, hc, by rw [hs, e]⟩
  · have hi' : i < cs.length := by omega
    rw [v5 i (by omega), hcv i hi']; simp [List.getD_eq_getElem?_getD, hi']
  · have hi' : i < cs.length := by omega
    simp only [List.getD_eq_getElem?_getD, List.getElem?_map, List.getElem?_eq_getElem hi', Option.map_some, Option.getD_some]
    exact fits_lo8 _
end StrChars.Road
namespace StrChars.Road
open Jvm Sem ClassFile Op Lib Jvm.Stand Jvm.Free Jvm.Free.XT
/-- WHAT COMES BACK, in the writer's own shape -/
def QV (Z : State) (x : Addr) (N : Int32) (bs : List Int32) (h : Heap) (n0 : Nat) (v : Option Value) (h' : Heap) (L : List Loc) : Prop := v = none ∧ RoadKit.Fr n0 L ∧ RoadKit.Keep h h' [x] ∧ RoadKit.Exa Z h' x ST ∧ RoadKit.Fld Z h' x ST "coder" "B" (.int 0) ∧
  ∃ (t : Addr) (kb : ClassId), n0 ≤ t ∧ h.size ≤ t ∧ ¬ t = x ∧ RoadKit.Fld Z h' x ST "value" "[B" (.ref t) ∧ RoadKit.Arv Z h' t kb .byte N (bs.map Value.int) (.int 0)
/-- **new String(chars) AT A CALL, FOR THE WRITER**: a char[] of n known ints, each 0 to 255 -/
theorem backV {p : Program} {l : Launch} {e : Env} {R : Room} {s : State} {args : Array Value} {below : List Frame} {len W : Nat} {Z : State} {a0 : Array Value} {h : Heap} (hZ : Z.Warmed39 s.vm) (hw : ∀ d ∈ words, d.before a0 Z = true) {kI : Nat} (wi : (Jvm.Cond.instantiable ST kI).before a0 Z = true)
    {x b : Addr} {kC : ClassId} {cs bs : List Int32} {d v0 c0 : Value} {z N : Int32} {n n0 : Nat} (hx0 : n0 ≤ x) (hh0 : n0 ≤ h.size) (E : RoadKit.Exa Z h x ST) (V : RoadKit.Fld Z h x ST "value" "[B" v0) (C : RoadKit.Fld Z h x ST "coder" "B" c0) (K : RoadKit.Arv Z h b kC .char N (cs.map Value.int) d) (S : RoadKit.Sta Z h ST "COMPACT_STRINGS" "Z" (.int z)) (hz : ¬ z = 0)
    (hn : cs.length = n) (hN : N = Int32.ofNat n) (l0 : 0 < n) (l2 : n ≤ 4000) (hp : ∀ c ∈ cs, ¬ c < 0 ∧ ¬ (255 : Int32) < c) (hb : bs = cs.map (fun c => c.toInt8.toInt32)) (hfr : 4 ≤ R.frames) (hlo : W + 65 ≤ R.locals) :
    Back l R p e below s args (⟨"java/lang/String", "<init>", "([C)V"⟩ : MethodName) len W (fun P a => a = #[.ref x, .ref b] ∧ P.U.heap = h ∧ P.cells + 1 ≤ R.cells ∧ P.slots + n ≤ R.slots)
      (fun P _ v B => ∃ L, QV Z x N bs h n0 v B.U.heap L ∧ B.locs = P.locs ++ L ∧ B.cells = P.cells + 1 ∧ B.slots = P.slots + n) := by
  subst hn hN hb
  refine Back.mono (backArv hZ hw wi E V C K S hz (n32 (by omega)) l0 (by omega) (fun c hc => (hp c hc).2) hfr hlo) (fun P a hp => hp) (fun P a v B hp hq => ?_)
  obtain ⟨L, ⟨q1, q2, q3, q4, q5, q6, q7, ⟨kb, v1, v2⟩, q9⟩, hl, hc, hs⟩ := hq
  exact ⟨L, ⟨q1, fun y hy => by rw [q2 y hy]; exact hx0, q3, q5, q7, h.size, kb, hh0, Nat.le_refl _, Nat.ne_of_gt E.lt, q6, by rw [List.map_map]; exact v2⟩, hl, hc, hs⟩
end StrChars.Road
namespace StrChars
open Jvm Sem ClassFile Op Lib Jvm.Stand Jvm.Free.XT Jvm.Free.ALB Jvm.Free.JM Jvm.Free
open Jvm.Lib.Cold (StaticIs)
def hi8 (x : Int32) : Int32 := lo8 (x >>> ((8 : Int32) &&& 31))
/-- what StringUTF16.getChar makes of two bytes -/
def pairCh (u v : Int32) : Int32 := (((u &&& 255) <<< ((0 : Int32) &&& 31)) ||| ((v &&& 255) <<< ((8 : Int32) &&& 31))).toUInt32.toUInt16.toUInt32.toInt32
theorem lo8_and (x : Int32) : (lo8 x &&& 255).toBitVec.toNat = x.toBitVec.toNat % 256 := by
  have h : (lo8 x).toBitVec = (x.toBitVec.signExtend 8).signExtend 32 := by rw [lo8, Int8.toBitVec_toInt32, Int32.toBitVec_toInt8]
  rw [Int32.toBitVec_and, BitVec.toNat_and, h]
  have e : ((x.toBitVec.signExtend 8).signExtend 32).toNat % 256 = x.toBitVec.toNat % 256 := by
    rw [BitVec.toNat_signExtend]
    have hlt := x.toBitVec.isLt
    simp only [BitVec.toNat_setWidth, BitVec.toNat_signExtend]
    split <;> split <;> omega
  rw [← e]
  exact Nat.and_two_pow_sub_one_eq_mod _ 8
theorem pair_says {c : Int32} (h0 : ¬ c < 0) (h1 : ¬ 65535 < c) : pairCh (lo8 c) (hi8 c) = c := by
  rw [Int32.lt_iff_toInt_lt] at h0 h1
  have e0 : (0 : Int32).toInt = 0 := rfl
  have e1 : (65535 : Int32).toInt = 65535 := rfl
  have hc : c.toInt = c.toBitVec.toNat := by
    have := c.toBitVec.isLt
    have e : c.toInt = c.toBitVec.toInt := rfl
    rw [e] at h0 h1
    rw [e]
    rw [BitVec.toInt_eq_toNat_cond] at h0 h1 ⊢
    split at h0 <;> split <;> omega
  have hn : c.toBitVec.toNat < 65536 := by omega
  have a1 := lo8_and c
  have a2 : (hi8 c &&& 255).toBitVec.toNat = c.toBitVec.toNat / 256 := by
    rw [hi8, lo8_and]
    have e : ((8 : Int32) &&& 31) = 8 := by decide
    rw [e, Int32.toBitVec_shiftRight]
    have e2 : ((8 : Int32).toBitVec.smod 32) = 8#32 := by decide
    rw [e2, BitVec.sshiftRight_eq', BitVec.toNat_sshiftRight_of_msb_false (by rw [BitVec.msb_eq_false_iff_two_mul_lt]; omega)]
    show c.toBitVec.toNat >>> 8 % 256 = _
    rw [Nat.shiftRight_eq_div_pow]
    omega
  unfold pairCh
  apply Int32.toBitVec_inj.mp
  apply BitVec.eq_of_toNat_eq
  have f0 : ((0 : Int32) &&& 31) = 0 := by decide
  have f8 : ((8 : Int32) &&& 31) = 8 := by decide
  rw [f0, f8]
  have g : (((lo8 c &&& 255) <<< (0 : Int32)) ||| ((hi8 c &&& 255) <<< (8 : Int32))).toBitVec.toNat = c.toBitVec.toNat := by
    rw [Int32.toBitVec_or, Int32.toBitVec_shiftLeft, Int32.toBitVec_shiftLeft]
    have s0 : ((0 : Int32).toBitVec.smod 32) = 0#32 := by decide
    have s8 : ((8 : Int32).toBitVec.smod 32) = 8#32 := by decide
    rw [s0, s8, BitVec.toNat_or]
    simp only [BitVec.shiftLeft_eq', BitVec.toNat_shiftLeft, a1, a2]
    show (c.toBitVec.toNat % 256) <<< 0 % 2 ^ 32 ||| (c.toBitVec.toNat / 256) <<< 8 % 2 ^ 32 = _
    rw [Nat.shiftLeft_zero, Nat.mod_eq_of_lt (show c.toBitVec.toNat % 256 < 2 ^ 32 by omega), Nat.mod_eq_of_lt (show (c.toBitVec.toNat / 256) <<< 8 < 2 ^ 32 by rw [Nat.shiftLeft_eq]; omega), Nat.or_comm, ← Nat.shiftLeft_add_eq_or_of_lt (by omega), Nat.shiftLeft_eq]
    omega
  show BitVec.toNat (((((lo8 c &&& 255) <<< (0 : Int32)) ||| ((hi8 c &&& 255) <<< (8 : Int32))).toBitVec.setWidth 16).setWidth 32) = _
  rw [BitVec.toNat_setWidth, BitVec.toNat_setWidth, g]
  omega
end StrChars
namespace StrChars
open Jvm Sem ClassFile Op Lib Jvm.Stand Jvm.Free.XT Jvm.Free.ALB Jvm.Free.JM Jvm.Free
open Jvm.Lib.Cold (StaticIs)
/-- the array's cell V codes the n chars f 0 .. f (n - 1) by the coder cd, as the JDK does: coder 1 just where some char is above 255 -/
def Cod (cd : Int32) (n : Nat) (f : Nat → Int32) (V : Cell) : Prop := (cd = 0 ∧ V.slots.size = n ∧ ∀ j, j < n → V.slots[j]? = some (.int (lo8 (f j))) ∧ ¬ 255 < f j) ∨ (cd = 1 ∧ V.slots.size = 2 * n ∧ (∀ j, j < n → V.slots[2 * j]? = some (.int (lo8 (f j))) ∧ V.slots[2 * j + 1]? = some (.int (hi8 (f j)))) ∧ ∃ j, j < n ∧ 255 < f j)
/-- **x is a String of the n chars f 0 .. f (n - 1)**, Latin-1 or UTF-16; its array at t has the cell V -/
def Txt (x t : Addr) (V : Cell) (cd : Int32) (n : Nat) (f : Nat → Int32) (U : State) : Prop := Exact "java/lang/String" x U ∧ Has x "java/lang/String" "value" "[B" (.ref t) U ∧ Has x "java/lang/String" "coder" "B" (.int cd) U ∧ XT.Arr .byte t V U ∧ Cod cd n f V ∧ ∀ j, j < n → ¬ f j < 0 ∧ ¬ 65535 < f j
theorem Txt.mv {x t : Addr} {V : Cell} {cd : Int32} {n : Nat} {f : Nat → Int32} {U U' : State} (h : Txt x t V cd n f U) (hal : U.vm.Alike U'.vm) (hh : U'.heap = U.heap) : Txt x t V cd n f U' := ⟨h.1.mv hal hh, h.2.1.mv hal hh, h.2.2.1.mv hal hh, h.2.2.2.1.mv hal hh, h.2.2.2.2⟩
end StrChars
namespace StrChars.Road
open Jvm Sem ClassFile Op Lib Jvm.Stand Jvm.Free Jvm.Free.XT
open Jvm.Lib.Cold (StaticIs)
theorem consq {a : Array Value} {s : State} {c : Jvm.Cond} {L : List Jvm.Cond} (h0 : c.before a s = true) (h : ∀ w ∈ L, w.before a s = true) : ∀ w ∈ c :: L, w.before a s = true := fun w hw => (List.mem_cons.mp hw).elim (fun e => e ▸ h0) (h w)
/-- the bytes of the chars cs, low before high -/
def wideBytes : List Int32 → List Value
  | [] => []
  | c :: cs => .int (lo8 c) :: .int (hi8 c) :: wideBytes cs
theorem wide_lo (d : Value) : ∀ (cs : List Int32) (j : Nat), j < cs.length → (wideBytes cs).getD (2 * j) d = .int (lo8 (cs.getD j 0))
  | [], j, h => absurd h (Nat.not_lt_zero j)
  | c :: cs, 0, _ => rfl
  | c :: cs, j + 1, h => by
    have q := wide_lo d cs j (by simpa using h)
    rw [show 2 * (j + 1) = 2 * j + 1 + 1 from by omega]
    simpa [wideBytes] using q
theorem wide_hi (d : Value) : ∀ (cs : List Int32) (j : Nat), j < cs.length → (wideBytes cs).getD (2 * j + 1) d = .int (hi8 (cs.getD j 0))
  | [], j, h => absurd h (Nat.not_lt_zero j)
  | c :: cs, 0, _ => rfl
  | c :: cs, j + 1, h => by
    have q := wide_hi d cs j (by simpa using h)
    rw [show 2 * (j + 1) + 1 = 2 * j + 1 + 1 + 1 from by omega]
    simpa [wideBytes] using q
theorem low_at (d : Value) (cs : List Int32) (j : Nat) (h : j < cs.length) : (cs.map fun c => Value.int (lo8 c)).getD j d = .int (lo8 (cs.getD j 0)) := by
  simp [List.getD_eq_getElem?_getD, h]
/-- an array of N2 bytes vs codes the chars cs by the coder cd -/
def CodA (cs : List Int32) (cd N2 : Int32) (vs : List Value) : Prop := (cd = 0 ∧ N2 = Int32.ofNat cs.length ∧ vs = (cs.map fun c => Value.int (lo8 c)) ∧ ∀ c ∈ cs, ¬ 255 < c) ∨ (cd = 1 ∧ N2 = Int32.ofNat (2 * cs.length) ∧ vs = wideBytes cs ∧ ∃ c ∈ cs, 255 < c)
theorem CodA.cod {cs : List Int32} {cd N2 : Int32} {vs : List Value} {V : Cell} (h : CodA cs cd N2 vs) (hn : 2 * cs.length < 2 ^ 31) (hs : V.slots.size = N2.toNatClampNeg) (hv : RoadKit.Has V vs (.int 0)) : Cod cd cs.length (fun j => cs.getD j 0) V := by
  rcases h with ⟨rfl, rfl, rfl, h⟩ | ⟨rfl, rfl, rfl, c, hc, hw⟩
  · rw [n32 (by omega)] at hs
    exact Or.inl ⟨rfl, hs, fun j hj => ⟨by rw [hv j (by omega), low_at _ _ _ hj], by
      have e : cs.getD j 0 = cs[j] := by simp [List.getD_eq_getElem?_getD, hj]
      show ¬ 255 < cs.getD j 0
      rw [e]; exact h _ (List.getElem_mem _)⟩⟩
  · rw [n32 (by omega)] at hs
    obtain ⟨j, hj, rfl⟩ := List.getElem_of_mem hc
    exact Or.inr ⟨rfl, hs, fun j hj => ⟨by rw [hv _ (by omega), wide_lo _ _ _ hj], by rw [hv _ (by omega), wide_hi _ _ _ hj]⟩, j, hj, by
      have e : cs.getD j 0 = cs[j] := by simp [List.getD_eq_getElem?_getD, hj]
      show 255 < cs.getD j 0
      rw [e]; exact hw⟩
/-- an object of exactly java/lang/String, its two fields found: as the laws ask it -/
theorem strObj {Z U : State} {a0 : Array Value} {kI : Nat} (wi : (Jvm.Cond.instantiable ST kI).before a0 Z = true) (al : Z.vm.Alike U.vm) {x : Addr} {v0 c0 : Value} (E : RoadKit.Exa Z U.heap x ST) (V : RoadKit.Fld Z U.heap x ST "value" "[B" v0) (C : RoadKit.Fld Z U.heap x ST "coder" "B" c0) :
    ∃ (D : Cell) (fV fC : Field), Blank ST x D U ∧ Found ST "value" "[B" fV U ∧ Found ST "coder" "B" fC U ∧ D.slots[fV.slot]? = some v0 ∧ D.slots[fC.slot]? = some c0 ∧ RoadKit.slotOf Z ST "value" "[B" = fV.slot ∧ RoadKit.slotOf Z ST "coder" "B" = fC.slot := by
  obtain ⟨D, cfV, kV, iV, fV, hD, gV, stV, knV, obV, asV, slV⟩ := V
  obtain ⟨D', cfC, kC, iC, fC, hD', gC, stC, -, -, asC, slC⟩ := C
  cases hD.symm.trans hD'
  obtain ⟨D2, kD, e1, e2, e3, e4, e5⟩ := E
  cases hD.symm.trans e1
  obtain ⟨c2, k2, i1, i2, i3, -⟩ := Cond.instantiable_spec wi
  cases e2.symm.trans i1
  cases e3.symm.trans i2
  obtain ⟨kU, u1, u2⟩ := al.2.2 _ _ e3
  exact ⟨D, fV, fC, ⟨hD, ⟨knV, fun q hq => by rw [hq] at obV; cases obV⟩, by rw [al.findClass]; exact e2, kU, u1, by rw [u2]; exact i3, by rw [u2]; exact e5 i3⟩, ⟨SBG.found_only al ⟨cfV, kV, iV, gV⟩, stV⟩, ⟨SBG.found_only al ⟨cfC, kC, iC, gC⟩, stC⟩, slV, slC, by simp [RoadKit.slotOf, gV], by simp [RoadKit.slotOf, gC]⟩
theorem sta_is {Z U : State} (al : Z.vm.Alike U.vm) {C n d : String} {v : Value} (S : RoadKit.Sta Z U.heap C n d v) : StaticIs U C n d v := by
  obtain ⟨cfS, iS, kS, fS, st, cS, t1, t2, t3, t4, t5, t6, t7⟩ := S
  exact StaticIs.there (s := { Z with heap := U.heap }) ⟨cfS, iS, kS, fS, st, cS, t1, t2, t3, t4, t5, (fun q => by rw [q] at t6; cases t6), t7⟩ al rfl
end StrChars.Road
namespace StrChars
open Jvm Sem ClassFile Op Lib Jvm.Stand Jvm.Free.XT Jvm.Free.ALB Jvm.Free.JM Jvm.Free
open Jvm.Lib.Cold (StaticIs)
/-- what place i of a byte[]'s cell holds -/
def yv (A : Cell) (i : Nat) : Int32 := match A.slots[i]? with | some (.int x) => x | _ => 0
theorem yv_get {a : Addr} {A : Cell} {U : State} (h : XT.Arr .byte a A U) (ht : Typed .byte A) {i : Nat} (hi : i < A.slots.size) : A.slots[i]? = some (.int (yv A i)) := by
  have e := Array.getElem?_eq_getElem hi
  have f := ht i _ e
  unfold yv; rw [e]
  generalize A.slots[i] = v at f
  cases v <;> simp [fits] at f ⊢
/-- the two arrays are equal, place for place -/
def EqC (A B : Cell) : Prop := A.slots.size = B.slots.size ∧ ∀ i, i < A.slots.size → yv A i = yv B i
/-- a boolean that says whether p -/
def Says01 (q : Prop) (r : Option Value) (s u : State) : Prop := ∃ v : Int32, r = some (.int v) ∧ u.heap = s.heap ∧ ((v = 1 ∧ q) ∨ (v = 0 ∧ ¬ q))
theorem Says01.mv {q : Prop} : ∀ r (U U' V V' : State), U'.heap = U.heap → V.vm.Alike V'.vm → V'.heap = V.heap → Says01 q r U V → Says01 q r U' V' :=
  fun r U U' V V' h1 _ h2 ⟨v, a, b, c⟩ => ⟨v, a, by rw [h1, h2]; exact b, c⟩
namespace LEq
def yN : MethodName := ⟨"java/lang/StringLatin1", "equals", "([B[B)Z"⟩
abbrev yB : ByteArray := jdk_43_method_13_code
theorem d0 : decode yB 0 = .ok (.aload_n 0, 1) := by decide +kernel
theorem d1 : decode yB 1 = .ok (.arraylength, 1) := by decide +kernel
theorem d2 : decode yB 2 = .ok (.aload_n 1, 1) := by decide +kernel
theorem d3 : decode yB 3 = .ok (.arraylength, 1) := by decide +kernel
theorem d4 : decode yB 4 = .ok (.if_icmp (.ne) 30, 3) := by decide +kernel
theorem d7 : decode yB 7 = .ok (.iconst 0, 1) := by decide +kernel
theorem d8 : decode yB 8 = .ok (.istore_n 2, 1) := by decide +kernel
theorem d9 : decode yB 9 = .ok (.iload_n 2, 1) := by decide +kernel
theorem d10 : decode yB 10 = .ok (.aload_n 0, 1) := by decide +kernel
theorem d11 : decode yB 11 = .ok (.arraylength, 1) := by decide +kernel
theorem d12 : decode yB 12 = .ok (.if_icmp (.ge) 20, 3) := by decide +kernel
theorem d15 : decode yB 15 = .ok (.aload_n 0, 1) := by decide +kernel
theorem d16 : decode yB 16 = .ok (.iload_n 2, 1) := by decide +kernel
theorem d17 : decode yB 17 = .ok (.baload, 1) := by decide +kernel
theorem d18 : decode yB 18 = .ok (.aload_n 1, 1) := by decide +kernel
theorem d19 : decode yB 19 = .ok (.iload_n 2, 1) := by decide +kernel
theorem d20 : decode yB 20 = .ok (.baload, 1) := by decide +kernel
theorem d21 : decode yB 21 = .ok (.if_icmp (.eq) 5, 3) := by decide +kernel
theorem d24 : decode yB 24 = .ok (.iconst 0, 1) := by decide +kernel
theorem d25 : decode yB 25 = .ok (.ireturn, 1) := by decide +kernel
theorem d26 : decode yB 26 = .ok (.iinc 2 1, 3) := by decide +kernel
theorem d29 : decode yB 29 = .ok (.goto (-20), 3) := by decide +kernel
theorem d32 : decode yB 32 = .ok (.iconst 1, 1) := by decide +kernel
theorem d33 : decode yB 33 = .ok (.ireturn, 1) := by decide +kernel
theorem d34 : decode yB 34 = .ok (.iconst 0, 1) := by decide +kernel
theorem d35 : decode yB 35 = .ok (.ireturn, 1) := by decide +kernel
def site : List Cond := []
def tab : Cond := tabOf yN yB 3 (some .boolean) site
def P (a : Addr) (A : Cell) (b : Addr) (B : Cell) (args : Array Value) (s : State) : Prop := args = #[.ref a, .ref b] ∧ XT.Arr .byte a A s ∧ Typed .byte A ∧ XT.Arr .byte b B s ∧ Typed .byte B
/-- whether two byte[] are equal, place for place -/
theorem law (l : Launch) (a : Addr) (A : Cell) (b : Addr) (B : Cell) : Law l yN 2 2 0 0 yB 3 (some .boolean) site (P a A b B) (Says01 (EqC A B)) [] 0 0 := by
  refine Law.of_walk (plainFor_of_name (by decide +kernel)) (by decide +kernel) (by decide +kernel) (by decide) (fun _ _ h => by rw [h.1]; rfl) (fun _ U U' hal hh h => ⟨h.1, h.2.1.mv hal hh, h.2.2.1, h.2.2.2.1.mv hal hh, h.2.2.2.2⟩) (fun r U U' V V' h1 hal h2 h => Says01.mv r U U' V V' h1 hal h2 h) ?_
  intro p e s m args below meth c s₁ X0 hexec hbytes hml hret hlk hnm hown hh0 W hP
  obtain ⟨rfl, hA, tA, hB, tB⟩ := hP
  have a31 := hA.2.2.2
  have b31 := hB.2.2.2
  have hA0 := hA.mv X0.warmed.alike hh0
  have hB0 := hB.mv X0.warmed.alike hh0
  have c1 : Steps p.tables e below (s₁.setTop (entryFrame m #[.ref a, .ref b] 3)) (s₁.setTop (mkF m 0 #[.val (.ref a), .val (.ref b), .unset] [])) := entry rfl
  have c2 : Steps p.tables e below (s₁.setTop (entryFrame m #[.ref a, .ref b] 3)) (s₁.setTop (mkF m 4 #[.val (.ref a), .val (.ref b), .unset] [.int (Int32.ofNat B.slots.size), .int (Int32.ofNat A.slots.size)])) := c1.trans (by
    refine XS.aloadN X0.here hexec rfl (hb hbytes d0) rfl rfl ?_
    refine X0.alen hexec hA0 rfl rfl (hb hbytes d1) ?_
    refine XS.aloadN X0.here hexec rfl (hb hbytes d2) rfl rfl ?_
    refine X0.alen hexec hB0 rfl rfl (hb hbytes d3) ?_
    exact Steps.refl _)
  by_cases hs : A.slots.size = B.slots.size
  · have c3 : Steps p.tables e below (s₁.setTop (entryFrame m #[.ref a, .ref b] 3)) (s₁.setTop (mkF m 9 #[.val (.ref a), .val (.ref b), .val (.int 0)] [])) := c2.trans (by
      refine XS.icmpNo X0.here hexec rfl (hb hbytes d4) rfl (ii_ne_f (by rw [hs])) ?_
      refine iconstV X0.here hexec rfl 0 (hb hbytes d7) (by decide) ?_
      refine XS.istoreN X0.here hexec rfl (hb hbytes d8) rfl rfl ?_
      exact Steps.refl _)
    have loop : ∀ (r i : Nat), i + r = A.slots.size → (∀ j, j < i → yv A j = yv B j) → Steps p.tables e below (s₁.setTop (entryFrame m #[.ref a, .ref b] 3)) (s₁.setTop (mkF m 9 #[.val (.ref a), .val (.ref b), .val (.int (Int32.ofNat i))] [])) → ∃ (pc : Nat) (Ls : Array Slot) (v : Int32), (pc = 25 ∨ pc = 33) ∧ ((v = 1 ∧ EqC A B) ∨ (v = 0 ∧ ¬ EqC A B)) ∧ Steps p.tables e below (s₁.setTop (entryFrame m #[.ref a, .ref b] 3)) (s₁.setTop (mkF m pc Ls [.int v])) := by
      intro r
      induction r with
      | zero =>
        intro i hi he cl
        exact ⟨33, _, 1, Or.inr rfl, Or.inl ⟨rfl, hs, fun j hj => he j (by omega)⟩, cl.trans (by
          refine XS.iloadN X0.here hexec rfl (hb hbytes d9) rfl ?_
          refine XS.aloadN X0.here hexec rfl (hb hbytes d10) rfl rfl ?_
          refine X0.alen hexec hA0 rfl rfl (hb hbytes d11) ?_
          refine XS.icmpYes X0.here hexec rfl (pc0 := 12) rfl (hb hbytes d12) rfl (ii_ge_t (nlt32 (by omega) (by omega))) (by decide) rfl ?_
          refine iconstV X0.here hexec rfl 1 (hb hbytes d32) (by decide) ?_
          exact Steps.refl _)⟩
      | succ r ih =>
        intro i hi he cl
        have c4 : Steps p.tables e below (s₁.setTop (entryFrame m #[.ref a, .ref b] 3)) (s₁.setTop (mkF m 21 #[.val (.ref a), .val (.ref b), .val (.int (Int32.ofNat i))] [.int (yv B i), .int (yv A i)])) := cl.trans (by
          refine XS.iloadN X0.here hexec rfl (hb hbytes d9) rfl ?_
          refine XS.aloadN X0.here hexec rfl (hb hbytes d10) rfl rfl ?_
          refine X0.alen hexec hA0 rfl rfl (hb hbytes d11) ?_
          refine XS.icmpNo X0.here hexec rfl (hb hbytes d12) rfl (ii_ge_f (lt32 (by omega) (by omega))) ?_
          refine XS.aloadN X0.here hexec rfl (hb hbytes d15) rfl rfl ?_
          refine XS.iloadN X0.here hexec rfl (hb hbytes d16) rfl ?_
          refine X0.aget hexec hA0 rfl (yv_get hA tA (i := i) (by omega)) rfl rfl (hb hbytes d17) ?_
          refine XS.aloadN X0.here hexec rfl (hb hbytes d18) rfl rfl ?_
          refine XS.iloadN X0.here hexec rfl (hb hbytes d19) rfl ?_
          refine X0.aget hexec hB0 rfl (yv_get hB tB (i := i) (by omega)) rfl rfl (hb hbytes d20) ?_
          exact Steps.refl _)
        by_cases hv : yv A i = yv B i
        · have c5 : Steps p.tables e below (s₁.setTop (entryFrame m #[.ref a, .ref b] 3)) (s₁.setTop (mkF m 9 #[.val (.ref a), .val (.ref b), .val (.int (Int32.ofNat i + 1))] [])) := c4.trans (by
            refine XS.icmpYes X0.here hexec rfl (pc0 := 21) rfl (hb hbytes d21) rfl (ii_eq_t hv) (by decide) rfl ?_
            refine iincV X0.here hexec rfl 1 (hb hbytes d26) (by decide) rfl rfl ?_
            refine XS.goto X0.here hexec rfl (pc0 := 29) rfl (hb hbytes d29) (by decide) rfl ?_
            exact Steps.refl _)
          rw [succ32] at c5
          exact ih (i + 1) (by omega) (fun j hj => by
            by_cases e : j = i
            · rw [e]; exact hv
            · exact he j (by omega)) c5
        · exact ⟨25, _, 0, Or.inl rfl, Or.inr ⟨rfl, fun q => hv (q.2 i (by omega))⟩, c4.trans (by
            refine XS.icmpNo X0.here hexec rfl (hb hbytes d21) rfl (ii_eq_f hv) ?_
            refine iconstV X0.here hexec rfl 0 (hb hbytes d24) (by decide) ?_
            exact Steps.refl _)⟩
    obtain ⟨pc, Ls, v, hpc, hv, cz⟩ := loop A.slots.size 0 (by omega) (fun j hj => absurd hj (Nat.not_lt_zero j)) c3
    have nv : narrow .boolean (.int v) = .int v := by rcases hv with ⟨rfl, -⟩ | ⟨rfl, -⟩ <;> rfl
    rcases hpc with rfl | rfl
    · exact ⟨s₁, some (.int v), _, _, _, X0, rfl, rfl, rfl, (fun h => by cases h), ⟨v, rfl, hh0, hv⟩, fun fs hl => cz.trans (X0.ireturnOut hexec hret nv (Or.inr (Or.inl rfl)) (hb hbytes d25) hl)⟩
    · exact ⟨s₁, some (.int v), _, _, _, X0, rfl, rfl, rfl, (fun h => by cases h), ⟨v, rfl, hh0, hv⟩, fun fs hl => cz.trans (X0.ireturnOut hexec hret nv (Or.inr (Or.inl rfl)) (hb hbytes d33) hl)⟩
  · have c3 : Steps p.tables e below (s₁.setTop (entryFrame m #[.ref a, .ref b] 3)) (s₁.setTop (mkF m 35 #[.val (.ref a), .val (.ref b), .unset] [.int 0])) := c2.trans (by
      refine XS.icmpYes X0.here hexec rfl (pc0 := 4) rfl (hb hbytes d4) rfl (ii_ne_t (ne32 a31 b31 hs)) (by decide) rfl ?_
      refine iconstV X0.here hexec rfl 0 (hb hbytes d34) (by decide) ?_
      exact Steps.refl _)
    exact ⟨s₁, some (.int 0), _, _, _, X0, rfl, rfl, rfl, (fun h => by cases h), ⟨0, rfl, hh0, Or.inr ⟨rfl, fun q => hs q.1⟩⟩, fun fs hl => c3.trans (X0.ireturnOut hexec hret rfl (Or.inr (Or.inl rfl)) (hb hbytes d35) hl)⟩
end LEq
theorem Cod.ty {cd : Int32} {n : Nat} {f : Nat → Int32} {V : Cell} (h : Cod cd n f V) : Typed .byte V := fun i v hv => by
  have hi : i < V.slots.size := (Array.getElem?_eq_some_iff.mp hv).1
  rcases h with ⟨-, k1, k2⟩ | ⟨-, k1, k2, -⟩
  · rw [(k2 i (by omega)).1] at hv; cases hv; exact fits_lo8 _
  · rcases Nat.mod_two_eq_zero_or_one i with e | e
    · obtain ⟨j, rfl⟩ : ∃ j, i = 2 * j := ⟨i / 2, by omega⟩
      rw [(k2 j (by omega)).1] at hv; cases hv; exact fits_lo8 _
    · obtain ⟨j, rfl⟩ : ∃ j, i = 2 * j + 1 := ⟨i / 2, by omega⟩
      rw [(k2 j (by omega)).2] at hv; cases hv; exact fits_lo8 _
/-- the same text -/
def SameT (n : Nat) (f : Nat → Int32) (k : Nat) (g : Nat → Int32) : Prop := n = k ∧ ∀ j, j < n → f j = g j
theorem lo8_inj {x y : Int32} (h0 : ¬ x < 0) (h1 : ¬ 255 < x) (k0 : ¬ y < 0) (k1 : ¬ 255 < y) (h : lo8 x = lo8 y) : x = y := by
  rw [← lo8_mask h0 h1, ← lo8_mask k0 k1, h]
/-- arrays coded by one coder are equal just where the texts are -/
theorem Cod.eqv {cd : Int32} {n k : Nat} {f g : Nat → Int32} {V V' : Cell} (h : Cod cd n f V) (h' : Cod cd k g V') (hf : ∀ j, j < n → ¬ f j < 0 ∧ ¬ 65535 < f j) (hg : ∀ j, j < k → ¬ g j < 0 ∧ ¬ 65535 < g j) : EqC V V' ↔ SameT n f k g := by
  have yvv : ∀ {W : Cell} {i : Nat} {x : Int32}, W.slots[i]? = some (.int x) → yv W i = x := fun q => by unfold yv; rw [q]
  rcases h with ⟨rfl, k1, k2⟩ | ⟨rfl, k1, k2, -⟩
  · rcases h' with ⟨-, m1, m2⟩ | ⟨e, -⟩
    · constructor
      · rintro ⟨e1, e2⟩
        refine ⟨by omega, fun j hj => ?_⟩
        have q := e2 j (by omega)
        rw [yvv (k2 j hj).1, yvv (m2 j (by omega)).1] at q
        exact lo8_inj (hf j hj).1 (k2 j hj).2 (hg j (by omega)).1 (m2 j (by omega)).2 q
      · rintro ⟨rfl, e2⟩
        refine ⟨by omega, fun j hj => ?_⟩
        rw [yvv (k2 j (by omega)).1, yvv (m2 j (by omega)).1, e2 j (by omega)]
    · exact absurd e (by decide)
  · rcases h' with ⟨e, -⟩ | ⟨-, m1, m2, -⟩
    · exact absurd e (by decide)
    · constructor
      · rintro ⟨e1, e2⟩
        refine ⟨by omega, fun j hj => ?_⟩
        have q1 := e2 (2 * j) (by omega)
        have q2 := e2 (2 * j + 1) (by omega)
        rw [yvv (k2 j hj).1, yvv (m2 j (by omega)).1] at q1
        rw [yvv (k2 j hj).2, yvv (m2 j (by omega)).2] at q2
        rw [← pair_says (hf j hj).1 (hf j hj).2, ← pair_says (hg j (by omega)).1 (hg j (by omega)).2, q1, q2]
      · rintro ⟨rfl, e2⟩
        refine ⟨by omega, fun i hi => ?_⟩
        rcases Nat.mod_two_eq_zero_or_one i with e | e
        · obtain ⟨j, rfl⟩ : ∃ j, i = 2 * j := ⟨i / 2, by omega⟩
          rw [yvv (k2 j (by omega)).1, yvv (m2 j (by omega)).1, e2 j (by omega)]
        · obtain ⟨j, rfl⟩ : ∃ j, i = 2 * j + 1 := ⟨i / 2, by omega⟩
          rw [yvv (k2 j (by omega)).2, yvv (m2 j (by omega)).2, e2 j (by omega)]
/-- two codings differ: so do the texts -/
theorem Cod.dif {cd cd' : Int32} {n k : Nat} {f g : Nat → Int32} {V V' : Cell} (h : Cod cd n f V) (h' : Cod cd' k g V') (hne : ¬ cd = cd') : ¬ SameT n f k g := by
  rintro ⟨rfl, e⟩
  rcases h with ⟨rfl, -, k2⟩ | ⟨rfl, -, -, j, hj, hw⟩
  · rcases h' with ⟨rfl, -⟩ | ⟨-, -, -, j, hj, hw⟩
    · exact hne rfl
    · exact (k2 j hj).2 (by rw [e j hj]; exact hw)
  · rcases h' with ⟨-, -, m2⟩ | ⟨rfl, -⟩
    · exact (m2 j hj).2 (by rw [← e j hj]; exact hw)
    · exact hne rfl
/-- an object of exactly C is an instance of C -/
theorem cinst {p : Program} {l : Launch} {e : Env} {R : Room} {s : State} {m : MethodId} {args : Array Value} {below : List Frame} {meth : Method} {c : Code} {T : State} {locs : List Loc} {cells slots : Nat} (X : Stand p l e R s m args below meth c T locs cells slots) (hexec : p.tables.exec = Jvm.exec) {own C : String} {index : Nat} (hown : s.vm.findClass own = some m.cls) (hlink : (Cond.classLink own index C).before args s = true) {a : Addr} (hE : Exact C a T)
    {g : JFrame} (hg : g.method = m) {rest : List Value} (hstack : g.stack = .ref a :: rest) (hdg : decode c.code g.pc = .ok (.instanceof index, 3)) :
    ∃ T', Stand p l e R s m args below meth c T' locs cells slots ∧ T'.heap = T.heap ∧ ∀ target, Steps p.tables e below (T'.setTop { g with pc := g.pc + 3, stack := .int 1 :: rest }) target → Steps p.tables e below (T.setTop g) target := by
  obtain ⟨cB, h1, D, h2, h3, h4⟩ := hE
  have h1' : s.vm.findClass C = some cB := by rw [← X.warmed.alike.findClass]; exact h1
  obtain ⟨vm', X', st⟩ := X.instanceofYes hexec hown hlink h2 h4 h1' (by rw [h3]; exact Jvm.Free.SB.assignable_self _ _) hg hstack hdg
  exact ⟨_, X', rfl, st⟩
theorem cself {p : Program} {l : Launch} {e : Env} {R : Room} {s : State} {m : MethodId} {args : Array Value} {below : List Frame} {meth : Method} {c : Code} {T : State} {locs : List Loc} {cells slots : Nat} (X : Stand p l e R s m args below meth c T locs cells slots) (hexec : p.tables.exec = Jvm.exec) {own C : String} {index : Nat} (hown : s.vm.findClass own = some m.cls) (hlink : (Cond.classLink own index C).before args s = true) {a : Addr} (hE : Exact C a T)
    {g : JFrame} (hg : g.method = m) {rest : List Value} (hstack : g.stack = .ref a :: rest) (hdg : decode c.code g.pc = .ok (.checkcast index, 3)) :
    ∃ T', Stand p l e R s m args below meth c T' locs cells slots ∧ T'.heap = T.heap ∧ ∀ target, Steps p.tables e below (T'.setTop { g with pc := g.pc + 3, stack := .ref a :: rest }) target → Steps p.tables e below (T.setTop g) target := by
  obtain ⟨cB, h1, D, h2, h3, h4⟩ := hE
  have h1' : s.vm.findClass C = some cB := by rw [← X.warmed.alike.findClass]; exact h1
  obtain ⟨vm', X', st⟩ := X.checkcastYes hexec hown hlink h2 h4 h1' (by rw [h3]; exact Jvm.Free.SB.assignable_self _ _) hg hstack hdg
  exact ⟨_, X', rfl, fun t h => st t (by rw [← hstack] at h; exact h)⟩
namespace SEq
def yN : MethodName := ⟨"java/lang/String", "equals", "(Ljava/lang/Object;)Z"⟩
abbrev yB : ByteArray := jdk_42_method_66_code
theorem d0 : decode yB 0 = .ok (.aload_n 0, 1) := by decide +kernel
theorem d1 : decode yB 1 = .ok (.aload_n 1, 1) := by decide +kernel
theorem d2 : decode yB 2 = .ok (.if_acmp (.ne) 5, 3) := by decide +kernel
theorem d5 : decode yB 5 = .ok (.iconst 1, 1) := by decide +kernel
theorem d6 : decode yB 6 = .ok (.ireturn, 1) := by decide +kernel
theorem d7 : decode yB 7 = .ok (.aload_n 1, 1) := by decide +kernel
theorem d8 : decode yB 8 = .ok (.instanceof 10, 3) := by decide +kernel
theorem d11 : decode yB 11 = .ok (.ifCond (.eq) 43, 3) := by decide +kernel
theorem d14 : decode yB 14 = .ok (.aload_n 1, 1) := by decide +kernel
theorem d15 : decode yB 15 = .ok (.checkcast 10, 3) := by decide +kernel
theorem d18 : decode yB 18 = .ok (.astore_n 2, 1) := by decide +kernel
theorem d19 : decode yB 19 = .ok (.getstatic 38, 3) := by decide +kernel
theorem d22 : decode yB 22 = .ok (.ifCond (.eq) 14, 3) := by decide +kernel
theorem d25 : decode yB 25 = .ok (.aload_n 0, 1) := by decide +kernel
theorem d26 : decode yB 26 = .ok (.getfield 15, 3) := by decide +kernel
theorem d29 : decode yB 29 = .ok (.aload_n 2, 1) := by decide +kernel
theorem d30 : decode yB 30 = .ok (.getfield 15, 3) := by decide +kernel
theorem d33 : decode yB 33 = .ok (.if_icmp (.ne) 21, 3) := by decide +kernel
theorem d36 : decode yB 36 = .ok (.aload_n 0, 1) := by decide +kernel
theorem d37 : decode yB 37 = .ok (.getfield 9, 3) := by decide +kernel
theorem d40 : decode yB 40 = .ok (.aload_n 2, 1) := by decide +kernel
theorem d41 : decode yB 41 = .ok (.getfield 9, 3) := by decide +kernel
theorem d44 : decode yB 44 = .ok (.invokestatic 541, 3) := by decide +kernel
theorem d47 : decode yB 47 = .ok (.ifCond (.eq) 7, 3) := by decide +kernel
theorem d50 : decode yB 50 = .ok (.iconst 1, 1) := by decide +kernel
theorem d51 : decode yB 51 = .ok (.goto 4, 3) := by decide +kernel
theorem d54 : decode yB 54 = .ok (.iconst 0, 1) := by decide +kernel
theorem d55 : decode yB 55 = .ok (.ireturn, 1) := by decide +kernel
def site : List Cond := [.classLink "java/lang/String" 10 "java/lang/String", .fieldLink "java/lang/String" 38 "java/lang/String" "COMPACT_STRINGS" "Z", .fieldLink "java/lang/String" 15 "java/lang/String" "coder" "B", .fieldLink "java/lang/String" 9 "java/lang/String" "value" "[B", LEq.tab] ++ staticW "java/lang/String" 541 LEq.yN
def tab : Cond := tabOf yN yB 3 (some .boolean) site
def P (x t : Addr) (V : Cell) (cd : Int32) (n : Nat) (f : Nat → Int32) (y t' : Addr) (V' : Cell) (cd' : Int32) (k : Nat) (g : Nat → Int32) (z : Int32) (args : Array Value) (s : State) : Prop := args = #[.ref x, .ref y] ∧ Txt x t V cd n f s ∧ Txt y t' V' cd' k g s ∧ StaticIs s "java/lang/String" "COMPACT_STRINGS" "Z" (.int z) ∧ ¬ z = 0
/-- equals(Object) of two Strings: whether the texts are the same -/
theorem law (l : Launch) (x t : Addr) (V : Cell) (cd : Int32) (n : Nat) (f : Nat → Int32) (y t' : Addr) (V' : Cell) (cd' : Int32) (k : Nat) (g : Nat → Int32) (z : Int32) : Law l yN 2 1 1 14 yB 3 (some .boolean) site (P x t V cd n f y t' V' cd' k g z) (Says01 (SameT n f k g)) [] 0 0 := by
  refine Law.of_walk (plainFor_of_name (by decide +kernel)) (by decide +kernel) (by decide +kernel) (by decide) (fun _ _ h => by rw [h.1]; rfl) (fun _ U U' hal hh h => ⟨h.1, h.2.1.mv hal hh, h.2.2.1.mv hal hh, h.2.2.2.1.there hal hh, h.2.2.2.2⟩) (fun r U U' V V' h1 hal h2 h => Says01.mv r U U' V V' h1 hal h2 h) ?_
  intro p e s m args below meth c s₁ X0 hexec hbytes hml hret hlk hnm hown hh0 W hP
  obtain ⟨rfl, hx, hy, s1, hz⟩ := hP
  have c1 : Steps p.tables e below (s₁.setTop (entryFrame m #[.ref x, .ref y] 3)) (s₁.setTop (mkF m 2 #[.val (.ref x), .val (.ref y), .unset] [.ref y, .ref x])) := Steps.trans (entry rfl) (by
    show Steps p.tables e below (s₁.setTop (mkF m 0 #[.val (.ref x), .val (.ref y), .unset] [])) _
    refine XS.aloadN X0.here hexec rfl (hb hbytes d0) rfl rfl ?_
    refine XS.aloadN X0.here hexec rfl (hb hbytes d1) rfl rfl ?_
    exact Steps.refl _)
  by_cases hxy : x = y
  · have c2 : Steps p.tables e below (s₁.setTop (entryFrame m #[.ref x, .ref y] 3)) (s₁.setTop (mkF m 6 #[.val (.ref x), .val (.ref y), .unset] [.int 1])) := c1.trans (by
      refine acmpNo X0.here hexec rfl (hb hbytes d2) rfl rfl rfl (by simp [acmp, hxy]) ?_
      refine iconstV X0.here hexec rfl 1 (hb hbytes d5) (by decide) ?_
      exact Steps.refl _)
    subst hxy
    have ec : cd = cd' := by
      obtain ⟨D, fd, a1, a2, a3⟩ := hx.2.2.1
      obtain ⟨D', fd', b1, b2, b3⟩ := hy.2.2.1
      cases a1.symm.trans b1
      obtain ⟨q1, q2, q3, q4⟩ := a2.1
      obtain ⟨r1, r2, r3, r4⟩ := b2.1
      cases q4.symm.trans r4
      cases a3.symm.trans b3; rfl
    have et : t = t' := by
      obtain ⟨D, fd, a1, a2, a3⟩ := hx.2.1
      obtain ⟨D', fd', b1, b2, b3⟩ := hy.2.1
      cases a1.symm.trans b1
      obtain ⟨q1, q2, q3, q4⟩ := a2.1
      obtain ⟨r1, r2, r3, r4⟩ := b2.1
      cases q4.symm.trans r4
      cases a3.symm.trans b3; rfl
    subst ec et
    have ev : V = V' := by cases hx.2.2.2.1.1.symm.trans hy.2.2.2.1.1; rfl
    subst ev
    have hs : SameT n f k g := (Cod.eqv hx.2.2.2.2.1 hy.2.2.2.2.1 hx.2.2.2.2.2 hy.2.2.2.2.2).mp ⟨rfl, fun _ _ => rfl⟩
    exact ⟨s₁, some (.int 1), _, _, _, X0, rfl, rfl, rfl, (fun h => by cases h), ⟨1, rfl, hh0, Or.inl ⟨rfl, hs⟩⟩, fun fs hl => c2.trans (X0.ireturnOut hexec hret rfl (Or.inr (Or.inl rfl)) (hb hbytes d6) hl)⟩
  · have c2 : Steps p.tables e below (s₁.setTop (entryFrame m #[.ref x, .ref y] 3)) (s₁.setTop (mkF m 8 #[.val (.ref x), .val (.ref y), .unset] [.ref y])) := c1.trans (by
      refine acmpYes X0.here hexec rfl (pc0 := 2) rfl (hb hbytes d2) rfl rfl rfl (by simp [acmp, hxy]) (by decide) rfl ?_
      refine XS.aloadN X0.here hexec rfl (hb hbytes d7) rfl rfl ?_
      exact Steps.refl _)
    obtain ⟨T3, X3, q3, st3⟩ := cinst X0 hexec hown (wk W (.classLink "java/lang/String" 10 "java/lang/String")) (hy.mv X0.warmed.alike hh0).1 (g := (mkF m 8 #[.val (.ref x), .val (.ref y), .unset] [.ref y])) rfl (rest := []) rfl (hb hbytes d8)
    have hh3 := q3.trans hh0
    have c4 : Steps p.tables e below (s₁.setTop (entryFrame m #[.ref x, .ref y] 3)) (T3.setTop (mkF m 15 #[.val (.ref x), .val (.ref y), .unset] [.ref y])) := (c2.trans (st3 _ (Steps.refl _))).trans (by
      refine XS.ifNo X3.here hexec rfl (hb hbytes d11) rfl (i0_eq_f (by decide)) ?_
      refine XS.aloadN X3.here hexec rfl (hb hbytes d14) rfl rfl ?_
      exact Steps.refl _)
    obtain ⟨T5, X5, q5, st5⟩ := cself X3 hexec hown (wk W (.classLink "java/lang/String" 10 "java/lang/String")) (hy.mv X3.warmed.alike hh3).1 (g := (mkF m 15 #[.val (.ref x), .val (.ref y), .unset] [.ref y])) rfl (rest := []) rfl (hb hbytes d15)
    have hh5 := q5.trans hh3
    have c6 : Steps p.tables e below (s₁.setTop (entryFrame m #[.ref x, .ref y] 3)) (T5.setTop (mkF m 19 #[.val (.ref x), .val (.ref y), .val (.ref y)] [])) := (c4.trans (st5 _ (Steps.refl _))).trans (by
      refine XS.astoreN X5.here hexec rfl (hb hbytes d18) rfl rfl rfl ?_
      exact Steps.refl _)
    obtain ⟨T7, X7, q7, st7⟩ := X5.sget hexec hown (wk W (.fieldLink "java/lang/String" 38 "java/lang/String" "COMPACT_STRINGS" "Z")) s1 (fun _ _ h => by rw [hh5]; exact h) (g := (mkF m 19 #[.val (.ref x), .val (.ref y), .val (.ref y)] [])) rfl (hb hbytes d19)
    have hh7 := q7.trans hh5
    have c8 : Steps p.tables e below (s₁.setTop (entryFrame m #[.ref x, .ref y] 3)) (T7.setTop (mkF m 26 #[.val (.ref x), .val (.ref y), .val (.ref y)] [.ref x])) := (c6.trans (st7 _ (Steps.refl _))).trans (by
      refine XS.ifNo X7.here hexec rfl (hb hbytes d22) rfl (i0_eq_f hz) ?_
      refine XS.aloadN X7.here hexec rfl (hb hbytes d25) rfl rfl ?_
      exact Steps.refl _)
    obtain ⟨T9, X9, q9, st9⟩ := X7.hget hexec hown (wk W (.fieldLink "java/lang/String" 15 "java/lang/String" "coder" "B")) (hx.mv X7.warmed.alike hh7).2.2.1 (g := (mkF m 26 #[.val (.ref x), .val (.ref y), .val (.ref y)] [.ref x])) rfl (rest := []) rfl (hb hbytes d26)
    have hh9 := q9.trans hh7
    have c10 : Steps p.tables e below (s₁.setTop (entryFrame m #[.ref x, .ref y] 3)) (T9.setTop (mkF m 30 #[.val (.ref x), .val (.ref y), .val (.ref y)] [.ref y, .int cd])) := (c8.trans (st9 _ (Steps.refl _))).trans (by
      refine XS.aloadN X9.here hexec rfl (hb hbytes d29) rfl rfl ?_
      exact Steps.refl _)
    obtain ⟨T11, X11, q11, st11⟩ := X9.hget hexec hown (wk W (.fieldLink "java/lang/String" 15 "java/lang/String" "coder" "B")) (hy.mv X9.warmed.alike hh9).2.2.1 (g := (mkF m 30 #[.val (.ref x), .val (.ref y), .val (.ref y)] [.ref y, .int cd])) rfl (rest := [.int cd]) rfl (hb hbytes d30)
    have hh11 := q11.trans hh9
    have c12 : Steps p.tables e below (s₁.setTop (entryFrame m #[.ref x, .ref y] 3)) (T11.setTop (mkF m 33 #[.val (.ref x), .val (.ref y), .val (.ref y)] [.int cd', .int cd])) := c10.trans (st11 _ (Steps.refl _))
    by_cases hcd : cd = cd'
    · subst hcd
      have c13 : Steps p.tables e below (s₁.setTop (entryFrame m #[.ref x, .ref y] 3)) (T11.setTop (mkF m 37 #[.val (.ref x), .val (.ref y), .val (.ref y)] [.ref x])) := c12.trans (by
        refine XS.icmpNo X11.here hexec rfl (hb hbytes d33) rfl (ii_ne_f rfl) ?_
        refine XS.aloadN X11.here hexec rfl (hb hbytes d36) rfl rfl ?_
        exact Steps.refl _)
      obtain ⟨T14, X14, q14, st14⟩ := X11.hget hexec hown (wk W (.fieldLink "java/lang/String" 9 "java/lang/String" "value" "[B")) (hx.mv X11.warmed.alike hh11).2.1 (g := (mkF m 37 #[.val (.ref x), .val (.ref y), .val (.ref y)] [.ref x])) rfl (rest := []) rfl (hb hbytes d37)
      have hh14 := q14.trans hh11
      have c15 : Steps p.tables e below (s₁.setTop (entryFrame m #[.ref x, .ref y] 3)) (T14.setTop (mkF m 41 #[.val (.ref x), .val (.ref y), .val (.ref y)] [.ref y, .ref t])) := (c13.trans (st14 _ (Steps.refl _))).trans (by
        refine XS.aloadN X14.here hexec rfl (hb hbytes d40) rfl rfl ?_
        exact Steps.refl _)
      obtain ⟨T16, X16, q16, st16⟩ := X14.hget hexec hown (wk W (.fieldLink "java/lang/String" 9 "java/lang/String" "value" "[B")) (hy.mv X14.warmed.alike hh14).2.1 (g := (mkF m 41 #[.val (.ref x), .val (.ref y), .val (.ref y)] [.ref y, .ref t])) rfl (rest := [.ref t]) rfl (hb hbytes d41)
      have hh16 := q16.trans hh14
      have c17 : Steps p.tables e below (s₁.setTop (entryFrame m #[.ref x, .ref y] 3)) (T16.setTop (mkF m 44 #[.val (.ref x), .val (.ref y), .val (.ref y)] [.ref t', .ref t])) := c15.trans (st16 _ (Steps.refl _))
      obtain ⟨v18, T18, X18, E18, g18⟩ := X16.callS hexec (LEq.law l t V t' V') hown (wks W (staticW "java/lang/String" 541 LEq.yN)) (wk W LEq.tab) (W := 0) (Nat.le_of_ble_eq_true rfl) (Nat.le_of_ble_eq_true rfl) (Nat.le_refl _) (Nat.le_refl _) (g := (mkF m 44 #[.val (.ref x), .val (.ref y), .val (.ref y)] [.ref t', .ref t])) rfl (by rw [hml]; rfl) c17 (argsL := [.ref t, .ref t']) (rest := []) rfl rfl (by show 2 * 0 + 0 ≤ _; decide) (hb hbytes d44) (⟨rfl, hx.2.2.2.1.mv X16.warmed.alike hh16, hx.2.2.2.2.1.ty, hy.2.2.2.1.mv X16.warmed.alike hh16, hy.2.2.2.2.1.ty⟩)
      obtain ⟨v, rfl, q18, hv⟩ := E18
      have iff := Cod.eqv hx.2.2.2.2.1 hy.2.2.2.2.1 hx.2.2.2.2.2 hy.2.2.2.2.2
      rcases hv with ⟨rfl, he⟩ | ⟨rfl, he⟩
      · have c19 : Steps p.tables e below (s₁.setTop (entryFrame m #[.ref x, .ref y] 3)) (T18.setTop (mkF m 55 #[.val (.ref x), .val (.ref y), .val (.ref y)] [.int 1])) := Steps.trans g18 (by
          refine XS.ifNo X18.here hexec rfl (hb hbytes d47) rfl (i0_eq_f (by decide)) ?_
          refine iconstV X18.here hexec rfl 1 (hb hbytes d50) (by decide) ?_
          refine XS.goto X18.here hexec rfl (pc0 := 51) rfl (hb hbytes d51) (by decide) rfl ?_
          exact Steps.refl _)
        exact ⟨T18, some (.int 1), _, _, _, X18, rfl, rfl, rfl, (fun h => by cases h), ⟨1, rfl, q18.trans hh16, Or.inl ⟨rfl, iff.mp he⟩⟩, fun fs hl => c19.trans (X18.ireturnOut hexec hret rfl (Or.inr (Or.inl rfl)) (hb hbytes d55) hl)⟩
      · have c19 : Steps p.tables e below (s₁.setTop (entryFrame m #[.ref x, .ref y] 3)) (T18.setTop (mkF m 55 #[.val (.ref x), .val (.ref y), .val (.ref y)] [.int 0])) := Steps.trans g18 (by
          refine XS.ifYes X18.here hexec rfl (pc0 := 47) rfl (hb hbytes d47) rfl (i0_eq_t rfl) (by decide) rfl ?_
          refine iconstV X18.here hexec rfl 0 (hb hbytes d54) (by decide) ?_
          exact Steps.refl _)
        exact ⟨T18, some (.int 0), _, _, _, X18, rfl, rfl, rfl, (fun h => by cases h), ⟨0, rfl, q18.trans hh16, Or.inr ⟨rfl, fun q => he (iff.mpr q)⟩⟩, fun fs hl => c19.trans (X18.ireturnOut hexec hret rfl (Or.inr (Or.inl rfl)) (hb hbytes d55) hl)⟩
    · have c13 : Steps p.tables e below (s₁.setTop (entryFrame m #[.ref x, .ref y] 3)) (T11.setTop (mkF m 55 #[.val (.ref x), .val (.ref y), .val (.ref y)] [.int 0])) := c12.trans (by
        refine XS.icmpYes X11.here hexec rfl (pc0 := 33) rfl (hb hbytes d33) rfl (ii_ne_t hcd) (by decide) rfl ?_
        refine iconstV X11.here hexec rfl 0 (hb hbytes d54) (by decide) ?_
        exact Steps.refl _)
      exact ⟨T11, some (.int 0), _, _, _, X11, rfl, rfl, rfl, (fun h => by cases h), ⟨0, rfl, hh11, Or.inr ⟨rfl, Cod.dif hx.2.2.2.2.1 hy.2.2.2.2.1 hcd⟩⟩, fun fs hl => c13.trans (X11.ireturnOut hexec hret rfl (Or.inr (Or.inl rfl)) (hb hbytes d55) hl)⟩
theorem pays {l : Launch} {R : Room} {p : Program} {e : Env} {below : List Frame} {s : State} {sargs : Array Value} {len W : Nat} (x t : Addr) (V : Cell) (cd : Int32) (n : Nat) (f : Nat → Int32) (y t' : Addr) (V' : Cell) (cd' : Int32) (k : Nat) (g : Nat → Int32) (z : Int32) (htab : tab.before sargs s = true) (hfr : 2 ≤ R.frames) (hlo : W + 28 ≤ R.locals) :
    Back l R p e below s sargs yN len W (fun A₁ a₁ => A₁.cells + 0 ≤ R.cells ∧ A₁.slots + 0 ≤ R.slots ∧ P x t V cd n f y t' V' cd' k g z a₁ A₁.U) (fun A₁ _ v₁ B₁ => Says01 (SameT n f k g) v₁ A₁.U B₁.U ∧ B₁.locs = A₁.locs ++ [] ∧ B₁.cells = A₁.cells + 0 ∧ B₁.slots = A₁.slots + 0) :=
  (law l x t V cd n f y t' V' cd' k g z).pays htab hfr (by omega)
end SEq
end StrChars
namespace StrChars.Road
open Jvm Sem ClassFile Op Lib Jvm.Stand Jvm.Free Jvm.Free.XT
open Jvm.Lib.Cold (StaticIs)
/-- the words of String.equals(Object) -/
abbrev wordsEq : List Jvm.Cond := [.code SEq.yN SEq.yB 3 (some .boolean), .initialized ST, .classLink ST 10 ST, .fieldLink ST 38 ST "COMPACT_STRINGS" "Z", .fieldLink ST 15 ST "coder" "B", .fieldLink ST 9 ST "value" "[B", .methodLink ST 541 LEq.yN, .static LEq.yN, .code LEq.yN LEq.yB 3 (some .boolean), .initialized "java/lang/StringLatin1"]
theorem tabEq_of {a : Array Value} {s : State} (h : ∀ w ∈ wordsEq, w.before a s = true) : SEq.tab.before a s = true := by
  have hl : LEq.tab.before a s = true := unparts (wk h (.code LEq.yN LEq.yB 3 (some .boolean))) (wks h (.initialized LEq.yN.cls :: LEq.site))
  have q := consq hl h
  exact unparts (wk q (.code SEq.yN SEq.yB 3 (some .boolean))) (wks q (.initialized SEq.yN.cls :: SEq.site))
theorem movedEq {Z s : State} {a0 args : Array Value} (hZ : Z.Warmed39 s.vm) (hw : ∀ d ∈ wordsEq, d.before a0 Z = true) : ∀ d ∈ wordsEq, d.before args s = true := fun d hd => by
  have t : ∀ d ∈ wordsEq, (d.onTables && d.keepsFace) = true := by decide +kernel
  exact RoadKit.mv hZ (hw d hd) (t d hd)
/-- the road's facts of a String, as the laws ask it -/
theorem txt_of {Z U : State} {a0 : Array Value} {kI : Nat} (wi : (Jvm.Cond.instantiable ST kI).before a0 Z = true) (al : Z.vm.Alike U.vm) {x t : Addr} {kb : ClassId} {cs : List Int32} {cd N2 : Int32} {vs : List Value} (E : RoadKit.Exa Z U.heap x ST) (V : RoadKit.Fld Z U.heap x ST "value" "[B" (.ref t)) (C : RoadKit.Fld Z U.heap x ST "coder" "B" (.int cd)) (K : RoadKit.Arv Z U.heap t kb .byte N2 vs (.int 0)) (hc : CodA cs cd N2 vs) (hb : ∀ c ∈ cs, ¬ c < 0 ∧ ¬ (65535 : Int32) < c) (l2 : cs.length ≤ 4000) :
    ∃ A, Txt x t A cd cs.length (fun j => cs.getD j 0) U := by
  obtain ⟨A, K1, K2, K3, K4, K5, K6⟩ := K
  have hcod := hc.cod (by omega) K3 K5
  obtain ⟨D, fV, fC, hB, F1, F2, g1, g2, -, -⟩ := strObj wi al E V C
  exact ⟨A, ⟨_, hB.2.2.1, D, hB.1, rfl, by cases q : D.vm <;> first | rfl | exact absurd q (hB.2.1.2 _)⟩, Has.of hB F1 g1, Has.of hB F2 g2, ⟨K1.1, State.isArrayOf_alike al K1.2.1, K1.2.2, by rcases hcod with ⟨-, q, -⟩ | ⟨-, q, -⟩ <;> omega⟩, hcod, fun j hj => by
    have e : cs.getD j 0 = cs[j] := by simp [List.getD_eq_getElem?_getD, hj]
    show ¬ cs.getD j 0 < 0 ∧ ¬ 65535 < cs.getD j 0
    rw [e]; exact hb _ (List.getElem_mem _)⟩
theorem same_list (cs ds : List Int32) : SameT cs.length (fun j => cs.getD j 0) ds.length (fun j => ds.getD j 0) ↔ cs = ds := by
  constructor
  · rintro ⟨e, q⟩
    refine List.ext_getElem e fun j h1 h2 => ?_
    have := q j h1
    simpa [List.getD_eq_getElem?_getD, h1, h2] using this
  · rintro rfl
    exact ⟨rfl, fun _ _ => rfl⟩
/-- **equals(Object) OF TWO SUCH STRINGS**: 1 just where the chars are the same -/
theorem eqW {p : Program} {l : Launch} {e : Env} {R : Room} {s : State} {args : Array Value} {below : List Frame} {len W : Nat} {Z : State} {a0 : Array Value} {h : Heap} (hZ : Z.Warmed39 s.vm) (hw : ∀ d ∈ wordsEq, d.before a0 Z = true) {kI : Nat} (wi : (Jvm.Cond.instantiable ST kI).before a0 Z = true)
    {x t : Addr} {kb : ClassId} {cs : List Int32} {cd N2 : Int32} {vs : List Value} (E : RoadKit.Exa Z h x ST) (V : RoadKit.Fld Z h x ST "value" "[B" (.ref t)) (C : RoadKit.Fld Z h x ST "coder" "B" (.int cd)) (K : RoadKit.Arv Z h t kb .byte N2 vs (.int 0)) (hc : CodA cs cd N2 vs) (hb : ∀ c ∈ cs, ¬ c < 0 ∧ ¬ (65535 : Int32) < c) (l2 : cs.length ≤ 4000)
    {y t' : Addr} {kb' : ClassId} {ds : List Int32} {cd' N2' : Int32} {vs' : List Value} (E' : RoadKit.Exa Z h y ST) (V' : RoadKit.Fld Z h y ST "value" "[B" (.ref t')) (C' : RoadKit.Fld Z h y ST "coder" "B" (.int cd')) (K' : RoadKit.Arv Z h t' kb' .byte N2' vs' (.int 0)) (hc' : CodA ds cd' N2' vs') (hb' : ∀ c ∈ ds, ¬ c < 0 ∧ ¬ (65535 : Int32) < c) (l2' : ds.length ≤ 4000)
    {z : Int32} (S : RoadKit.Sta Z h ST "COMPACT_STRINGS" "Z" (.int z)) (hz : ¬ z = 0) (hfr : 2 ≤ R.frames) (hlo : W + 28 ≤ R.locals) :
    Back l R p e below s args (⟨"java/lang/String", "equals", "(Ljava/lang/Object;)Z"⟩ : MethodName) len W (fun P a => a = #[.ref x, .ref y] ∧ P.U.heap = h ∧ P.cells + 0 ≤ R.cells ∧ P.slots + 0 ≤ R.slots)
      (fun P _ v B => ∃ L, (((v = some (.int 1) ∧ cs = ds) ∨ (v = some (.int 0) ∧ ¬ cs = ds)) ∧ L = [] ∧ B.U.heap = h) ∧ B.locs = P.locs ++ L ∧ B.cells = P.cells + 0 ∧ B.slots = P.slots + 0) := by
  intro m meth c P g ig mk a X hg hsize hdg hW hn hp'
  obtain ⟨rfl, rfl, r1, r2⟩ := hp'
  have al : Z.vm.Alike P.U.vm := hZ.alike.trans X.warmed.alike
  obtain ⟨A, hx⟩ := txt_of wi al E V C K hc hb l2
  obtain ⟨A', hy⟩ := txt_of wi al E' V' C' K' hc' hb' l2'
  obtain ⟨v, B, X', ⟨⟨w, hv, hh, hq⟩, hl, hk, hs⟩, st⟩ := SEq.pays x t A cd cs.length (fun j => cs.getD j 0) y t' A' cd' ds.length (fun j => ds.getD j 0) z (tabEq_of (movedEq hZ hw)) hfr hlo m meth c P g ig mk _ X hg hsize hdg hW hn ⟨r1, r2, rfl, hx, hy, sta_is al S, hz⟩
  refine ⟨v, B, X', ⟨[], ⟨?_, rfl, hh⟩, hl, hk, hs⟩, st⟩
  rcases hq with ⟨rfl, q⟩ | ⟨rfl, q⟩
  · exact Or.inl ⟨hv, (same_list cs ds).mp q⟩
  · exact Or.inr ⟨hv, fun e => q ((same_list cs ds).mpr e)⟩
end StrChars.Road
namespace StrChars.Road
open Jvm Sem ClassFile Op Lib Jvm.Stand Jvm.Free Jvm.Free.XT
open Jvm.Lib.Cold (StaticIs)
/-- what backV says of its String, as the contracts of this text ask it: cs's low bytes, coder 0 -/
theorem codOf {cs : List Int32} {n : Nat} (hn : cs.length = n) (hb : ∀ c ∈ cs, ¬ 255 < c) : CodA cs 0 (Int32.ofNat n) ((cs.map lo8).map Value.int) := Or.inl ⟨rfl, by rw [hn], by simp [List.map_map, Function.comp_def], hb⟩
end StrChars.Road
end Jvm.Pilot.@@N@@
namespace Jvm.Pilot.@@N@@
open Jvm Jvm.ClassFile Sem Op Lib Jvm.Free Jvm.Stand Jvm.LawKit Jvm.RoadKit Jvm.Own Bundle Jvm.Pilot.@@N@@.Jvm.D
/-- at a there stands a String that spells cs -/
def Str (Z : State) (h : Heap) (a : Addr) (cs : List Int32) : Prop := Exa Z h a "java/lang/String" ∧ (∀ c ∈ cs, ¬ c < 0 ∧ ¬ (65535 : Int32) < c) ∧ cs.length ≤ 4000 ∧ ∃ (t : Addr) (kb : ClassId) (cd N2 : Int32) (vs : List Value), Fld Z h a "java/lang/String" "value" "[B" (.ref t) ∧ Fld Z h a "java/lang/String" "coder" "B" (.int cd) ∧ Arv Z h t kb .byte N2 vs (.int 0) ∧ StrChars.Road.CodA cs cd N2 vs
section OwnS
variable {p : Program} {l : Launch} {e : Env} {R : Room} {s : State} {m : MethodId} {args : Array Value} {below : List Frame} {meth : Method} {c : Code} {T : State} {locs : List Loc} {cells slots : Nat} {Z : State} {a0 : Array Value} {h h' : Heap} {E : Outcome → State → Prop} {a : Addr} {cs : List Int32}
theorem Str.exa (A : Str Z h a cs) : Exa Z h a "java/lang/String" := A.1
theorem Str.lt (A : Str Z h a cs) : a < h.size := A.1.lt
theorem Str.ext (A : Str Z h a cs) (X : Ext h h') : Str Z h' a cs := by
  obtain ⟨h1, h2, h3, t, kb, cd, N2, vs, h4, h5, h6, h7⟩ := A
  exact ⟨h1.ext X, h2, h3, t, kb, cd, N2, vs, h4.ext X, h5.ext X, h6.ext X, h7⟩
theorem Str.keep0 (A : Str Z h a cs) (K : Keep h h' []) : Str Z h' a cs := by
  obtain ⟨h1, h2, h3, t, kb, cd, N2, vs, h4, h5, h6, h7⟩ := A
  exact ⟨h1.keep K, h2, h3, t, kb, cd, N2, vs, h4.keep K nin0, h5.keep K nin0, h6.keep K nin0, h7⟩
theorem Str.keep1 {w : Addr} {C : String} {n : Nat} (A : Str Z h a cs) (K : Keep h h' [w]) (hne : a ≠ w) (Ew : Exa Z h w C) (wi : (Jvm.Cond.instantiable C n).before a0 Z = true) : Str Z h' a cs := by
  obtain ⟨h1, h2, h3, t, kb, cd, N2, vs, h4, h5, h6, h7⟩ := A
  have ht : t ≠ w := by
    obtain ⟨cl, A', -⟩ := h6
    exact Ne.symm (ne_arr Ew wi A')
  exact ⟨h1.keep K, h2, h3, t, kb, cd, N2, vs, h4.keep K (ninS hne nin0), h5.keep K (ninS hne nin0), h6.keep K (ninS ht nin0), h7⟩
theorem Str.of {cs' : List Int32} (A : Str Z h a cs) (q : cs = cs') : Str Z h a cs' := q ▸ A
theorem narC {c : Int32} (h1 : ¬ c < 0) (h2 : ¬ (65535 : Int32) < c) : nar .char c = c := by
  have e := c_i2c c
  have e0 : (0 : Int32).toInt = 0 := rfl
  have e1 : (65535 : Int32).toInt = 65535 := rfl
  rw [Int32.lt_iff_toInt_lt] at h1 h2
  show c.toUInt32.toUInt16.toUInt32.toInt32 = c
  apply Int32.toInt_inj.mp
  omega
theorem le255 {c : Int32} (h : ¬ (255 : Int32) < c) : ¬ (65535 : Int32) < c := by
  have e0 : (255 : Int32).toInt = 255 := rfl
  have e1 : (65535 : Int32).toInt = 65535 := rfl
  rw [Int32.lt_iff_toInt_lt] at h ⊢
  omega
/-- new String(char[]) over known chars, each 0 to 255 -/
theorem goNewS {own : String} {idx : Nat} {x b : Addr} {kC : ClassId} {vs : List Value} {d v0 c0 : Value} {z N : Int32} {n0 : Nat} (n W : Nat) (X : Stand p l e R s m args below meth c T locs cells slots) (hx : p.tables.exec = Jvm.exec) (hZ : Z.Warmed39 s.vm) (hown : s.vm.findClass own = some m.cls) (hws : ∀ d ∈ StrChars.Road.words, d.before a0 Z = true)
    (w1 : (Jvm.Cond.methodLink own idx (⟨"java/lang/String", "<init>", "([C)V"⟩ : MethodName)).before a0 Z = true) (w2 : (Jvm.Cond.instanceMethod (⟨"java/lang/String", "<init>", "([C)V"⟩ : MethodName)).before a0 Z = true) (w4 : (Jvm.Cond.code (⟨"java/lang/String", "<init>", "([C)V"⟩ : MethodName) StrChars.New1.yB 2 none).before a0 Z = true) (wi : (Jvm.Cond.instantiable "java/lang/String" 4).before a0 Z = true)
    (hx0 : n0 ≤ x) (hh0 : n0 ≤ h.size) (Ex : Exa Z h x "java/lang/String") (V : Fld Z h x "java/lang/String" "value" "[B" v0) (C : Fld Z h x "java/lang/String" "coder" "B" c0) (K : Arv Z h b kC .char N vs d) (hvs : vs = cs.map Value.int) (S : Sta Z h "java/lang/String" "COMPACT_STRINGS" "Z" (.int z)) (hz : ¬ z = 0)
    (hn : cs.length = n) (hN : N = Int32.ofNat n) (l0 : 0 < n) (l2 : n ≤ 4000) (hp : ∀ c ∈ cs, ¬ c < 0 ∧ ¬ (255 : Int32) < c) (eT : T.heap = h) {g : JFrame} (hg : g.method = m) (hsize : g.locals.size = c.maxLocals) (rest : List Value) (hlen : ∀ sig, parseMethodDescriptor "([C)V" = some sig → [Value.ref b].length = sig.parameters.length) (hstack : g.stack = .ref b :: .ref x :: rest)
    (hW : 2 * g.monitorRoom + (rest.map fun v => v.category).sum ≤ W) (hd : decode c.code g.pc = .ok (.invokespecial idx, 3)) (hfr : 4 ≤ R.frames) (hlo : W + 65 ≤ R.locals) (hc : cells + 1 ≤ R.cells) (hs : slots + n ≤ R.slots)
    (k : ∀ T' L, Stand p l e R s m args below meth c T' (locs ++ L) (cells + 1) (slots + n) → Fr n0 L → Keep h T'.heap [x] → Str Z T'.heap x cs → Goes p e below E T' { g with pc := g.pc + 3, stack := rest }) : Goes p e below E T g := by
  subst hvs
  obtain ⟨v, vm₁, ⟨T', L', k', n'⟩, -, X', ⟨L, ⟨q0, q1, q2, q3, q4, t, kb, -, -, -, q5, q6⟩, r1, r2, r3⟩, st⟩ := X.specialBack hx (y := (⟨"java/lang/String", "<init>", "([C)V"⟩ : MethodName)) rfl hown (mvT hZ w1) (mvT hZ w2) (mvT hZ w4) (by decide) (StrChars.Road.backV (W := W) (n := n) hZ hws (kI := 4) wi (bs := cs.map (fun c => c.toInt8.toInt32)) hx0 hh0 Ex V C K S hz hn hN l0 l2 hp rfl hfr hlo) hg hsize (Steps.refl _) (a := x) (argsL := [.ref b]) (rest := rest) hlen hstack hW hd (fun _ _ => ⟨rfl, eT, hc, hs⟩)
  dsimp only [Pt.U, Pt.locs, Pt.cells, Pt.slots] at X' r1 r2 r3 st q2 q3 q4 q5 q6
  subst r1 r2 r3 q0
  refine Goes.of (fun _ => st.trans) (k T' L X' q1 q2 ⟨q3, fun c hc => ⟨(hp c hc).1, le255 (hp c hc).2⟩, by omega, t, kb, 0, N, _, q5, q4, q6, ?_⟩)
  rw [hN]
  exact StrChars.Road.codOf hn (fun c hc => (hp c hc).2)
/-- equals of two such Strings -/
theorem goEqS {own : String} {idx : Nat} {x y : Addr} {ds : List Int32} {z : Int32} (W : Nat) (X : Stand p l e R s m args below meth c T locs cells slots) (hx : p.tables.exec = Jvm.exec) (hZ : Z.Warmed39 s.vm) (hown : s.vm.findClass own = some m.cls) (heq : ∀ d ∈ StrChars.Road.wordsEq, d.before a0 Z = true)
    (w1 : (Jvm.Cond.methodLink own idx (⟨"java/lang/String", "equals", "(Ljava/lang/Object;)Z"⟩ : MethodName)).before a0 Z = true) (w2 : (Jvm.Cond.declares (⟨"java/lang/String", "equals", "(Ljava/lang/Object;)Z"⟩ : MethodName)).before a0 Z = true) (w3 : (Jvm.Cond.selects "java/lang/String" (⟨"java/lang/String", "equals", "(Ljava/lang/Object;)Z"⟩ : MethodName) (⟨"java/lang/String", "equals", "(Ljava/lang/Object;)Z"⟩ : MethodName)).before a0 Z = true) (w4 : (Jvm.Cond.instanceMethod (⟨"java/lang/String", "equals", "(Ljava/lang/Object;)Z"⟩ : MethodName)).before a0 Z = true) (wi : (Jvm.Cond.instantiable "java/lang/String" 4).before a0 Z = true)
    (A : Str Z h x cs) (B : Str Z h y ds) (S : Sta Z h "java/lang/String" "COMPACT_STRINGS" "Z" (.int z)) (hz : ¬ z = 0) (eT : T.heap = h) {g : JFrame} (hg : g.method = m) (hsize : g.locals.size = c.maxLocals) (rest : List Value) (hlen : ∀ sig, parseMethodDescriptor "(Ljava/lang/Object;)Z" = some sig → [Value.ref y].length = sig.parameters.length) (hstack : g.stack = .ref y :: .ref x :: rest)
    (hW : 2 * g.monitorRoom + (rest.map fun v => v.category).sum ≤ W) (hd : decode c.code g.pc = .ok (.invokevirtual idx, 3)) (hfr : 2 ≤ R.frames) (hlo : W + 28 ≤ R.locals) (hc : cells ≤ R.cells) (hs : slots ≤ R.slots)
    (k : ∀ T', Stand p l e R s m args below meth c T' locs cells slots → T'.heap = h → Goes p e below E T' { g with pc := g.pc + 3, stack := .int (if cs = ds then (1 : Int32) else (0 : Int32)) :: rest }) : Goes p e below E T g := by
  obtain ⟨cq, kq, qa, qb, qc⟩ := isOf hZ eT A.1
  obtain ⟨E1, b1, l1, t1, kb1, cd1, n1, vs1, V1, C1, K1, D1⟩ := A
  obtain ⟨E2, b2, l2, t2, kb2, cd2, n2, vs2, V2, C2, K2, D2⟩ := B
  obtain ⟨v, vm₁, ⟨T', L', k', n'⟩, -, X', ⟨L, ⟨q0, q1, q2⟩, r1, r2, r3⟩, st⟩ := X.virtualBack hx (y := (⟨"java/lang/String", "equals", "(Ljava/lang/Object;)Z"⟩ : MethodName)) (z := (⟨"java/lang/String", "equals", "(Ljava/lang/Object;)Z"⟩ : MethodName)) hown (mvT hZ w1) (mvT hZ w2) (notFace_of_selects (args := #[]) (mvT hZ w3)) (mvT hZ w3) (mvT hZ w4) (by decide) (StrChars.Road.eqW (W := W) hZ heq (kI := 4) wi E1 V1 C1 K1 D1 b1 l1 E2 V2 C2 K2 D2 b2 l2 S hz hfr hlo) qa qc hg hsize (Steps.refl _) (argsL := [.ref y]) (rest := rest) hlen hstack hW hd (fun _ _ => ⟨rfl, eT, hc, hs⟩)
  dsimp only [Pt.U, Pt.locs, Pt.cells, Pt.slots] at X' r1 r2 r3 st q2
  subst r1 r2 r3 q1
  rw [List.append_nil] at X'
  have hv : v = some (.int (if cs = ds then (1 : Int32) else (0 : Int32))) := by
    rcases q0 with ⟨q, r⟩ | ⟨q, r⟩
    · rw [q, if_pos r]
    · rw [q, if_neg r]
  subst hv
  exact Goes.of (fun _ => st.trans) (k T' X' q2)
end OwnS
end Jvm.Pilot.@@N@@
namespace Jvm.Pilot.@@N@@
open Jvm Jvm.ClassFile Sem Op Lib Jvm.Free Jvm.Stand Jvm.LawKit Jvm.RoadKit Jvm.Own Bundle Jvm.Pilot.@@N@@.Jvm.D
theorem ef_15 (m : MethodId) (x0 : Int32) : entryFrame m #[(.int x0)] 1 = mkF m 0 #[.val (.int x0)] [] := by first | (simp [entryFrame, mkF, argsToLocals, Value.category]; done) | rfl
theorem d15_0 : decode jdk_43_method_3_code 0 = .ok (.iload_n 0, 1) := by decide +kernel
theorem d15_1 : decode jdk_43_method_3_code 1 = .ok (.sipush 255, 3) := by decide +kernel
theorem d15_4 : decode jdk_43_method_3_code 4 = .ok (.if_icmp .gt 7, 3) := by decide +kernel
theorem d15_7 : decode jdk_43_method_3_code 7 = .ok (.iconst 1, 1) := by decide +kernel
theorem d15_8 : decode jdk_43_method_3_code 8 = .ok (.goto 4, 3) := by decide +kernel
theorem d15_12 : decode jdk_43_method_3_code 12 = .ok (.ireturn, 1) := by decide +kernel
theorem pn_java_lang_StringLatin1 : plainName "java/lang/StringLatin1" = true := by first | (simp [plainName, overriddenIn]; done) | decide +kernel
theorem ef_16 (m : MethodId) (x0 : Int32) : entryFrame m #[(.int x0)] 1 = mkF m 0 #[.val (.int x0)] [] := by first | (simp [entryFrame, mkF, argsToLocals, Value.category]; done) | rfl
theorem d16_0 : decode jdk_43_method_46_code 0 = .ok (.iconst 1, 1) := by decide +kernel
theorem d16_1 : decode jdk_43_method_46_code 1 = .ok (.newarray .byte, 2) := by decide +kernel
theorem d16_3 : decode jdk_43_method_46_code 3 = .ok (.dup, 1) := by decide +kernel
theorem d16_4 : decode jdk_43_method_46_code 4 = .ok (.iconst 0, 1) := by decide +kernel
theorem d16_5 : decode jdk_43_method_46_code 5 = .ok (.iload_n 0, 1) := by decide +kernel
theorem d16_6 : decode jdk_43_method_46_code 6 = .ok (.i2b, 1) := by decide +kernel
theorem d16_7 : decode jdk_43_method_46_code 7 = .ok (.bastore, 1) := by decide +kernel
theorem d16_8 : decode jdk_43_method_46_code 8 = .ok (.areturn, 1) := by decide +kernel
theorem ef_17 (m : MethodId) (x0 : Addr) (x1 : Addr) (x2 : Int32) : entryFrame m #[(.ref x0), (.ref x1), (.int x2)] 3 = mkF m 0 #[.val (.ref x0), .val (.ref x1), .val (.int x2)] [] := by first | (simp [entryFrame, mkF, argsToLocals, Value.category]; done) | rfl
theorem d17_0 : decode jdk_42_method_151_code 0 = .ok (.aload_n 0, 1) := by decide +kernel
theorem d17_1 : decode jdk_42_method_151_code 1 = .ok (.invokespecial 1, 3) := by decide +kernel
theorem d17_4 : decode jdk_42_method_151_code 4 = .ok (.aload_n 0, 1) := by decide +kernel
theorem d17_5 : decode jdk_42_method_151_code 5 = .ok (.aload_n 1, 1) := by decide +kernel
theorem d17_6 : decode jdk_42_method_151_code 6 = .ok (.putfield 9, 3) := by decide +kernel
theorem d17_9 : decode jdk_42_method_151_code 9 = .ok (.aload_n 0, 1) := by decide +kernel
theorem d17_10 : decode jdk_42_method_151_code 10 = .ok (.iload_n 2, 1) := by decide +kernel
theorem d17_11 : decode jdk_42_method_151_code 11 = .ok (.putfield 15, 3) := by decide +kernel
theorem d17_14 : decode jdk_42_method_151_code 14 = .ok (.return_, 1) := by decide +kernel
theorem pn_java_lang_String : plainName "java/lang/String" = true := by first | (simp [plainName, overriddenIn]; done) | decide +kernel
theorem ef_14 (m : MethodId) (x0 : Int32) : entryFrame m #[(.int x0)] 1 = mkF m 0 #[.val (.int x0)] [] := by first | (simp [entryFrame, mkF, argsToLocals, Value.category]; done) | rfl
theorem d14_0 : decode jdk_42_method_139_code 0 = .ok (.getstatic 38, 3) := by decide +kernel
theorem d14_3 : decode jdk_42_method_139_code 3 = .ok (.ifCond .eq 23, 3) := by decide +kernel
theorem d14_6 : decode jdk_42_method_139_code 6 = .ok (.iload_n 0, 1) := by decide +kernel
theorem d14_7 : decode jdk_42_method_139_code 7 = .ok (.invokestatic 1015, 3) := by decide +kernel
theorem pd__C_Z : parseMethodDescriptor "(C)Z" = some ⟨[.char], some .boolean⟩ := by decide +kernel
theorem d14_10 : decode jdk_42_method_139_code 10 = .ok (.ifCond .eq 16, 3) := by decide +kernel
theorem d14_13 : decode jdk_42_method_139_code 13 = .ok (.new 10, 3) := by decide +kernel
theorem d14_16 : decode jdk_42_method_139_code 16 = .ok (.dup, 1) := by decide +kernel
theorem d14_17 : decode jdk_42_method_139_code 17 = .ok (.iload_n 0, 1) := by decide +kernel
theorem d14_18 : decode jdk_42_method_139_code 18 = .ok (.invokestatic 1018, 3) := by decide +kernel
theorem pd__C__B : parseMethodDescriptor "(C)[B" = some ⟨[.char], some (.array .byte)⟩ := by decide +kernel
theorem d14_21 : decode jdk_42_method_139_code 21 = .ok (.iconst 0, 1) := by decide +kernel
theorem d14_22 : decode jdk_42_method_139_code 22 = .ok (.invokespecial 209, 3) := by decide +kernel
theorem pd___BB_V : parseMethodDescriptor "([BB)V" = some ⟨[(.array .byte), .byte], none⟩ := by decide +kernel
theorem d14_25 : decode jdk_42_method_139_code 25 = .ok (.areturn, 1) := by decide +kernel
theorem ef_1 (m : MethodId) (x0 : Int32) (x1 : Int32) (x2 : Int32) : entryFrame m #[(.int x0), (.int x1), (.int x2)] 4 = mkF m 0 #[.val (.int x0), .val (.int x1), .val (.int x2), .unset] [] := by first | (simp [entryFrame, mkF, argsToLocals, Value.category]; done) | rfl
theorem d1_0 : decode method_2_code 0 = .ok (.iload_n 0, 1) := by decide +kernel
theorem d1_1 : decode method_2_code 1 = .ok (.ifCond .ne 6, 3) := by decide +kernel
theorem d1_4 : decode method_2_code 4 = .ok (.ldc 7, 2) := by decide +kernel
theorem d1_6 : decode method_2_code 6 = .ok (.areturn, 1) := by decide +kernel
theorem d1_7 : decode method_2_code 7 = .ok (.iload_n 0, 1) := by decide +kernel
theorem d1_8 : decode method_2_code 8 = .ok (.iconst 1, 1) := by decide +kernel
theorem d1_9 : decode method_2_code 9 = .ok (.if_icmp .ne 8, 3) := by decide +kernel
theorem d1_12 : decode method_2_code 12 = .ok (.iload_n 1, 1) := by decide +kernel
theorem d1_13 : decode method_2_code 13 = .ok (.invokestatic 9, 3) := by decide +kernel
theorem pd__C_Ljava_lang_String_ : parseMethodDescriptor "(C)Ljava/lang/String;" = some ⟨[.char], some (.object "java/lang/String")⟩ := by decide +kernel
theorem d1_16 : decode method_2_code 16 = .ok (.areturn, 1) := by decide +kernel
theorem d1_17 : decode method_2_code 17 = .ok (.iconst 2, 1) := by decide +kernel
theorem d1_18 : decode method_2_code 18 = .ok (.newarray .char, 2) := by decide +kernel
theorem d1_20 : decode method_2_code 20 = .ok (.astore_n 3, 1) := by decide +kernel
theorem d1_21 : decode method_2_code 21 = .ok (.aload_n 3, 1) := by decide +kernel
theorem d1_22 : decode method_2_code 22 = .ok (.iconst 0, 1) := by decide +kernel
theorem d1_23 : decode method_2_code 23 = .ok (.iload_n 1, 1) := by decide +kernel
theorem d1_24 : decode method_2_code 24 = .ok (.castore, 1) := by decide +kernel
theorem d1_25 : decode method_2_code 25 = .ok (.aload_n 3, 1) := by decide +kernel
theorem d1_26 : decode method_2_code 26 = .ok (.iconst 1, 1) := by decide +kernel
theorem d1_27 : decode method_2_code 27 = .ok (.iload_n 2, 1) := by decide +kernel
theorem d1_28 : decode method_2_code 28 = .ok (.castore, 1) := by decide +kernel
theorem d1_29 : decode method_2_code 29 = .ok (.new 10, 3) := by decide +kernel
theorem d1_32 : decode method_2_code 32 = .ok (.dup, 1) := by decide +kernel
theorem d1_33 : decode method_2_code 33 = .ok (.aload_n 3, 1) := by decide +kernel
theorem d1_34 : decode method_2_code 34 = .ok (.invokespecial 15, 3) := by decide +kernel
theorem pd___C_V : parseMethodDescriptor "([C)V" = some ⟨[(.array .char)], none⟩ := by decide +kernel
theorem d1_37 : decode method_2_code 37 = .ok (.areturn, 1) := by decide +kernel
theorem pn_com_example_claimgate_claimgate_app_GranteeEqualsPinLaw : plainName "com/example/claimgate/claimgate/app/GranteeEqualsPinLaw" = true := by first | (simp [plainName, overriddenIn]; done) | decide +kernel
theorem ef_9 (m : MethodId) (x0 : Addr) : entryFrame m #[(.ref x0)] 1 = mkF m 0 #[.val (.ref x0)] [] := by first | (simp [entryFrame, mkF, argsToLocals, Value.category]; done) | rfl
theorem d9_0 : decode jdk_30_method_1_code 0 = .ok (.aload_n 0, 1) := by decide +kernel
theorem d9_1 : decode jdk_30_method_1_code 1 = .ok (.invokespecial 1, 3) := by decide +kernel
theorem d9_4 : decode jdk_30_method_1_code 4 = .ok (.return_, 1) := by decide +kernel
theorem pn_java_lang_Record : plainName "java/lang/Record" = true := by first | (simp [plainName, overriddenIn]; done) | decide +kernel
theorem ef_8 (m : MethodId) (x0 : Addr) (x1 : Addr) (x2 : Addr) : entryFrame m #[(.ref x0), (.ref x1), (.ref x2)] 3 = mkF m 0 #[.val (.ref x0), .val (.ref x1), .val (.ref x2)] [] := by first | (simp [entryFrame, mkF, argsToLocals, Value.category]; done) | rfl
theorem d8_0 : decode prog_26_method_1_code 0 = .ok (.aload_n 0, 1) := by decide +kernel
theorem d8_1 : decode prog_26_method_1_code 1 = .ok (.invokespecial 1, 3) := by decide +kernel
theorem pd___V : parseMethodDescriptor "()V" = some ⟨[], none⟩ := by decide +kernel
theorem d8_4 : decode prog_26_method_1_code 4 = .ok (.aload_n 0, 1) := by decide +kernel
theorem d8_5 : decode prog_26_method_1_code 5 = .ok (.aload_n 1, 1) := by decide +kernel
theorem d8_6 : decode prog_26_method_1_code 6 = .ok (.putfield 7, 3) := by decide +kernel
theorem d8_9 : decode prog_26_method_1_code 9 = .ok (.aload_n 0, 1) := by decide +kernel
theorem d8_10 : decode prog_26_method_1_code 10 = .ok (.aload_n 2, 1) := by decide +kernel
theorem d8_11 : decode prog_26_method_1_code 11 = .ok (.putfield 13, 3) := by decide +kernel
theorem d8_14 : decode prog_26_method_1_code 14 = .ok (.return_, 1) := by decide +kernel
theorem pn_com_example_claimgate_claimgate_app_SectionAccess_Grantee : plainName "com/example/claimgate/claimgate/app/SectionAccess$Grantee" = true := by first | (simp [plainName, overriddenIn]; done) | decide +kernel
theorem ef_10 (m : MethodId) (x0 : Int32) (x1 : Int32) (x2 : Int32) (x3 : Int32) (x4 : Int32) (x5 : Int32) : entryFrame m #[(.int x0), (.int x1), (.int x2), (.int x3), (.int x4), (.int x5)] 6 = mkF m 0 #[.val (.int x0), .val (.int x1), .val (.int x2), .val (.int x3), .val (.int x4), .val (.int x5)] [] := by first | (simp [entryFrame, mkF, argsToLocals, Value.category]; done) | rfl
theorem d10_0 : decode method_3_code 0 = .ok (.iload_n 0, 1) := by decide +kernel
theorem d10_1 : decode method_3_code 1 = .ok (.iload_n 3, 1) := by decide +kernel
theorem d10_2 : decode method_3_code 2 = .ok (.if_icmp .ne 29, 3) := by decide +kernel
theorem d10_5 : decode method_3_code 5 = .ok (.iload_n 0, 1) := by decide +kernel
theorem d10_6 : decode method_3_code 6 = .ok (.iconst 1, 1) := by decide +kernel
theorem d10_7 : decode method_3_code 7 = .ok (.if_icmp .lt 9, 3) := by decide +kernel
theorem d10_16 : decode method_3_code 16 = .ok (.iload_n 0, 1) := by decide +kernel
theorem d10_17 : decode method_3_code 17 = .ok (.iconst 2, 1) := by decide +kernel
theorem d10_18 : decode method_3_code 18 = .ok (.if_icmp .lt 9, 3) := by decide +kernel
theorem d10_27 : decode method_3_code 27 = .ok (.iconst 1, 1) := by decide +kernel
theorem d10_28 : decode method_3_code 28 = .ok (.goto 4, 3) := by decide +kernel
theorem d10_32 : decode method_3_code 32 = .ok (.ireturn, 1) := by decide +kernel
theorem d10_21 : decode method_3_code 21 = .ok (.iload_n 2, 1) := by decide +kernel
theorem d10_22 : decode method_3_code 22 = .ok (.iload 5, 2) := by decide +kernel
theorem d10_24 : decode method_3_code 24 = .ok (.if_icmp .ne 7, 3) := by decide +kernel
theorem d10_31 : decode method_3_code 31 = .ok (.iconst 0, 1) := by decide +kernel
theorem d10_10 : decode method_3_code 10 = .ok (.iload_n 1, 1) := by decide +kernel
theorem d10_11 : decode method_3_code 11 = .ok (.iload 4, 2) := by decide +kernel
theorem d10_13 : decode method_3_code 13 = .ok (.if_icmp .ne 18, 3) := by decide +kernel
theorem ef_11 (m : MethodId) (x0 : Addr) (x1 : Addr) : entryFrame m #[(.ref x0), (.ref x1)] 3 = mkF m 0 #[.val (.ref x0), .val (.ref x1), .unset] [] := by first | (simp [entryFrame, mkF, argsToLocals, Value.category]; done) | rfl
theorem d11_0 : decode prog_26_method_2_code 0 = .ok (.aload_n 1, 1) := by decide +kernel
theorem d11_1 : decode prog_26_method_2_code 1 = .ok (.instanceof 8, 3) := by decide +kernel
theorem d11_4 : decode prog_26_method_2_code 4 = .ok (.ifCond .eq 40, 3) := by decide +kernel
theorem d11_7 : decode prog_26_method_2_code 7 = .ok (.aload_n 1, 1) := by decide +kernel
theorem d11_8 : decode prog_26_method_2_code 8 = .ok (.checkcast 8, 3) := by decide +kernel
theorem d11_11 : decode prog_26_method_2_code 11 = .ok (.astore_n 2, 1) := by decide +kernel
theorem d11_12 : decode prog_26_method_2_code 12 = .ok (.aload_n 0, 1) := by decide +kernel
theorem d11_13 : decode prog_26_method_2_code 13 = .ok (.getfield 7, 3) := by decide +kernel
theorem d11_16 : decode prog_26_method_2_code 16 = .ok (.aload_n 2, 1) := by decide +kernel
theorem d11_17 : decode prog_26_method_2_code 17 = .ok (.getfield 7, 3) := by decide +kernel
theorem d11_20 : decode prog_26_method_2_code 20 = .ok (.invokevirtual 16, 3) := by decide +kernel
theorem pd__Ljava_lang_Object__Z : parseMethodDescriptor "(Ljava/lang/Object;)Z" = some ⟨[(.object "java/lang/Object")], some .boolean⟩ := by decide +kernel
theorem d11_23 : decode prog_26_method_2_code 23 = .ok (.ifCond .eq 21, 3) := by decide +kernel
theorem d11_44 : decode prog_26_method_2_code 44 = .ok (.iconst 0, 1) := by decide +kernel
theorem d11_45 : decode prog_26_method_2_code 45 = .ok (.ireturn, 1) := by decide +kernel
theorem d11_26 : decode prog_26_method_2_code 26 = .ok (.aload_n 0, 1) := by decide +kernel
theorem d11_27 : decode prog_26_method_2_code 27 = .ok (.getfield 13, 3) := by decide +kernel
theorem d11_30 : decode prog_26_method_2_code 30 = .ok (.aload_n 2, 1) := by decide +kernel
theorem d11_31 : decode prog_26_method_2_code 31 = .ok (.getfield 13, 3) := by decide +kernel
theorem d11_34 : decode prog_26_method_2_code 34 = .ok (.invokevirtual 16, 3) := by decide +kernel
theorem d11_37 : decode prog_26_method_2_code 37 = .ok (.ifCond .eq 7, 3) := by decide +kernel
theorem d11_40 : decode prog_26_method_2_code 40 = .ok (.iconst 1, 1) := by decide +kernel
theorem d11_41 : decode prog_26_method_2_code 41 = .ok (.goto 4, 3) := by decide +kernel
theorem ef_11n1 (m : MethodId) (x0 : Addr) : entryFrame m #[(.ref x0), .null] 3 = mkF m 0 #[.val (.ref x0), .val .null, .unset] [] := by first | (simp [entryFrame, mkF, argsToLocals, Value.category]; done) | rfl
theorem ef_0 (m : MethodId) (x0 : Int32) (x1 : Int32) (x2 : Int32) : entryFrame m #[(.int x0), (.int x1), (.int x2)] maxLocals = mkF m 0 #[.val (.int x0), .val (.int x1), .val (.int x2), .unset, .unset, .unset, .unset, .unset, .unset, .unset, .unset, .unset, .unset, .unset, .unset, .unset, .unset, .unset, .unset, .unset, .unset, .unset, .unset] [] := by first | (simp [entryFrame, mkF, argsToLocals, Value.category, maxLocals]; done) | rfl
theorem pd__ICC_Ljava_lang_String_ : parseMethodDescriptor "(ICC)Ljava/lang/String;" = some ⟨[.int, .char, .char], some (.object "java/lang/String")⟩ := by decide +kernel
theorem pd__Ljava_lang_String_Ljava_lang_String__V : parseMethodDescriptor "(Ljava/lang/String;Ljava/lang/String;)V" = some ⟨[(.object "java/lang/String"), (.object "java/lang/String")], none⟩ := by decide +kernel
theorem pd__ICCICC_Z : parseMethodDescriptor "(ICCICC)Z" = some ⟨[.int, .char, .char, .int, .char, .char], some .boolean⟩ := by decide +kernel
def EL : List (String × Nat) := [("com/example/claimgate/claimgate/app/GranteeEqualsPinLaw", 7)]
theorem hELof {Z : State} {a0 : Array Value} (hw : ∀ d ∈ tables_1, d.before a0 Z = true) : EW Z a0 EL := EW.cons (hw _ (List.mem_of_getElem? (i := 34) rfl)) (by decide) (EW.nil)
theorem wSof {Z : State} {a0 : Array Value} (hw : ∀ d ∈ tables_1, d.before a0 Z = true) : ∀ a ∈ Bundle.stringAtoms, a.before a0 Z = true := by
  intro a ha
  simp only [Bundle.stringAtoms, Bundle.sN, List.mem_cons, List.not_mem_nil, or_false] at ha
  rcases ha with rfl | rfl | rfl | rfl | rfl | rfl | rfl
  · exact (hw _ (List.mem_of_getElem? (i := 7) rfl))
  · exact (hw _ (List.mem_of_getElem? (i := 6) rfl))
  · exact (hw _ (List.mem_of_getElem? (i := 23) rfl))
  · exact (hw _ (List.mem_of_getElem? (i := 33) rfl))
  · exact (hw _ (List.mem_of_getElem? (i := 31) rfl))
  · exact (hw _ (List.mem_of_getElem? (i := 35) rfl))
  · exact (hw _ (List.mem_of_getElem? (i := 36) rfl))
theorem hwsOf {Z : State} {a0 : Array Value} (hw : ∀ d ∈ tables_1, d.before a0 Z = true) : ∀ d ∈ StrChars.Road.words, d.before a0 Z = true := fun d hd => hw d ((by decide +kernel : ∀ d ∈ StrChars.Road.words, d ∈ tables_1) d hd)
theorem heqOf {Z : State} {a0 : Array Value} (hw : ∀ d ∈ tables_1, d.before a0 Z = true) : ∀ d ∈ StrChars.Road.wordsEq, d.before a0 Z = true := fun d hd => hw d ((by decide +kernel : ∀ d ∈ StrChars.Road.wordsEq, d ∈ tables_1) d hd)
theorem chr8 (x : Int32) : ¬ (x &&& (255 : Int32)).toUInt32.toUInt16.toUInt32.toInt32 < 0 ∧ ¬ (255 : Int32) < (x &&& (255 : Int32)).toUInt32.toUInt16.toUInt32.toInt32 := by
  rw [i2c_mask]
  have e := c_mask x 255 8 (by decide) (by decide)
  have e0 : (0 : Int32).toInt = 0 := rfl
  have e1 : (255 : Int32).toInt = 255 := rfl
  rw [Int32.lt_iff_toInt_lt, Int32.lt_iff_toInt_lt]
  omega
theorem c3 (i : Int32) (h0 : 0 ≤ i.toInt) (h1 : i.toInt < 3) : i = (0 : Int32) ∨ i = (1 : Int32) ∨ i = (2 : Int32) := by
  have e0 : (0 : Int32).toInt = 0 := rfl
  have e1 : (1 : Int32).toInt = 1 := rfl
  have e2 : (2 : Int32).toInt = 2 := rfl
  simp only [← Int32.toInt_inj]
  omega
def strL (n a b : Int32) : List Int32 := if n = 0 then [] else if n = 1 then [a] else [a, b]
theorem len3 (x : Int32) : 0 ≤ ((x &&& (3 : Int32)) - ((x &&& (3 : Int32)) / (3 : Int32)) * (3 : Int32)).toInt ∧ ((x &&& (3 : Int32)) - ((x &&& (3 : Int32)) / (3 : Int32)) * (3 : Int32)).toInt < 3 := by
  have e := c_mask x 3 2 (by decide) (by decide)
  rw [rem_pos (k := 3) (by omega) rfl]
  omega
theorem narB (c : Int32) : nar .byte (c.toInt8.toInt32) = c.toInt8.toInt32 := by
  show (c.toInt8.toInt32).toInt8.toInt32 = c.toInt8.toInt32
  simp
theorem str1 {Z : State} {h : Heap} {a t : Addr} {kb : ClassId} {c : Int32} (hc : ¬ c < 0 ∧ ¬ (255 : Int32) < c) (Ex : Exa Z h a "java/lang/String") (Fv : Fld Z h a "java/lang/String" "value" "[B" (.ref t)) (Fc : Fld Z h a "java/lang/String" "coder" "B" (.int 0)) (V : Arv Z h t kb .byte (1 : Int32) [.int (nar .byte (c.toInt8.toInt32))] (.int 0)) : Str Z h a [c] := by
  rw [narB] at V
  refine ⟨Ex, fun x hx => ?_, by simp, t, kb, 0, 1, _, Fv, Fc, V, ?_⟩
  · cases List.mem_singleton.mp hx; exact ⟨hc.1, le255 hc.2⟩
  · exact Or.inl ⟨rfl, rfl, rfl, fun x hx => by cases List.mem_singleton.mp hx; exact hc.2⟩
theorem str0 {Z : State} {h : Heap} {a t : Addr} {kb : ClassId} (Ex : Exa Z h a "java/lang/String") (Fv : Fld Z h a "java/lang/String" "value" "[B" (.ref t)) (Fc : Fld Z h a "java/lang/String" "coder" "B" (.int 0)) (V : Arv Z h t kb .byte (0 : Int32) [] (.int 0)) : Str Z h a [] :=
  ⟨Ex, (fun _ q => nomatch q), by decide, t, kb, 0, 0, [], Fv, Fc, V, Or.inl ⟨rfl, rfl, rfl, (fun _ q => nomatch q)⟩⟩
theorem eq_fin (n1 n2 x0 x1 y0 y1 : Int32) (h1 : 0 ≤ n1.toInt ∧ n1.toInt < 3) (h2 : 0 ≤ n2.toInt ∧ n2.toInt < 3) : (if strL n1 x0 x1 = strL n2 y0 y1 then (1 : Int32) else (0 : Int32)) = (if n1 = n2 then (if n1 < (1 : Int32) then (if n1 < (2 : Int32) then (1 : Int32) else (if x1 = y1 then (1 : Int32) else (0 : Int32))) else (if x0 = y0 then (if n1 < (2 : Int32) then (1 : Int32) else (if x1 = y1 then (1 : Int32) else (0 : Int32))) else (0 : Int32))) else (0 : Int32)) := by
  rcases c3 n1 h1.1 h1.2 with rfl | rfl | rfl <;> rcases c3 n2 h2.1 h2.2 with rfl | rfl | rfl <;> by_cases a0 : x0 = y0 <;> by_cases a1 : x1 = y1 <;> simp +decide [strL, a0, a1]
theorem eq_fin' (n1 n2 x0 x1 y0 y1 : Int32) (h1 : 0 ≤ n1.toInt ∧ n1.toInt < 3) (h2 : 0 ≤ n2.toInt ∧ n2.toInt < 3) : (if strL n2 y0 y1 = strL n1 x0 x1 then (1 : Int32) else (0 : Int32)) = (if n1 = n2 then (if n1 < (1 : Int32) then (if n1 < (2 : Int32) then (1 : Int32) else (if x1 = y1 then (1 : Int32) else (0 : Int32))) else (if x0 = y0 then (if n1 < (2 : Int32) then (1 : Int32) else (if x1 = y1 then (1 : Int32) else (0 : Int32))) else (0 : Int32))) else (0 : Int32)) := by
  rw [← eq_fin n1 n2 x0 x1 y0 y1 h1 h2]
  simp only [eq_comm (a := strL n2 y0 y1)]
set_option maxRecDepth 65536 in
set_option maxHeartbeats 40000000 in
theorem rm_can (l : Launch) (Z : State) (a0 : Array Value) (hw : ∀ d ∈ tables_1, d.before a0 Z = true) (c : Int32) (h0 : Heap) (n0 : Nat) (O0 : Old Z n0 h0) (hc : ¬ c < 0 ∧ ¬ (255 : Int32) < c) :
    Rm l (⟨"java/lang/StringLatin1", "canEncode", "(C)Z"⟩ : MethodName) jdk_43_method_3_code 1 (some .boolean) ({ frames := 0, cells := 0, slots := 0, locals := 0 } : Room) [] Z #[(.int c)] h0 (fun v h L => v = some (.int 1) ∧ Fr n0 L ∧ h = h0) := by
  refine Rm.of (plainFor_of_name pn_java_lang_StringLatin1) ?_
  intro p e s m below meth cod T X hx hZ hby hml hown hnm hret hlk eT0
  have hown : s.vm.findClass "java/lang/StringLatin1" = some m.cls := hown
  have hnm : meth.name = "canEncode" := hnm
  have N0 := Fr.nil n0
  refine Goes.cast (ef_15 m c) ?_
  show Goes p e below _ T (mkF m 0 #[.val (.int c)] [])
  refine Goes.of (fun _ => XS.iloadN X.here hx rfl (hb hby d15_0) rfl) ?_
  show Goes p e below _ T (mkF m 1 #[.val (.int c)] [(.int c)])
  refine Goes.of (fun _ => XS.sipush X.here hx rfl (hb hby d15_1)) ?_
  show Goes p e below _ T (mkF m 4 #[.val (.int c)] [(.int (255 : Int32)), (.int c)])
  refine Goes.of (fun _ => XS.icmpNo X.here hx rfl (hb hby d15_4) rfl (flt hc.2).2.2.1) ?_
  show Goes p e below _ T (mkF m 7 #[.val (.int c)] [])
  refine Goes.of (fun _ => XS.iconst X.here hx rfl (hb hby d15_7)) ?_
  show Goes p e below _ T (mkF m 8 #[.val (.int c)] [(.int (1 : Int32))])
  refine Goes.of (fun _ => XS.goto X.here hx rfl (pc0 := 8) (pc' := 12) rfl (hb hby d15_8) (by decide) (by decide)) ?_
  show Goes p e below _ T (mkF m 12 #[.val (.int c)] [(.int (1 : Int32))])
  exact retZ (t := .boolean) X hx hret hlk (by simp) (hb hby d15_12) eT0 (by decide) (by decide) ⟨rfl, N0, rfl⟩
set_option maxRecDepth 65536 in
set_option maxHeartbeats 40000000 in
theorem rm_tob (l : Launch) (Z : State) (a0 : Array Value) (hw : ∀ d ∈ tables_1, d.before a0 Z = true) (c : Int32) (h0 : Heap) (n0 : Nat) (O0 : Old Z n0 h0)  :
    Rm l (⟨"java/lang/StringLatin1", "toBytes", "(C)[B"⟩ : MethodName) jdk_43_method_46_code 1 (some (.array .byte)) ({ frames := 0, cells := 1, slots := 1, locals := 0 } : Room) [] Z #[(.int c)] h0 (fun v h L => ∃ (b : Addr) (kb : ClassId), v = some (.ref b) ∧ Fr n0 L ∧ Keep h0 h [] ∧ n0 ≤ b ∧ Arv Z h b kb .byte (1 : Int32) [.int (nar .byte (c.toInt8.toInt32))] (.int 0)) := by
  refine Rm.of (plainFor_of_name pn_java_lang_StringLatin1) ?_
  intro p e s m below meth cod T X hx hZ hby hml hown hnm hret hlk eT0
  have hown : s.vm.findClass "java/lang/StringLatin1" = some m.cls := hown
  have hnm : meth.name = "toBytes" := hnm
  have N0 := Fr.nil n0
  have Kp := Keep.refl h0 []
  refine Goes.cast (ef_16 m c) ?_
  show Goes p e below _ T (mkF m 0 #[.val (.int c)] [])
  refine Goes.of (fun _ => XS.iconst X.here hx rfl (hb hby d16_0)) ?_
  show Goes p e below _ T (mkF m 1 #[.val (.int c)] [(.int (1 : Int32))])
  refine goNewP 1 X hx hZ (hw _ (List.mem_of_getElem? (i := 23) rfl)) eT0 (g := (mkF m 1 #[.val (.int c)] [(.int (1 : Int32))])) rfl (hb hby d16_1) rfl (by decide) (by decide) (by decide) (by decide) (by decide) (ad := "[B") (by first | rfl | decide) ?_
  intro T1 h1 b1 kA1 X1 eT1 E1 hb1 V1 A1
  have g_b1 : n0 ≤ b1 := Nat.le_trans (oldLe O0) hb1
  have sz_b1 : h0.size ≤ b1 := Nat.le_trans Kp.1 hb1
  have Kp := Kp.ext E1
  have O0 := O0.ext E1
  have V1 : Arv Z h1 b1 kA1 .byte (1 : Int32) [(.int (0 : Int32))] (.int (0 : Int32)) := V1
  show Goes p e below _ T1 (mkF m 3 #[.val (.int c)] [(.ref b1)])
  refine Goes.of (fun _ => XS.dup X1.here hx rfl (hb hby d16_3) rfl rfl) ?_
  show Goes p e below _ T1 (mkF m 4 #[.val (.int c)] [(.ref b1), (.ref b1)])
  refine Goes.of (fun _ => XS.iconst X1.here hx rfl (hb hby d16_4)) ?_
  show Goes p e below _ T1 (mkF m 5 #[.val (.int c)] [(.int (0 : Int32)), (.ref b1), (.ref b1)])
  refine Goes.of (fun _ => XS.iloadN X1.here hx rfl (hb hby d16_5) rfl) ?_
  show Goes p e below _ T1 (mkF m 6 #[.val (.int c)] [(.int c), (.int (0 : Int32)), (.ref b1), (.ref b1)])
  refine Goes.of (fun _ => XS.i2b X1.here hx rfl (hb hby d16_6) rfl) ?_
  show Goes p e below _ T1 (mkF m 7 #[.val (.int c)] [(.int (c.toInt8.toInt32)), (.int (0 : Int32)), (.ref b1), (.ref b1)])
  refine goStB 0 X1 hx hZ eT1 V1 (by decide) (by decide) rfl (Nat.lt_of_lt_of_le (Nat.lt_succ_self _) (Nat.le_of_ble_eq_true rfl)) (g := (mkF m 7 #[.val (.int c)] [(.int (c.toInt8.toInt32)), (.int (0 : Int32)), (.ref b1), (.ref b1)])) rfl rfl (hb hby d16_7) ?_
  intro T2 h2 X2 eT2 W2 V1
  have N2 := Fr.snoc X2 N0 g_b1
  have A1 := A1.wr W2
  have Kp := Kp.wr W2 (Or.inr sz_b1)
  have O0 := O0.wr W2 g_b1
  have V1 : Arv Z h2 b1 kA1 .byte (1 : Int32) [(.int (nar .byte (c.toInt8.toInt32)))] (.int (0 : Int32)) := V1
  show Goes p e below _ T2 (mkF m 8 #[.val (.int c)] [(.ref b1)])
  exact retRef X2 hx hret hlk rfl rfl (hb hby d16_8) eT2 (by decide) (by decide) ⟨b1, _, rfl, N2, Kp, g_b1, V1⟩
set_option maxRecDepth 65536 in
set_option maxHeartbeats 40000000 in
theorem rm_newbb (l : Launch) (Z : State) (a0 : Array Value) (hw : ∀ d ∈ tables_1, d.before a0 Z = true) (a b : Addr) (h0 : Heap) (n0 : Nat) (O0 : Old Z n0 h0) (g_a : n0 ≤ a) (Ex : Exa Z h0 a "java/lang/String") (Fv : Fld Z h0 a "java/lang/String" "value" "[B" .null) (Fc : Fld Z h0 a "java/lang/String" "coder" "B" (.int (0 : Int32))) :
    Rm l (⟨"java/lang/String", "<init>", "([BB)V"⟩ : MethodName) jdk_42_method_151_code 3 none ({ frames := 1, cells := 0, slots := 0, locals := 12 } : Room) [] Z #[(.ref a), (.ref b), (.int (0 : Int32))] h0 (fun v h L => v = none ∧ Fr n0 L ∧ Keep h0 h [a] ∧ Fld Z h a "java/lang/String" "value" "[B" (.ref b) ∧ Fld Z h a "java/lang/String" "coder" "B" (.int (0 : Int32))) := by
  refine Rm.of (plainFor_of_name pn_java_lang_String) ?_
  intro p e s m below meth cod T X hx hZ hby hml hown hnm hret hlk eT0
  have hown : s.vm.findClass "java/lang/String" = some m.cls := hown
  have hnm : meth.name = "<init>" := hnm
  have N0 := Fr.nil n0
  have Kp := Keep.refl h0 [a]
  refine Goes.cast (ef_17 m a b (0 : Int32)) ?_
  show Goes p e below _ T (mkF m 0 #[.val (.ref a), .val (.ref b), .val (.int (0 : Int32))] [])
  refine Goes.of (fun _ => XS.aloadN X.here hx rfl (hb hby d17_0) rfl rfl) ?_
  show Goes p e below _ T (mkF m 1 #[.val (.ref a), .val (.ref b), .val (.int (0 : Int32))] [(.ref a)])
  refine goInitO 0 X hx hZ hown (hw _ (List.mem_of_getElem? (i := 15) rfl)) (hw _ (List.mem_of_getElem? (i := 16) rfl)) (hw _ (List.mem_of_getElem? (i := 17) rfl)) eT0 (g := (mkF m 1 #[.val (.ref a), .val (.ref b), .val (.int (0 : Int32))] [(.ref a)])) rfl (by rw [hml]; rfl) rfl (hb hby d17_1) (by decide) (by show 2 * 0 + _ ≤ _; exact Nat.le_of_eq rfl) (by decide) ?_
  intro T1 X1 eT1
  show Goes p e below _ T1 (mkF m 4 #[.val (.ref a), .val (.ref b), .val (.int (0 : Int32))] [])
  refine Goes.of (fun _ => XS.aloadN X1.here hx rfl (hb hby d17_4) rfl rfl) ?_
  show Goes p e below _ T1 (mkF m 5 #[.val (.ref a), .val (.ref b), .val (.int (0 : Int32))] [(.ref a)])
  refine Goes.of (fun _ => XS.aloadN X1.here hx rfl (hb hby d17_5) rfl rfl) ?_
  show Goes p e below _ T1 (mkF m 6 #[.val (.ref a), .val (.ref b), .val (.int (0 : Int32))] [(.ref b), (.ref a)])
  refine goPut (ty := (.array .byte)) X1 hx hZ hown (host := "") (Or.inl (hw _ (List.mem_of_getElem? (i := 32) rfl))) Via.refl eT1 Fv Ex (Or.inr ⟨(hw _ (List.mem_of_getElem? (i := 33) rfl)), rfl, hnm⟩) (hw _ (List.mem_of_getElem? (i := 6) rfl)) (by decide) rfl rfl (g := (mkF m 6 #[.val (.ref a), .val (.ref b), .val (.int (0 : Int32))] [(.ref b), (.ref a)])) rfl rfl (hb hby d17_6) ?_
  intro T2 h2 X2 eT2 W2
  have Fv := Fld.same W2 Fv
  have N2 := Fr.snoc X2 N0 g_a
  have Ex := Ex.wr W2
  have Fc := Fc.other W2 (Or.inr (slot_ne (Or.inr (hw _ (List.mem_of_getElem? (i := 31) rfl))) (Or.inr (hw _ (List.mem_of_getElem? (i := 33) rfl))) (by decide) (t := .byte) (t' := (.array .byte)) (by decide) (by decide)))
  have Kp := Kp.wr W2 (Or.inl (List.mem_of_getElem? (i := 0) rfl))
  have O0 := O0.wr W2 g_a
  show Goes p e below _ T2 (mkF m 9 #[.val (.ref a), .val (.ref b), .val (.int (0 : Int32))] [])
  refine Goes.of (fun _ => XS.aloadN X2.here hx rfl (hb hby d17_9) rfl rfl) ?_
  show Goes p e below _ T2 (mkF m 10 #[.val (.ref a), .val (.ref b), .val (.int (0 : Int32))] [(.ref a)])
  refine Goes.of (fun _ => XS.iloadN X2.here hx rfl (hb hby d17_10) rfl) ?_
  show Goes p e below _ T2 (mkF m 11 #[.val (.ref a), .val (.ref b), .val (.int (0 : Int32))] [(.int (0 : Int32)), (.ref a)])
  refine goPut (ty := .byte) X2 hx hZ hown (host := "") (Or.inl (hw _ (List.mem_of_getElem? (i := 30) rfl))) Via.refl eT2 Fc Ex (Or.inr ⟨(hw _ (List.mem_of_getElem? (i := 31) rfl)), rfl, hnm⟩) (hw _ (List.mem_of_getElem? (i := 6) rfl)) (by decide) rfl rfl (g := (mkF m 11 #[.val (.ref a), .val (.ref b), .val (.int (0 : Int32))] [(.int (0 : Int32)), (.ref a)])) rfl rfl (hb hby d17_11) ?_
  intro T3 h3 X3 eT3 W3
  have Fc := Fld.same W3 Fc
  have N3 := Fr.snoc X3 N2 g_a
  have Ex := Ex.wr W3
  have Fv := Fv.other W3 (Or.inr (slot_ne (Or.inr (hw _ (List.mem_of_getElem? (i := 33) rfl))) (Or.inr (hw _ (List.mem_of_getElem? (i := 31) rfl))) (by decide) (t := (.array .byte)) (t' := .byte) (by decide) (by decide)))
  have Kp := Kp.wr W3 (Or.inl (List.mem_of_getElem? (i := 0) rfl))
  have O0 := O0.wr W3 g_a
  show Goes p e below _ T3 (mkF m 14 #[.val (.ref a), .val (.ref b), .val (.int (0 : Int32))] [])
  exact retVoid X3 hx hret hlk (hb hby d17_14) eT3 (by decide) (by decide) ⟨rfl, N3, Kp, Fv, Fc⟩
set_option maxRecDepth 65536 in
set_option maxHeartbeats 40000000 in
theorem rm_valchar (l : Launch) (Z : State) (a0 : Array Value) (hw : ∀ d ∈ tables_1, d.before a0 Z = true) (c : Int32) (cz : Int32) (h0 : Heap) (n0 : Nat) (O0 : Old Z n0 h0) (Sc : Sta Z Z.heap "java/lang/String" "COMPACT_STRINGS" "Z" (.int cz)) (hcz : ¬ cz = 0) (hc : ¬ c < 0 ∧ ¬ (255 : Int32) < c) :
    Rm l (⟨"java/lang/String", "valueOf", "(C)Ljava/lang/String;"⟩ : MethodName) jdk_42_method_139_code 1 (some (.object "java/lang/String")) ({ frames := 2, cells := 2, slots := 5, locals := 27 } : Room) [] Z #[(.int c)] h0 (fun v h L => ∃ b, v = some (.ref b) ∧ Fr n0 L ∧ Keep h0 h [] ∧ Str Z h b [c]) := by
  refine Rm.of (plainFor_of_name pn_java_lang_String) ?_
  intro p e s m below meth cod T X hx hZ hby hml hown hnm hret hlk eT0
  have hown : s.vm.findClass "java/lang/String" = some m.cls := hown
  have hnm : meth.name = "valueOf" := hnm
  have N0 := Fr.nil n0
  have Kp := Keep.refl h0 []
  refine Goes.cast (ef_14 m c) ?_
  show Goes p e below _ T (mkF m 0 #[.val (.int c)] [])
  refine goGetS X hx hZ hown (host := "") (Or.inl (hw _ (List.mem_of_getElem? (i := 18) rfl))) Via.refl eT0 (Sc.ext O0.2) (g := (mkF m 0 #[.val (.int c)] [])) rfl (hb hby d14_0) ?_
  intro T1 X1 eT1
  show Goes p e below _ T1 (mkF m 3 #[.val (.int c)] [(.int cz)])
  refine Goes.of (fun _ => XS.ifNo X1.here hx rfl (hb hby d14_3) rfl ((if0 _ _).trans (feq hcz).1)) ?_
  show Goes p e below _ T1 (mkF m 6 #[.val (.int c)] [])
  refine Goes.of (fun _ => XS.iloadN X1.here hx rfl (hb hby d14_6) rfl) ?_
  show Goes p e below _ T1 (mkF m 7 #[.val (.int c)] [(.int c)])
  refine goStatic 0 X1 hx hZ hown (hw _ (List.mem_of_getElem? (i := 78) rfl)) (hw _ (List.mem_of_getElem? (i := 79) rfl)) (hw _ (List.mem_of_getElem? (i := 71) rfl)) (hw _ (List.mem_of_getElem? (i := 80) rfl)) (by decide) (rm_can l Z a0 hw c h0 n0 O0 hc) eT1 (g := (mkF m 7 #[.val (.int c)] [(.int c)])) rfl (by rw [hml]; rfl) [(.int c)] [] (lenOf pd__C_Z rfl) rfl rfl (by show 2 * 0 + _ ≤ _; exact Nat.le_of_eq rfl) (hb hby d14_7) (by decide) (by decide) (by decide) (by decide) ?_
  intro v2 T2 L2 X2 q2
  obtain ⟨rfl, Nq2, eT2⟩ := q2
  have N2 := Fr.app N0 Nq2
  show Goes p e below _ T2 (mkF m 10 #[.val (.int c)] [(.int (1 : Int32))])
  refine Goes.of (fun _ => XS.ifNo X2.here hx rfl (hb hby d14_10) rfl ((if0 _ _).trans (feq (by decide)).1)) ?_
  show Goes p e below _ T2 (mkF m 13 #[.val (.int c)] [])
  refine goNew X2 hx hZ hown (hw _ (List.mem_of_getElem? (i := 68) rfl)) (hw _ (List.mem_of_getElem? (i := 6) rfl)) (hw _ (List.mem_of_getElem? (i := 7) rfl)) eT2 (g := (mkF m 13 #[.val (.int c)] [])) rfl (hb hby d14_13) (by decide) (by decide) ?_
  intro T3 h3 b3 X3 eT3 E3 hb3 A3 D3
  have g_b3 : n0 ≤ b3 := Nat.le_trans (oldLe O0) hb3
  have sz_b3 : h0.size ≤ b3 := Nat.le_trans Kp.1 hb3
  have Kp := Kp.ext E3
  have O0 := O0.ext E3
  have F3_coder : Fld Z h3 b3 "java/lang/String" "coder" "B" (.int (0 : Int32)) := D3 (Or.inr (hw _ (List.mem_of_getElem? (i := 31) rfl))) (ty := .byte) (by decide)
  have F3_value : Fld Z h3 b3 "java/lang/String" "value" "[B" .null := D3 (Or.inr (hw _ (List.mem_of_getElem? (i := 33) rfl))) (ty := (.array .byte)) (by decide)
  show Goes p e below _ T3 (mkF m 16 #[.val (.int c)] [(.ref b3)])
  refine Goes.of (fun _ => XS.dup X3.here hx rfl (hb hby d14_16) rfl rfl) ?_
  show Goes p e below _ T3 (mkF m 17 #[.val (.int c)] [(.ref b3), (.ref b3)])
  refine Goes.of (fun _ => XS.iloadN X3.here hx rfl (hb hby d14_17) rfl) ?_
  show Goes p e below _ T3 (mkF m 18 #[.val (.int c)] [(.int c), (.ref b3), (.ref b3)])
  refine goStatic 2 X3 hx hZ hown (hw _ (List.mem_of_getElem? (i := 81) rfl)) (hw _ (List.mem_of_getElem? (i := 82) rfl)) (hw _ (List.mem_of_getElem? (i := 71) rfl)) (hw _ (List.mem_of_getElem? (i := 83) rfl)) (by decide) (rm_tob l Z a0 hw c h3 n0 O0) eT3 (g := (mkF m 18 #[.val (.int c)] [(.int c), (.ref b3), (.ref b3)])) rfl (by rw [hml]; rfl) [(.int c)] [(.ref b3), (.ref b3)] (lenOf pd__C__B rfl) rfl rfl (by show 2 * 0 + _ ≤ _; exact Nat.le_of_eq rfl) (hb hby d14_18) (by decide) (by decide) (by decide) (by decide) ?_
  intro v4 T4 L4 X4 q4
  obtain ⟨tb4, kt4, rfl, Nq4, Kq4, g_tb4, Vt4⟩ := q4
  have N4 := Fr.app N2 Nq4
  have A3 := A3.keep Kq4
  have F3_coder := F3_coder.keep Kq4 nin0
  have F3_value := F3_value.keep Kq4 nin0
  have Kp := Kp.trans Kq4 all0
  have O0 := O0.keep Kq4 all0
  have ne_b3_tb4 : b3 ≠ tb4 := Exa.neArv A3 Vt4 (hw _ (List.mem_of_getElem? (i := 6) rfl))
  show Goes p e below _ T4 (mkF m 21 #[.val (.int c)] [(.ref tb4), (.ref b3), (.ref b3)])
  refine Goes.of (fun _ => XS.iconst X4.here hx rfl (hb hby d14_21)) ?_
  show Goes p e below _ T4 (mkF m 22 #[.val (.int c)] [(.int (0 : Int32)), (.ref tb4), (.ref b3), (.ref b3)])
  refine goSpecial 1 X4 hx hZ rfl hown (hw _ (List.mem_of_getElem? (i := 84) rfl)) (hw _ (List.mem_of_getElem? (i := 85) rfl)) (hw _ (List.mem_of_getElem? (i := 7) rfl)) (hw _ (List.mem_of_getElem? (i := 86) rfl)) (by decide) (rm_newbb l Z a0 hw b3 tb4 T4.heap n0 O0 g_b3 A3 F3_value F3_coder) (rfl : T4.heap = _) (g := (mkF m 22 #[.val (.int c)] [(.int (0 : Int32)), (.ref tb4), (.ref b3), (.ref b3)])) rfl (by rw [hml]; rfl) b3 [(.ref tb4), (.int (0 : Int32))] [(.ref b3)] (lenOf pd___BB_V rfl) rfl rfl (by show 2 * 0 + _ ≤ _; exact Nat.le_of_eq rfl) (hb hby d14_22) (by decide) (by decide) (by decide) (by decide) ?_
  intro v5 T5 L5 X5 q5
  obtain ⟨rfl, Nq5, Kq5, Fv5, Fc5⟩ := q5
  have N5 := Fr.app N4 Nq5
  have A3 := A3.keep Kq5
  have Vt4 := Vt4.keep Kq5 (ninS (Ne.symm ne_b3_tb4) nin0)
  have Kp := Kp.trans Kq5 (allS (Or.inr sz_b3) all0)
  have O0 := O0.keep Kq5 (allS g_b3 all0)
  show Goes p e below _ T5 (mkF m 25 #[.val (.int c)] [(.ref b3)])
  exact retRef X5 hx hret hlk rfl rfl (hb hby d14_25) (rfl : T5.heap = _) (by decide) (by decide) ⟨b3, rfl, N5, Kp, str1 hc A3 Fv5 Fc5 Vt4⟩
set_option maxRecDepth 65536 in
set_option maxHeartbeats 40000000 in
theorem rm_str (l : Launch) (Z : State) (a0 : Array Value) (hw : ∀ d ∈ tables_1, d.before a0 Z = true) (n c1 c2 : Int32) (cz : Int32) (h0 : Heap) (n0 : Nat) (O0 : Old Z n0 h0) (Sc : Sta Z Z.heap "java/lang/String" "COMPACT_STRINGS" "Z" (.int cz)) (hcz : ¬ cz = 0) (hc1 : ¬ c1 < 0 ∧ ¬ (255 : Int32) < c1) (hc2 : ¬ c2 < 0 ∧ ¬ (255 : Int32) < c2) :
    RmH l (⟨"com/example/claimgate/claimgate/app/GranteeEqualsPinLaw", "str", "(ICC)Ljava/lang/String;"⟩ : MethodName) method_2_code 4 (some (.object "java/lang/String")) ({ frames := 4, cells := 3, slots := 8, locals := 66 } : Room) [] Z EL #[(.int n), (.int c1), (.int c2)] h0 (fun v h L => ∃ b, v = some (.ref b) ∧ Fr n0 L ∧ Keep h0 h [] ∧ Str Z h b (strL n c1 c2)) := by
  refine RmH.of (plainFor_of_name pn_com_example_claimgate_claimgate_app_GranteeEqualsPinLaw) ?_
  intro p e s m below meth cod T X hx hZ hby hml hown hnm hret hlk eT0 hS hk HC
  have hEL := hELof hw
  have wS := wSof hw
  have hown : s.vm.findClass "com/example/claimgate/claimgate/app/GranteeEqualsPinLaw" = some m.cls := hown
  have hnm : meth.name = "str" := hnm
  have N0 := Fr.nil n0
  have Kp := Keep.refl h0 []
  refine Goes.cast (ef_1 m n c1 c2) ?_
  show Goes p e below _ T (mkF m 0 #[.val (.int n), .val (.int c1), .val (.int c2), .unset] [])
  refine Goes.of (fun _ => XS.iloadN X.here hx rfl (hb hby d1_0) rfl) ?_
  show Goes p e below _ T (mkF m 1 #[.val (.int n), .val (.int c1), .val (.int c2), .unset] [(.int n)])
  by_cases hpc1 : n = (0 : Int32)
  · refine Goes.of (fun _ => XS.ifNo X.here hx rfl (hb hby d1_1) rfl ((if0 _ _).trans (teq hpc1).2)) ?_
    show Goes p e below _ T (mkF m 4 #[.val (.int n), .val (.int c1), .val (.int c2), .unset] [])
    refine goLdcC (z := (0 : Int32)) (vs := []) 0 X hS hk hEL (by decide) HC hx hZ hown (hw _ (List.mem_of_getElem? (i := 34) rfl)) wS eT0 (by decide) (by decide) (by decide) (g := (mkF m 4 #[.val (.int n), .val (.int c1), .val (.int c2), .unset] [])) rfl (hb hby d1_4) (by decide) (by decide) (by decide) (by decide) ?_
    intro s1 T1 h1 kk1 d1 kd1 X1 eT1 E1 hS hk hZ hown HC CH1 Es1 Fc1 Fv1 Vd1 hs1
    have Kp := Kp.ext E1
    have O0 := O0.ext E1
    show Goes p e below _ T1 (mkF m 6 #[.val (.int n), .val (.int c1), .val (.int c2), .unset] [(.ref s1)])
    exact retRefW X1 hS hk hZ hEL HC hx hret hlk rfl rfl (hb hby d1_6) eT1 (by decide) (by decide) ⟨s1, rfl, N0, Kp, Str.of (str0 Es1 Fv1 Fc1 Vd1) (by unfold strL; rw [if_pos hpc1])⟩
  · refine Goes.of (fun _ => XS.ifYes X.here hx rfl (pc0 := 1) (pc' := 7) rfl (hb hby d1_1) rfl ((if0 _ _).trans (feq hpc1).2) (by decide) (by decide)) ?_
    show Goes p e below _ T (mkF m 7 #[.val (.int n), .val (.int c1), .val (.int c2), .unset] [])
    refine Goes.of (fun _ => XS.iloadN X.here hx rfl (hb hby d1_7) rfl) ?_
    show Goes p e below _ T (mkF m 8 #[.val (.int n), .val (.int c1), .val (.int c2), .unset] [(.int n)])
    refine Goes.of (fun _ => XS.iconst X.here hx rfl (hb hby d1_8)) ?_
    show Goes p e below _ T (mkF m 9 #[.val (.int n), .val (.int c1), .val (.int c2), .unset] [(.int (1 : Int32)), (.int n)])
    by_cases hpc9 : n = (1 : Int32)
    · refine Goes.of (fun _ => XS.icmpNo X.here hx rfl (hb hby d1_9) rfl (teq hpc9).2) ?_
      show Goes p e below _ T (mkF m 12 #[.val (.int n), .val (.int c1), .val (.int c2), .unset] [])
      refine Goes.of (fun _ => XS.iloadN X.here hx rfl (hb hby d1_12) rfl) ?_
      show Goes p e below _ T (mkF m 13 #[.val (.int n), .val (.int c1), .val (.int c2), .unset] [(.int c1)])
      refine goStatic 0 X hx hZ hown (hw _ (List.mem_of_getElem? (i := 75) rfl)) (hw _ (List.mem_of_getElem? (i := 76) rfl)) (hw _ (List.mem_of_getElem? (i := 7) rfl)) (hw _ (List.mem_of_getElem? (i := 77) rfl)) (by decide) (rm_valchar l Z a0 hw c1 cz h0 n0 O0 Sc hcz hc1) eT0 (g := (mkF m 13 #[.val (.int n), .val (.int c1), .val (.int c2), .unset] [(.int c1)])) rfl (by rw [hml]; rfl) [(.int c1)] [] (lenOf pd__C_Ljava_lang_String_ rfl) rfl rfl (by show 2 * 0 + _ ≤ _; exact Nat.le_of_eq rfl) (hb hby d1_13) (by decide) (by decide) (by decide) (by decide) ?_
      intro v2 T2 L2 X2 q2
      obtain ⟨vb2, rfl, Nq2, Kq2, S2⟩ := q2
      have N2 := Fr.app N0 Nq2
      have Kp := Kp.trans Kq2 all0
      have HC := HC.trans (CHr.keep Kq2 sf0 HC.1)
      have hk := Nat.le_trans hk Kq2.1
      have O0 := O0.keep Kq2 all0
      show Goes p e below _ T2 (mkF m 16 #[.val (.int n), .val (.int c1), .val (.int c2), .unset] [(.ref vb2)])
      exact retRefW X2 hS hk hZ hEL HC hx hret hlk rfl rfl (hb hby d1_16) (rfl : T2.heap = _) (by decide) (by decide) ⟨vb2, rfl, N2, Kp, Str.of S2 (by unfold strL; rw [if_neg hpc1, if_pos hpc9])⟩
    · refine Goes.of (fun _ => XS.icmpYes X.here hx rfl (pc0 := 9) (pc' := 17) rfl (hb hby d1_9) rfl (feq hpc9).2 (by decide) (by decide)) ?_
      show Goes p e below _ T (mkF m 17 #[.val (.int n), .val (.int c1), .val (.int c2), .unset] [])
      refine Goes.of (fun _ => XS.iconst X.here hx rfl (hb hby d1_17)) ?_
      show Goes p e below _ T (mkF m 18 #[.val (.int n), .val (.int c1), .val (.int c2), .unset] [(.int (2 : Int32))])
      refine goNewP 2 X hx hZ (hw _ (List.mem_of_getElem? (i := 4) rfl)) eT0 (g := (mkF m 18 #[.val (.int n), .val (.int c1), .val (.int c2), .unset] [(.int (2 : Int32))])) rfl (hb hby d1_18) rfl (by decide) (by decide) (by decide) (by decide) (by decide) (ad := "[C") (by first | rfl | decide) ?_
      intro T3 h3 b3 kA3 X3 eT3 E3 hb3 V3 A3
      have g_b3 : n0 ≤ b3 := Nat.le_trans (oldLe O0) hb3
      have sz_b3 : h0.size ≤ b3 := Nat.le_trans Kp.1 hb3
      have Kp := Kp.ext E3
      have hk := Nat.le_trans hk E3.1
      have HC := HC.trans (CHr.ext E3 HC.1)
      have O0 := O0.ext E3
      have V3 : Arv Z h3 b3 kA3 .char (2 : Int32) [(.int (0 : Int32)), (.int (0 : Int32))] (.int (0 : Int32)) := V3
      show Goes p e below _ T3 (mkF m 20 #[.val (.int n), .val (.int c1), .val (.int c2), .unset] [(.ref b3)])
      refine Goes.of (fun _ => XS.astoreN X3.here hx rfl (hb hby d1_20) rfl rfl (l' := #[.val (.int n), .val (.int c1), .val (.int c2), .val (.ref b3)]) rfl) ?_
      show Goes p e below _ T3 (mkF m 21 #[.val (.int n), .val (.int c1), .val (.int c2), .val (.ref b3)] [])
      refine Goes.of (fun _ => XS.aloadN X3.here hx rfl (hb hby d1_21) rfl rfl) ?_
      show Goes p e below _ T3 (mkF m 22 #[.val (.int n), .val (.int c1), .val (.int c2), .val (.ref b3)] [(.ref b3)])
      refine Goes.of (fun _ => XS.iconst X3.here hx rfl (hb hby d1_22)) ?_
      show Goes p e below _ T3 (mkF m 23 #[.val (.int n), .val (.int c1), .val (.int c2), .val (.ref b3)] [(.int (0 : Int32)), (.ref b3)])
      refine Goes.of (fun _ => XS.iloadN X3.here hx rfl (hb hby d1_23) rfl) ?_
      show Goes p e below _ T3 (mkF m 24 #[.val (.int n), .val (.int c1), .val (.int c2), .val (.ref b3)] [(.int c1), (.int (0 : Int32)), (.ref b3)])
      have Sf_b3 : Safe Z EL _ h3 b3 := Safe.arv hZ.alike V3 (by decide)
      refine goStC 0 X3 hx hZ eT3 V3 (by decide) (by decide) rfl (Nat.lt_of_lt_of_le (Nat.lt_succ_self _) (Nat.le_of_ble_eq_true rfl)) (g := (mkF m 24 #[.val (.int n), .val (.int c1), .val (.int c2), .val (.ref b3)] [(.int c1), (.int (0 : Int32)), (.ref b3)])) rfl rfl (hb hby d1_24) ?_
      intro T4 h4 X4 eT4 W4 V3
      have N4 := Fr.snoc X4 N0 g_b3
      have A3 := A3.wr W4
      have Kp := Kp.wr W4 (Or.inr sz_b3)
      have HC := HC.trans (CHr.wr W4 Sf_b3 HC.1)
      have hk := Nat.le_trans hk (Nat.le_of_eq (Wr.size W4).symm)
      have O0 := O0.wr W4 g_b3
      have V3 : Arv Z h4 b3 kA3 .char (2 : Int32) [(.int (nar .char c1)), (.int (0 : Int32))] (.int (0 : Int32)) := V3
      show Goes p e below _ T4 (mkF m 25 #[.val (.int n), .val (.int c1), .val (.int c2), .val (.ref b3)] [])
      refine Goes.of (fun _ => XS.aloadN X4.here hx rfl (hb hby d1_25) rfl rfl) ?_
      show Goes p e below _ T4 (mkF m 26 #[.val (.int n), .val (.int c1), .val (.int c2), .val (.ref b3)] [(.ref b3)])
      refine Goes.of (fun _ => XS.iconst X4.here hx rfl (hb hby d1_26)) ?_
      show Goes p e below _ T4 (mkF m 27 #[.val (.int n), .val (.int c1), .val (.int c2), .val (.ref b3)] [(.int (1 : Int32)), (.ref b3)])
      refine Goes.of (fun _ => XS.iloadN X4.here hx rfl (hb hby d1_27) rfl) ?_
      show Goes p e below _ T4 (mkF m 28 #[.val (.int n), .val (.int c1), .val (.int c2), .val (.ref b3)] [(.int c2), (.int (1 : Int32)), (.ref b3)])
      have Sf_b3 : Safe Z EL _ h4 b3 := Safe.arv hZ.alike V3 (by decide)
      refine goStC 1 X4 hx hZ eT4 V3 (by decide) (by decide) rfl (Nat.lt_of_lt_of_le (Nat.lt_succ_self _) (Nat.le_of_ble_eq_true rfl)) (g := (mkF m 28 #[.val (.int n), .val (.int c1), .val (.int c2), .val (.ref b3)] [(.int c2), (.int (1 : Int32)), (.ref b3)])) rfl rfl (hb hby d1_28) ?_
      intro T5 h5 X5 eT5 W5 V3
      have N5 := Fr.snoc X5 N4 g_b3
      have A3 := A3.wr W5
      have Kp := Kp.wr W5 (Or.inr sz_b3)
      have HC := HC.trans (CHr.wr W5 Sf_b3 HC.1)
      have hk := Nat.le_trans hk (Nat.le_of_eq (Wr.size W5).symm)
      have O0 := O0.wr W5 g_b3
      have V3 : Arv Z h5 b3 kA3 .char (2 : Int32) [(.int (nar .char c1)), (.int (nar .char c2))] (.int (0 : Int32)) := V3
      show Goes p e below _ T5 (mkF m 29 #[.val (.int n), .val (.int c1), .val (.int c2), .val (.ref b3)] [])
      refine goNew X5 hx hZ hown (hw _ (List.mem_of_getElem? (i := 5) rfl)) (hw _ (List.mem_of_getElem? (i := 6) rfl)) (hw _ (List.mem_of_getElem? (i := 7) rfl)) eT5 (g := (mkF m 29 #[.val (.int n), .val (.int c1), .val (.int c2), .val (.ref b3)] [])) rfl (hb hby d1_29) (by decide) (by decide) ?_
      intro T6 h6 b6 X6 eT6 E6 hb6 A6 D6
      have g_b6 : n0 ≤ b6 := Nat.le_trans (oldLe O0) hb6
      have sz_b6 : h0.size ≤ b6 := Nat.le_trans Kp.1 hb6
      have ne_b3_b6 : b3 ≠ b6 := Nat.ne_of_lt (Nat.lt_of_lt_of_le V3.lt hb6)
      have V3 := V3.ext E6
      have A3 := A3.ext E6
      have Kp := Kp.ext E6
      have hk := Nat.le_trans hk E6.1
      have HC := HC.trans (CHr.ext E6 HC.1)
      have O0 := O0.ext E6
      have F6_coder : Fld Z h6 b6 "java/lang/String" "coder" "B" (.int (0 : Int32)) := D6 (Or.inr (hw _ (List.mem_of_getElem? (i := 31) rfl))) (ty := .byte) (by decide)
      have F6_value : Fld Z h6 b6 "java/lang/String" "value" "[B" .null := D6 (Or.inr (hw _ (List.mem_of_getElem? (i := 33) rfl))) (ty := (.array .byte)) (by decide)
      show Goes p e below _ T6 (mkF m 32 #[.val (.int n), .val (.int c1), .val (.int c2), .val (.ref b3)] [(.ref b6)])
      refine Goes.of (fun _ => XS.dup X6.here hx rfl (hb hby d1_32) rfl rfl) ?_
      show Goes p e below _ T6 (mkF m 33 #[.val (.int n), .val (.int c1), .val (.int c2), .val (.ref b3)] [(.ref b6), (.ref b6)])
      refine Goes.of (fun _ => XS.aloadN X6.here hx rfl (hb hby d1_33) rfl rfl) ?_
      show Goes p e below _ T6 (mkF m 34 #[.val (.int n), .val (.int c1), .val (.int c2), .val (.ref b3)] [(.ref b3), (.ref b6), (.ref b6)])
      have Sf_b6 : Safe Z EL _ h6 b6 := safeNull hZ.alike A6 F6_value
      refine goNewS (cs := [(nar .char c1), (nar .char c2)]) 2 1 X6 hx hZ hown (hwsOf hw) (hw _ (List.mem_of_getElem? (i := 8) rfl)) (hw _ (List.mem_of_getElem? (i := 9) rfl)) (hw _ (List.mem_of_getElem? (i := 10) rfl)) (hw _ (List.mem_of_getElem? (i := 6) rfl)) g_b6 (oldLe O0) A6 F6_value F6_coder V3 rfl (Sc.ext O0.2) hcz rfl rfl (by decide) (by decide) (by intro c hc; simp only [List.mem_cons, List.not_mem_nil, or_false] at hc; rcases hc with rfl | rfl; (· rw [narC hc1.1 (le255 hc1.2)]; exact hc1); (· rw [narC hc2.1 (le255 hc2.2)]; exact hc2)) eT6 (g := (mkF m 34 #[.val (.int n), .val (.int c1), .val (.int c2), .val (.ref b3)] [(.ref b3), (.ref b6), (.ref b6)])) rfl (by rw [hml]; rfl) [(.ref b6)] (lenOf pd___C_V rfl) rfl (by show 2 * 0 + _ ≤ _; exact Nat.le_of_eq rfl) (hb hby d1_34) (by decide) (by decide) (by decide) (by decide) ?_
      intro T7 L7 X7 Nq7 Kq7 S7
      have S7 := S7.of (show [(nar .char c1), (nar .char c2)] = [c1, c2] by (try rw [narC hc1.1 (le255 hc1.2)]); (try rw [narC hc2.1 (le255 hc2.2)]))
      have N7 := Fr.app N5 Nq7
      have V3 := V3.keep Kq7 (ninS ne_b3_b6 nin0)
      have A3 := A3.keep Kq7
      have Kp := Kp.trans Kq7 (allS (Or.inr sz_b6) all0)
      have HC := HC.trans (CHr.keep Kq7 (sfS Sf_b6 sf0) HC.1)
      have hk := Nat.le_trans hk Kq7.1
      have O0 := O0.keep Kq7 (allS g_b6 all0)
      show Goes p e below _ T7 (mkF m 37 #[.val (.int n), .val (.int c1), .val (.int c2), .val (.ref b3)] [(.ref b6)])
      exact retRefW X7 hS hk hZ hEL HC hx hret hlk rfl rfl (hb hby d1_37) (rfl : T7.heap = _) (by decide) (by decide) ⟨b6, rfl, N7, Kp, Str.of S7 (by unfold strL; rw [if_neg hpc1, if_neg hpc9])⟩
set_option maxRecDepth 65536 in
set_option maxHeartbeats 40000000 in
theorem rm_record (l : Launch) (Z : State) (a0 : Array Value) (hw : ∀ d ∈ tables_1, d.before a0 Z = true) (a : Addr) (h0 : Heap) (n0 : Nat) (O0 : Old Z n0 h0)  :
    Rm l (⟨"java/lang/Record", "<init>", "()V"⟩ : MethodName) jdk_30_method_1_code 1 none ({ frames := 1, cells := 0, slots := 0, locals := 12 } : Room) [] Z #[(.ref a)] h0 (fun v h L => v = none ∧ Fr n0 L ∧ h = h0) := by
  refine Rm.of (plainFor_of_name pn_java_lang_Record) ?_
  intro p e s m below meth cod T X hx hZ hby hml hown hnm hret hlk eT0
  have hown : s.vm.findClass "java/lang/Record" = some m.cls := hown
  have hnm : meth.name = "<init>" := hnm
  have N0 := Fr.nil n0
  refine Goes.cast (ef_9 m a) ?_
  show Goes p e below _ T (mkF m 0 #[.val (.ref a)] [])
  refine Goes.of (fun _ => XS.aloadN X.here hx rfl (hb hby d9_0) rfl rfl) ?_
  show Goes p e below _ T (mkF m 1 #[.val (.ref a)] [(.ref a)])
  refine goInitO 0 X hx hZ hown (hw _ (List.mem_of_getElem? (i := 48) rfl)) (hw _ (List.mem_of_getElem? (i := 16) rfl)) (hw _ (List.mem_of_getElem? (i := 17) rfl)) eT0 (g := (mkF m 1 #[.val (.ref a)] [(.ref a)])) rfl (by rw [hml]; rfl) rfl (hb hby d9_1) (by decide) (by show 2 * 0 + _ ≤ _; exact Nat.le_of_eq rfl) (by decide) ?_
  intro T1 X1 eT1
  show Goes p e below _ T1 (mkF m 4 #[.val (.ref a)] [])
  exact retVoid X1 hx hret hlk (hb hby d9_4) eT1 (by decide) (by decide) ⟨rfl, N0, rfl⟩
set_option maxRecDepth 65536 in
set_option maxHeartbeats 40000000 in
theorem rm_init (l : Launch) (Z : State) (a0 : Array Value) (hw : ∀ d ∈ tables_1, d.before a0 Z = true) (a u g : Addr) (h0 : Heap) (n0 : Nat) (O0 : Old Z n0 h0) (g_a : n0 ≤ a) (Ex : Exa Z h0 a "com/example/claimgate/claimgate/app/SectionAccess$Grantee") (F0 : Fld Z h0 a "com/example/claimgate/claimgate/app/SectionAccess$Grantee" "user" "Ljava/lang/String;" .null) (F1 : Fld Z h0 a "com/example/claimgate/claimgate/app/SectionAccess$Grantee" "group" "Ljava/lang/String;" .null) :
    Rm l (⟨"com/example/claimgate/claimgate/app/SectionAccess$Grantee", "<init>", "(Ljava/lang/String;Ljava/lang/String;)V"⟩ : MethodName) prog_26_method_1_code 3 none ({ frames := 2, cells := 0, slots := 0, locals := 24 } : Room) [] Z #[(.ref a), (.ref u), (.ref g)] h0 (fun v h L => v = none ∧ Fr n0 L ∧ Keep h0 h [a] ∧ Fld Z h a "com/example/claimgate/claimgate/app/SectionAccess$Grantee" "user" "Ljava/lang/String;" (.ref u) ∧ Fld Z h a "com/example/claimgate/claimgate/app/SectionAccess$Grantee" "group" "Ljava/lang/String;" (.ref g)) := by
  refine Rm.of (plainFor_of_name pn_com_example_claimgate_claimgate_app_SectionAccess_Grantee) ?_
  intro p e s m below meth cod T X hx hZ hby hml hown hnm hret hlk eT0
  have hown : s.vm.findClass "com/example/claimgate/claimgate/app/SectionAccess$Grantee" = some m.cls := hown
  have hnm : meth.name = "<init>" := hnm
  have N0 := Fr.nil n0
  have Kp := Keep.refl h0 [a]
  refine Goes.cast (ef_8 m a u g) ?_
  show Goes p e below _ T (mkF m 0 #[.val (.ref a), .val (.ref u), .val (.ref g)] [])
  refine Goes.of (fun _ => XS.aloadN X.here hx rfl (hb hby d8_0) rfl rfl) ?_
  show Goes p e below _ T (mkF m 1 #[.val (.ref a), .val (.ref u), .val (.ref g)] [(.ref a)])
  refine goSpecial 0 X hx hZ rfl hown (hw _ (List.mem_of_getElem? (i := 43) rfl)) (hw _ (List.mem_of_getElem? (i := 44) rfl)) (hw _ (List.mem_of_getElem? (i := 46) rfl)) (hw _ (List.mem_of_getElem? (i := 47) rfl)) (by decide) (rm_record l Z a0 hw a h0 n0 O0) eT0 (g := (mkF m 1 #[.val (.ref a), .val (.ref u), .val (.ref g)] [(.ref a)])) rfl (by rw [hml]; rfl) a [] [] (lenOf pd___V rfl) rfl rfl (by show 2 * 0 + _ ≤ _; exact Nat.le_of_eq rfl) (hb hby d8_1) (by decide) (by decide) (by decide) (by decide) ?_
  intro v1 T1 L1 X1 q1
  obtain ⟨rfl, Nq1, eT1⟩ := q1
  have N1 := Fr.app N0 Nq1
  show Goes p e below _ T1 (mkF m 4 #[.val (.ref a), .val (.ref u), .val (.ref g)] [])
  refine Goes.of (fun _ => XS.aloadN X1.here hx rfl (hb hby d8_4) rfl rfl) ?_
  show Goes p e below _ T1 (mkF m 5 #[.val (.ref a), .val (.ref u), .val (.ref g)] [(.ref a)])
  refine Goes.of (fun _ => XS.aloadN X1.here hx rfl (hb hby d8_5) rfl rfl) ?_
  show Goes p e below _ T1 (mkF m 6 #[.val (.ref a), .val (.ref u), .val (.ref g)] [(.ref u), (.ref a)])
  refine goPut (ty := (.object "java/lang/String")) X1 hx hZ hown (host := "") (Or.inl (hw _ (List.mem_of_getElem? (i := 49) rfl))) Via.refl eT1 F0 Ex (Or.inr ⟨(hw _ (List.mem_of_getElem? (i := 50) rfl)), rfl, hnm⟩) (hw _ (List.mem_of_getElem? (i := 38) rfl)) (by decide) rfl rfl (g := (mkF m 6 #[.val (.ref a), .val (.ref u), .val (.ref g)] [(.ref u), (.ref a)])) rfl rfl (hb hby d8_6) ?_
  intro T2 h2 X2 eT2 W2
  have F0 := Fld.same W2 F0
  have N2 := Fr.snoc X2 N1 g_a
  have Ex := Ex.wr W2
  have F1 := F1.other W2 (Or.inr (slot_ne (Or.inr (hw _ (List.mem_of_getElem? (i := 52) rfl))) (Or.inr (hw _ (List.mem_of_getElem? (i := 50) rfl))) (by decide) (t := (.object "java/lang/String")) (t' := (.object "java/lang/String")) (by decide) (by decide)))
  have Kp := Kp.wr W2 (Or.inl (List.mem_of_getElem? (i := 0) rfl))
  have O0 := O0.wr W2 g_a
  show Goes p e below _ T2 (mkF m 9 #[.val (.ref a), .val (.ref u), .val (.ref g)] [])
  refine Goes.of (fun _ => XS.aloadN X2.here hx rfl (hb hby d8_9) rfl rfl) ?_
  show Goes p e below _ T2 (mkF m 10 #[.val (.ref a), .val (.ref u), .val (.ref g)] [(.ref a)])
  refine Goes.of (fun _ => XS.aloadN X2.here hx rfl (hb hby d8_10) rfl rfl) ?_
  show Goes p e below _ T2 (mkF m 11 #[.val (.ref a), .val (.ref u), .val (.ref g)] [(.ref g), (.ref a)])
  refine goPut (ty := (.object "java/lang/String")) X2 hx hZ hown (host := "") (Or.inl (hw _ (List.mem_of_getElem? (i := 51) rfl))) Via.refl eT2 F1 Ex (Or.inr ⟨(hw _ (List.mem_of_getElem? (i := 52) rfl)), rfl, hnm⟩) (hw _ (List.mem_of_getElem? (i := 38) rfl)) (by decide) rfl rfl (g := (mkF m 11 #[.val (.ref a), .val (.ref u), .val (.ref g)] [(.ref g), (.ref a)])) rfl rfl (hb hby d8_11) ?_
  intro T3 h3 X3 eT3 W3
  have F1 := Fld.same W3 F1
  have N3 := Fr.snoc X3 N2 g_a
  have Ex := Ex.wr W3
  have F0 := F0.other W3 (Or.inr (slot_ne (Or.inr (hw _ (List.mem_of_getElem? (i := 50) rfl))) (Or.inr (hw _ (List.mem_of_getElem? (i := 52) rfl))) (by decide) (t := (.object "java/lang/String")) (t' := (.object "java/lang/String")) (by decide) (by decide)))
  have Kp := Kp.wr W3 (Or.inl (List.mem_of_getElem? (i := 0) rfl))
  have O0 := O0.wr W3 g_a
  show Goes p e below _ T3 (mkF m 14 #[.val (.ref a), .val (.ref u), .val (.ref g)] [])
  exact retVoid X3 hx hret hlk (hb hby d8_14) eT3 (by decide) (by decide) ⟨rfl, N3, Kp, F0, F1⟩
set_option maxRecDepth 65536 in
set_option maxHeartbeats 40000000 in
theorem rm_same (l : Launch) (Z : State) (a0 : Array Value) (hw : ∀ d ∈ tables_1, d.before a0 Z = true) (n1 a0' a1 n2 b0 b1 : Int32) (h0 : Heap) (n0 : Nat) (O0 : Old Z n0 h0)  :
    Rm l (⟨"com/example/claimgate/claimgate/app/GranteeEqualsPinLaw", "same", "(ICCICC)Z"⟩ : MethodName) method_3_code 6 (some .boolean) ({ frames := 0, cells := 0, slots := 0, locals := 0 } : Room) [] Z #[(.int n1), (.int a0'), (.int a1), (.int n2), (.int b0), (.int b1)] h0 (fun v h L => v = some (.int (if n1 = n2 then (if n1 < (1 : Int32) then (if n1 < (2 : Int32) then (1 : Int32) else (if a1 = b1 then (1 : Int32) else (0 : Int32))) else (if a0' = b0 then (if n1 < (2 : Int32) then (1 : Int32) else (if a1 = b1 then (1 : Int32) else (0 : Int32))) else (0 : Int32))) else (0 : Int32))) ∧ Fr n0 L ∧ h = h0) := by
  refine Rm.of (plainFor_of_name pn_com_example_claimgate_claimgate_app_GranteeEqualsPinLaw) ?_
  intro p e s m below meth cod T X hx hZ hby hml hown hnm hret hlk eT0
  have hown : s.vm.findClass "com/example/claimgate/claimgate/app/GranteeEqualsPinLaw" = some m.cls := hown
  have hnm : meth.name = "same" := hnm
  have N0 := Fr.nil n0
  refine Goes.cast (ef_10 m n1 a0' a1 n2 b0 b1) ?_
  show Goes p e below _ T (mkF m 0 #[.val (.int n1), .val (.int a0'), .val (.int a1), .val (.int n2), .val (.int b0), .val (.int b1)] [])
  refine Goes.of (fun _ => XS.iloadN X.here hx rfl (hb hby d10_0) rfl) ?_
  show Goes p e below _ T (mkF m 1 #[.val (.int n1), .val (.int a0'), .val (.int a1), .val (.int n2), .val (.int b0), .val (.int b1)] [(.int n1)])
  refine Goes.of (fun _ => XS.iloadN X.here hx rfl (hb hby d10_1) rfl) ?_
  show Goes p e below _ T (mkF m 2 #[.val (.int n1), .val (.int a0'), .val (.int a1), .val (.int n2), .val (.int b0), .val (.int b1)] [(.int n2), (.int n1)])
  by_cases hpc2 : n1 = n2
  · refine Goes.of (fun _ => XS.icmpNo X.here hx rfl (hb hby d10_2) rfl (teq hpc2).2) ?_
    show Goes p e below _ T (mkF m 5 #[.val (.int n1), .val (.int a0'), .val (.int a1), .val (.int n2), .val (.int b0), .val (.int b1)] [])
    refine Goes.of (fun _ => XS.iloadN X.here hx rfl (hb hby d10_5) rfl) ?_
    show Goes p e below _ T (mkF m 6 #[.val (.int n1), .val (.int a0'), .val (.int a1), .val (.int n2), .val (.int b0), .val (.int b1)] [(.int n1)])
    refine Goes.of (fun _ => XS.iconst X.here hx rfl (hb hby d10_6)) ?_
    show Goes p e below _ T (mkF m 7 #[.val (.int n1), .val (.int a0'), .val (.int a1), .val (.int n2), .val (.int b0), .val (.int b1)] [(.int (1 : Int32)), (.int n1)])
    by_cases hpc7 : n1 < (1 : Int32)
    · refine Goes.of (fun _ => XS.icmpYes X.here hx rfl (pc0 := 7) (pc' := 16) rfl (hb hby d10_7) rfl (tlt hpc7).1 (by decide) (by decide)) ?_
      show Goes p e below _ T (mkF m 16 #[.val (.int n1), .val (.int a0'), .val (.int a1), .val (.int n2), .val (.int b0), .val (.int b1)] [])
      refine Goes.of (fun _ => XS.iloadN X.here hx rfl (hb hby d10_16) rfl) ?_
      show Goes p e below _ T (mkF m 17 #[.val (.int n1), .val (.int a0'), .val (.int a1), .val (.int n2), .val (.int b0), .val (.int b1)] [(.int n1)])
      refine Goes.of (fun _ => XS.iconst X.here hx rfl (hb hby d10_17)) ?_
      show Goes p e below _ T (mkF m 18 #[.val (.int n1), .val (.int a0'), .val (.int a1), .val (.int n2), .val (.int b0), .val (.int b1)] [(.int (2 : Int32)), (.int n1)])
      by_cases hpc18 : n1 < (2 : Int32)
      · refine Goes.of (fun _ => XS.icmpYes X.here hx rfl (pc0 := 18) (pc' := 27) rfl (hb hby d10_18) rfl (tlt hpc18).1 (by decide) (by decide)) ?_
        show Goes p e below _ T (mkF m 27 #[.val (.int n1), .val (.int a0'), .val (.int a1), .val (.int n2), .val (.int b0), .val (.int b1)] [])
        refine Goes.of (fun _ => XS.iconst X.here hx rfl (hb hby d10_27)) ?_
        show Goes p e below _ T (mkF m 28 #[.val (.int n1), .val (.int a0'), .val (.int a1), .val (.int n2), .val (.int b0), .val (.int b1)] [(.int (1 : Int32))])
        refine Goes.of (fun _ => XS.goto X.here hx rfl (pc0 := 28) (pc' := 32) rfl (hb hby d10_28) (by decide) (by decide)) ?_
        show Goes p e below _ T (mkF m 32 #[.val (.int n1), .val (.int a0'), .val (.int a1), .val (.int n2), .val (.int b0), .val (.int b1)] [(.int (1 : Int32))])
        exact retZ (t := .boolean) X hx hret hlk (by simp) (hb hby d10_32) eT0 (by decide) (by decide) ⟨by rw [if_pos hpc2, if_pos hpc7, if_pos hpc18]; try first | rfl | (split <;> rfl), N0, rfl⟩
      · refine Goes.of (fun _ => XS.icmpNo X.here hx rfl (hb hby d10_18) rfl (flt hpc18).1) ?_
        show Goes p e below _ T (mkF m 21 #[.val (.int n1), .val (.int a0'), .val (.int a1), .val (.int n2), .val (.int b0), .val (.int b1)] [])
        refine Goes.of (fun _ => XS.iloadN X.here hx rfl (hb hby d10_21) rfl) ?_
        show Goes p e below _ T (mkF m 22 #[.val (.int n1), .val (.int a0'), .val (.int a1), .val (.int n2), .val (.int b0), .val (.int b1)] [(.int a1)])
        refine Goes.of (fun _ => XS.iload X.here hx rfl (hb hby d10_22) rfl) ?_
        show Goes p e below _ T (mkF m 24 #[.val (.int n1), .val (.int a0'), .val (.int a1), .val (.int n2), .val (.int b0), .val (.int b1)] [(.int b1), (.int a1)])
        by_cases hpc24 : a1 = b1
        · refine Goes.of (fun _ => XS.icmpNo X.here hx rfl (hb hby d10_24) rfl (teq hpc24).2) ?_
          show Goes p e below _ T (mkF m 27 #[.val (.int n1), .val (.int a0'), .val (.int a1), .val (.int n2), .val (.int b0), .val (.int b1)] [])
          refine Goes.of (fun _ => XS.iconst X.here hx rfl (hb hby d10_27)) ?_
          show Goes p e below _ T (mkF m 28 #[.val (.int n1), .val (.int a0'), .val (.int a1), .val (.int n2), .val (.int b0), .val (.int b1)] [(.int (1 : Int32))])
          refine Goes.of (fun _ => XS.goto X.here hx rfl (pc0 := 28) (pc' := 32) rfl (hb hby d10_28) (by decide) (by decide)) ?_
          show Goes p e below _ T (mkF m 32 #[.val (.int n1), .val (.int a0'), .val (.int a1), .val (.int n2), .val (.int b0), .val (.int b1)] [(.int (1 : Int32))])
          exact retZ (t := .boolean) X hx hret hlk (by simp) (hb hby d10_32) eT0 (by decide) (by decide) ⟨by rw [if_pos hpc2, if_pos hpc7, if_neg hpc18, if_pos hpc24]; try first | rfl | (split <;> rfl), N0, rfl⟩
        · refine Goes.of (fun _ => XS.icmpYes X.here hx rfl (pc0 := 24) (pc' := 31) rfl (hb hby d10_24) rfl (feq hpc24).2 (by decide) (by decide)) ?_
          show Goes p e below _ T (mkF m 31 #[.val (.int n1), .val (.int a0'), .val (.int a1), .val (.int n2), .val (.int b0), .val (.int b1)] [])
          refine Goes.of (fun _ => XS.iconst X.here hx rfl (hb hby d10_31)) ?_
          show Goes p e below _ T (mkF m 32 #[.val (.int n1), .val (.int a0'), .val (.int a1), .val (.int n2), .val (.int b0), .val (.int b1)] [(.int (0 : Int32))])
          exact retZ (t := .boolean) X hx hret hlk (by simp) (hb hby d10_32) eT0 (by decide) (by decide) ⟨by rw [if_pos hpc2, if_pos hpc7, if_neg hpc18, if_neg hpc24]; try first | rfl | (split <;> rfl), N0, rfl⟩
    · refine Goes.of (fun _ => XS.icmpNo X.here hx rfl (hb hby d10_7) rfl (flt hpc7).1) ?_
      show Goes p e below _ T (mkF m 10 #[.val (.int n1), .val (.int a0'), .val (.int a1), .val (.int n2), .val (.int b0), .val (.int b1)] [])
      refine Goes.of (fun _ => XS.iloadN X.here hx rfl (hb hby d10_10) rfl) ?_
      show Goes p e below _ T (mkF m 11 #[.val (.int n1), .val (.int a0'), .val (.int a1), .val (.int n2), .val (.int b0), .val (.int b1)] [(.int a0')])
      refine Goes.of (fun _ => XS.iload X.here hx rfl (hb hby d10_11) rfl) ?_
      show Goes p e below _ T (mkF m 13 #[.val (.int n1), .val (.int a0'), .val (.int a1), .val (.int n2), .val (.int b0), .val (.int b1)] [(.int b0), (.int a0')])
      by_cases hpc13 : a0' = b0
      · refine Goes.of (fun _ => XS.icmpNo X.here hx rfl (hb hby d10_13) rfl (teq hpc13).2) ?_
        show Goes p e below _ T (mkF m 16 #[.val (.int n1), .val (.int a0'), .val (.int a1), .val (.int n2), .val (.int b0), .val (.int b1)] [])
        refine Goes.of (fun _ => XS.iloadN X.here hx rfl (hb hby d10_16) rfl) ?_
        show Goes p e below _ T (mkF m 17 #[.val (.int n1), .val (.int a0'), .val (.int a1), .val (.int n2), .val (.int b0), .val (.int b1)] [(.int n1)])
        refine Goes.of (fun _ => XS.iconst X.here hx rfl (hb hby d10_17)) ?_
        show Goes p e below _ T (mkF m 18 #[.val (.int n1), .val (.int a0'), .val (.int a1), .val (.int n2), .val (.int b0), .val (.int b1)] [(.int (2 : Int32)), (.int n1)])
        by_cases hpc18 : n1 < (2 : Int32)
        · refine Goes.of (fun _ => XS.icmpYes X.here hx rfl (pc0 := 18) (pc' := 27) rfl (hb hby d10_18) rfl (tlt hpc18).1 (by decide) (by decide)) ?_
          show Goes p e below _ T (mkF m 27 #[.val (.int n1), .val (.int a0'), .val (.int a1), .val (.int n2), .val (.int b0), .val (.int b1)] [])
          refine Goes.of (fun _ => XS.iconst X.here hx rfl (hb hby d10_27)) ?_
          show Goes p e below _ T (mkF m 28 #[.val (.int n1), .val (.int a0'), .val (.int a1), .val (.int n2), .val (.int b0), .val (.int b1)] [(.int (1 : Int32))])
          refine Goes.of (fun _ => XS.goto X.here hx rfl (pc0 := 28) (pc' := 32) rfl (hb hby d10_28) (by decide) (by decide)) ?_
          show Goes p e below _ T (mkF m 32 #[.val (.int n1), .val (.int a0'), .val (.int a1), .val (.int n2), .val (.int b0), .val (.int b1)] [(.int (1 : Int32))])
          exact retZ (t := .boolean) X hx hret hlk (by simp) (hb hby d10_32) eT0 (by decide) (by decide) ⟨by rw [if_pos hpc2, if_neg hpc7, if_pos hpc13, if_pos hpc18]; try first | rfl | (split <;> rfl), N0, rfl⟩
        · refine Goes.of (fun _ => XS.icmpNo X.here hx rfl (hb hby d10_18) rfl (flt hpc18).1) ?_
          show Goes p e below _ T (mkF m 21 #[.val (.int n1), .val (.int a0'), .val (.int a1), .val (.int n2), .val (.int b0), .val (.int b1)] [])
          refine Goes.of (fun _ => XS.iloadN X.here hx rfl (hb hby d10_21) rfl) ?_
          show Goes p e below _ T (mkF m 22 #[.val (.int n1), .val (.int a0'), .val (.int a1), .val (.int n2), .val (.int b0), .val (.int b1)] [(.int a1)])
          refine Goes.of (fun _ => XS.iload X.here hx rfl (hb hby d10_22) rfl) ?_
          show Goes p e below _ T (mkF m 24 #[.val (.int n1), .val (.int a0'), .val (.int a1), .val (.int n2), .val (.int b0), .val (.int b1)] [(.int b1), (.int a1)])
          by_cases hpc24 : a1 = b1
          · refine Goes.of (fun _ => XS.icmpNo X.here hx rfl (hb hby d10_24) rfl (teq hpc24).2) ?_
            show Goes p e below _ T (mkF m 27 #[.val (.int n1), .val (.int a0'), .val (.int a1), .val (.int n2), .val (.int b0), .val (.int b1)] [])
            refine Goes.of (fun _ => XS.iconst X.here hx rfl (hb hby d10_27)) ?_
            show Goes p e below _ T (mkF m 28 #[.val (.int n1), .val (.int a0'), .val (.int a1), .val (.int n2), .val (.int b0), .val (.int b1)] [(.int (1 : Int32))])
            refine Goes.of (fun _ => XS.goto X.here hx rfl (pc0 := 28) (pc' := 32) rfl (hb hby d10_28) (by decide) (by decide)) ?_
            show Goes p e below _ T (mkF m 32 #[.val (.int n1), .val (.int a0'), .val (.int a1), .val (.int n2), .val (.int b0), .val (.int b1)] [(.int (1 : Int32))])
            exact retZ (t := .boolean) X hx hret hlk (by simp) (hb hby d10_32) eT0 (by decide) (by decide) ⟨by rw [if_pos hpc2, if_neg hpc7, if_pos hpc13, if_neg hpc18, if_pos hpc24]; try first | rfl | (split <;> rfl), N0, rfl⟩
          · refine Goes.of (fun _ => XS.icmpYes X.here hx rfl (pc0 := 24) (pc' := 31) rfl (hb hby d10_24) rfl (feq hpc24).2 (by decide) (by decide)) ?_
            show Goes p e below _ T (mkF m 31 #[.val (.int n1), .val (.int a0'), .val (.int a1), .val (.int n2), .val (.int b0), .val (.int b1)] [])
            refine Goes.of (fun _ => XS.iconst X.here hx rfl (hb hby d10_31)) ?_
            show Goes p e below _ T (mkF m 32 #[.val (.int n1), .val (.int a0'), .val (.int a1), .val (.int n2), .val (.int b0), .val (.int b1)] [(.int (0 : Int32))])
            exact retZ (t := .boolean) X hx hret hlk (by simp) (hb hby d10_32) eT0 (by decide) (by decide) ⟨by rw [if_pos hpc2, if_neg hpc7, if_pos hpc13, if_neg hpc18, if_neg hpc24]; try first | rfl | (split <;> rfl), N0, rfl⟩
      · refine Goes.of (fun _ => XS.icmpYes X.here hx rfl (pc0 := 13) (pc' := 31) rfl (hb hby d10_13) rfl (feq hpc13).2 (by decide) (by decide)) ?_
        show Goes p e below _ T (mkF m 31 #[.val (.int n1), .val (.int a0'), .val (.int a1), .val (.int n2), .val (.int b0), .val (.int b1)] [])
        refine Goes.of (fun _ => XS.iconst X.here hx rfl (hb hby d10_31)) ?_
        show Goes p e below _ T (mkF m 32 #[.val (.int n1), .val (.int a0'), .val (.int a1), .val (.int n2), .val (.int b0), .val (.int b1)] [(.int (0 : Int32))])
        exact retZ (t := .boolean) X hx hret hlk (by simp) (hb hby d10_32) eT0 (by decide) (by decide) ⟨by rw [if_pos hpc2, if_neg hpc7, if_neg hpc13]; try first | rfl | (split <;> rfl), N0, rfl⟩
  · refine Goes.of (fun _ => XS.icmpYes X.here hx rfl (pc0 := 2) (pc' := 31) rfl (hb hby d10_2) rfl (feq hpc2).2 (by decide) (by decide)) ?_
    show Goes p e below _ T (mkF m 31 #[.val (.int n1), .val (.int a0'), .val (.int a1), .val (.int n2), .val (.int b0), .val (.int b1)] [])
    refine Goes.of (fun _ => XS.iconst X.here hx rfl (hb hby d10_31)) ?_
    show Goes p e below _ T (mkF m 32 #[.val (.int n1), .val (.int a0'), .val (.int a1), .val (.int n2), .val (.int b0), .val (.int b1)] [(.int (0 : Int32))])
    exact retZ (t := .boolean) X hx hret hlk (by simp) (hb hby d10_32) eT0 (by decide) (by decide) ⟨by rw [if_neg hpc2]; try first | rfl | (split <;> rfl), N0, rfl⟩
set_option maxRecDepth 65536 in
set_option maxHeartbeats 40000000 in
theorem rm_eq (l : Launch) (Z : State) (a0 : Array Value) (hw : ∀ d ∈ tables_1, d.before a0 Z = true) (a b u1 g1 u2 g2 : Addr) (cs1 ds1 cs2 ds2 : List Int32) (cz : Int32) (h0 : Heap) (n0 : Nat) (O0 : Old Z n0 h0) (Sc : Sta Z Z.heap "java/lang/String" "COMPACT_STRINGS" "Z" (.int cz)) (hcz : ¬ cz = 0) (Eb : Exa Z h0 b "com/example/claimgate/claimgate/app/SectionAccess$Grantee") (F0 : Fld Z h0 a "com/example/claimgate/claimgate/app/SectionAccess$Grantee" "user" "Ljava/lang/String;" (.ref u1)) (F1 : Fld Z h0 a "com/example/claimgate/claimgate/app/SectionAccess$Grantee" "group" "Ljava/lang/String;" (.ref g1)) (F2 : Fld Z h0 b "com/example/claimgate/claimgate/app/SectionAccess$Grantee" "user" "Ljava/lang/String;" (.ref u2)) (F3 : Fld Z h0 b "com/example/claimgate/claimgate/app/SectionAccess$Grantee" "group" "Ljava/lang/String;" (.ref g2)) (S_u1 : Str Z h0 u1 cs1) (S_g1 : Str Z h0 g1 ds1) (S_u2 : Str Z h0 u2 cs2) (S_g2 : Str Z h0 g2 ds2) :
    Rm l (⟨"com/example/claimgate/claimgate/app/SectionAccess$Grantee", "equals", "(Ljava/lang/Object;)Z"⟩ : MethodName) prog_26_method_2_code 3 (some .boolean) ({ frames := 2, cells := 0, slots := 0, locals := 28 } : Room) [] Z #[(.ref a), (.ref b)] h0 (fun v h L => v = some (.int (if (if cs1 = cs2 then (1 : Int32) else (0 : Int32)) = (0 : Int32) then (0 : Int32) else (if (if ds1 = ds2 then (1 : Int32) else (0 : Int32)) = (0 : Int32) then (0 : Int32) else (1 : Int32)))) ∧ Fr n0 L ∧ h = h0) := by
  refine Rm.of (plainFor_of_name pn_com_example_claimgate_claimgate_app_SectionAccess_Grantee) ?_
  intro p e s m below meth cod T X hx hZ hby hml hown hnm hret hlk eT0
  have hown : s.vm.findClass "com/example/claimgate/claimgate/app/SectionAccess$Grantee" = some m.cls := hown
  have hnm : meth.name = "equals" := hnm
  have N0 := Fr.nil n0
  refine Goes.cast (ef_11 m a b) ?_
  show Goes p e below _ T (mkF m 0 #[.val (.ref a), .val (.ref b), .unset] [])
  refine Goes.of (fun _ => XS.aloadN X.here hx rfl (hb hby d11_0) rfl rfl) ?_
  show Goes p e below _ T (mkF m 1 #[.val (.ref a), .val (.ref b), .unset] [(.ref b)])
  refine goInstY X hx hZ hown (hw _ (List.mem_of_getElem? (i := 61) rfl)) eT0 (Ins.self Eb) (g := (mkF m 1 #[.val (.ref a), .val (.ref b), .unset] [(.ref b)])) rfl rfl (hb hby d11_1) ?_
  intro T1 X1 eT1
  show Goes p e below _ T1 (mkF m 4 #[.val (.ref a), .val (.ref b), .unset] [(.int (1 : Int32))])
  refine Goes.of (fun _ => XS.ifNo X1.here hx rfl (hb hby d11_4) rfl ((if0 _ _).trans (feq (by decide)).1)) ?_
  show Goes p e below _ T1 (mkF m 7 #[.val (.ref a), .val (.ref b), .unset] [])
  refine Goes.of (fun _ => XS.aloadN X1.here hx rfl (hb hby d11_7) rfl rfl) ?_
  show Goes p e below _ T1 (mkF m 8 #[.val (.ref a), .val (.ref b), .unset] [(.ref b)])
  refine goCast X1 hx hZ hown (hw _ (List.mem_of_getElem? (i := 61) rfl)) eT1 (Ins.self Eb) (g := (mkF m 8 #[.val (.ref a), .val (.ref b), .unset] [(.ref b)])) rfl rfl (hb hby d11_8) ?_
  intro T2 X2 eT2
  show Goes p e below _ T2 (mkF m 11 #[.val (.ref a), .val (.ref b), .unset] [(.ref b)])
  refine Goes.of (fun _ => XS.astoreN X2.here hx rfl (hb hby d11_11) rfl rfl (l' := #[.val (.ref a), .val (.ref b), .val (.ref b)]) rfl) ?_
  show Goes p e below _ T2 (mkF m 12 #[.val (.ref a), .val (.ref b), .val (.ref b)] [])
  refine Goes.of (fun _ => XS.aloadN X2.here hx rfl (hb hby d11_12) rfl rfl) ?_
  show Goes p e below _ T2 (mkF m 13 #[.val (.ref a), .val (.ref b), .val (.ref b)] [(.ref a)])
  refine goGet X2 hx hZ hown (host := "") (Or.inl (hw _ (List.mem_of_getElem? (i := 49) rfl))) Via.refl eT2 F0 (g := (mkF m 13 #[.val (.ref a), .val (.ref b), .val (.ref b)] [(.ref a)])) rfl rfl (hb hby d11_13) ?_
  intro T3 X3 eT3
  show Goes p e below _ T3 (mkF m 16 #[.val (.ref a), .val (.ref b), .val (.ref b)] [(.ref u1)])
  refine Goes.of (fun _ => XS.aloadN X3.here hx rfl (hb hby d11_16) rfl rfl) ?_
  show Goes p e below _ T3 (mkF m 17 #[.val (.ref a), .val (.ref b), .val (.ref b)] [(.ref b), (.ref u1)])
  refine goGet X3 hx hZ hown (host := "") (Or.inl (hw _ (List.mem_of_getElem? (i := 49) rfl))) Via.refl eT3 F2 (g := (mkF m 17 #[.val (.ref a), .val (.ref b), .val (.ref b)] [(.ref b), (.ref u1)])) rfl rfl (hb hby d11_17) ?_
  intro T4 X4 eT4
  show Goes p e below _ T4 (mkF m 20 #[.val (.ref a), .val (.ref b), .val (.ref b)] [(.ref u2), (.ref u1)])
  refine goEqS 0 X4 hx hZ hown (heqOf hw) (hw _ (List.mem_of_getElem? (i := 63) rfl)) (hw _ (List.mem_of_getElem? (i := 64) rfl)) (hw _ (List.mem_of_getElem? (i := 66) rfl)) (hw _ (List.mem_of_getElem? (i := 65) rfl)) (hw _ (List.mem_of_getElem? (i := 6) rfl)) S_u1 S_u2 (Sc.ext O0.2) hcz eT4 (g := (mkF m 20 #[.val (.ref a), .val (.ref b), .val (.ref b)] [(.ref u2), (.ref u1)])) rfl (by rw [hml]; rfl) [] (lenOf pd__Ljava_lang_Object__Z rfl) rfl (by show 2 * 0 + _ ≤ _; exact Nat.le_of_eq rfl) (hb hby d11_20) (by decide) (by decide) (by decide) (by decide) ?_
  intro T5 X5 eT5
  show Goes p e below _ T5 (mkF m 23 #[.val (.ref a), .val (.ref b), .val (.ref b)] [(.int (if cs1 = cs2 then (1 : Int32) else (0 : Int32)))])
  by_cases hpc23 : (if cs1 = cs2 then (1 : Int32) else (0 : Int32)) = (0 : Int32)
  · refine Goes.of (fun _ => XS.ifYes X5.here hx rfl (pc0 := 23) (pc' := 44) rfl (hb hby d11_23) rfl ((if0 _ _).trans (teq hpc23).1) (by decide) (by decide)) ?_
    show Goes p e below _ T5 (mkF m 44 #[.val (.ref a), .val (.ref b), .val (.ref b)] [])
    refine Goes.of (fun _ => XS.iconst X5.here hx rfl (hb hby d11_44)) ?_
    show Goes p e below _ T5 (mkF m 45 #[.val (.ref a), .val (.ref b), .val (.ref b)] [(.int (0 : Int32))])
    exact retZ (t := .boolean) X5 hx hret hlk (by simp) (hb hby d11_45) eT5 (by decide) (by decide) ⟨by rw [if_pos hpc23]; try first | rfl | (split <;> rfl), N0, rfl⟩
  · refine Goes.of (fun _ => XS.ifNo X5.here hx rfl (hb hby d11_23) rfl ((if0 _ _).trans (feq hpc23).1)) ?_
    show Goes p e below _ T5 (mkF m 26 #[.val (.ref a), .val (.ref b), .val (.ref b)] [])
    refine Goes.of (fun _ => XS.aloadN X5.here hx rfl (hb hby d11_26) rfl rfl) ?_
    show Goes p e below _ T5 (mkF m 27 #[.val (.ref a), .val (.ref b), .val (.ref b)] [(.ref a)])
    refine goGet X5 hx hZ hown (host := "") (Or.inl (hw _ (List.mem_of_getElem? (i := 51) rfl))) Via.refl eT5 F1 (g := (mkF m 27 #[.val (.ref a), .val (.ref b), .val (.ref b)] [(.ref a)])) rfl rfl (hb hby d11_27) ?_
    intro T6 X6 eT6
    show Goes p e below _ T6 (mkF m 30 #[.val (.ref a), .val (.ref b), .val (.ref b)] [(.ref g1)])
    refine Goes.of (fun _ => XS.aloadN X6.here hx rfl (hb hby d11_30) rfl rfl) ?_
    show Goes p e below _ T6 (mkF m 31 #[.val (.ref a), .val (.ref b), .val (.ref b)] [(.ref b), (.ref g1)])
    refine goGet X6 hx hZ hown (host := "") (Or.inl (hw _ (List.mem_of_getElem? (i := 51) rfl))) Via.refl eT6 F3 (g := (mkF m 31 #[.val (.ref a), .val (.ref b), .val (.ref b)] [(.ref b), (.ref g1)])) rfl rfl (hb hby d11_31) ?_
    intro T7 X7 eT7
    show Goes p e below _ T7 (mkF m 34 #[.val (.ref a), .val (.ref b), .val (.ref b)] [(.ref g2), (.ref g1)])
    refine goEqS 0 X7 hx hZ hown (heqOf hw) (hw _ (List.mem_of_getElem? (i := 63) rfl)) (hw _ (List.mem_of_getElem? (i := 64) rfl)) (hw _ (List.mem_of_getElem? (i := 66) rfl)) (hw _ (List.mem_of_getElem? (i := 65) rfl)) (hw _ (List.mem_of_getElem? (i := 6) rfl)) S_g1 S_g2 (Sc.ext O0.2) hcz eT7 (g := (mkF m 34 #[.val (.ref a), .val (.ref b), .val (.ref b)] [(.ref g2), (.ref g1)])) rfl (by rw [hml]; rfl) [] (lenOf pd__Ljava_lang_Object__Z rfl) rfl (by show 2 * 0 + _ ≤ _; exact Nat.le_of_eq rfl) (hb hby d11_34) (by decide) (by decide) (by decide) (by decide) ?_
    intro T8 X8 eT8
    show Goes p e below _ T8 (mkF m 37 #[.val (.ref a), .val (.ref b), .val (.ref b)] [(.int (if ds1 = ds2 then (1 : Int32) else (0 : Int32)))])
    by_cases hpc37 : (if ds1 = ds2 then (1 : Int32) else (0 : Int32)) = (0 : Int32)
    · refine Goes.of (fun _ => XS.ifYes X8.here hx rfl (pc0 := 37) (pc' := 44) rfl (hb hby d11_37) rfl ((if0 _ _).trans (teq hpc37).1) (by decide) (by decide)) ?_
      show Goes p e below _ T8 (mkF m 44 #[.val (.ref a), .val (.ref b), .val (.ref b)] [])
      refine Goes.of (fun _ => XS.iconst X8.here hx rfl (hb hby d11_44)) ?_
      show Goes p e below _ T8 (mkF m 45 #[.val (.ref a), .val (.ref b), .val (.ref b)] [(.int (0 : Int32))])
      exact retZ (t := .boolean) X8 hx hret hlk (by simp) (hb hby d11_45) eT8 (by decide) (by decide) ⟨by rw [if_neg hpc23, if_pos hpc37]; try first | rfl | (split <;> rfl), N0, rfl⟩
    · refine Goes.of (fun _ => XS.ifNo X8.here hx rfl (hb hby d11_37) rfl ((if0 _ _).trans (feq hpc37).1)) ?_
      show Goes p e below _ T8 (mkF m 40 #[.val (.ref a), .val (.ref b), .val (.ref b)] [])
      refine Goes.of (fun _ => XS.iconst X8.here hx rfl (hb hby d11_40)) ?_
      show Goes p e below _ T8 (mkF m 41 #[.val (.ref a), .val (.ref b), .val (.ref b)] [(.int (1 : Int32))])
      refine Goes.of (fun _ => XS.goto X8.here hx rfl (pc0 := 41) (pc' := 45) rfl (hb hby d11_41) (by decide) (by decide)) ?_
      show Goes p e below _ T8 (mkF m 45 #[.val (.ref a), .val (.ref b), .val (.ref b)] [(.int (1 : Int32))])
      exact retZ (t := .boolean) X8 hx hret hlk (by simp) (hb hby d11_45) eT8 (by decide) (by decide) ⟨by rw [if_neg hpc23, if_neg hpc37]; try first | rfl | (split <;> rfl), N0, rfl⟩
set_option maxRecDepth 65536 in
set_option maxHeartbeats 40000000 in
theorem rm_eqnull (l : Launch) (Z : State) (a0 : Array Value) (hw : ∀ d ∈ tables_1, d.before a0 Z = true) (a : Addr) (h0 : Heap) (n0 : Nat) (O0 : Old Z n0 h0)  :
    Rm l (⟨"com/example/claimgate/claimgate/app/SectionAccess$Grantee", "equals", "(Ljava/lang/Object;)Z"⟩ : MethodName) prog_26_method_2_code 3 (some .boolean) ({ frames := 0, cells := 0, slots := 0, locals := 0 } : Room) [] Z #[(.ref a), .null] h0 (fun v h L => v = some (.int 0) ∧ Fr n0 L ∧ h = h0) := by
  refine Rm.of (plainFor_of_name pn_com_example_claimgate_claimgate_app_SectionAccess_Grantee) ?_
  intro p e s m below meth cod T X hx hZ hby hml hown hnm hret hlk eT0
  have hown : s.vm.findClass "com/example/claimgate/claimgate/app/SectionAccess$Grantee" = some m.cls := hown
  have hnm : meth.name = "equals" := hnm
  have N0 := Fr.nil n0
  refine Goes.cast (ef_11n1 m a) ?_
  show Goes p e below _ T (mkF m 0 #[.val (.ref a), .val .null, .unset] [])
  refine Goes.of (fun _ => XS.aloadN X.here hx rfl (hb hby d11_0) rfl rfl) ?_
  show Goes p e below _ T (mkF m 1 #[.val (.ref a), .val .null, .unset] [.null])
  refine Goes.of (X.instanceofNull hx (g := (mkF m 1 #[.val (.ref a), .val .null, .unset] [.null])) rfl rfl (hb hby d11_1)) ?_
  show Goes p e below _ T (mkF m 4 #[.val (.ref a), .val .null, .unset] [(.int (0 : Int32))])
  refine Goes.of (fun _ => XS.ifYes X.here hx rfl (pc0 := 4) (pc' := 44) rfl (hb hby d11_4) rfl ((if0 _ _).trans (teq (by decide)).1) (by decide) (by decide)) ?_
  show Goes p e below _ T (mkF m 44 #[.val (.ref a), .val .null, .unset] [])
  refine Goes.of (fun _ => XS.iconst X.here hx rfl (hb hby d11_44)) ?_
  show Goes p e below _ T (mkF m 45 #[.val (.ref a), .val .null, .unset] [(.int (0 : Int32))])
  exact retZ (t := .boolean) X hx hret hlk (by simp) (hb hby d11_45) eT0 (by decide) (by decide) ⟨rfl, N0, rfl⟩
set_option maxRecDepth 65536 in
set_option maxHeartbeats 40000000 in
theorem rm_eqstr (l : Launch) (Z : State) (a0 : Array Value) (hw : ∀ d ∈ tables_1, d.before a0 Z = true) (a b : Addr) (h0 : Heap) (n0 : Nat) (O0 : Old Z n0 h0) (Eb : Exa Z h0 b "java/lang/String") :
    Rm l (⟨"com/example/claimgate/claimgate/app/SectionAccess$Grantee", "equals", "(Ljava/lang/Object;)Z"⟩ : MethodName) prog_26_method_2_code 3 (some .boolean) ({ frames := 0, cells := 0, slots := 0, locals := 0 } : Room) [] Z #[(.ref a), (.ref b)] h0 (fun v h L => v = some (.int 0) ∧ Fr n0 L ∧ h = h0) := by
  refine Rm.of (plainFor_of_name pn_com_example_claimgate_claimgate_app_SectionAccess_Grantee) ?_
  intro p e s m below meth cod T X hx hZ hby hml hown hnm hret hlk eT0
  have hown : s.vm.findClass "com/example/claimgate/claimgate/app/SectionAccess$Grantee" = some m.cls := hown
  have hnm : meth.name = "equals" := hnm
  have N0 := Fr.nil n0
  refine Goes.cast (ef_11 m a b) ?_
  show Goes p e below _ T (mkF m 0 #[.val (.ref a), .val (.ref b), .unset] [])
  refine Goes.of (fun _ => XS.aloadN X.here hx rfl (hb hby d11_0) rfl rfl) ?_
  show Goes p e below _ T (mkF m 1 #[.val (.ref a), .val (.ref b), .unset] [(.ref b)])
  refine goInstN X hx hZ hown (hw _ (List.mem_of_getElem? (i := 61) rfl)) eT0 Eb (nsNo (hw _ (List.mem_of_getElem? (i := 73) rfl)) (hw _ (List.mem_of_getElem? (i := 38) rfl)) (NS.step (hw _ (List.mem_of_getElem? (i := 73) rfl)) (nsRoot (hw _ (List.mem_of_getElem? (i := 74) rfl)) (hw _ (List.mem_of_getElem? (i := 38) rfl)) (by decide)) (by decide)) (by decide)) (g := (mkF m 1 #[.val (.ref a), .val (.ref b), .unset] [(.ref b)])) rfl rfl (hb hby d11_1) ?_
  intro T1 X1 eT1
  show Goes p e below _ T1 (mkF m 4 #[.val (.ref a), .val (.ref b), .unset] [(.int (0 : Int32))])
  refine Goes.of (fun _ => XS.ifYes X1.here hx rfl (pc0 := 4) (pc' := 44) rfl (hb hby d11_4) rfl ((if0 _ _).trans (teq (by decide)).1) (by decide) (by decide)) ?_
  show Goes p e below _ T1 (mkF m 44 #[.val (.ref a), .val (.ref b), .unset] [])
  refine Goes.of (fun _ => XS.iconst X1.here hx rfl (hb hby d11_44)) ?_
  show Goes p e below _ T1 (mkF m 45 #[.val (.ref a), .val (.ref b), .unset] [(.int (0 : Int32))])
  exact retZ (t := .boolean) X1 hx hret hlk (by simp) (hb hby d11_45) eT1 (by decide) (by decide) ⟨rfl, N0, rfl⟩
set_option maxRecDepth 65536 in
set_option maxHeartbeats 40000000 in
theorem rm_law (l : Launch) (Z : State) (a0 : Array Value) (hw : ∀ d ∈ tables_1, d.before a0 Z = true) (ws : List Jvm.Cond) (p1 p2 p3 : Int32) (cz : Int32) (h0 : Heap) (n0 : Nat) (O0 : Old Z n0 h0) (Sc : Sta Z Z.heap "java/lang/String" "COMPACT_STRINGS" "Z" (.int cz)) (hcz : ¬ cz = 0) :
    RmH l x code maxLocals ret room_1 ws Z EL #[(.int p1), (.int p2), (.int p3)] h0 (fun v h L => v = some (.int 1) ∧ Fr n0 L) := by
  refine RmH.of (plainFor_of_name pn_com_example_claimgate_claimgate_app_GranteeEqualsPinLaw) ?_
  intro p e s m below meth cod T X hx hZ hby hml hown hnm hret hlk eT0 hS hk HC
  have hEL := hELof hw
  have wS := wSof hw
  have hown : s.vm.findClass "com/example/claimgate/claimgate/app/GranteeEqualsPinLaw" = some m.cls := hown
  have hnm : meth.name = "law" := hnm
  have N0 := Fr.nil n0
  refine Goes.cast (ef_0 m p1 p2 p3) ?_
  show Goes p e below _ T (mkF m 0 #[.val (.int p1), .val (.int p2), .val (.int p3), .unset, .unset, .unset, .unset, .unset, .unset, .unset, .unset, .unset, .unset, .unset, .unset, .unset, .unset, .unset, .unset, .unset, .unset, .unset, .unset] [])
  refine Goes.of (fun _ => XS.iloadN X.here hx rfl (hb hby at_0) rfl) ?_
  show Goes p e below _ T (mkF m 1 #[.val (.int p1), .val (.int p2), .val (.int p3), .unset, .unset, .unset, .unset, .unset, .unset, .unset, .unset, .unset, .unset, .unset, .unset, .unset, .unset, .unset, .unset, .unset, .unset, .unset, .unset] [(.int p1)])
  refine Goes.of (fun _ => XS.sipush X.here hx rfl (hb hby at_1)) ?_
  show Goes p e below _ T (mkF m 4 #[.val (.int p1), .val (.int p2), .val (.int p3), .unset, .unset, .unset, .unset, .unset, .unset, .unset, .unset, .unset, .unset, .unset, .unset, .unset, .unset, .unset, .unset, .unset, .unset, .unset, .unset] [(.int (255 : Int32)), (.int p1)])
  refine Goes.of (fun _ => XS.iand X.here hx rfl (hb hby at_4) rfl) ?_
  show Goes p e below _ T (mkF m 5 #[.val (.int p1), .val (.int p2), .val (.int p3), .unset, .unset, .unset, .unset, .unset, .unset, .unset, .unset, .unset, .unset, .unset, .unset, .unset, .unset, .unset, .unset, .unset, .unset, .unset, .unset] [(.int (p1 &&& (255 : Int32)))])
  refine Goes.of (fun _ => XS.i2c X.here hx rfl (hb hby at_5) rfl) ?_
  show Goes p e below _ T (mkF m 6 #[.val (.int p1), .val (.int p2), .val (.int p3), .unset, .unset, .unset, .unset, .unset, .unset, .unset, .unset, .unset, .unset, .unset, .unset, .unset, .unset, .unset, .unset, .unset, .unset, .unset, .unset] [(.int ((p1 &&& (255 : Int32)).toUInt32.toUInt16.toUInt32.toInt32))])
  refine Goes.of (fun _ => XS.istoreN X.here hx rfl (hb hby at_6) rfl (l' := #[.val (.int p1), .val (.int p2), .val (.int p3), .val (.int ((p1 &&& (255 : Int32)).toUInt32.toUInt16.toUInt32.toInt32)), .unset, .unset, .unset, .unset, .unset, .unset, .unset, .unset, .unset, .unset, .unset, .unset, .unset, .unset, .unset, .unset, .unset, .unset, .unset]) rfl) ?_
  show Goes p e below _ T (mkF m 7 #[.val (.int p1), .val (.int p2), .val (.int p3), .val (.int ((p1 &&& (255 : Int32)).toUInt32.toUInt16.toUInt32.toInt32)), .unset, .unset, .unset, .unset, .unset, .unset, .unset, .unset, .unset, .unset, .unset, .unset, .unset, .unset, .unset, .unset, .unset, .unset, .unset] [])
  generalize eu0 : ((p1 &&& (255 : Int32)).toUInt32.toUInt16.toUInt32.toInt32) = u0
  show Goes p e below _ T (mkF m 7 #[.val (.int p1), .val (.int p2), .val (.int p3), .val (.int u0), .unset, .unset, .unset, .unset, .unset, .unset, .unset, .unset, .unset, .unset, .unset, .unset, .unset, .unset, .unset, .unset, .unset, .unset, .unset] [])
  have hu0 : ¬ u0 < 0 ∧ ¬ (255 : Int32) < u0 := eu0 ▸ chr8 _
  show Goes p e below _ T (mkF m 7 #[.val (.int p1), .val (.int p2), .val (.int p3), .val (.int u0), .unset, .unset, .unset, .unset, .unset, .unset, .unset, .unset, .unset, .unset, .unset, .unset, .unset, .unset, .unset, .unset, .unset, .unset, .unset] [])
  refine Goes.of (fun _ => XS.iloadN X.here hx rfl (hb hby at_7) rfl) ?_
  show Goes p e below _ T (mkF m 8 #[.val (.int p1), .val (.int p2), .val (.int p3), .val (.int u0), .unset, .unset, .unset, .unset, .unset, .unset, .unset, .unset, .unset, .unset, .unset, .unset, .unset, .unset, .unset, .unset, .unset, .unset, .unset] [(.int p1)])
  refine Goes.of (fun _ => XS.bipush X.here hx rfl (hb hby at_8)) ?_
  show Goes p e below _ T (mkF m 10 #[.val (.int p1), .val (.int p2), .val (.int p3), .val (.int u0), .unset, .unset, .unset, .unset, .unset, .unset, .unset, .unset, .unset, .unset, .unset, .unset, .unset, .unset, .unset, .unset, .unset, .unset, .unset] [(.int (8 : Int32)), (.int p1)])
  refine Goes.of (fun _ => XS.iushr X.here hx rfl (hb hby at_10) rfl) ?_
  show Goes p e below _ T (mkF m 11 #[.val (.int p1), .val (.int p2), .val (.int p3), .val (.int u0), .unset, .unset, .unset, .unset, .unset, .unset, .unset, .unset, .unset, .unset, .unset, .unset, .unset, .unset, .unset, .unset, .unset, .unset, .unset] [(.int ((p1.toUInt32 >>> ((8 : Int32) &&& 31).toUInt32).toInt32))])
  refine Goes.of (fun _ => XS.sipush X.here hx rfl (hb hby at_11)) ?_
  show Goes p e below _ T (mkF m 14 #[.val (.int p1), .val (.int p2), .val (.int p3), .val (.int u0), .unset, .unset, .unset, .unset, .unset, .unset, .unset, .unset, .unset, .unset, .unset, .unset, .unset, .unset, .unset, .unset, .unset, .unset, .unset] [(.int (255 : Int32)), (.int ((p1.toUInt32 >>> ((8 : Int32) &&& 31).toUInt32).toInt32))])
  refine Goes.of (fun _ => XS.iand X.here hx rfl (hb hby at_14) rfl) ?_
  show Goes p e below _ T (mkF m 15 #[.val (.int p1), .val (.int p2), .val (.int p3), .val (.int u0), .unset, .unset, .unset, .unset, .unset, .unset, .unset, .unset, .unset, .unset, .unset, .unset, .unset, .unset, .unset, .unset, .unset, .unset, .unset] [(.int (((p1.toUInt32 >>> ((8 : Int32) &&& 31).toUInt32).toInt32) &&& (255 : Int32)))])
  refine Goes.of (fun _ => XS.i2c X.here hx rfl (hb hby at_15) rfl) ?_
  show Goes p e below _ T (mkF m 16 #[.val (.int p1), .val (.int p2), .val (.int p3), .val (.int u0), .unset, .unset, .unset, .unset, .unset, .unset, .unset, .unset, .unset, .unset, .unset, .unset, .unset, .unset, .unset, .unset, .unset, .unset, .unset] [(.int ((((p1.toUInt32 >>> ((8 : Int32) &&& 31).toUInt32).toInt32) &&& (255 : Int32)).toUInt32.toUInt16.toUInt32.toInt32))])
  refine Goes.of (fun _ => XS.istore X.here hx rfl (hb hby at_16) rfl (l' := #[.val (.int p1), .val (.int p2), .val (.int p3), .val (.int u0), .val (.int ((((p1.toUInt32 >>> ((8 : Int32) &&& 31).toUInt32).toInt32) &&& (255 : Int32)).toUInt32.toUInt16.toUInt32.toInt32)), .unset, .unset, .unset, .unset, .unset, .unset, .unset, .unset, .unset, .unset, .unset, .unset, .unset, .unset, .unset, .unset, .unset, .unset]) rfl) ?_
  show Goes p e below _ T (mkF m 18 #[.val (.int p1), .val (.int p2), .val (.int p3), .val (.int u0), .val (.int ((((p1.toUInt32 >>> ((8 : Int32) &&& 31).toUInt32).toInt32) &&& (255 : Int32)).toUInt32.toUInt16.toUInt32.toInt32)), .unset, .unset, .unset, .unset, .unset, .unset, .unset, .unset, .unset, .unset, .unset, .unset, .unset, .unset, .unset, .unset, .unset, .unset] [])
  generalize eu1 : ((((p1.toUInt32 >>> ((8 : Int32) &&& 31).toUInt32).toInt32) &&& (255 : Int32)).toUInt32.toUInt16.toUInt32.toInt32) = u1
  show Goes p e below _ T (mkF m 18 #[.val (.int p1), .val (.int p2), .val (.int p3), .val (.int u0), .val (.int u1), .unset, .unset, .unset, .unset, .unset, .unset, .unset, .unset, .unset, .unset, .unset, .unset, .unset, .unset, .unset, .unset, .unset, .unset] [])
  have hu1 : ¬ u1 < 0 ∧ ¬ (255 : Int32) < u1 := eu1 ▸ chr8 _
  show Goes p e below _ T (mkF m 18 #[.val (.int p1), .val (.int p2), .val (.int p3), .val (.int u0), .val (.int u1), .unset, .unset, .unset, .unset, .unset, .unset, .unset, .unset, .unset, .unset, .unset, .unset, .unset, .unset, .unset, .unset, .unset, .unset] [])
  refine Goes.of (fun _ => XS.iloadN X.here hx rfl (hb hby at_18) rfl) ?_
  show Goes p e below _ T (mkF m 19 #[.val (.int p1), .val (.int p2), .val (.int p3), .val (.int u0), .val (.int u1), .unset, .unset, .unset, .unset, .unset, .unset, .unset, .unset, .unset, .unset, .unset, .unset, .unset, .unset, .unset, .unset, .unset, .unset] [(.int p1)])
  refine Goes.of (fun _ => XS.bipush X.here hx rfl (hb hby at_19)) ?_
  show Goes p e below _ T (mkF m 21 #[.val (.int p1), .val (.int p2), .val (.int p3), .val (.int u0), .val (.int u1), .unset, .unset, .unset, .unset, .unset, .unset, .unset, .unset, .unset, .unset, .unset, .unset, .unset, .unset, .unset, .unset, .unset, .unset] [(.int (16 : Int32)), (.int p1)])
  refine Goes.of (fun _ => XS.iushr X.here hx rfl (hb hby at_21) rfl) ?_
  show Goes p e below _ T (mkF m 22 #[.val (.int p1), .val (.int p2), .val (.int p3), .val (.int u0), .val (.int u1), .unset, .unset, .unset, .unset, .unset, .unset, .unset, .unset, .unset, .unset, .unset, .unset, .unset, .unset, .unset, .unset, .unset, .unset] [(.int ((p1.toUInt32 >>> ((16 : Int32) &&& 31).toUInt32).toInt32))])
  refine Goes.of (fun _ => XS.sipush X.here hx rfl (hb hby at_22)) ?_
  show Goes p e below _ T (mkF m 25 #[.val (.int p1), .val (.int p2), .val (.int p3), .val (.int u0), .val (.int u1), .unset, .unset, .unset, .unset, .unset, .unset, .unset, .unset, .unset, .unset, .unset, .unset, .unset, .unset, .unset, .unset, .unset, .unset] [(.int (255 : Int32)), (.int ((p1.toUInt32 >>> ((16 : Int32) &&& 31).toUInt32).toInt32))])
  refine Goes.of (fun _ => XS.iand X.here hx rfl (hb hby at_25) rfl) ?_
  show Goes p e below _ T (mkF m 26 #[.val (.int p1), .val (.int p2), .val (.int p3), .val (.int u0), .val (.int u1), .unset, .unset, .unset, .unset, .unset, .unset, .unset, .unset, .unset, .unset, .unset, .unset, .unset, .unset, .unset, .unset, .unset, .unset] [(.int (((p1.toUInt32 >>> ((16 : Int32) &&& 31).toUInt32).toInt32) &&& (255 : Int32)))])
  refine Goes.of (fun _ => XS.i2c X.here hx rfl (hb hby at_26) rfl) ?_
  show Goes p e below _ T (mkF m 27 #[.val (.int p1), .val (.int p2), .val (.int p3), .val (.int u0), .val (.int u1), .unset, .unset, .unset, .unset, .unset, .unset, .unset, .unset, .unset, .unset, .unset, .unset, .unset, .unset, .unset, .unset, .unset, .unset] [(.int ((((p1.toUInt32 >>> ((16 : Int32) &&& 31).toUInt32).toInt32) &&& (255 : Int32)).toUInt32.toUInt16.toUInt32.toInt32))])
  refine Goes.of (fun _ => XS.istore X.here hx rfl (hb hby at_27) rfl (l' := #[.val (.int p1), .val (.int p2), .val (.int p3), .val (.int u0), .val (.int u1), .val (.int ((((p1.toUInt32 >>> ((16 : Int32) &&& 31).toUInt32).toInt32) &&& (255 : Int32)).toUInt32.toUInt16.toUInt32.toInt32)), .unset, .unset, .unset, .unset, .unset, .unset, .unset, .unset, .unset, .unset, .unset, .unset, .unset, .unset, .unset, .unset, .unset]) rfl) ?_
  show Goes p e below _ T (mkF m 29 #[.val (.int p1), .val (.int p2), .val (.int p3), .val (.int u0), .val (.int u1), .val (.int ((((p1.toUInt32 >>> ((16 : Int32) &&& 31).toUInt32).toInt32) &&& (255 : Int32)).toUInt32.toUInt16.toUInt32.toInt32)), .unset, .unset, .unset, .unset, .unset, .unset, .unset, .unset, .unset, .unset, .unset, .unset, .unset, .unset, .unset, .unset, .unset] [])
  generalize eg0 : ((((p1.toUInt32 >>> ((16 : Int32) &&& 31).toUInt32).toInt32) &&& (255 : Int32)).toUInt32.toUInt16.toUInt32.toInt32) = g0
  show Goes p e below _ T (mkF m 29 #[.val (.int p1), .val (.int p2), .val (.int p3), .val (.int u0), .val (.int u1), .val (.int g0), .unset, .unset, .unset, .unset, .unset, .unset, .unset, .unset, .unset, .unset, .unset, .unset, .unset, .unset, .unset, .unset, .unset] [])
  have hg0 : ¬ g0 < 0 ∧ ¬ (255 : Int32) < g0 := eg0 ▸ chr8 _
  show Goes p e below _ T (mkF m 29 #[.val (.int p1), .val (.int p2), .val (.int p3), .val (.int u0), .val (.int u1), .val (.int g0), .unset, .unset, .unset, .unset, .unset, .unset, .unset, .unset, .unset, .unset, .unset, .unset, .unset, .unset, .unset, .unset, .unset] [])
  refine Goes.of (fun _ => XS.iloadN X.here hx rfl (hb hby at_29) rfl) ?_
  show Goes p e below _ T (mkF m 30 #[.val (.int p1), .val (.int p2), .val (.int p3), .val (.int u0), .val (.int u1), .val (.int g0), .unset, .unset, .unset, .unset, .unset, .unset, .unset, .unset, .unset, .unset, .unset, .unset, .unset, .unset, .unset, .unset, .unset] [(.int p1)])
  refine Goes.of (fun _ => XS.bipush X.here hx rfl (hb hby at_30)) ?_
  show Goes p e below _ T (mkF m 32 #[.val (.int p1), .val (.int p2), .val (.int p3), .val (.int u0), .val (.int u1), .val (.int g0), .unset, .unset, .unset, .unset, .unset, .unset, .unset, .unset, .unset, .unset, .unset, .unset, .unset, .unset, .unset, .unset, .unset] [(.int (24 : Int32)), (.int p1)])
  refine Goes.of (fun _ => XS.iushr X.here hx rfl (hb hby at_32) rfl) ?_
  show Goes p e below _ T (mkF m 33 #[.val (.int p1), .val (.int p2), .val (.int p3), .val (.int u0), .val (.int u1), .val (.int g0), .unset, .unset, .unset, .unset, .unset, .unset, .unset, .unset, .unset, .unset, .unset, .unset, .unset, .unset, .unset, .unset, .unset] [(.int ((p1.toUInt32 >>> ((24 : Int32) &&& 31).toUInt32).toInt32))])
  refine Goes.of (fun _ => XS.sipush X.here hx rfl (hb hby at_33)) ?_
  show Goes p e below _ T (mkF m 36 #[.val (.int p1), .val (.int p2), .val (.int p3), .val (.int u0), .val (.int u1), .val (.int g0), .unset, .unset, .unset, .unset, .unset, .unset, .unset, .unset, .unset, .unset, .unset, .unset, .unset, .unset, .unset, .unset, .unset] [(.int (255 : Int32)), (.int ((p1.toUInt32 >>> ((24 : Int32) &&& 31).toUInt32).toInt32))])
  refine Goes.of (fun _ => XS.iand X.here hx rfl (hb hby at_36) rfl) ?_
  show Goes p e below _ T (mkF m 37 #[.val (.int p1), .val (.int p2), .val (.int p3), .val (.int u0), .val (.int u1), .val (.int g0), .unset, .unset, .unset, .unset, .unset, .unset, .unset, .unset, .unset, .unset, .unset, .unset, .unset, .unset, .unset, .unset, .unset] [(.int (((p1.toUInt32 >>> ((24 : Int32) &&& 31).toUInt32).toInt32) &&& (255 : Int32)))])
  refine Goes.of (fun _ => XS.i2c X.here hx rfl (hb hby at_37) rfl) ?_
  show Goes p e below _ T (mkF m 38 #[.val (.int p1), .val (.int p2), .val (.int p3), .val (.int u0), .val (.int u1), .val (.int g0), .unset, .unset, .unset, .unset, .unset, .unset, .unset, .unset, .unset, .unset, .unset, .unset, .unset, .unset, .unset, .unset, .unset] [(.int ((((p1.toUInt32 >>> ((24 : Int32) &&& 31).toUInt32).toInt32) &&& (255 : Int32)).toUInt32.toUInt16.toUInt32.toInt32))])
  refine Goes.of (fun _ => XS.istore X.here hx rfl (hb hby at_38) rfl (l' := #[.val (.int p1), .val (.int p2), .val (.int p3), .val (.int u0), .val (.int u1), .val (.int g0), .val (.int ((((p1.toUInt32 >>> ((24 : Int32) &&& 31).toUInt32).toInt32) &&& (255 : Int32)).toUInt32.toUInt16.toUInt32.toInt32)), .unset, .unset, .unset, .unset, .unset, .unset, .unset, .unset, .unset, .unset, .unset, .unset, .unset, .unset, .unset, .unset]) rfl) ?_
  show Goes p e below _ T (mkF m 40 #[.val (.int p1), .val (.int p2), .val (.int p3), .val (.int u0), .val (.int u1), .val (.int g0), .val (.int ((((p1.toUInt32 >>> ((24 : Int32) &&& 31).toUInt32).toInt32) &&& (255 : Int32)).toUInt32.toUInt16.toUInt32.toInt32)), .unset, .unset, .unset, .unset, .unset, .unset, .unset, .unset, .unset, .unset, .unset, .unset, .unset, .unset, .unset, .unset] [])
  generalize eg1 : ((((p1.toUInt32 >>> ((24 : Int32) &&& 31).toUInt32).toInt32) &&& (255 : Int32)).toUInt32.toUInt16.toUInt32.toInt32) = g1
  show Goes p e below _ T (mkF m 40 #[.val (.int p1), .val (.int p2), .val (.int p3), .val (.int u0), .val (.int u1), .val (.int g0), .val (.int g1), .unset, .unset, .unset, .unset, .unset, .unset, .unset, .unset, .unset, .unset, .unset, .unset, .unset, .unset, .unset, .unset] [])
  have hg1 : ¬ g1 < 0 ∧ ¬ (255 : Int32) < g1 := eg1 ▸ chr8 _
  show Goes p e below _ T (mkF m 40 #[.val (.int p1), .val (.int p2), .val (.int p3), .val (.int u0), .val (.int u1), .val (.int g0), .val (.int g1), .unset, .unset, .unset, .unset, .unset, .unset, .unset, .unset, .unset, .unset, .unset, .unset, .unset, .unset, .unset, .unset] [])
  refine Goes.of (fun _ => XS.iloadN X.here hx rfl (hb hby at_40) rfl) ?_
  show Goes p e below _ T (mkF m 41 #[.val (.int p1), .val (.int p2), .val (.int p3), .val (.int u0), .val (.int u1), .val (.int g0), .val (.int g1), .unset, .unset, .unset, .unset, .unset, .unset, .unset, .unset, .unset, .unset, .unset, .unset, .unset, .unset, .unset, .unset] [(.int p2)])
  refine Goes.of (fun _ => XS.sipush X.here hx rfl (hb hby at_41)) ?_
  show Goes p e below _ T (mkF m 44 #[.val (.int p1), .val (.int p2), .val (.int p3), .val (.int u0), .val (.int u1), .val (.int g0), .val (.int g1), .unset, .unset, .unset, .unset, .unset, .unset, .unset, .unset, .unset, .unset, .unset, .unset, .unset, .unset, .unset, .unset] [(.int (255 : Int32)), (.int p2)])
  refine Goes.of (fun _ => XS.iand X.here hx rfl (hb hby at_44) rfl) ?_
  show Goes p e below _ T (mkF m 45 #[.val (.int p1), .val (.int p2), .val (.int p3), .val (.int u0), .val (.int u1), .val (.int g0), .val (.int g1), .unset, .unset, .unset, .unset, .unset, .unset, .unset, .unset, .unset, .unset, .unset, .unset, .unset, .unset, .unset, .unset] [(.int (p2 &&& (255 : Int32)))])
  refine Goes.of (fun _ => XS.i2c X.here hx rfl (hb hby at_45) rfl) ?_
  show Goes p e below _ T (mkF m 46 #[.val (.int p1), .val (.int p2), .val (.int p3), .val (.int u0), .val (.int u1), .val (.int g0), .val (.int g1), .unset, .unset, .unset, .unset, .unset, .unset, .unset, .unset, .unset, .unset, .unset, .unset, .unset, .unset, .unset, .unset] [(.int ((p2 &&& (255 : Int32)).toUInt32.toUInt16.toUInt32.toInt32))])
  refine Goes.of (fun _ => XS.istore X.here hx rfl (hb hby at_46) rfl (l' := #[.val (.int p1), .val (.int p2), .val (.int p3), .val (.int u0), .val (.int u1), .val (.int g0), .val (.int g1), .val (.int ((p2 &&& (255 : Int32)).toUInt32.toUInt16.toUInt32.toInt32)), .unset, .unset, .unset, .unset, .unset, .unset, .unset, .unset, .unset, .unset, .unset, .unset, .unset, .unset, .unset]) rfl) ?_
  show Goes p e below _ T (mkF m 48 #[.val (.int p1), .val (.int p2), .val (.int p3), .val (.int u0), .val (.int u1), .val (.int g0), .val (.int g1), .val (.int ((p2 &&& (255 : Int32)).toUInt32.toUInt16.toUInt32.toInt32)), .unset, .unset, .unset, .unset, .unset, .unset, .unset, .unset, .unset, .unset, .unset, .unset, .unset, .unset, .unset] [])
  generalize ev0 : ((p2 &&& (255 : Int32)).toUInt32.toUInt16.toUInt32.toInt32) = v0
  show Goes p e below _ T (mkF m 48 #[.val (.int p1), .val (.int p2), .val (.int p3), .val (.int u0), .val (.int u1), .val (.int g0), .val (.int g1), .val (.int v0), .unset, .unset, .unset, .unset, .unset, .unset, .unset, .unset, .unset, .unset, .unset, .unset, .unset, .unset, .unset] [])
  have hv0 : ¬ v0 < 0 ∧ ¬ (255 : Int32) < v0 := ev0 ▸ chr8 _
  show Goes p e below _ T (mkF m 48 #[.val (.int p1), .val (.int p2), .val (.int p3), .val (.int u0), .val (.int u1), .val (.int g0), .val (.int g1), .val (.int v0), .unset, .unset, .unset, .unset, .unset, .unset, .unset, .unset, .unset, .unset, .unset, .unset, .unset, .unset, .unset] [])
  refine Goes.of (fun _ => XS.iloadN X.here hx rfl (hb hby at_48) rfl) ?_
  show Goes p e below _ T (mkF m 49 #[.val (.int p1), .val (.int p2), .val (.int p3), .val (.int u0), .val (.int u1), .val (.int g0), .val (.int g1), .val (.int v0), .unset, .unset, .unset, .unset, .unset, .unset, .unset, .unset, .unset, .unset, .unset, .unset, .unset, .unset, .unset] [(.int p2)])
  refine Goes.of (fun _ => XS.bipush X.here hx rfl (hb hby at_49)) ?_
  show Goes p e below _ T (mkF m 51 #[.val (.int p1), .val (.int p2), .val (.int p3), .val (.int u0), .val (.int u1), .val (.int g0), .val (.int g1), .val (.int v0), .unset, .unset, .unset, .unset, .unset, .unset, .unset, .unset, .unset, .unset, .unset, .unset, .unset, .unset, .unset] [(.int (8 : Int32)), (.int p2)])
  refine Goes.of (fun _ => XS.iushr X.here hx rfl (hb hby at_51) rfl) ?_
  show Goes p e below _ T (mkF m 52 #[.val (.int p1), .val (.int p2), .val (.int p3), .val (.int u0), .val (.int u1), .val (.int g0), .val (.int g1), .val (.int v0), .unset, .unset, .unset, .unset, .unset, .unset, .unset, .unset, .unset, .unset, .unset, .unset, .unset, .unset, .unset] [(.int ((p2.toUInt32 >>> ((8 : Int32) &&& 31).toUInt32).toInt32))])
  refine Goes.of (fun _ => XS.sipush X.here hx rfl (hb hby at_52)) ?_
  show Goes p e below _ T (mkF m 55 #[.val (.int p1), .val (.int p2), .val (.int p3), .val (.int u0), .val (.int u1), .val (.int g0), .val (.int g1), .val (.int v0), .unset, .unset, .unset, .unset, .unset, .unset, .unset, .unset, .unset, .unset, .unset, .unset, .unset, .unset, .unset] [(.int (255 : Int32)), (.int ((p2.toUInt32 >>> ((8 : Int32) &&& 31).toUInt32).toInt32))])
  refine Goes.of (fun _ => XS.iand X.here hx rfl (hb hby at_55) rfl) ?_
  show Goes p e below _ T (mkF m 56 #[.val (.int p1), .val (.int p2), .val (.int p3), .val (.int u0), .val (.int u1), .val (.int g0), .val (.int g1), .val (.int v0), .unset, .unset, .unset, .unset, .unset, .unset, .unset, .unset, .unset, .unset, .unset, .unset, .unset, .unset, .unset] [(.int (((p2.toUInt32 >>> ((8 : Int32) &&& 31).toUInt32).toInt32) &&& (255 : Int32)))])
  refine Goes.of (fun _ => XS.i2c X.here hx rfl (hb hby at_56) rfl) ?_
  show Goes p e below _ T (mkF m 57 #[.val (.int p1), .val (.int p2), .val (.int p3), .val (.int u0), .val (.int u1), .val (.int g0), .val (.int g1), .val (.int v0), .unset, .unset, .unset, .unset, .unset, .unset, .unset, .unset, .unset, .unset, .unset, .unset, .unset, .unset, .unset] [(.int ((((p2.toUInt32 >>> ((8 : Int32) &&& 31).toUInt32).toInt32) &&& (255 : Int32)).toUInt32.toUInt16.toUInt32.toInt32))])
  refine Goes.of (fun _ => XS.istore X.here hx rfl (hb hby at_57) rfl (l' := #[.val (.int p1), .val (.int p2), .val (.int p3), .val (.int u0), .val (.int u1), .val (.int g0), .val (.int g1), .val (.int v0), .val (.int ((((p2.toUInt32 >>> ((8 : Int32) &&& 31).toUInt32).toInt32) &&& (255 : Int32)).toUInt32.toUInt16.toUInt32.toInt32)), .unset, .unset, .unset, .unset, .unset, .unset, .unset, .unset, .unset, .unset, .unset, .unset, .unset, .unset]) rfl) ?_
  show Goes p e below _ T (mkF m 59 #[.val (.int p1), .val (.int p2), .val (.int p3), .val (.int u0), .val (.int u1), .val (.int g0), .val (.int g1), .val (.int v0), .val (.int ((((p2.toUInt32 >>> ((8 : Int32) &&& 31).toUInt32).toInt32) &&& (255 : Int32)).toUInt32.toUInt16.toUInt32.toInt32)), .unset, .unset, .unset, .unset, .unset, .unset, .unset, .unset, .unset, .unset, .unset, .unset, .unset, .unset] [])
  generalize ev1 : ((((p2.toUInt32 >>> ((8 : Int32) &&& 31).toUInt32).toInt32) &&& (255 : Int32)).toUInt32.toUInt16.toUInt32.toInt32) = v1
  show Goes p e below _ T (mkF m 59 #[.val (.int p1), .val (.int p2), .val (.int p3), .val (.int u0), .val (.int u1), .val (.int g0), .val (.int g1), .val (.int v0), .val (.int v1), .unset, .unset, .unset, .unset, .unset, .unset, .unset, .unset, .unset, .unset, .unset, .unset, .unset, .unset] [])
  have hv1 : ¬ v1 < 0 ∧ ¬ (255 : Int32) < v1 := ev1 ▸ chr8 _
  show Goes p e below _ T (mkF m 59 #[.val (.int p1), .val (.int p2), .val (.int p3), .val (.int u0), .val (.int u1), .val (.int g0), .val (.int g1), .val (.int v0), .val (.int v1), .unset, .unset, .unset, .unset, .unset, .unset, .unset, .unset, .unset, .unset, .unset, .unset, .unset, .unset] [])
  refine Goes.of (fun _ => XS.iloadN X.here hx rfl (hb hby at_59) rfl) ?_
  show Goes p e below _ T (mkF m 60 #[.val (.int p1), .val (.int p2), .val (.int p3), .val (.int u0), .val (.int u1), .val (.int g0), .val (.int g1), .val (.int v0), .val (.int v1), .unset, .unset, .unset, .unset, .unset, .unset, .unset, .unset, .unset, .unset, .unset, .unset, .unset, .unset] [(.int p2)])
  refine Goes.of (fun _ => XS.bipush X.here hx rfl (hb hby at_60)) ?_
  show Goes p e below _ T (mkF m 62 #[.val (.int p1), .val (.int p2), .val (.int p3), .val (.int u0), .val (.int u1), .val (.int g0), .val (.int g1), .val (.int v0), .val (.int v1), .unset, .unset, .unset, .unset, .unset, .unset, .unset, .unset, .unset, .unset, .unset, .unset, .unset, .unset] [(.int (16 : Int32)), (.int p2)])
  refine Goes.of (fun _ => XS.iushr X.here hx rfl (hb hby at_62) rfl) ?_
  show Goes p e below _ T (mkF m 63 #[.val (.int p1), .val (.int p2), .val (.int p3), .val (.int u0), .val (.int u1), .val (.int g0), .val (.int g1), .val (.int v0), .val (.int v1), .unset, .unset, .unset, .unset, .unset, .unset, .unset, .unset, .unset, .unset, .unset, .unset, .unset, .unset] [(.int ((p2.toUInt32 >>> ((16 : Int32) &&& 31).toUInt32).toInt32))])
  refine Goes.of (fun _ => XS.sipush X.here hx rfl (hb hby at_63)) ?_
  show Goes p e below _ T (mkF m 66 #[.val (.int p1), .val (.int p2), .val (.int p3), .val (.int u0), .val (.int u1), .val (.int g0), .val (.int g1), .val (.int v0), .val (.int v1), .unset, .unset, .unset, .unset, .unset, .unset, .unset, .unset, .unset, .unset, .unset, .unset, .unset, .unset] [(.int (255 : Int32)), (.int ((p2.toUInt32 >>> ((16 : Int32) &&& 31).toUInt32).toInt32))])
  refine Goes.of (fun _ => XS.iand X.here hx rfl (hb hby at_66) rfl) ?_
  show Goes p e below _ T (mkF m 67 #[.val (.int p1), .val (.int p2), .val (.int p3), .val (.int u0), .val (.int u1), .val (.int g0), .val (.int g1), .val (.int v0), .val (.int v1), .unset, .unset, .unset, .unset, .unset, .unset, .unset, .unset, .unset, .unset, .unset, .unset, .unset, .unset] [(.int (((p2.toUInt32 >>> ((16 : Int32) &&& 31).toUInt32).toInt32) &&& (255 : Int32)))])
  refine Goes.of (fun _ => XS.i2c X.here hx rfl (hb hby at_67) rfl) ?_
  show Goes p e below _ T (mkF m 68 #[.val (.int p1), .val (.int p2), .val (.int p3), .val (.int u0), .val (.int u1), .val (.int g0), .val (.int g1), .val (.int v0), .val (.int v1), .unset, .unset, .unset, .unset, .unset, .unset, .unset, .unset, .unset, .unset, .unset, .unset, .unset, .unset] [(.int ((((p2.toUInt32 >>> ((16 : Int32) &&& 31).toUInt32).toInt32) &&& (255 : Int32)).toUInt32.toUInt16.toUInt32.toInt32))])
  refine Goes.of (fun _ => XS.istore X.here hx rfl (hb hby at_68) rfl (l' := #[.val (.int p1), .val (.int p2), .val (.int p3), .val (.int u0), .val (.int u1), .val (.int g0), .val (.int g1), .val (.int v0), .val (.int v1), .val (.int ((((p2.toUInt32 >>> ((16 : Int32) &&& 31).toUInt32).toInt32) &&& (255 : Int32)).toUInt32.toUInt16.toUInt32.toInt32)), .unset, .unset, .unset, .unset, .unset, .unset, .unset, .unset, .unset, .unset, .unset, .unset, .unset]) rfl) ?_
  show Goes p e below _ T (mkF m 70 #[.val (.int p1), .val (.int p2), .val (.int p3), .val (.int u0), .val (.int u1), .val (.int g0), .val (.int g1), .val (.int v0), .val (.int v1), .val (.int ((((p2.toUInt32 >>> ((16 : Int32) &&& 31).toUInt32).toInt32) &&& (255 : Int32)).toUInt32.toUInt16.toUInt32.toInt32)), .unset, .unset, .unset, .unset, .unset, .unset, .unset, .unset, .unset, .unset, .unset, .unset, .unset] [])
  generalize ew0 : ((((p2.toUInt32 >>> ((16 : Int32) &&& 31).toUInt32).toInt32) &&& (255 : Int32)).toUInt32.toUInt16.toUInt32.toInt32) = w0
  show Goes p e below _ T (mkF m 70 #[.val (.int p1), .val (.int p2), .val (.int p3), .val (.int u0), .val (.int u1), .val (.int g0), .val (.int g1), .val (.int v0), .val (.int v1), .val (.int w0), .unset, .unset, .unset, .unset, .unset, .unset, .unset, .unset, .unset, .unset, .unset, .unset, .unset] [])
  have hw0 : ¬ w0 < 0 ∧ ¬ (255 : Int32) < w0 := ew0 ▸ chr8 _
  show Goes p e below _ T (mkF m 70 #[.val (.int p1), .val (.int p2), .val (.int p3), .val (.int u0), .val (.int u1), .val (.int g0), .val (.int g1), .val (.int v0), .val (.int v1), .val (.int w0), .unset, .unset, .unset, .unset, .unset, .unset, .unset, .unset, .unset, .unset, .unset, .unset, .unset] [])
  refine Goes.of (fun _ => XS.iloadN X.here hx rfl (hb hby at_70) rfl) ?_
  show Goes p e below _ T (mkF m 71 #[.val (.int p1), .val (.int p2), .val (.int p3), .val (.int u0), .val (.int u1), .val (.int g0), .val (.int g1), .val (.int v0), .val (.int v1), .val (.int w0), .unset, .unset, .unset, .unset, .unset, .unset, .unset, .unset, .unset, .unset, .unset, .unset, .unset] [(.int p2)])
  refine Goes.of (fun _ => XS.bipush X.here hx rfl (hb hby at_71)) ?_
  show Goes p e below _ T (mkF m 73 #[.val (.int p1), .val (.int p2), .val (.int p3), .val (.int u0), .val (.int u1), .val (.int g0), .val (.int g1), .val (.int v0), .val (.int v1), .val (.int w0), .unset, .unset, .unset, .unset, .unset, .unset, .unset, .unset, .unset, .unset, .unset, .unset, .unset] [(.int (24 : Int32)), (.int p2)])
  refine Goes.of (fun _ => XS.iushr X.here hx rfl (hb hby at_73) rfl) ?_
  show Goes p e below _ T (mkF m 74 #[.val (.int p1), .val (.int p2), .val (.int p3), .val (.int u0), .val (.int u1), .val (.int g0), .val (.int g1), .val (.int v0), .val (.int v1), .val (.int w0), .unset, .unset, .unset, .unset, .unset, .unset, .unset, .unset, .unset, .unset, .unset, .unset, .unset] [(.int ((p2.toUInt32 >>> ((24 : Int32) &&& 31).toUInt32).toInt32))])
  refine Goes.of (fun _ => XS.sipush X.here hx rfl (hb hby at_74)) ?_
  show Goes p e below _ T (mkF m 77 #[.val (.int p1), .val (.int p2), .val (.int p3), .val (.int u0), .val (.int u1), .val (.int g0), .val (.int g1), .val (.int v0), .val (.int v1), .val (.int w0), .unset, .unset, .unset, .unset, .unset, .unset, .unset, .unset, .unset, .unset, .unset, .unset, .unset] [(.int (255 : Int32)), (.int ((p2.toUInt32 >>> ((24 : Int32) &&& 31).toUInt32).toInt32))])
  refine Goes.of (fun _ => XS.iand X.here hx rfl (hb hby at_77) rfl) ?_
  show Goes p e below _ T (mkF m 78 #[.val (.int p1), .val (.int p2), .val (.int p3), .val (.int u0), .val (.int u1), .val (.int g0), .val (.int g1), .val (.int v0), .val (.int v1), .val (.int w0), .unset, .unset, .unset, .unset, .unset, .unset, .unset, .unset, .unset, .unset, .unset, .unset, .unset] [(.int (((p2.toUInt32 >>> ((24 : Int32) &&& 31).toUInt32).toInt32) &&& (255 : Int32)))])
  refine Goes.of (fun _ => XS.i2c X.here hx rfl (hb hby at_78) rfl) ?_
  show Goes p e below _ T (mkF m 79 #[.val (.int p1), .val (.int p2), .val (.int p3), .val (.int u0), .val (.int u1), .val (.int g0), .val (.int g1), .val (.int v0), .val (.int v1), .val (.int w0), .unset, .unset, .unset, .unset, .unset, .unset, .unset, .unset, .unset, .unset, .unset, .unset, .unset] [(.int ((((p2.toUInt32 >>> ((24 : Int32) &&& 31).toUInt32).toInt32) &&& (255 : Int32)).toUInt32.toUInt16.toUInt32.toInt32))])
  refine Goes.of (fun _ => XS.istore X.here hx rfl (hb hby at_79) rfl (l' := #[.val (.int p1), .val (.int p2), .val (.int p3), .val (.int u0), .val (.int u1), .val (.int g0), .val (.int g1), .val (.int v0), .val (.int v1), .val (.int w0), .val (.int ((((p2.toUInt32 >>> ((24 : Int32) &&& 31).toUInt32).toInt32) &&& (255 : Int32)).toUInt32.toUInt16.toUInt32.toInt32)), .unset, .unset, .unset, .unset, .unset, .unset, .unset, .unset, .unset, .unset, .unset, .unset]) rfl) ?_
  show Goes p e below _ T (mkF m 81 #[.val (.int p1), .val (.int p2), .val (.int p3), .val (.int u0), .val (.int u1), .val (.int g0), .val (.int g1), .val (.int v0), .val (.int v1), .val (.int w0), .val (.int ((((p2.toUInt32 >>> ((24 : Int32) &&& 31).toUInt32).toInt32) &&& (255 : Int32)).toUInt32.toUInt16.toUInt32.toInt32)), .unset, .unset, .unset, .unset, .unset, .unset, .unset, .unset, .unset, .unset, .unset, .unset] [])
  generalize ew1 : ((((p2.toUInt32 >>> ((24 : Int32) &&& 31).toUInt32).toInt32) &&& (255 : Int32)).toUInt32.toUInt16.toUInt32.toInt32) = w1
  show Goes p e below _ T (mkF m 81 #[.val (.int p1), .val (.int p2), .val (.int p3), .val (.int u0), .val (.int u1), .val (.int g0), .val (.int g1), .val (.int v0), .val (.int v1), .val (.int w0), .val (.int w1), .unset, .unset, .unset, .unset, .unset, .unset, .unset, .unset, .unset, .unset, .unset, .unset] [])
  have hw1 : ¬ w1 < 0 ∧ ¬ (255 : Int32) < w1 := ew1 ▸ chr8 _
  show Goes p e below _ T (mkF m 81 #[.val (.int p1), .val (.int p2), .val (.int p3), .val (.int u0), .val (.int u1), .val (.int g0), .val (.int g1), .val (.int v0), .val (.int v1), .val (.int w0), .val (.int w1), .unset, .unset, .unset, .unset, .unset, .unset, .unset, .unset, .unset, .unset, .unset, .unset] [])
  refine Goes.of (fun _ => XS.iloadN X.here hx rfl (hb hby at_81) rfl) ?_
  show Goes p e below _ T (mkF m 82 #[.val (.int p1), .val (.int p2), .val (.int p3), .val (.int u0), .val (.int u1), .val (.int g0), .val (.int g1), .val (.int v0), .val (.int v1), .val (.int w0), .val (.int w1), .unset, .unset, .unset, .unset, .unset, .unset, .unset, .unset, .unset, .unset, .unset, .unset] [(.int p3)])
  refine Goes.of (fun _ => XS.iconst X.here hx rfl (hb hby at_82)) ?_
  show Goes p e below _ T (mkF m 83 #[.val (.int p1), .val (.int p2), .val (.int p3), .val (.int u0), .val (.int u1), .val (.int g0), .val (.int g1), .val (.int v0), .val (.int v1), .val (.int w0), .val (.int w1), .unset, .unset, .unset, .unset, .unset, .unset, .unset, .unset, .unset, .unset, .unset, .unset] [(.int (3 : Int32)), (.int p3)])
  refine Goes.of (fun _ => XS.iand X.here hx rfl (hb hby at_83) rfl) ?_
  show Goes p e below _ T (mkF m 84 #[.val (.int p1), .val (.int p2), .val (.int p3), .val (.int u0), .val (.int u1), .val (.int g0), .val (.int g1), .val (.int v0), .val (.int v1), .val (.int w0), .val (.int w1), .unset, .unset, .unset, .unset, .unset, .unset, .unset, .unset, .unset, .unset, .unset, .unset] [(.int (p3 &&& (3 : Int32)))])
  refine Goes.of (fun _ => XS.iconst X.here hx rfl (hb hby at_84)) ?_
  show Goes p e below _ T (mkF m 85 #[.val (.int p1), .val (.int p2), .val (.int p3), .val (.int u0), .val (.int u1), .val (.int g0), .val (.int g1), .val (.int v0), .val (.int v1), .val (.int w0), .val (.int w1), .unset, .unset, .unset, .unset, .unset, .unset, .unset, .unset, .unset, .unset, .unset, .unset] [(.int (3 : Int32)), (.int (p3 &&& (3 : Int32)))])
  refine Goes.of (fun _ => XS.irem X.here hx rfl (hb hby at_85) rfl (by decide)) ?_
  show Goes p e below _ T (mkF m 86 #[.val (.int p1), .val (.int p2), .val (.int p3), .val (.int u0), .val (.int u1), .val (.int g0), .val (.int g1), .val (.int v0), .val (.int v1), .val (.int w0), .val (.int w1), .unset, .unset, .unset, .unset, .unset, .unset, .unset, .unset, .unset, .unset, .unset, .unset] [(.int ((p3 &&& (3 : Int32)) - ((p3 &&& (3 : Int32)) / (3 : Int32)) * (3 : Int32)))])
  refine Goes.of (fun _ => XS.istore X.here hx rfl (hb hby at_86) rfl (l' := #[.val (.int p1), .val (.int p2), .val (.int p3), .val (.int u0), .val (.int u1), .val (.int g0), .val (.int g1), .val (.int v0), .val (.int v1), .val (.int w0), .val (.int w1), .val (.int ((p3 &&& (3 : Int32)) - ((p3 &&& (3 : Int32)) / (3 : Int32)) * (3 : Int32))), .unset, .unset, .unset, .unset, .unset, .unset, .unset, .unset, .unset, .unset, .unset]) rfl) ?_
  show Goes p e below _ T (mkF m 88 #[.val (.int p1), .val (.int p2), .val (.int p3), .val (.int u0), .val (.int u1), .val (.int g0), .val (.int g1), .val (.int v0), .val (.int v1), .val (.int w0), .val (.int w1), .val (.int ((p3 &&& (3 : Int32)) - ((p3 &&& (3 : Int32)) / (3 : Int32)) * (3 : Int32))), .unset, .unset, .unset, .unset, .unset, .unset, .unset, .unset, .unset, .unset, .unset] [])
  generalize ek1 : ((p3 &&& (3 : Int32)) - ((p3 &&& (3 : Int32)) / (3 : Int32)) * (3 : Int32)) = k1
  show Goes p e below _ T (mkF m 88 #[.val (.int p1), .val (.int p2), .val (.int p3), .val (.int u0), .val (.int u1), .val (.int g0), .val (.int g1), .val (.int v0), .val (.int v1), .val (.int w0), .val (.int w1), .val (.int k1), .unset, .unset, .unset, .unset, .unset, .unset, .unset, .unset, .unset, .unset, .unset] [])
  have hk1 : 0 ≤ k1.toInt ∧ k1.toInt < 3 := ek1 ▸ len3 _
  show Goes p e below _ T (mkF m 88 #[.val (.int p1), .val (.int p2), .val (.int p3), .val (.int u0), .val (.int u1), .val (.int g0), .val (.int g1), .val (.int v0), .val (.int v1), .val (.int w0), .val (.int w1), .val (.int k1), .unset, .unset, .unset, .unset, .unset, .unset, .unset, .unset, .unset, .unset, .unset] [])
  refine Goes.of (fun _ => XS.iloadN X.here hx rfl (hb hby at_88) rfl) ?_
  show Goes p e below _ T (mkF m 89 #[.val (.int p1), .val (.int p2), .val (.int p3), .val (.int u0), .val (.int u1), .val (.int g0), .val (.int g1), .val (.int v0), .val (.int v1), .val (.int w0), .val (.int w1), .val (.int k1), .unset, .unset, .unset, .unset, .unset, .unset, .unset, .unset, .unset, .unset, .unset] [(.int p3)])
  refine Goes.of (fun _ => XS.iconst X.here hx rfl (hb hby at_89)) ?_
  show Goes p e below _ T (mkF m 90 #[.val (.int p1), .val (.int p2), .val (.int p3), .val (.int u0), .val (.int u1), .val (.int g0), .val (.int g1), .val (.int v0), .val (.int v1), .val (.int w0), .val (.int w1), .val (.int k1), .unset, .unset, .unset, .unset, .unset, .unset, .unset, .unset, .unset, .unset, .unset] [(.int (2 : Int32)), (.int p3)])
  refine Goes.of (fun _ => XS.iushr X.here hx rfl (hb hby at_90) rfl) ?_
  show Goes p e below _ T (mkF m 91 #[.val (.int p1), .val (.int p2), .val (.int p3), .val (.int u0), .val (.int u1), .val (.int g0), .val (.int g1), .val (.int v0), .val (.int v1), .val (.int w0), .val (.int w1), .val (.int k1), .unset, .unset, .unset, .unset, .unset, .unset, .unset, .unset, .unset, .unset, .unset] [(.int ((p3.toUInt32 >>> ((2 : Int32) &&& 31).toUInt32).toInt32))])
  refine Goes.of (fun _ => XS.iconst X.here hx rfl (hb hby at_91)) ?_
  show Goes p e below _ T (mkF m 92 #[.val (.int p1), .val (.int p2), .val (.int p3), .val (.int u0), .val (.int u1), .val (.int g0), .val (.int g1), .val (.int v0), .val (.int v1), .val (.int w0), .val (.int w1), .val (.int k1), .unset, .unset, .unset, .unset, .unset, .unset, .unset, .unset, .unset, .unset, .unset] [(.int (3 : Int32)), (.int ((p3.toUInt32 >>> ((2 : Int32) &&& 31).toUInt32).toInt32))])
  refine Goes.of (fun _ => XS.iand X.here hx rfl (hb hby at_92) rfl) ?_
  show Goes p e below _ T (mkF m 93 #[.val (.int p1), .val (.int p2), .val (.int p3), .val (.int u0), .val (.int u1), .val (.int g0), .val (.int g1), .val (.int v0), .val (.int v1), .val (.int w0), .val (.int w1), .val (.int k1), .unset, .unset, .unset, .unset, .unset, .unset, .unset, .unset, .unset, .unset, .unset] [(.int (((p3.toUInt32 >>> ((2 : Int32) &&& 31).toUInt32).toInt32) &&& (3 : Int32)))])
  refine Goes.of (fun _ => XS.iconst X.here hx rfl (hb hby at_93)) ?_
  show Goes p e below _ T (mkF m 94 #[.val (.int p1), .val (.int p2), .val (.int p3), .val (.int u0), .val (.int u1), .val (.int g0), .val (.int g1), .val (.int v0), .val (.int v1), .val (.int w0), .val (.int w1), .val (.int k1), .unset, .unset, .unset, .unset, .unset, .unset, .unset, .unset, .unset, .unset, .unset] [(.int (3 : Int32)), (.int (((p3.toUInt32 >>> ((2 : Int32) &&& 31).toUInt32).toInt32) &&& (3 : Int32)))])
  refine Goes.of (fun _ => XS.irem X.here hx rfl (hb hby at_94) rfl (by decide)) ?_
  show Goes p e below _ T (mkF m 95 #[.val (.int p1), .val (.int p2), .val (.int p3), .val (.int u0), .val (.int u1), .val (.int g0), .val (.int g1), .val (.int v0), .val (.int v1), .val (.int w0), .val (.int w1), .val (.int k1), .unset, .unset, .unset, .unset, .unset, .unset, .unset, .unset, .unset, .unset, .unset] [(.int ((((p3.toUInt32 >>> ((2 : Int32) &&& 31).toUInt32).toInt32) &&& (3 : Int32)) - ((((p3.toUInt32 >>> ((2 : Int32) &&& 31).toUInt32).toInt32) &&& (3 : Int32)) / (3 : Int32)) * (3 : Int32)))])
  refine Goes.of (fun _ => XS.istore X.here hx rfl (hb hby at_95) rfl (l' := #[.val (.int p1), .val (.int p2), .val (.int p3), .val (.int u0), .val (.int u1), .val (.int g0), .val (.int g1), .val (.int v0), .val (.int v1), .val (.int w0), .val (.int w1), .val (.int k1), .val (.int ((((p3.toUInt32 >>> ((2 : Int32) &&& 31).toUInt32).toInt32) &&& (3 : Int32)) - ((((p3.toUInt32 >>> ((2 : Int32) &&& 31).toUInt32).toInt32) &&& (3 : Int32)) / (3 : Int32)) * (3 : Int32))), .unset, .unset, .unset, .unset, .unset, .unset, .unset, .unset, .unset, .unset]) rfl) ?_
  show Goes p e below _ T (mkF m 97 #[.val (.int p1), .val (.int p2), .val (.int p3), .val (.int u0), .val (.int u1), .val (.int g0), .val (.int g1), .val (.int v0), .val (.int v1), .val (.int w0), .val (.int w1), .val (.int k1), .val (.int ((((p3.toUInt32 >>> ((2 : Int32) &&& 31).toUInt32).toInt32) &&& (3 : Int32)) - ((((p3.toUInt32 >>> ((2 : Int32) &&& 31).toUInt32).toInt32) &&& (3 : Int32)) / (3 : Int32)) * (3 : Int32))), .unset, .unset, .unset, .unset, .unset, .unset, .unset, .unset, .unset, .unset] [])
  generalize ek2 : ((((p3.toUInt32 >>> ((2 : Int32) &&& 31).toUInt32).toInt32) &&& (3 : Int32)) - ((((p3.toUInt32 >>> ((2 : Int32) &&& 31).toUInt32).toInt32) &&& (3 : Int32)) / (3 : Int32)) * (3 : Int32)) = k2
  show Goes p e below _ T (mkF m 97 #[.val (.int p1), .val (.int p2), .val (.int p3), .val (.int u0), .val (.int u1), .val (.int g0), .val (.int g1), .val (.int v0), .val (.int v1), .val (.int w0), .val (.int w1), .val (.int k1), .val (.int k2), .unset, .unset, .unset, .unset, .unset, .unset, .unset, .unset, .unset, .unset] [])
  have hk2 : 0 ≤ k2.toInt ∧ k2.toInt < 3 := ek2 ▸ len3 _
  show Goes p e below _ T (mkF m 97 #[.val (.int p1), .val (.int p2), .val (.int p3), .val (.int u0), .val (.int u1), .val (.int g0), .val (.int g1), .val (.int v0), .val (.int v1), .val (.int w0), .val (.int w1), .val (.int k1), .val (.int k2), .unset, .unset, .unset, .unset, .unset, .unset, .unset, .unset, .unset, .unset] [])
  refine Goes.of (fun _ => XS.iloadN X.here hx rfl (hb hby at_97) rfl) ?_
  show Goes p e below _ T (mkF m 98 #[.val (.int p1), .val (.int p2), .val (.int p3), .val (.int u0), .val (.int u1), .val (.int g0), .val (.int g1), .val (.int v0), .val (.int v1), .val (.int w0), .val (.int w1), .val (.int k1), .val (.int k2), .unset, .unset, .unset, .unset, .unset, .unset, .unset, .unset, .unset, .unset] [(.int p3)])
  refine Goes.of (fun _ => XS.iconst X.here hx rfl (hb hby at_98)) ?_
  show Goes p e below _ T (mkF m 99 #[.val (.int p1), .val (.int p2), .val (.int p3), .val (.int u0), .val (.int u1), .val (.int g0), .val (.int g1), .val (.int v0), .val (.int v1), .val (.int w0), .val (.int w1), .val (.int k1), .val (.int k2), .unset, .unset, .unset, .unset, .unset, .unset, .unset, .unset, .unset, .unset] [(.int (4 : Int32)), (.int p3)])
  refine Goes.of (fun _ => XS.iushr X.here hx rfl (hb hby at_99) rfl) ?_
  show Goes p e below _ T (mkF m 100 #[.val (.int p1), .val (.int p2), .val (.int p3), .val (.int u0), .val (.int u1), .val (.int g0), .val (.int g1), .val (.int v0), .val (.int v1), .val (.int w0), .val (.int w1), .val (.int k1), .val (.int k2), .unset, .unset, .unset, .unset, .unset, .unset, .unset, .unset, .unset, .unset] [(.int ((p3.toUInt32 >>> ((4 : Int32) &&& 31).toUInt32).toInt32))])
  refine Goes.of (fun _ => XS.iconst X.here hx rfl (hb hby at_100)) ?_
  show Goes p e below _ T (mkF m 101 #[.val (.int p1), .val (.int p2), .val (.int p3), .val (.int u0), .val (.int u1), .val (.int g0), .val (.int g1), .val (.int v0), .val (.int v1), .val (.int w0), .val (.int w1), .val (.int k1), .val (.int k2), .unset, .unset, .unset, .unset, .unset, .unset, .unset, .unset, .unset, .unset] [(.int (3 : Int32)), (.int ((p3.toUInt32 >>> ((4 : Int32) &&& 31).toUInt32).toInt32))])
  refine Goes.of (fun _ => XS.iand X.here hx rfl (hb hby at_101) rfl) ?_
  show Goes p e below _ T (mkF m 102 #[.val (.int p1), .val (.int p2), .val (.int p3), .val (.int u0), .val (.int u1), .val (.int g0), .val (.int g1), .val (.int v0), .val (.int v1), .val (.int w0), .val (.int w1), .val (.int k1), .val (.int k2), .unset, .unset, .unset, .unset, .unset, .unset, .unset, .unset, .unset, .unset] [(.int (((p3.toUInt32 >>> ((4 : Int32) &&& 31).toUInt32).toInt32) &&& (3 : Int32)))])
  refine Goes.of (fun _ => XS.iconst X.here hx rfl (hb hby at_102)) ?_
  show Goes p e below _ T (mkF m 103 #[.val (.int p1), .val (.int p2), .val (.int p3), .val (.int u0), .val (.int u1), .val (.int g0), .val (.int g1), .val (.int v0), .val (.int v1), .val (.int w0), .val (.int w1), .val (.int k1), .val (.int k2), .unset, .unset, .unset, .unset, .unset, .unset, .unset, .unset, .unset, .unset] [(.int (3 : Int32)), (.int (((p3.toUInt32 >>> ((4 : Int32) &&& 31).toUInt32).toInt32) &&& (3 : Int32)))])
  refine Goes.of (fun _ => XS.irem X.here hx rfl (hb hby at_103) rfl (by decide)) ?_
  show Goes p e below _ T (mkF m 104 #[.val (.int p1), .val (.int p2), .val (.int p3), .val (.int u0), .val (.int u1), .val (.int g0), .val (.int g1), .val (.int v0), .val (.int v1), .val (.int w0), .val (.int w1), .val (.int k1), .val (.int k2), .unset, .unset, .unset, .unset, .unset, .unset, .unset, .unset, .unset, .unset] [(.int ((((p3.toUInt32 >>> ((4 : Int32) &&& 31).toUInt32).toInt32) &&& (3 : Int32)) - ((((p3.toUInt32 >>> ((4 : Int32) &&& 31).toUInt32).toInt32) &&& (3 : Int32)) / (3 : Int32)) * (3 : Int32)))])
  refine Goes.of (fun _ => XS.istore X.here hx rfl (hb hby at_104) rfl (l' := #[.val (.int p1), .val (.int p2), .val (.int p3), .val (.int u0), .val (.int u1), .val (.int g0), .val (.int g1), .val (.int v0), .val (.int v1), .val (.int w0), .val (.int w1), .val (.int k1), .val (.int k2), .val (.int ((((p3.toUInt32 >>> ((4 : Int32) &&& 31).toUInt32).toInt32) &&& (3 : Int32)) - ((((p3.toUInt32 >>> ((4 : Int32) &&& 31).toUInt32).toInt32) &&& (3 : Int32)) / (3 : Int32)) * (3 : Int32))), .unset, .unset, .unset, .unset, .unset, .unset, .unset, .unset, .unset]) rfl) ?_
  show Goes p e below _ T (mkF m 106 #[.val (.int p1), .val (.int p2), .val (.int p3), .val (.int u0), .val (.int u1), .val (.int g0), .val (.int g1), .val (.int v0), .val (.int v1), .val (.int w0), .val (.int w1), .val (.int k1), .val (.int k2), .val (.int ((((p3.toUInt32 >>> ((4 : Int32) &&& 31).toUInt32).toInt32) &&& (3 : Int32)) - ((((p3.toUInt32 >>> ((4 : Int32) &&& 31).toUInt32).toInt32) &&& (3 : Int32)) / (3 : Int32)) * (3 : Int32))), .unset, .unset, .unset, .unset, .unset, .unset, .unset, .unset, .unset] [])
  generalize em1 : ((((p3.toUInt32 >>> ((4 : Int32) &&& 31).toUInt32).toInt32) &&& (3 : Int32)) - ((((p3.toUInt32 >>> ((4 : Int32) &&& 31).toUInt32).toInt32) &&& (3 : Int32)) / (3 : Int32)) * (3 : Int32)) = m1
  show Goes p e below _ T (mkF m 106 #[.val (.int p1), .val (.int p2), .val (.int p3), .val (.int u0), .val (.int u1), .val (.int g0), .val (.int g1), .val (.int v0), .val (.int v1), .val (.int w0), .val (.int w1), .val (.int k1), .val (.int k2), .val (.int m1), .unset, .unset, .unset, .unset, .unset, .unset, .unset, .unset, .unset] [])
  have hm1 : 0 ≤ m1.toInt ∧ m1.toInt < 3 := em1 ▸ len3 _
  show Goes p e below _ T (mkF m 106 #[.val (.int p1), .val (.int p2), .val (.int p3), .val (.int u0), .val (.int u1), .val (.int g0), .val (.int g1), .val (.int v0), .val (.int v1), .val (.int w0), .val (.int w1), .val (.int k1), .val (.int k2), .val (.int m1), .unset, .unset, .unset, .unset, .unset, .unset, .unset, .unset, .unset] [])
  refine Goes.of (fun _ => XS.iloadN X.here hx rfl (hb hby at_106) rfl) ?_
  show Goes p e below _ T (mkF m 107 #[.val (.int p1), .val (.int p2), .val (.int p3), .val (.int u0), .val (.int u1), .val (.int g0), .val (.int g1), .val (.int v0), .val (.int v1), .val (.int w0), .val (.int w1), .val (.int k1), .val (.int k2), .val (.int m1), .unset, .unset, .unset, .unset, .unset, .unset, .unset, .unset, .unset] [(.int p3)])
  refine Goes.of (fun _ => XS.bipush X.here hx rfl (hb hby at_107)) ?_
  show Goes p e below _ T (mkF m 109 #[.val (.int p1), .val (.int p2), .val (.int p3), .val (.int u0), .val (.int u1), .val (.int g0), .val (.int g1), .val (.int v0), .val (.int v1), .val (.int w0), .val (.int w1), .val (.int k1), .val (.int k2), .val (.int m1), .unset, .unset, .unset, .unset, .unset, .unset, .unset, .unset, .unset] [(.int (6 : Int32)), (.int p3)])
  refine Goes.of (fun _ => XS.iushr X.here hx rfl (hb hby at_109) rfl) ?_
  show Goes p e below _ T (mkF m 110 #[.val (.int p1), .val (.int p2), .val (.int p3), .val (.int u0), .val (.int u1), .val (.int g0), .val (.int g1), .val (.int v0), .val (.int v1), .val (.int w0), .val (.int w1), .val (.int k1), .val (.int k2), .val (.int m1), .unset, .unset, .unset, .unset, .unset, .unset, .unset, .unset, .unset] [(.int ((p3.toUInt32 >>> ((6 : Int32) &&& 31).toUInt32).toInt32))])
  refine Goes.of (fun _ => XS.iconst X.here hx rfl (hb hby at_110)) ?_
  show Goes p e below _ T (mkF m 111 #[.val (.int p1), .val (.int p2), .val (.int p3), .val (.int u0), .val (.int u1), .val (.int g0), .val (.int g1), .val (.int v0), .val (.int v1), .val (.int w0), .val (.int w1), .val (.int k1), .val (.int k2), .val (.int m1), .unset, .unset, .unset, .unset, .unset, .unset, .unset, .unset, .unset] [(.int (3 : Int32)), (.int ((p3.toUInt32 >>> ((6 : Int32) &&& 31).toUInt32).toInt32))])
  refine Goes.of (fun _ => XS.iand X.here hx rfl (hb hby at_111) rfl) ?_
  show Goes p e below _ T (mkF m 112 #[.val (.int p1), .val (.int p2), .val (.int p3), .val (.int u0), .val (.int u1), .val (.int g0), .val (.int g1), .val (.int v0), .val (.int v1), .val (.int w0), .val (.int w1), .val (.int k1), .val (.int k2), .val (.int m1), .unset, .unset, .unset, .unset, .unset, .unset, .unset, .unset, .unset] [(.int (((p3.toUInt32 >>> ((6 : Int32) &&& 31).toUInt32).toInt32) &&& (3 : Int32)))])
  refine Goes.of (fun _ => XS.iconst X.here hx rfl (hb hby at_112)) ?_
  show Goes p e below _ T (mkF m 113 #[.val (.int p1), .val (.int p2), .val (.int p3), .val (.int u0), .val (.int u1), .val (.int g0), .val (.int g1), .val (.int v0), .val (.int v1), .val (.int w0), .val (.int w1), .val (.int k1), .val (.int k2), .val (.int m1), .unset, .unset, .unset, .unset, .unset, .unset, .unset, .unset, .unset] [(.int (3 : Int32)), (.int (((p3.toUInt32 >>> ((6 : Int32) &&& 31).toUInt32).toInt32) &&& (3 : Int32)))])
  refine Goes.of (fun _ => XS.irem X.here hx rfl (hb hby at_113) rfl (by decide)) ?_
  show Goes p e below _ T (mkF m 114 #[.val (.int p1), .val (.int p2), .val (.int p3), .val (.int u0), .val (.int u1), .val (.int g0), .val (.int g1), .val (.int v0), .val (.int v1), .val (.int w0), .val (.int w1), .val (.int k1), .val (.int k2), .val (.int m1), .unset, .unset, .unset, .unset, .unset, .unset, .unset, .unset, .unset] [(.int ((((p3.toUInt32 >>> ((6 : Int32) &&& 31).toUInt32).toInt32) &&& (3 : Int32)) - ((((p3.toUInt32 >>> ((6 : Int32) &&& 31).toUInt32).toInt32) &&& (3 : Int32)) / (3 : Int32)) * (3 : Int32)))])
  refine Goes.of (fun _ => XS.istore X.here hx rfl (hb hby at_114) rfl (l' := #[.val (.int p1), .val (.int p2), .val (.int p3), .val (.int u0), .val (.int u1), .val (.int g0), .val (.int g1), .val (.int v0), .val (.int v1), .val (.int w0), .val (.int w1), .val (.int k1), .val (.int k2), .val (.int m1), .val (.int ((((p3.toUInt32 >>> ((6 : Int32) &&& 31).toUInt32).toInt32) &&& (3 : Int32)) - ((((p3.toUInt32 >>> ((6 : Int32) &&& 31).toUInt32).toInt32) &&& (3 : Int32)) / (3 : Int32)) * (3 : Int32))), .unset, .unset, .unset, .unset, .unset, .unset, .unset, .unset]) rfl) ?_
  show Goes p e below _ T (mkF m 116 #[.val (.int p1), .val (.int p2), .val (.int p3), .val (.int u0), .val (.int u1), .val (.int g0), .val (.int g1), .val (.int v0), .val (.int v1), .val (.int w0), .val (.int w1), .val (.int k1), .val (.int k2), .val (.int m1), .val (.int ((((p3.toUInt32 >>> ((6 : Int32) &&& 31).toUInt32).toInt32) &&& (3 : Int32)) - ((((p3.toUInt32 >>> ((6 : Int32) &&& 31).toUInt32).toInt32) &&& (3 : Int32)) / (3 : Int32)) * (3 : Int32))), .unset, .unset, .unset, .unset, .unset, .unset, .unset, .unset] [])
  generalize em2 : ((((p3.toUInt32 >>> ((6 : Int32) &&& 31).toUInt32).toInt32) &&& (3 : Int32)) - ((((p3.toUInt32 >>> ((6 : Int32) &&& 31).toUInt32).toInt32) &&& (3 : Int32)) / (3 : Int32)) * (3 : Int32)) = m2
  show Goes p e below _ T (mkF m 116 #[.val (.int p1), .val (.int p2), .val (.int p3), .val (.int u0), .val (.int u1), .val (.int g0), .val (.int g1), .val (.int v0), .val (.int v1), .val (.int w0), .val (.int w1), .val (.int k1), .val (.int k2), .val (.int m1), .val (.int m2), .unset, .unset, .unset, .unset, .unset, .unset, .unset, .unset] [])
  have hm2 : 0 ≤ m2.toInt ∧ m2.toInt < 3 := em2 ▸ len3 _
  show Goes p e below _ T (mkF m 116 #[.val (.int p1), .val (.int p2), .val (.int p3), .val (.int u0), .val (.int u1), .val (.int g0), .val (.int g1), .val (.int v0), .val (.int v1), .val (.int w0), .val (.int w1), .val (.int k1), .val (.int k2), .val (.int m1), .val (.int m2), .unset, .unset, .unset, .unset, .unset, .unset, .unset, .unset] [])
  refine Goes.of (fun _ => XS.iloadN X.here hx rfl (hb hby at_116) rfl) ?_
  show Goes p e below _ T (mkF m 117 #[.val (.int p1), .val (.int p2), .val (.int p3), .val (.int u0), .val (.int u1), .val (.int g0), .val (.int g1), .val (.int v0), .val (.int v1), .val (.int w0), .val (.int w1), .val (.int k1), .val (.int k2), .val (.int m1), .val (.int m2), .unset, .unset, .unset, .unset, .unset, .unset, .unset, .unset] [(.int p3)])
  refine Goes.of (fun _ => XS.bipush X.here hx rfl (hb hby at_117)) ?_
  show Goes p e below _ T (mkF m 119 #[.val (.int p1), .val (.int p2), .val (.int p3), .val (.int u0), .val (.int u1), .val (.int g0), .val (.int g1), .val (.int v0), .val (.int v1), .val (.int w0), .val (.int w1), .val (.int k1), .val (.int k2), .val (.int m1), .val (.int m2), .unset, .unset, .unset, .unset, .unset, .unset, .unset, .unset] [(.int (8 : Int32)), (.int p3)])
  refine Goes.of (fun _ => XS.iushr X.here hx rfl (hb hby at_119) rfl) ?_
  show Goes p e below _ T (mkF m 120 #[.val (.int p1), .val (.int p2), .val (.int p3), .val (.int u0), .val (.int u1), .val (.int g0), .val (.int g1), .val (.int v0), .val (.int v1), .val (.int w0), .val (.int w1), .val (.int k1), .val (.int k2), .val (.int m1), .val (.int m2), .unset, .unset, .unset, .unset, .unset, .unset, .unset, .unset] [(.int ((p3.toUInt32 >>> ((8 : Int32) &&& 31).toUInt32).toInt32))])
  refine Goes.of (fun _ => XS.iconst X.here hx rfl (hb hby at_120)) ?_
  show Goes p e below _ T (mkF m 121 #[.val (.int p1), .val (.int p2), .val (.int p3), .val (.int u0), .val (.int u1), .val (.int g0), .val (.int g1), .val (.int v0), .val (.int v1), .val (.int w0), .val (.int w1), .val (.int k1), .val (.int k2), .val (.int m1), .val (.int m2), .unset, .unset, .unset, .unset, .unset, .unset, .unset, .unset] [(.int (1 : Int32)), (.int ((p3.toUInt32 >>> ((8 : Int32) &&& 31).toUInt32).toInt32))])
  refine Goes.of (fun _ => XS.iand X.here hx rfl (hb hby at_121) rfl) ?_
  show Goes p e below _ T (mkF m 122 #[.val (.int p1), .val (.int p2), .val (.int p3), .val (.int u0), .val (.int u1), .val (.int g0), .val (.int g1), .val (.int v0), .val (.int v1), .val (.int w0), .val (.int w1), .val (.int k1), .val (.int k2), .val (.int m1), .val (.int m2), .unset, .unset, .unset, .unset, .unset, .unset, .unset, .unset] [(.int (((p3.toUInt32 >>> ((8 : Int32) &&& 31).toUInt32).toInt32) &&& (1 : Int32)))])
  refine Goes.of (T' := T) (f' := (mkF m 132 #[.val (.int p1), .val (.int p2), .val (.int p3), .val (.int u0), .val (.int u1), .val (.int g0), .val (.int g1), .val (.int (if (((p3.toUInt32 >>> ((8 : Int32) &&& 31).toUInt32).toInt32) &&& (1 : Int32)) = (0 : Int32) then v0 else u0)), .val (.int (if (((p3.toUInt32 >>> ((8 : Int32) &&& 31).toUInt32).toInt32) &&& (1 : Int32)) = (0 : Int32) then v1 else u1)), .val (.int w0), .val (.int w1), .val (.int k1), .val (.int k2), .val (.int m1), .val (.int m2), .unset, .unset, .unset, .unset, .unset, .unset, .unset, .unset] [])) (fun t kt => ?_) ?_
  · show Steps p.tables e below (T.setTop (mkF m 122 #[.val (.int p1), .val (.int p2), .val (.int p3), .val (.int u0), .val (.int u1), .val (.int g0), .val (.int g1), .val (.int v0), .val (.int v1), .val (.int w0), .val (.int w1), .val (.int k1), .val (.int k2), .val (.int m1), .val (.int m2), .unset, .unset, .unset, .unset, .unset, .unset, .unset, .unset] [(.int (((p3.toUInt32 >>> ((8 : Int32) &&& 31).toUInt32).toInt32) &&& (1 : Int32)))])) _
    by_cases hq122 : (((p3.toUInt32 >>> ((8 : Int32) &&& 31).toUInt32).toInt32) &&& (1 : Int32)) = (0 : Int32)
    · simp only [if_pos hq122] at kt
      refine XS.ifYes X.here hx rfl (pc0 := 122) (pc' := 132) rfl (hb hby at_122) rfl ((if0 _ _).trans (teq hq122).1) (by decide) (by decide) ?_
      show Steps p.tables e below (T.setTop (mkF m 132 #[.val (.int p1), .val (.int p2), .val (.int p3), .val (.int u0), .val (.int u1), .val (.int g0), .val (.int g1), .val (.int v0), .val (.int v1), .val (.int w0), .val (.int w1), .val (.int k1), .val (.int k2), .val (.int m1), .val (.int m2), .unset, .unset, .unset, .unset, .unset, .unset, .unset, .unset] [])) _
      exact kt
    · simp only [if_neg hq122] at kt
      refine XS.ifNo X.here hx rfl (hb hby at_122) rfl ((if0 _ _).trans (feq hq122).1) ?_
      show Steps p.tables e below (T.setTop (mkF m 125 #[.val (.int p1), .val (.int p2), .val (.int p3), .val (.int u0), .val (.int u1), .val (.int g0), .val (.int g1), .val (.int v0), .val (.int v1), .val (.int w0), .val (.int w1), .val (.int k1), .val (.int k2), .val (.int m1), .val (.int m2), .unset, .unset, .unset, .unset, .unset, .unset, .unset, .unset] [])) _
      refine XS.iloadN X.here hx rfl (hb hby at_125) rfl ?_
      show Steps p.tables e below (T.setTop (mkF m 126 #[.val (.int p1), .val (.int p2), .val (.int p3), .val (.int u0), .val (.int u1), .val (.int g0), .val (.int g1), .val (.int v0), .val (.int v1), .val (.int w0), .val (.int w1), .val (.int k1), .val (.int k2), .val (.int m1), .val (.int m2), .unset, .unset, .unset, .unset, .unset, .unset, .unset, .unset] [(.int u0)])) _
      refine XS.istore X.here hx rfl (hb hby at_126) rfl (l' := #[.val (.int p1), .val (.int p2), .val (.int p3), .val (.int u0), .val (.int u1), .val (.int g0), .val (.int g1), .val (.int u0), .val (.int v1), .val (.int w0), .val (.int w1), .val (.int k1), .val (.int k2), .val (.int m1), .val (.int m2), .unset, .unset, .unset, .unset, .unset, .unset, .unset, .unset]) rfl ?_
      show Steps p.tables e below (T.setTop (mkF m 128 #[.val (.int p1), .val (.int p2), .val (.int p3), .val (.int u0), .val (.int u1), .val (.int g0), .val (.int g1), .val (.int u0), .val (.int v1), .val (.int w0), .val (.int w1), .val (.int k1), .val (.int k2), .val (.int m1), .val (.int m2), .unset, .unset, .unset, .unset, .unset, .unset, .unset, .unset] [])) _
      refine XS.iload X.here hx rfl (hb hby at_128) rfl ?_
      show Steps p.tables e below (T.setTop (mkF m 130 #[.val (.int p1), .val (.int p2), .val (.int p3), .val (.int u0), .val (.int u1), .val (.int g0), .val (.int g1), .val (.int u0), .val (.int v1), .val (.int w0), .val (.int w1), .val (.int k1), .val (.int k2), .val (.int m1), .val (.int m2), .unset, .unset, .unset, .unset, .unset, .unset, .unset, .unset] [(.int u1)])) _
      refine XS.istore X.here hx rfl (hb hby at_130) rfl (l' := #[.val (.int p1), .val (.int p2), .val (.int p3), .val (.int u0), .val (.int u1), .val (.int g0), .val (.int g1), .val (.int u0), .val (.int u1), .val (.int w0), .val (.int w1), .val (.int k1), .val (.int k2), .val (.int m1), .val (.int m2), .unset, .unset, .unset, .unset, .unset, .unset, .unset, .unset]) rfl ?_
      show Steps p.tables e below (T.setTop (mkF m 132 #[.val (.int p1), .val (.int p2), .val (.int p3), .val (.int u0), .val (.int u1), .val (.int g0), .val (.int g1), .val (.int u0), .val (.int u1), .val (.int w0), .val (.int w1), .val (.int k1), .val (.int k2), .val (.int m1), .val (.int m2), .unset, .unset, .unset, .unset, .unset, .unset, .unset, .unset] [])) _
      exact kt
  show Goes p e below _ T (mkF m 132 #[.val (.int p1), .val (.int p2), .val (.int p3), .val (.int u0), .val (.int u1), .val (.int g0), .val (.int g1), .val (.int (if (((p3.toUInt32 >>> ((8 : Int32) &&& 31).toUInt32).toInt32) &&& (1 : Int32)) = (0 : Int32) then v0 else u0)), .val (.int (if (((p3.toUInt32 >>> ((8 : Int32) &&& 31).toUInt32).toInt32) &&& (1 : Int32)) = (0 : Int32) then v1 else u1)), .val (.int w0), .val (.int w1), .val (.int k1), .val (.int k2), .val (.int m1), .val (.int m2), .unset, .unset, .unset, .unset, .unset, .unset, .unset, .unset] [])
  generalize ey0 : (if (((p3.toUInt32 >>> ((8 : Int32) &&& 31).toUInt32).toInt32) &&& (1 : Int32)) = (0 : Int32) then v0 else u0) = y0
  show Goes p e below _ T (mkF m 132 #[.val (.int p1), .val (.int p2), .val (.int p3), .val (.int u0), .val (.int u1), .val (.int g0), .val (.int g1), .val (.int y0), .val (.int (if (((p3.toUInt32 >>> ((8 : Int32) &&& 31).toUInt32).toInt32) &&& (1 : Int32)) = (0 : Int32) then v1 else u1)), .val (.int w0), .val (.int w1), .val (.int k1), .val (.int k2), .val (.int m1), .val (.int m2), .unset, .unset, .unset, .unset, .unset, .unset, .unset, .unset] [])
  have hy0 : ¬ y0 < 0 ∧ ¬ (255 : Int32) < y0 := by rw [← ey0]; split; (· exact hv0); (· exact hu0)
  generalize ey1 : (if (((p3.toUInt32 >>> ((8 : Int32) &&& 31).toUInt32).toInt32) &&& (1 : Int32)) = (0 : Int32) then v1 else u1) = y1
  show Goes p e below _ T (mkF m 132 #[.val (.int p1), .val (.int p2), .val (.int p3), .val (.int u0), .val (.int u1), .val (.int g0), .val (.int g1), .val (.int y0), .val (.int y1), .val (.int w0), .val (.int w1), .val (.int k1), .val (.int k2), .val (.int m1), .val (.int m2), .unset, .unset, .unset, .unset, .unset, .unset, .unset, .unset] [])
  have hy1 : ¬ y1 < 0 ∧ ¬ (255 : Int32) < y1 := by rw [← ey1]; split; (· exact hv1); (· exact hu1)
  show Goes p e below _ T (mkF m 132 #[.val (.int p1), .val (.int p2), .val (.int p3), .val (.int u0), .val (.int u1), .val (.int g0), .val (.int g1), .val (.int y0), .val (.int y1), .val (.int w0), .val (.int w1), .val (.int k1), .val (.int k2), .val (.int m1), .val (.int m2), .unset, .unset, .unset, .unset, .unset, .unset, .unset, .unset] [])
  refine Goes.of (fun _ => XS.iloadN X.here hx rfl (hb hby at_132) rfl) ?_
  show Goes p e below _ T (mkF m 133 #[.val (.int p1), .val (.int p2), .val (.int p3), .val (.int u0), .val (.int u1), .val (.int g0), .val (.int g1), .val (.int y0), .val (.int y1), .val (.int w0), .val (.int w1), .val (.int k1), .val (.int k2), .val (.int m1), .val (.int m2), .unset, .unset, .unset, .unset, .unset, .unset, .unset, .unset] [(.int p3)])
  refine Goes.of (fun _ => XS.bipush X.here hx rfl (hb hby at_133)) ?_
  show Goes p e below _ T (mkF m 135 #[.val (.int p1), .val (.int p2), .val (.int p3), .val (.int u0), .val (.int u1), .val (.int g0), .val (.int g1), .val (.int y0), .val (.int y1), .val (.int w0), .val (.int w1), .val (.int k1), .val (.int k2), .val (.int m1), .val (.int m2), .unset, .unset, .unset, .unset, .unset, .unset, .unset, .unset] [(.int (9 : Int32)), (.int p3)])
  refine Goes.of (fun _ => XS.iushr X.here hx rfl (hb hby at_135) rfl) ?_
  show Goes p e below _ T (mkF m 136 #[.val (.int p1), .val (.int p2), .val (.int p3), .val (.int u0), .val (.int u1), .val (.int g0), .val (.int g1), .val (.int y0), .val (.int y1), .val (.int w0), .val (.int w1), .val (.int k1), .val (.int k2), .val (.int m1), .val (.int m2), .unset, .unset, .unset, .unset, .unset, .unset, .unset, .unset] [(.int ((p3.toUInt32 >>> ((9 : Int32) &&& 31).toUInt32).toInt32))])
  refine Goes.of (fun _ => XS.iconst X.here hx rfl (hb hby at_136)) ?_
  show Goes p e below _ T (mkF m 137 #[.val (.int p1), .val (.int p2), .val (.int p3), .val (.int u0), .val (.int u1), .val (.int g0), .val (.int g1), .val (.int y0), .val (.int y1), .val (.int w0), .val (.int w1), .val (.int k1), .val (.int k2), .val (.int m1), .val (.int m2), .unset, .unset, .unset, .unset, .unset, .unset, .unset, .unset] [(.int (1 : Int32)), (.int ((p3.toUInt32 >>> ((9 : Int32) &&& 31).toUInt32).toInt32))])
  refine Goes.of (fun _ => XS.iand X.here hx rfl (hb hby at_137) rfl) ?_
  show Goes p e below _ T (mkF m 138 #[.val (.int p1), .val (.int p2), .val (.int p3), .val (.int u0), .val (.int u1), .val (.int g0), .val (.int g1), .val (.int y0), .val (.int y1), .val (.int w0), .val (.int w1), .val (.int k1), .val (.int k2), .val (.int m1), .val (.int m2), .unset, .unset, .unset, .unset, .unset, .unset, .unset, .unset] [(.int (((p3.toUInt32 >>> ((9 : Int32) &&& 31).toUInt32).toInt32) &&& (1 : Int32)))])
  refine Goes.of (T' := T) (f' := (mkF m 149 #[.val (.int p1), .val (.int p2), .val (.int p3), .val (.int u0), .val (.int u1), .val (.int g0), .val (.int g1), .val (.int y0), .val (.int y1), .val (.int (if (((p3.toUInt32 >>> ((9 : Int32) &&& 31).toUInt32).toInt32) &&& (1 : Int32)) = (0 : Int32) then w0 else g0)), .val (.int (if (((p3.toUInt32 >>> ((9 : Int32) &&& 31).toUInt32).toInt32) &&& (1 : Int32)) = (0 : Int32) then w1 else g1)), .val (.int k1), .val (.int k2), .val (.int m1), .val (.int m2), .unset, .unset, .unset, .unset, .unset, .unset, .unset, .unset] [])) (fun t kt => ?_) ?_
  · show Steps p.tables e below (T.setTop (mkF m 138 #[.val (.int p1), .val (.int p2), .val (.int p3), .val (.int u0), .val (.int u1), .val (.int g0), .val (.int g1), .val (.int y0), .val (.int y1), .val (.int w0), .val (.int w1), .val (.int k1), .val (.int k2), .val (.int m1), .val (.int m2), .unset, .unset, .unset, .unset, .unset, .unset, .unset, .unset] [(.int (((p3.toUInt32 >>> ((9 : Int32) &&& 31).toUInt32).toInt32) &&& (1 : Int32)))])) _
    by_cases hq138 : (((p3.toUInt32 >>> ((9 : Int32) &&& 31).toUInt32).toInt32) &&& (1 : Int32)) = (0 : Int32)
    · simp only [if_pos hq138] at kt
      refine XS.ifYes X.here hx rfl (pc0 := 138) (pc' := 149) rfl (hb hby at_138) rfl ((if0 _ _).trans (teq hq138).1) (by decide) (by decide) ?_
      show Steps p.tables e below (T.setTop (mkF m 149 #[.val (.int p1), .val (.int p2), .val (.int p3), .val (.int u0), .val (.int u1), .val (.int g0), .val (.int g1), .val (.int y0), .val (.int y1), .val (.int w0), .val (.int w1), .val (.int k1), .val (.int k2), .val (.int m1), .val (.int m2), .unset, .unset, .unset, .unset, .unset, .unset, .unset, .unset] [])) _
      exact kt
    · simp only [if_neg hq138] at kt
      refine XS.ifNo X.here hx rfl (hb hby at_138) rfl ((if0 _ _).trans (feq hq138).1) ?_
      show Steps p.tables e below (T.setTop (mkF m 141 #[.val (.int p1), .val (.int p2), .val (.int p3), .val (.int u0), .val (.int u1), .val (.int g0), .val (.int g1), .val (.int y0), .val (.int y1), .val (.int w0), .val (.int w1), .val (.int k1), .val (.int k2), .val (.int m1), .val (.int m2), .unset, .unset, .unset, .unset, .unset, .unset, .unset, .unset] [])) _
      refine XS.iload X.here hx rfl (hb hby at_141) rfl ?_
      show Steps p.tables e below (T.setTop (mkF m 143 #[.val (.int p1), .val (.int p2), .val (.int p3), .val (.int u0), .val (.int u1), .val (.int g0), .val (.int g1), .val (.int y0), .val (.int y1), .val (.int w0), .val (.int w1), .val (.int k1), .val (.int k2), .val (.int m1), .val (.int m2), .unset, .unset, .unset, .unset, .unset, .unset, .unset, .unset] [(.int g0)])) _
      refine XS.istore X.here hx rfl (hb hby at_143) rfl (l' := #[.val (.int p1), .val (.int p2), .val (.int p3), .val (.int u0), .val (.int u1), .val (.int g0), .val (.int g1), .val (.int y0), .val (.int y1), .val (.int g0), .val (.int w1), .val (.int k1), .val (.int k2), .val (.int m1), .val (.int m2), .unset, .unset, .unset, .unset, .unset, .unset, .unset, .unset]) rfl ?_
      show Steps p.tables e below (T.setTop (mkF m 145 #[.val (.int p1), .val (.int p2), .val (.int p3), .val (.int u0), .val (.int u1), .val (.int g0), .val (.int g1), .val (.int y0), .val (.int y1), .val (.int g0), .val (.int w1), .val (.int k1), .val (.int k2), .val (.int m1), .val (.int m2), .unset, .unset, .unset, .unset, .unset, .unset, .unset, .unset] [])) _
      refine XS.iload X.here hx rfl (hb hby at_145) rfl ?_
      show Steps p.tables e below (T.setTop (mkF m 147 #[.val (.int p1), .val (.int p2), .val (.int p3), .val (.int u0), .val (.int u1), .val (.int g0), .val (.int g1), .val (.int y0), .val (.int y1), .val (.int g0), .val (.int w1), .val (.int k1), .val (.int k2), .val (.int m1), .val (.int m2), .unset, .unset, .unset, .unset, .unset, .unset, .unset, .unset] [(.int g1)])) _
      refine XS.istore X.here hx rfl (hb hby at_147) rfl (l' := #[.val (.int p1), .val (.int p2), .val (.int p3), .val (.int u0), .val (.int u1), .val (.int g0), .val (.int g1), .val (.int y0), .val (.int y1), .val (.int g0), .val (.int g1), .val (.int k1), .val (.int k2), .val (.int m1), .val (.int m2), .unset, .unset, .unset, .unset, .unset, .unset, .unset, .unset]) rfl ?_
      show Steps p.tables e below (T.setTop (mkF m 149 #[.val (.int p1), .val (.int p2), .val (.int p3), .val (.int u0), .val (.int u1), .val (.int g0), .val (.int g1), .val (.int y0), .val (.int y1), .val (.int g0), .val (.int g1), .val (.int k1), .val (.int k2), .val (.int m1), .val (.int m2), .unset, .unset, .unset, .unset, .unset, .unset, .unset, .unset] [])) _
      exact kt
  show Goes p e below _ T (mkF m 149 #[.val (.int p1), .val (.int p2), .val (.int p3), .val (.int u0), .val (.int u1), .val (.int g0), .val (.int g1), .val (.int y0), .val (.int y1), .val (.int (if (((p3.toUInt32 >>> ((9 : Int32) &&& 31).toUInt32).toInt32) &&& (1 : Int32)) = (0 : Int32) then w0 else g0)), .val (.int (if (((p3.toUInt32 >>> ((9 : Int32) &&& 31).toUInt32).toInt32) &&& (1 : Int32)) = (0 : Int32) then w1 else g1)), .val (.int k1), .val (.int k2), .val (.int m1), .val (.int m2), .unset, .unset, .unset, .unset, .unset, .unset, .unset, .unset] [])
  generalize ez0 : (if (((p3.toUInt32 >>> ((9 : Int32) &&& 31).toUInt32).toInt32) &&& (1 : Int32)) = (0 : Int32) then w0 else g0) = z0
  show Goes p e below _ T (mkF m 149 #[.val (.int p1), .val (.int p2), .val (.int p3), .val (.int u0), .val (.int u1), .val (.int g0), .val (.int g1), .val (.int y0), .val (.int y1), .val (.int z0), .val (.int (if (((p3.toUInt32 >>> ((9 : Int32) &&& 31).toUInt32).toInt32) &&& (1 : Int32)) = (0 : Int32) then w1 else g1)), .val (.int k1), .val (.int k2), .val (.int m1), .val (.int m2), .unset, .unset, .unset, .unset, .unset, .unset, .unset, .unset] [])
  have hz0 : ¬ z0 < 0 ∧ ¬ (255 : Int32) < z0 := by rw [← ez0]; split; (· exact hw0); (· exact hg0)
  generalize ez1 : (if (((p3.toUInt32 >>> ((9 : Int32) &&& 31).toUInt32).toInt32) &&& (1 : Int32)) = (0 : Int32) then w1 else g1) = z1
  show Goes p e below _ T (mkF m 149 #[.val (.int p1), .val (.int p2), .val (.int p3), .val (.int u0), .val (.int u1), .val (.int g0), .val (.int g1), .val (.int y0), .val (.int y1), .val (.int z0), .val (.int z1), .val (.int k1), .val (.int k2), .val (.int m1), .val (.int m2), .unset, .unset, .unset, .unset, .unset, .unset, .unset, .unset] [])
  have hz1 : ¬ z1 < 0 ∧ ¬ (255 : Int32) < z1 := by rw [← ez1]; split; (· exact hw1); (· exact hg1)
  show Goes p e below _ T (mkF m 149 #[.val (.int p1), .val (.int p2), .val (.int p3), .val (.int u0), .val (.int u1), .val (.int g0), .val (.int g1), .val (.int y0), .val (.int y1), .val (.int z0), .val (.int z1), .val (.int k1), .val (.int k2), .val (.int m1), .val (.int m2), .unset, .unset, .unset, .unset, .unset, .unset, .unset, .unset] [])
  refine Goes.of (fun _ => XS.iloadN X.here hx rfl (hb hby at_149) rfl) ?_
  show Goes p e below _ T (mkF m 150 #[.val (.int p1), .val (.int p2), .val (.int p3), .val (.int u0), .val (.int u1), .val (.int g0), .val (.int g1), .val (.int y0), .val (.int y1), .val (.int z0), .val (.int z1), .val (.int k1), .val (.int k2), .val (.int m1), .val (.int m2), .unset, .unset, .unset, .unset, .unset, .unset, .unset, .unset] [(.int p3)])
  refine Goes.of (fun _ => XS.bipush X.here hx rfl (hb hby at_150)) ?_
  show Goes p e below _ T (mkF m 152 #[.val (.int p1), .val (.int p2), .val (.int p3), .val (.int u0), .val (.int u1), .val (.int g0), .val (.int g1), .val (.int y0), .val (.int y1), .val (.int z0), .val (.int z1), .val (.int k1), .val (.int k2), .val (.int m1), .val (.int m2), .unset, .unset, .unset, .unset, .unset, .unset, .unset, .unset] [(.int (10 : Int32)), (.int p3)])
  refine Goes.of (fun _ => XS.iushr X.here hx rfl (hb hby at_152) rfl) ?_
  show Goes p e below _ T (mkF m 153 #[.val (.int p1), .val (.int p2), .val (.int p3), .val (.int u0), .val (.int u1), .val (.int g0), .val (.int g1), .val (.int y0), .val (.int y1), .val (.int z0), .val (.int z1), .val (.int k1), .val (.int k2), .val (.int m1), .val (.int m2), .unset, .unset, .unset, .unset, .unset, .unset, .unset, .unset] [(.int ((p3.toUInt32 >>> ((10 : Int32) &&& 31).toUInt32).toInt32))])
  refine Goes.of (fun _ => XS.iconst X.here hx rfl (hb hby at_153)) ?_
  show Goes p e below _ T (mkF m 154 #[.val (.int p1), .val (.int p2), .val (.int p3), .val (.int u0), .val (.int u1), .val (.int g0), .val (.int g1), .val (.int y0), .val (.int y1), .val (.int z0), .val (.int z1), .val (.int k1), .val (.int k2), .val (.int m1), .val (.int m2), .unset, .unset, .unset, .unset, .unset, .unset, .unset, .unset] [(.int (1 : Int32)), (.int ((p3.toUInt32 >>> ((10 : Int32) &&& 31).toUInt32).toInt32))])
  refine Goes.of (fun _ => XS.iand X.here hx rfl (hb hby at_154) rfl) ?_
  show Goes p e below _ T (mkF m 155 #[.val (.int p1), .val (.int p2), .val (.int p3), .val (.int u0), .val (.int u1), .val (.int g0), .val (.int g1), .val (.int y0), .val (.int y1), .val (.int z0), .val (.int z1), .val (.int k1), .val (.int k2), .val (.int m1), .val (.int m2), .unset, .unset, .unset, .unset, .unset, .unset, .unset, .unset] [(.int (((p3.toUInt32 >>> ((10 : Int32) &&& 31).toUInt32).toInt32) &&& (1 : Int32)))])
  refine Goes.of (T' := T) (f' := (mkF m 162 #[.val (.int p1), .val (.int p2), .val (.int p3), .val (.int u0), .val (.int u1), .val (.int g0), .val (.int g1), .val (.int y0), .val (.int y1), .val (.int z0), .val (.int z1), .val (.int k1), .val (.int (if (((p3.toUInt32 >>> ((10 : Int32) &&& 31).toUInt32).toInt32) &&& (1 : Int32)) = (0 : Int32) then k2 else k1)), .val (.int m1), .val (.int m2), .unset, .unset, .unset, .unset, .unset, .unset, .unset, .unset] [])) (fun t kt => ?_) ?_
  · show Steps p.tables e below (T.setTop (mkF m 155 #[.val (.int p1), .val (.int p2), .val (.int p3), .val (.int u0), .val (.int u1), .val (.int g0), .val (.int g1), .val (.int y0), .val (.int y1), .val (.int z0), .val (.int z1), .val (.int k1), .val (.int k2), .val (.int m1), .val (.int m2), .unset, .unset, .unset, .unset, .unset, .unset, .unset, .unset] [(.int (((p3.toUInt32 >>> ((10 : Int32) &&& 31).toUInt32).toInt32) &&& (1 : Int32)))])) _
    by_cases hq155 : (((p3.toUInt32 >>> ((10 : Int32) &&& 31).toUInt32).toInt32) &&& (1 : Int32)) = (0 : Int32)
    · simp only [if_pos hq155] at kt
      refine XS.ifYes X.here hx rfl (pc0 := 155) (pc' := 162) rfl (hb hby at_155) rfl ((if0 _ _).trans (teq hq155).1) (by decide) (by decide) ?_
      show Steps p.tables e below (T.setTop (mkF m 162 #[.val (.int p1), .val (.int p2), .val (.int p3), .val (.int u0), .val (.int u1), .val (.int g0), .val (.int g1), .val (.int y0), .val (.int y1), .val (.int z0), .val (.int z1), .val (.int k1), .val (.int k2), .val (.int m1), .val (.int m2), .unset, .unset, .unset, .unset, .unset, .unset, .unset, .unset] [])) _
      exact kt
    · simp only [if_neg hq155] at kt
      refine XS.ifNo X.here hx rfl (hb hby at_155) rfl ((if0 _ _).trans (feq hq155).1) ?_
      show Steps p.tables e below (T.setTop (mkF m 158 #[.val (.int p1), .val (.int p2), .val (.int p3), .val (.int u0), .val (.int u1), .val (.int g0), .val (.int g1), .val (.int y0), .val (.int y1), .val (.int z0), .val (.int z1), .val (.int k1), .val (.int k2), .val (.int m1), .val (.int m2), .unset, .unset, .unset, .unset, .unset, .unset, .unset, .unset] [])) _
      refine XS.iload X.here hx rfl (hb hby at_158) rfl ?_
      show Steps p.tables e below (T.setTop (mkF m 160 #[.val (.int p1), .val (.int p2), .val (.int p3), .val (.int u0), .val (.int u1), .val (.int g0), .val (.int g1), .val (.int y0), .val (.int y1), .val (.int z0), .val (.int z1), .val (.int k1), .val (.int k2), .val (.int m1), .val (.int m2), .unset, .unset, .unset, .unset, .unset, .unset, .unset, .unset] [(.int k1)])) _
      refine XS.istore X.here hx rfl (hb hby at_160) rfl (l' := #[.val (.int p1), .val (.int p2), .val (.int p3), .val (.int u0), .val (.int u1), .val (.int g0), .val (.int g1), .val (.int y0), .val (.int y1), .val (.int z0), .val (.int z1), .val (.int k1), .val (.int k1), .val (.int m1), .val (.int m2), .unset, .unset, .unset, .unset, .unset, .unset, .unset, .unset]) rfl ?_
      show Steps p.tables e below (T.setTop (mkF m 162 #[.val (.int p1), .val (.int p2), .val (.int p3), .val (.int u0), .val (.int u1), .val (.int g0), .val (.int g1), .val (.int y0), .val (.int y1), .val (.int z0), .val (.int z1), .val (.int k1), .val (.int k1), .val (.int m1), .val (.int m2), .unset, .unset, .unset, .unset, .unset, .unset, .unset, .unset] [])) _
      exact kt
  show Goes p e below _ T (mkF m 162 #[.val (.int p1), .val (.int p2), .val (.int p3), .val (.int u0), .val (.int u1), .val (.int g0), .val (.int g1), .val (.int y0), .val (.int y1), .val (.int z0), .val (.int z1), .val (.int k1), .val (.int (if (((p3.toUInt32 >>> ((10 : Int32) &&& 31).toUInt32).toInt32) &&& (1 : Int32)) = (0 : Int32) then k2 else k1)), .val (.int m1), .val (.int m2), .unset, .unset, .unset, .unset, .unset, .unset, .unset, .unset] [])
  generalize ek3 : (if (((p3.toUInt32 >>> ((10 : Int32) &&& 31).toUInt32).toInt32) &&& (1 : Int32)) = (0 : Int32) then k2 else k1) = k3
  show Goes p e below _ T (mkF m 162 #[.val (.int p1), .val (.int p2), .val (.int p3), .val (.int u0), .val (.int u1), .val (.int g0), .val (.int g1), .val (.int y0), .val (.int y1), .val (.int z0), .val (.int z1), .val (.int k1), .val (.int k3), .val (.int m1), .val (.int m2), .unset, .unset, .unset, .unset, .unset, .unset, .unset, .unset] [])
  have hk3 : 0 ≤ k3.toInt ∧ k3.toInt < 3 := by rw [← ek3]; split; (· exact hk2); (· exact hk1)
  show Goes p e below _ T (mkF m 162 #[.val (.int p1), .val (.int p2), .val (.int p3), .val (.int u0), .val (.int u1), .val (.int g0), .val (.int g1), .val (.int y0), .val (.int y1), .val (.int z0), .val (.int z1), .val (.int k1), .val (.int k3), .val (.int m1), .val (.int m2), .unset, .unset, .unset, .unset, .unset, .unset, .unset, .unset] [])
  refine Goes.of (fun _ => XS.iloadN X.here hx rfl (hb hby at_162) rfl) ?_
  show Goes p e below _ T (mkF m 163 #[.val (.int p1), .val (.int p2), .val (.int p3), .val (.int u0), .val (.int u1), .val (.int g0), .val (.int g1), .val (.int y0), .val (.int y1), .val (.int z0), .val (.int z1), .val (.int k1), .val (.int k3), .val (.int m1), .val (.int m2), .unset, .unset, .unset, .unset, .unset, .unset, .unset, .unset] [(.int p3)])
  refine Goes.of (fun _ => XS.bipush X.here hx rfl (hb hby at_163)) ?_
  show Goes p e below _ T (mkF m 165 #[.val (.int p1), .val (.int p2), .val (.int p3), .val (.int u0), .val (.int u1), .val (.int g0), .val (.int g1), .val (.int y0), .val (.int y1), .val (.int z0), .val (.int z1), .val (.int k1), .val (.int k3), .val (.int m1), .val (.int m2), .unset, .unset, .unset, .unset, .unset, .unset, .unset, .unset] [(.int (11 : Int32)), (.int p3)])
  refine Goes.of (fun _ => XS.iushr X.here hx rfl (hb hby at_165) rfl) ?_
  show Goes p e below _ T (mkF m 166 #[.val (.int p1), .val (.int p2), .val (.int p3), .val (.int u0), .val (.int u1), .val (.int g0), .val (.int g1), .val (.int y0), .val (.int y1), .val (.int z0), .val (.int z1), .val (.int k1), .val (.int k3), .val (.int m1), .val (.int m2), .unset, .unset, .unset, .unset, .unset, .unset, .unset, .unset] [(.int ((p3.toUInt32 >>> ((11 : Int32) &&& 31).toUInt32).toInt32))])
  refine Goes.of (fun _ => XS.iconst X.here hx rfl (hb hby at_166)) ?_
  show Goes p e below _ T (mkF m 167 #[.val (.int p1), .val (.int p2), .val (.int p3), .val (.int u0), .val (.int u1), .val (.int g0), .val (.int g1), .val (.int y0), .val (.int y1), .val (.int z0), .val (.int z1), .val (.int k1), .val (.int k3), .val (.int m1), .val (.int m2), .unset, .unset, .unset, .unset, .unset, .unset, .unset, .unset] [(.int (1 : Int32)), (.int ((p3.toUInt32 >>> ((11 : Int32) &&& 31).toUInt32).toInt32))])
  refine Goes.of (fun _ => XS.iand X.here hx rfl (hb hby at_167) rfl) ?_
  show Goes p e below _ T (mkF m 168 #[.val (.int p1), .val (.int p2), .val (.int p3), .val (.int u0), .val (.int u1), .val (.int g0), .val (.int g1), .val (.int y0), .val (.int y1), .val (.int z0), .val (.int z1), .val (.int k1), .val (.int k3), .val (.int m1), .val (.int m2), .unset, .unset, .unset, .unset, .unset, .unset, .unset, .unset] [(.int (((p3.toUInt32 >>> ((11 : Int32) &&& 31).toUInt32).toInt32) &&& (1 : Int32)))])
  refine Goes.of (T' := T) (f' := (mkF m 175 #[.val (.int p1), .val (.int p2), .val (.int p3), .val (.int u0), .val (.int u1), .val (.int g0), .val (.int g1), .val (.int y0), .val (.int y1), .val (.int z0), .val (.int z1), .val (.int k1), .val (.int k3), .val (.int m1), .val (.int (if (((p3.toUInt32 >>> ((11 : Int32) &&& 31).toUInt32).toInt32) &&& (1 : Int32)) = (0 : Int32) then m2 else m1)), .unset, .unset, .unset, .unset, .unset, .unset, .unset, .unset] [])) (fun t kt => ?_) ?_
  · show Steps p.tables e below (T.setTop (mkF m 168 #[.val (.int p1), .val (.int p2), .val (.int p3), .val (.int u0), .val (.int u1), .val (.int g0), .val (.int g1), .val (.int y0), .val (.int y1), .val (.int z0), .val (.int z1), .val (.int k1), .val (.int k3), .val (.int m1), .val (.int m2), .unset, .unset, .unset, .unset, .unset, .unset, .unset, .unset] [(.int (((p3.toUInt32 >>> ((11 : Int32) &&& 31).toUInt32).toInt32) &&& (1 : Int32)))])) _
    by_cases hq168 : (((p3.toUInt32 >>> ((11 : Int32) &&& 31).toUInt32).toInt32) &&& (1 : Int32)) = (0 : Int32)
    · simp only [if_pos hq168] at kt
      refine XS.ifYes X.here hx rfl (pc0 := 168) (pc' := 175) rfl (hb hby at_168) rfl ((if0 _ _).trans (teq hq168).1) (by decide) (by decide) ?_
      show Steps p.tables e below (T.setTop (mkF m 175 #[.val (.int p1), .val (.int p2), .val (.int p3), .val (.int u0), .val (.int u1), .val (.int g0), .val (.int g1), .val (.int y0), .val (.int y1), .val (.int z0), .val (.int z1), .val (.int k1), .val (.int k3), .val (.int m1), .val (.int m2), .unset, .unset, .unset, .unset, .unset, .unset, .unset, .unset] [])) _
      exact kt
    · simp only [if_neg hq168] at kt
      refine XS.ifNo X.here hx rfl (hb hby at_168) rfl ((if0 _ _).trans (feq hq168).1) ?_
      show Steps p.tables e below (T.setTop (mkF m 171 #[.val (.int p1), .val (.int p2), .val (.int p3), .val (.int u0), .val (.int u1), .val (.int g0), .val (.int g1), .val (.int y0), .val (.int y1), .val (.int z0), .val (.int z1), .val (.int k1), .val (.int k3), .val (.int m1), .val (.int m2), .unset, .unset, .unset, .unset, .unset, .unset, .unset, .unset] [])) _
      refine XS.iload X.here hx rfl (hb hby at_171) rfl ?_
      show Steps p.tables e below (T.setTop (mkF m 173 #[.val (.int p1), .val (.int p2), .val (.int p3), .val (.int u0), .val (.int u1), .val (.int g0), .val (.int g1), .val (.int y0), .val (.int y1), .val (.int z0), .val (.int z1), .val (.int k1), .val (.int k3), .val (.int m1), .val (.int m2), .unset, .unset, .unset, .unset, .unset, .unset, .unset, .unset] [(.int m1)])) _
      refine XS.istore X.here hx rfl (hb hby at_173) rfl (l' := #[.val (.int p1), .val (.int p2), .val (.int p3), .val (.int u0), .val (.int u1), .val (.int g0), .val (.int g1), .val (.int y0), .val (.int y1), .val (.int z0), .val (.int z1), .val (.int k1), .val (.int k3), .val (.int m1), .val (.int m1), .unset, .unset, .unset, .unset, .unset, .unset, .unset, .unset]) rfl ?_
      show Steps p.tables e below (T.setTop (mkF m 175 #[.val (.int p1), .val (.int p2), .val (.int p3), .val (.int u0), .val (.int u1), .val (.int g0), .val (.int g1), .val (.int y0), .val (.int y1), .val (.int z0), .val (.int z1), .val (.int k1), .val (.int k3), .val (.int m1), .val (.int m1), .unset, .unset, .unset, .unset, .unset, .unset, .unset, .unset] [])) _
      exact kt
  show Goes p e below _ T (mkF m 175 #[.val (.int p1), .val (.int p2), .val (.int p3), .val (.int u0), .val (.int u1), .val (.int g0), .val (.int g1), .val (.int y0), .val (.int y1), .val (.int z0), .val (.int z1), .val (.int k1), .val (.int k3), .val (.int m1), .val (.int (if (((p3.toUInt32 >>> ((11 : Int32) &&& 31).toUInt32).toInt32) &&& (1 : Int32)) = (0 : Int32) then m2 else m1)), .unset, .unset, .unset, .unset, .unset, .unset, .unset, .unset] [])
  generalize em3 : (if (((p3.toUInt32 >>> ((11 : Int32) &&& 31).toUInt32).toInt32) &&& (1 : Int32)) = (0 : Int32) then m2 else m1) = m3
  show Goes p e below _ T (mkF m 175 #[.val (.int p1), .val (.int p2), .val (.int p3), .val (.int u0), .val (.int u1), .val (.int g0), .val (.int g1), .val (.int y0), .val (.int y1), .val (.int z0), .val (.int z1), .val (.int k1), .val (.int k3), .val (.int m1), .val (.int m3), .unset, .unset, .unset, .unset, .unset, .unset, .unset, .unset] [])
  have hm3 : 0 ≤ m3.toInt ∧ m3.toInt < 3 := by rw [← em3]; split; (· exact hm2); (· exact hm1)
  show Goes p e below _ T (mkF m 175 #[.val (.int p1), .val (.int p2), .val (.int p3), .val (.int u0), .val (.int u1), .val (.int g0), .val (.int g1), .val (.int y0), .val (.int y1), .val (.int z0), .val (.int z1), .val (.int k1), .val (.int k3), .val (.int m1), .val (.int m3), .unset, .unset, .unset, .unset, .unset, .unset, .unset, .unset] [])
  refine Goes.of (fun _ => XS.iload X.here hx rfl (hb hby at_175) rfl) ?_
  show Goes p e below _ T (mkF m 177 #[.val (.int p1), .val (.int p2), .val (.int p3), .val (.int u0), .val (.int u1), .val (.int g0), .val (.int g1), .val (.int y0), .val (.int y1), .val (.int z0), .val (.int z1), .val (.int k1), .val (.int k3), .val (.int m1), .val (.int m3), .unset, .unset, .unset, .unset, .unset, .unset, .unset, .unset] [(.int k1)])
  refine Goes.of (fun _ => XS.iloadN X.here hx rfl (hb hby at_177) rfl) ?_
  show Goes p e below _ T (mkF m 178 #[.val (.int p1), .val (.int p2), .val (.int p3), .val (.int u0), .val (.int u1), .val (.int g0), .val (.int g1), .val (.int y0), .val (.int y1), .val (.int z0), .val (.int z1), .val (.int k1), .val (.int k3), .val (.int m1), .val (.int m3), .unset, .unset, .unset, .unset, .unset, .unset, .unset, .unset] [(.int u0), (.int k1)])
  refine Goes.of (fun _ => XS.iload X.here hx rfl (hb hby at_178) rfl) ?_
  show Goes p e below _ T (mkF m 180 #[.val (.int p1), .val (.int p2), .val (.int p3), .val (.int u0), .val (.int u1), .val (.int g0), .val (.int g1), .val (.int y0), .val (.int y1), .val (.int z0), .val (.int z1), .val (.int k1), .val (.int k3), .val (.int m1), .val (.int m3), .unset, .unset, .unset, .unset, .unset, .unset, .unset, .unset] [(.int u1), (.int u0), (.int k1)])
  refine goStaticW 0 X hS hk hEL HC hx hZ hown (hw _ (List.mem_of_getElem? (i := 0) rfl)) (hw _ (List.mem_of_getElem? (i := 1) rfl)) (hw _ (List.mem_of_getElem? (i := 2) rfl)) (hw _ (List.mem_of_getElem? (i := 3) rfl)) (by decide) (rm_str l Z a0 hw k1 u0 u1 cz h0 n0 O0 Sc hcz hu0 hu1) eT0 (g := (mkF m 180 #[.val (.int p1), .val (.int p2), .val (.int p3), .val (.int u0), .val (.int u1), .val (.int g0), .val (.int g1), .val (.int y0), .val (.int y1), .val (.int z0), .val (.int z1), .val (.int k1), .val (.int k3), .val (.int m1), .val (.int m3), .unset, .unset, .unset, .unset, .unset, .unset, .unset, .unset] [(.int u1), (.int u0), (.int k1)])) rfl (by rw [hml]; rfl) [(.int k1), (.int u0), (.int u1)] [] (lenOf pd__ICC_Ljava_lang_String_ rfl) rfl rfl (by show 2 * 0 + _ ≤ _; exact Nat.le_of_eq rfl) (hb hby at_180) (by decide) (by decide) (by decide) (by decide) ?_
  intro v1 T1 L1 kk1 X1 hS hk hZ hown HC q1
  obtain ⟨sb1, rfl, Nq1, Kq1, S1⟩ := q1
  have N1 := Fr.app N0 Nq1
  have O0 := O0.keep Kq1 all0
  show Goes p e below _ T1 (mkF m 183 #[.val (.int p1), .val (.int p2), .val (.int p3), .val (.int u0), .val (.int u1), .val (.int g0), .val (.int g1), .val (.int y0), .val (.int y1), .val (.int z0), .val (.int z1), .val (.int k1), .val (.int k3), .val (.int m1), .val (.int m3), .unset, .unset, .unset, .unset, .unset, .unset, .unset, .unset] [(.ref sb1)])
  refine Goes.of (fun _ => XS.astore X1.here hx rfl (hb hby at_183) rfl rfl (l' := #[.val (.int p1), .val (.int p2), .val (.int p3), .val (.int u0), .val (.int u1), .val (.int g0), .val (.int g1), .val (.int y0), .val (.int y1), .val (.int z0), .val (.int z1), .val (.int k1), .val (.int k3), .val (.int m1), .val (.int m3), .val (.ref sb1), .unset, .unset, .unset, .unset, .unset, .unset, .unset]) rfl) ?_
  show Goes p e below _ T1 (mkF m 185 #[.val (.int p1), .val (.int p2), .val (.int p3), .val (.int u0), .val (.int u1), .val (.int g0), .val (.int g1), .val (.int y0), .val (.int y1), .val (.int z0), .val (.int z1), .val (.int k1), .val (.int k3), .val (.int m1), .val (.int m3), .val (.ref sb1), .unset, .unset, .unset, .unset, .unset, .unset, .unset] [])
  refine Goes.of (fun _ => XS.iload X1.here hx rfl (hb hby at_185) rfl) ?_
  show Goes p e below _ T1 (mkF m 187 #[.val (.int p1), .val (.int p2), .val (.int p3), .val (.int u0), .val (.int u1), .val (.int g0), .val (.int g1), .val (.int y0), .val (.int y1), .val (.int z0), .val (.int z1), .val (.int k1), .val (.int k3), .val (.int m1), .val (.int m3), .val (.ref sb1), .unset, .unset, .unset, .unset, .unset, .unset, .unset] [(.int m1)])
  refine Goes.of (fun _ => XS.iload X1.here hx rfl (hb hby at_187) rfl) ?_
  show Goes p e below _ T1 (mkF m 189 #[.val (.int p1), .val (.int p2), .val (.int p3), .val (.int u0), .val (.int u1), .val (.int g0), .val (.int g1), .val (.int y0), .val (.int y1), .val (.int z0), .val (.int z1), .val (.int k1), .val (.int k3), .val (.int m1), .val (.int m3), .val (.ref sb1), .unset, .unset, .unset, .unset, .unset, .unset, .unset] [(.int g0), (.int m1)])
  refine Goes.of (fun _ => XS.iload X1.here hx rfl (hb hby at_189) rfl) ?_
  show Goes p e below _ T1 (mkF m 191 #[.val (.int p1), .val (.int p2), .val (.int p3), .val (.int u0), .val (.int u1), .val (.int g0), .val (.int g1), .val (.int y0), .val (.int y1), .val (.int z0), .val (.int z1), .val (.int k1), .val (.int k3), .val (.int m1), .val (.int m3), .val (.ref sb1), .unset, .unset, .unset, .unset, .unset, .unset, .unset] [(.int g1), (.int g0), (.int m1)])
  refine goStaticW 0 X1 hS hk hEL HC hx hZ hown (hw _ (List.mem_of_getElem? (i := 0) rfl)) (hw _ (List.mem_of_getElem? (i := 1) rfl)) (hw _ (List.mem_of_getElem? (i := 2) rfl)) (hw _ (List.mem_of_getElem? (i := 3) rfl)) (by decide) (rm_str l Z a0 hw m1 g0 g1 cz T1.heap n0 O0 Sc hcz hg0 hg1) (rfl : T1.heap = _) (g := (mkF m 191 #[.val (.int p1), .val (.int p2), .val (.int p3), .val (.int u0), .val (.int u1), .val (.int g0), .val (.int g1), .val (.int y0), .val (.int y1), .val (.int z0), .val (.int z1), .val (.int k1), .val (.int k3), .val (.int m1), .val (.int m3), .val (.ref sb1), .unset, .unset, .unset, .unset, .unset, .unset, .unset] [(.int g1), (.int g0), (.int m1)])) rfl (by rw [hml]; rfl) [(.int m1), (.int g0), (.int g1)] [] (lenOf pd__ICC_Ljava_lang_String_ rfl) rfl rfl (by show 2 * 0 + _ ≤ _; exact Nat.le_of_eq rfl) (hb hby at_191) (by decide) (by decide) (by decide) (by decide) ?_
  intro v2 T2 L2 kk2 X2 hS hk hZ hown HC q2
  obtain ⟨sb2, rfl, Nq2, Kq2, S2⟩ := q2
  have N2 := Fr.app N1 Nq2
  have S1 := S1.keep0 Kq2
  have O0 := O0.keep Kq2 all0
  show Goes p e below _ T2 (mkF m 194 #[.val (.int p1), .val (.int p2), .val (.int p3), .val (.int u0), .val (.int u1), .val (.int g0), .val (.int g1), .val (.int y0), .val (.int y1), .val (.int z0), .val (.int z1), .val (.int k1), .val (.int k3), .val (.int m1), .val (.int m3), .val (.ref sb1), .unset, .unset, .unset, .unset, .unset, .unset, .unset] [(.ref sb2)])
  refine Goes.of (fun _ => XS.astore X2.here hx rfl (hb hby at_194) rfl rfl (l' := #[.val (.int p1), .val (.int p2), .val (.int p3), .val (.int u0), .val (.int u1), .val (.int g0), .val (.int g1), .val (.int y0), .val (.int y1), .val (.int z0), .val (.int z1), .val (.int k1), .val (.int k3), .val (.int m1), .val (.int m3), .val (.ref sb1), .val (.ref sb2), .unset, .unset, .unset, .unset, .unset, .unset]) rfl) ?_
  show Goes p e below _ T2 (mkF m 196 #[.val (.int p1), .val (.int p2), .val (.int p3), .val (.int u0), .val (.int u1), .val (.int g0), .val (.int g1), .val (.int y0), .val (.int y1), .val (.int z0), .val (.int z1), .val (.int k1), .val (.int k3), .val (.int m1), .val (.int m3), .val (.ref sb1), .val (.ref sb2), .unset, .unset, .unset, .unset, .unset, .unset] [])
  refine Goes.of (fun _ => XS.iload X2.here hx rfl (hb hby at_196) rfl) ?_
  show Goes p e below _ T2 (mkF m 198 #[.val (.int p1), .val (.int p2), .val (.int p3), .val (.int u0), .val (.int u1), .val (.int g0), .val (.int g1), .val (.int y0), .val (.int y1), .val (.int z0), .val (.int z1), .val (.int k1), .val (.int k3), .val (.int m1), .val (.int m3), .val (.ref sb1), .val (.ref sb2), .unset, .unset, .unset, .unset, .unset, .unset] [(.int k3)])
  refine Goes.of (fun _ => XS.iload X2.here hx rfl (hb hby at_198) rfl) ?_
  show Goes p e below _ T2 (mkF m 200 #[.val (.int p1), .val (.int p2), .val (.int p3), .val (.int u0), .val (.int u1), .val (.int g0), .val (.int g1), .val (.int y0), .val (.int y1), .val (.int z0), .val (.int z1), .val (.int k1), .val (.int k3), .val (.int m1), .val (.int m3), .val (.ref sb1), .val (.ref sb2), .unset, .unset, .unset, .unset, .unset, .unset] [(.int y0), (.int k3)])
  refine Goes.of (fun _ => XS.iload X2.here hx rfl (hb hby at_200) rfl) ?_
  show Goes p e below _ T2 (mkF m 202 #[.val (.int p1), .val (.int p2), .val (.int p3), .val (.int u0), .val (.int u1), .val (.int g0), .val (.int g1), .val (.int y0), .val (.int y1), .val (.int z0), .val (.int z1), .val (.int k1), .val (.int k3), .val (.int m1), .val (.int m3), .val (.ref sb1), .val (.ref sb2), .unset, .unset, .unset, .unset, .unset, .unset] [(.int y1), (.int y0), (.int k3)])
  refine goStaticW 0 X2 hS hk hEL HC hx hZ hown (hw _ (List.mem_of_getElem? (i := 0) rfl)) (hw _ (List.mem_of_getElem? (i := 1) rfl)) (hw _ (List.mem_of_getElem? (i := 2) rfl)) (hw _ (List.mem_of_getElem? (i := 3) rfl)) (by decide) (rm_str l Z a0 hw k3 y0 y1 cz T2.heap n0 O0 Sc hcz hy0 hy1) (rfl : T2.heap = _) (g := (mkF m 202 #[.val (.int p1), .val (.int p2), .val (.int p3), .val (.int u0), .val (.int u1), .val (.int g0), .val (.int g1), .val (.int y0), .val (.int y1), .val (.int z0), .val (.int z1), .val (.int k1), .val (.int k3), .val (.int m1), .val (.int m3), .val (.ref sb1), .val (.ref sb2), .unset, .unset, .unset, .unset, .unset, .unset] [(.int y1), (.int y0), (.int k3)])) rfl (by rw [hml]; rfl) [(.int k3), (.int y0), (.int y1)] [] (lenOf pd__ICC_Ljava_lang_String_ rfl) rfl rfl (by show 2 * 0 + _ ≤ _; exact Nat.le_of_eq rfl) (hb hby at_202) (by decide) (by decide) (by decide) (by decide) ?_
  intro v3 T3 L3 kk3 X3 hS hk hZ hown HC q3
  obtain ⟨sb3, rfl, Nq3, Kq3, S3⟩ := q3
  have N3 := Fr.app N2 Nq3
  have S1 := S1.keep0 Kq3
  have S2 := S2.keep0 Kq3
  have O0 := O0.keep Kq3 all0
  show Goes p e below _ T3 (mkF m 205 #[.val (.int p1), .val (.int p2), .val (.int p3), .val (.int u0), .val (.int u1), .val (.int g0), .val (.int g1), .val (.int y0), .val (.int y1), .val (.int z0), .val (.int z1), .val (.int k1), .val (.int k3), .val (.int m1), .val (.int m3), .val (.ref sb1), .val (.ref sb2), .unset, .unset, .unset, .unset, .unset, .unset] [(.ref sb3)])
  refine Goes.of (fun _ => XS.astore X3.here hx rfl (hb hby at_205) rfl rfl (l' := #[.val (.int p1), .val (.int p2), .val (.int p3), .val (.int u0), .val (.int u1), .val (.int g0), .val (.int g1), .val (.int y0), .val (.int y1), .val (.int z0), .val (.int z1), .val (.int k1), .val (.int k3), .val (.int m1), .val (.int m3), .val (.ref sb1), .val (.ref sb2), .val (.ref sb3), .unset, .unset, .unset, .unset, .unset]) rfl) ?_
  show Goes p e below _ T3 (mkF m 207 #[.val (.int p1), .val (.int p2), .val (.int p3), .val (.int u0), .val (.int u1), .val (.int g0), .val (.int g1), .val (.int y0), .val (.int y1), .val (.int z0), .val (.int z1), .val (.int k1), .val (.int k3), .val (.int m1), .val (.int m3), .val (.ref sb1), .val (.ref sb2), .val (.ref sb3), .unset, .unset, .unset, .unset, .unset] [])
  refine Goes.of (fun _ => XS.iload X3.here hx rfl (hb hby at_207) rfl) ?_
  show Goes p e below _ T3 (mkF m 209 #[.val (.int p1), .val (.int p2), .val (.int p3), .val (.int u0), .val (.int u1), .val (.int g0), .val (.int g1), .val (.int y0), .val (.int y1), .val (.int z0), .val (.int z1), .val (.int k1), .val (.int k3), .val (.int m1), .val (.int m3), .val (.ref sb1), .val (.ref sb2), .val (.ref sb3), .unset, .unset, .unset, .unset, .unset] [(.int m3)])
  refine Goes.of (fun _ => XS.iload X3.here hx rfl (hb hby at_209) rfl) ?_
  show Goes p e below _ T3 (mkF m 211 #[.val (.int p1), .val (.int p2), .val (.int p3), .val (.int u0), .val (.int u1), .val (.int g0), .val (.int g1), .val (.int y0), .val (.int y1), .val (.int z0), .val (.int z1), .val (.int k1), .val (.int k3), .val (.int m1), .val (.int m3), .val (.ref sb1), .val (.ref sb2), .val (.ref sb3), .unset, .unset, .unset, .unset, .unset] [(.int z0), (.int m3)])
  refine Goes.of (fun _ => XS.iload X3.here hx rfl (hb hby at_211) rfl) ?_
  show Goes p e below _ T3 (mkF m 213 #[.val (.int p1), .val (.int p2), .val (.int p3), .val (.int u0), .val (.int u1), .val (.int g0), .val (.int g1), .val (.int y0), .val (.int y1), .val (.int z0), .val (.int z1), .val (.int k1), .val (.int k3), .val (.int m1), .val (.int m3), .val (.ref sb1), .val (.ref sb2), .val (.ref sb3), .unset, .unset, .unset, .unset, .unset] [(.int z1), (.int z0), (.int m3)])
  refine goStaticW 0 X3 hS hk hEL HC hx hZ hown (hw _ (List.mem_of_getElem? (i := 0) rfl)) (hw _ (List.mem_of_getElem? (i := 1) rfl)) (hw _ (List.mem_of_getElem? (i := 2) rfl)) (hw _ (List.mem_of_getElem? (i := 3) rfl)) (by decide) (rm_str l Z a0 hw m3 z0 z1 cz T3.heap n0 O0 Sc hcz hz0 hz1) (rfl : T3.heap = _) (g := (mkF m 213 #[.val (.int p1), .val (.int p2), .val (.int p3), .val (.int u0), .val (.int u1), .val (.int g0), .val (.int g1), .val (.int y0), .val (.int y1), .val (.int z0), .val (.int z1), .val (.int k1), .val (.int k3), .val (.int m1), .val (.int m3), .val (.ref sb1), .val (.ref sb2), .val (.ref sb3), .unset, .unset, .unset, .unset, .unset] [(.int z1), (.int z0), (.int m3)])) rfl (by rw [hml]; rfl) [(.int m3), (.int z0), (.int z1)] [] (lenOf pd__ICC_Ljava_lang_String_ rfl) rfl rfl (by show 2 * 0 + _ ≤ _; exact Nat.le_of_eq rfl) (hb hby at_213) (by decide) (by decide) (by decide) (by decide) ?_
  intro v4 T4 L4 kk4 X4 hS hk hZ hown HC q4
  obtain ⟨sb4, rfl, Nq4, Kq4, S4⟩ := q4
  have N4 := Fr.app N3 Nq4
  have S1 := S1.keep0 Kq4
  have S2 := S2.keep0 Kq4
  have S3 := S3.keep0 Kq4
  have O0 := O0.keep Kq4 all0
  show Goes p e below _ T4 (mkF m 216 #[.val (.int p1), .val (.int p2), .val (.int p3), .val (.int u0), .val (.int u1), .val (.int g0), .val (.int g1), .val (.int y0), .val (.int y1), .val (.int z0), .val (.int z1), .val (.int k1), .val (.int k3), .val (.int m1), .val (.int m3), .val (.ref sb1), .val (.ref sb2), .val (.ref sb3), .unset, .unset, .unset, .unset, .unset] [(.ref sb4)])
  refine Goes.of (fun _ => XS.astore X4.here hx rfl (hb hby at_216) rfl rfl (l' := #[.val (.int p1), .val (.int p2), .val (.int p3), .val (.int u0), .val (.int u1), .val (.int g0), .val (.int g1), .val (.int y0), .val (.int y1), .val (.int z0), .val (.int z1), .val (.int k1), .val (.int k3), .val (.int m1), .val (.int m3), .val (.ref sb1), .val (.ref sb2), .val (.ref sb3), .val (.ref sb4), .unset, .unset, .unset, .unset]) rfl) ?_
  show Goes p e below _ T4 (mkF m 218 #[.val (.int p1), .val (.int p2), .val (.int p3), .val (.int u0), .val (.int u1), .val (.int g0), .val (.int g1), .val (.int y0), .val (.int y1), .val (.int z0), .val (.int z1), .val (.int k1), .val (.int k3), .val (.int m1), .val (.int m3), .val (.ref sb1), .val (.ref sb2), .val (.ref sb3), .val (.ref sb4), .unset, .unset, .unset, .unset] [])
  refine goNew X4 hx hZ hown (hw _ (List.mem_of_getElem? (i := 37) rfl)) (hw _ (List.mem_of_getElem? (i := 38) rfl)) (hw _ (List.mem_of_getElem? (i := 39) rfl)) (rfl : T4.heap = _) (g := (mkF m 218 #[.val (.int p1), .val (.int p2), .val (.int p3), .val (.int u0), .val (.int u1), .val (.int g0), .val (.int g1), .val (.int y0), .val (.int y1), .val (.int z0), .val (.int z1), .val (.int k1), .val (.int k3), .val (.int m1), .val (.int m3), .val (.ref sb1), .val (.ref sb2), .val (.ref sb3), .val (.ref sb4), .unset, .unset, .unset, .unset] [])) rfl (hb hby at_218) (by decide) (by decide) ?_
  intro T5 h5 b5 X5 eT5 E5 hb5 A5 D5
  have g_b5 : n0 ≤ b5 := Nat.le_trans (oldLe O0) hb5
  have ne_sb1_b5 : sb1 ≠ b5 := Nat.ne_of_lt (Nat.lt_of_lt_of_le S1.lt hb5)
  have ne_sb2_b5 : sb2 ≠ b5 := Nat.ne_of_lt (Nat.lt_of_lt_of_le S2.lt hb5)
  have ne_sb3_b5 : sb3 ≠ b5 := Nat.ne_of_lt (Nat.lt_of_lt_of_le S3.lt hb5)
  have ne_sb4_b5 : sb4 ≠ b5 := Nat.ne_of_lt (Nat.lt_of_lt_of_le S4.lt hb5)
  have S1 := S1.ext E5
  have S2 := S2.ext E5
  have S3 := S3.ext E5
  have S4 := S4.ext E5
  have hk := Nat.le_trans hk E5.1
  have HC := HC.trans (CHr.ext E5 HC.1)
  have O0 := O0.ext E5
  have F5_user : Fld Z h5 b5 "com/example/claimgate/claimgate/app/SectionAccess$Grantee" "user" "Ljava/lang/String;" .null := D5 (Or.inr (hw _ (List.mem_of_getElem? (i := 50) rfl))) (ty := (.object "java/lang/String")) (by decide)
  have F5_group : Fld Z h5 b5 "com/example/claimgate/claimgate/app/SectionAccess$Grantee" "group" "Ljava/lang/String;" .null := D5 (Or.inr (hw _ (List.mem_of_getElem? (i := 52) rfl))) (ty := (.object "java/lang/String")) (by decide)
  show Goes p e below _ T5 (mkF m 221 #[.val (.int p1), .val (.int p2), .val (.int p3), .val (.int u0), .val (.int u1), .val (.int g0), .val (.int g1), .val (.int y0), .val (.int y1), .val (.int z0), .val (.int z1), .val (.int k1), .val (.int k3), .val (.int m1), .val (.int m3), .val (.ref sb1), .val (.ref sb2), .val (.ref sb3), .val (.ref sb4), .unset, .unset, .unset, .unset] [(.ref b5)])
  refine Goes.of (fun _ => XS.dup X5.here hx rfl (hb hby at_221) rfl rfl) ?_
  show Goes p e below _ T5 (mkF m 222 #[.val (.int p1), .val (.int p2), .val (.int p3), .val (.int u0), .val (.int u1), .val (.int g0), .val (.int g1), .val (.int y0), .val (.int y1), .val (.int z0), .val (.int z1), .val (.int k1), .val (.int k3), .val (.int m1), .val (.int m3), .val (.ref sb1), .val (.ref sb2), .val (.ref sb3), .val (.ref sb4), .unset, .unset, .unset, .unset] [(.ref b5), (.ref b5)])
  refine Goes.of (fun _ => XS.aload X5.here hx rfl (hb hby at_222) rfl rfl) ?_
  show Goes p e below _ T5 (mkF m 224 #[.val (.int p1), .val (.int p2), .val (.int p3), .val (.int u0), .val (.int u1), .val (.int g0), .val (.int g1), .val (.int y0), .val (.int y1), .val (.int z0), .val (.int z1), .val (.int k1), .val (.int k3), .val (.int m1), .val (.int m3), .val (.ref sb1), .val (.ref sb2), .val (.ref sb3), .val (.ref sb4), .unset, .unset, .unset, .unset] [(.ref sb1), (.ref b5), (.ref b5)])
  refine Goes.of (fun _ => XS.aload X5.here hx rfl (hb hby at_224) rfl rfl) ?_
  show Goes p e below _ T5 (mkF m 226 #[.val (.int p1), .val (.int p2), .val (.int p3), .val (.int u0), .val (.int u1), .val (.int g0), .val (.int g1), .val (.int y0), .val (.int y1), .val (.int z0), .val (.int z1), .val (.int k1), .val (.int k3), .val (.int m1), .val (.int m3), .val (.ref sb1), .val (.ref sb2), .val (.ref sb3), .val (.ref sb4), .unset, .unset, .unset, .unset] [(.ref sb2), (.ref sb1), (.ref b5), (.ref b5)])
  have Sf_b5 : Safe Z EL _ h5 b5 := Safe.exa hZ.alike A5 (by decide) (by decide)
  refine goSpecial 1 X5 hx hZ rfl hown (hw _ (List.mem_of_getElem? (i := 40) rfl)) (hw _ (List.mem_of_getElem? (i := 41) rfl)) (hw _ (List.mem_of_getElem? (i := 39) rfl)) (hw _ (List.mem_of_getElem? (i := 42) rfl)) (by decide) (rm_init l Z a0 hw b5 sb1 sb2 h5 n0 O0 g_b5 A5 F5_user F5_group) eT5 (g := (mkF m 226 #[.val (.int p1), .val (.int p2), .val (.int p3), .val (.int u0), .val (.int u1), .val (.int g0), .val (.int g1), .val (.int y0), .val (.int y1), .val (.int z0), .val (.int z1), .val (.int k1), .val (.int k3), .val (.int m1), .val (.int m3), .val (.ref sb1), .val (.ref sb2), .val (.ref sb3), .val (.ref sb4), .unset, .unset, .unset, .unset] [(.ref sb2), (.ref sb1), (.ref b5), (.ref b5)])) rfl (by rw [hml]; rfl) b5 [(.ref sb1), (.ref sb2)] [(.ref b5)] (lenOf pd__Ljava_lang_String_Ljava_lang_String__V rfl) rfl rfl (by show 2 * 0 + _ ≤ _; exact Nat.le_of_eq rfl) (hb hby at_226) (by decide) (by decide) (by decide) (by decide) ?_
  intro v6 T6 L6 X6 q6
  obtain ⟨rfl, Nq6, Kq6, H0_6, H1_6⟩ := q6
  have N6 := Fr.app N4 Nq6
  have S1 := S1.keep1 Kq6 ne_sb1_b5 A5 (hw _ (List.mem_of_getElem? (i := 38) rfl))
  have S2 := S2.keep1 Kq6 ne_sb2_b5 A5 (hw _ (List.mem_of_getElem? (i := 38) rfl))
  have S3 := S3.keep1 Kq6 ne_sb3_b5 A5 (hw _ (List.mem_of_getElem? (i := 38) rfl))
  have S4 := S4.keep1 Kq6 ne_sb4_b5 A5 (hw _ (List.mem_of_getElem? (i := 38) rfl))
  have A5 := A5.keep Kq6
  have HC := HC.trans (CHr.keep Kq6 (sfS Sf_b5 sf0) HC.1)
  have hk := Nat.le_trans hk Kq6.1
  have O0 := O0.keep Kq6 (allS g_b5 all0)
  show Goes p e below _ T6 (mkF m 229 #[.val (.int p1), .val (.int p2), .val (.int p3), .val (.int u0), .val (.int u1), .val (.int g0), .val (.int g1), .val (.int y0), .val (.int y1), .val (.int z0), .val (.int z1), .val (.int k1), .val (.int k3), .val (.int m1), .val (.int m3), .val (.ref sb1), .val (.ref sb2), .val (.ref sb3), .val (.ref sb4), .unset, .unset, .unset, .unset] [(.ref b5)])
  refine Goes.of (fun _ => XS.astore X6.here hx rfl (hb hby at_229) rfl rfl (l' := #[.val (.int p1), .val (.int p2), .val (.int p3), .val (.int u0), .val (.int u1), .val (.int g0), .val (.int g1), .val (.int y0), .val (.int y1), .val (.int z0), .val (.int z1), .val (.int k1), .val (.int k3), .val (.int m1), .val (.int m3), .val (.ref sb1), .val (.ref sb2), .val (.ref sb3), .val (.ref sb4), .val (.ref b5), .unset, .unset, .unset]) rfl) ?_
  show Goes p e below _ T6 (mkF m 231 #[.val (.int p1), .val (.int p2), .val (.int p3), .val (.int u0), .val (.int u1), .val (.int g0), .val (.int g1), .val (.int y0), .val (.int y1), .val (.int z0), .val (.int z1), .val (.int k1), .val (.int k3), .val (.int m1), .val (.int m3), .val (.ref sb1), .val (.ref sb2), .val (.ref sb3), .val (.ref sb4), .val (.ref b5), .unset, .unset, .unset] [])
  refine goNew X6 hx hZ hown (hw _ (List.mem_of_getElem? (i := 37) rfl)) (hw _ (List.mem_of_getElem? (i := 38) rfl)) (hw _ (List.mem_of_getElem? (i := 39) rfl)) (rfl : T6.heap = _) (g := (mkF m 231 #[.val (.int p1), .val (.int p2), .val (.int p3), .val (.int u0), .val (.int u1), .val (.int g0), .val (.int g1), .val (.int y0), .val (.int y1), .val (.int z0), .val (.int z1), .val (.int k1), .val (.int k3), .val (.int m1), .val (.int m3), .val (.ref sb1), .val (.ref sb2), .val (.ref sb3), .val (.ref sb4), .val (.ref b5), .unset, .unset, .unset] [])) rfl (hb hby at_231) (by decide) (by decide) ?_
  intro T7 h7 b7 X7 eT7 E7 hb7 A7 D7
  have g_b7 : n0 ≤ b7 := Nat.le_trans (oldLe O0) hb7
  have ne_sb1_b7 : sb1 ≠ b7 := Nat.ne_of_lt (Nat.lt_of_lt_of_le S1.lt hb7)
  have ne_sb2_b7 : sb2 ≠ b7 := Nat.ne_of_lt (Nat.lt_of_lt_of_le S2.lt hb7)
  have ne_sb3_b7 : sb3 ≠ b7 := Nat.ne_of_lt (Nat.lt_of_lt_of_le S3.lt hb7)
  have ne_sb4_b7 : sb4 ≠ b7 := Nat.ne_of_lt (Nat.lt_of_lt_of_le S4.lt hb7)
  have ne_b5_b7 : b5 ≠ b7 := Nat.ne_of_lt (Nat.lt_of_lt_of_le A5.lt hb7)
  have S1 := S1.ext E7
  have S2 := S2.ext E7
  have S3 := S3.ext E7
  have S4 := S4.ext E7
  have A5 := A5.ext E7
  have H0_6 := H0_6.ext E7
  have H1_6 := H1_6.ext E7
  have hk := Nat.le_trans hk E7.1
  have HC := HC.trans (CHr.ext E7 HC.1)
  have O0 := O0.ext E7
  have F7_user : Fld Z h7 b7 "com/example/claimgate/claimgate/app/SectionAccess$Grantee" "user" "Ljava/lang/String;" .null := D7 (Or.inr (hw _ (List.mem_of_getElem? (i := 50) rfl))) (ty := (.object "java/lang/String")) (by decide)
  have F7_group : Fld Z h7 b7 "com/example/claimgate/claimgate/app/SectionAccess$Grantee" "group" "Ljava/lang/String;" .null := D7 (Or.inr (hw _ (List.mem_of_getElem? (i := 52) rfl))) (ty := (.object "java/lang/String")) (by decide)
  show Goes p e below _ T7 (mkF m 234 #[.val (.int p1), .val (.int p2), .val (.int p3), .val (.int u0), .val (.int u1), .val (.int g0), .val (.int g1), .val (.int y0), .val (.int y1), .val (.int z0), .val (.int z1), .val (.int k1), .val (.int k3), .val (.int m1), .val (.int m3), .val (.ref sb1), .val (.ref sb2), .val (.ref sb3), .val (.ref sb4), .val (.ref b5), .unset, .unset, .unset] [(.ref b7)])
  refine Goes.of (fun _ => XS.dup X7.here hx rfl (hb hby at_234) rfl rfl) ?_
  show Goes p e below _ T7 (mkF m 235 #[.val (.int p1), .val (.int p2), .val (.int p3), .val (.int u0), .val (.int u1), .val (.int g0), .val (.int g1), .val (.int y0), .val (.int y1), .val (.int z0), .val (.int z1), .val (.int k1), .val (.int k3), .val (.int m1), .val (.int m3), .val (.ref sb1), .val (.ref sb2), .val (.ref sb3), .val (.ref sb4), .val (.ref b5), .unset, .unset, .unset] [(.ref b7), (.ref b7)])
  refine Goes.of (fun _ => XS.aload X7.here hx rfl (hb hby at_235) rfl rfl) ?_
  show Goes p e below _ T7 (mkF m 237 #[.val (.int p1), .val (.int p2), .val (.int p3), .val (.int u0), .val (.int u1), .val (.int g0), .val (.int g1), .val (.int y0), .val (.int y1), .val (.int z0), .val (.int z1), .val (.int k1), .val (.int k3), .val (.int m1), .val (.int m3), .val (.ref sb1), .val (.ref sb2), .val (.ref sb3), .val (.ref sb4), .val (.ref b5), .unset, .unset, .unset] [(.ref sb3), (.ref b7), (.ref b7)])
  refine Goes.of (fun _ => XS.aload X7.here hx rfl (hb hby at_237) rfl rfl) ?_
  show Goes p e below _ T7 (mkF m 239 #[.val (.int p1), .val (.int p2), .val (.int p3), .val (.int u0), .val (.int u1), .val (.int g0), .val (.int g1), .val (.int y0), .val (.int y1), .val (.int z0), .val (.int z1), .val (.int k1), .val (.int k3), .val (.int m1), .val (.int m3), .val (.ref sb1), .val (.ref sb2), .val (.ref sb3), .val (.ref sb4), .val (.ref b5), .unset, .unset, .unset] [(.ref sb4), (.ref sb3), (.ref b7), (.ref b7)])
  have Sf_b7 : Safe Z EL _ h7 b7 := Safe.exa hZ.alike A7 (by decide) (by decide)
  refine goSpecial 1 X7 hx hZ rfl hown (hw _ (List.mem_of_getElem? (i := 40) rfl)) (hw _ (List.mem_of_getElem? (i := 41) rfl)) (hw _ (List.mem_of_getElem? (i := 39) rfl)) (hw _ (List.mem_of_getElem? (i := 42) rfl)) (by decide) (rm_init l Z a0 hw b7 sb3 sb4 h7 n0 O0 g_b7 A7 F7_user F7_group) eT7 (g := (mkF m 239 #[.val (.int p1), .val (.int p2), .val (.int p3), .val (.int u0), .val (.int u1), .val (.int g0), .val (.int g1), .val (.int y0), .val (.int y1), .val (.int z0), .val (.int z1), .val (.int k1), .val (.int k3), .val (.int m1), .val (.int m3), .val (.ref sb1), .val (.ref sb2), .val (.ref sb3), .val (.ref sb4), .val (.ref b5), .unset, .unset, .unset] [(.ref sb4), (.ref sb3), (.ref b7), (.ref b7)])) rfl (by rw [hml]; rfl) b7 [(.ref sb3), (.ref sb4)] [(.ref b7)] (lenOf pd__Ljava_lang_String_Ljava_lang_String__V rfl) rfl rfl (by show 2 * 0 + _ ≤ _; exact Nat.le_of_eq rfl) (hb hby at_239) (by decide) (by decide) (by decide) (by decide) ?_
  intro v8 T8 L8 X8 q8
  obtain ⟨rfl, Nq8, Kq8, H0_8, H1_8⟩ := q8
  have N8 := Fr.app N6 Nq8
  have S1 := S1.keep1 Kq8 ne_sb1_b7 A7 (hw _ (List.mem_of_getElem? (i := 38) rfl))
  have S2 := S2.keep1 Kq8 ne_sb2_b7 A7 (hw _ (List.mem_of_getElem? (i := 38) rfl))
  have S3 := S3.keep1 Kq8 ne_sb3_b7 A7 (hw _ (List.mem_of_getElem? (i := 38) rfl))
  have S4 := S4.keep1 Kq8 ne_sb4_b7 A7 (hw _ (List.mem_of_getElem? (i := 38) rfl))
  have A5 := A5.keep Kq8
  have H0_6 := H0_6.keep Kq8 (ninS ne_b5_b7 nin0)
  have H1_6 := H1_6.keep Kq8 (ninS ne_b5_b7 nin0)
  have A7 := A7.keep Kq8
  have HC := HC.trans (CHr.keep Kq8 (sfS Sf_b7 sf0) HC.1)
  have hk := Nat.le_trans hk Kq8.1
  have O0 := O0.keep Kq8 (allS g_b7 all0)
  show Goes p e below _ T8 (mkF m 242 #[.val (.int p1), .val (.int p2), .val (.int p3), .val (.int u0), .val (.int u1), .val (.int g0), .val (.int g1), .val (.int y0), .val (.int y1), .val (.int z0), .val (.int z1), .val (.int k1), .val (.int k3), .val (.int m1), .val (.int m3), .val (.ref sb1), .val (.ref sb2), .val (.ref sb3), .val (.ref sb4), .val (.ref b5), .unset, .unset, .unset] [(.ref b7)])
  refine Goes.of (fun _ => XS.astore X8.here hx rfl (hb hby at_242) rfl rfl (l' := #[.val (.int p1), .val (.int p2), .val (.int p3), .val (.int u0), .val (.int u1), .val (.int g0), .val (.int g1), .val (.int y0), .val (.int y1), .val (.int z0), .val (.int z1), .val (.int k1), .val (.int k3), .val (.int m1), .val (.int m3), .val (.ref sb1), .val (.ref sb2), .val (.ref sb3), .val (.ref sb4), .val (.ref b5), .val (.ref b7), .unset, .unset]) rfl) ?_
  show Goes p e below _ T8 (mkF m 244 #[.val (.int p1), .val (.int p2), .val (.int p3), .val (.int u0), .val (.int u1), .val (.int g0), .val (.int g1), .val (.int y0), .val (.int y1), .val (.int z0), .val (.int z1), .val (.int k1), .val (.int k3), .val (.int m1), .val (.int m3), .val (.ref sb1), .val (.ref sb2), .val (.ref sb3), .val (.ref sb4), .val (.ref b5), .val (.ref b7), .unset, .unset] [])
  refine Goes.of (fun _ => XS.iload X8.here hx rfl (hb hby at_244) rfl) ?_
  show Goes p e below _ T8 (mkF m 246 #[.val (.int p1), .val (.int p2), .val (.int p3), .val (.int u0), .val (.int u1), .val (.int g0), .val (.int g1), .val (.int y0), .val (.int y1), .val (.int z0), .val (.int z1), .val (.int k1), .val (.int k3), .val (.int m1), .val (.int m3), .val (.ref sb1), .val (.ref sb2), .val (.ref sb3), .val (.ref sb4), .val (.ref b5), .val (.ref b7), .unset, .unset] [(.int k1)])
  refine Goes.of (fun _ => XS.iloadN X8.here hx rfl (hb hby at_246) rfl) ?_
  show Goes p e below _ T8 (mkF m 247 #[.val (.int p1), .val (.int p2), .val (.int p3), .val (.int u0), .val (.int u1), .val (.int g0), .val (.int g1), .val (.int y0), .val (.int y1), .val (.int z0), .val (.int z1), .val (.int k1), .val (.int k3), .val (.int m1), .val (.int m3), .val (.ref sb1), .val (.ref sb2), .val (.ref sb3), .val (.ref sb4), .val (.ref b5), .val (.ref b7), .unset, .unset] [(.int u0), (.int k1)])
  refine Goes.of (fun _ => XS.iload X8.here hx rfl (hb hby at_247) rfl) ?_
  show Goes p e below _ T8 (mkF m 249 #[.val (.int p1), .val (.int p2), .val (.int p3), .val (.int u0), .val (.int u1), .val (.int g0), .val (.int g1), .val (.int y0), .val (.int y1), .val (.int z0), .val (.int z1), .val (.int k1), .val (.int k3), .val (.int m1), .val (.int m3), .val (.ref sb1), .val (.ref sb2), .val (.ref sb3), .val (.ref sb4), .val (.ref b5), .val (.ref b7), .unset, .unset] [(.int u1), (.int u0), (.int k1)])
  refine Goes.of (fun _ => XS.iload X8.here hx rfl (hb hby at_249) rfl) ?_
  show Goes p e below _ T8 (mkF m 251 #[.val (.int p1), .val (.int p2), .val (.int p3), .val (.int u0), .val (.int u1), .val (.int g0), .val (.int g1), .val (.int y0), .val (.int y1), .val (.int z0), .val (.int z1), .val (.int k1), .val (.int k3), .val (.int m1), .val (.int m3), .val (.ref sb1), .val (.ref sb2), .val (.ref sb3), .val (.ref sb4), .val (.ref b5), .val (.ref b7), .unset, .unset] [(.int k3), (.int u1), (.int u0), (.int k1)])
  refine Goes.of (fun _ => XS.iload X8.here hx rfl (hb hby at_251) rfl) ?_
  show Goes p e below _ T8 (mkF m 253 #[.val (.int p1), .val (.int p2), .val (.int p3), .val (.int u0), .val (.int u1), .val (.int g0), .val (.int g1), .val (.int y0), .val (.int y1), .val (.int z0), .val (.int z1), .val (.int k1), .val (.int k3), .val (.int m1), .val (.int m3), .val (.ref sb1), .val (.ref sb2), .val (.ref sb3), .val (.ref sb4), .val (.ref b5), .val (.ref b7), .unset, .unset] [(.int y0), (.int k3), (.int u1), (.int u0), (.int k1)])
  refine Goes.of (fun _ => XS.iload X8.here hx rfl (hb hby at_253) rfl) ?_
  show Goes p e below _ T8 (mkF m 255 #[.val (.int p1), .val (.int p2), .val (.int p3), .val (.int u0), .val (.int u1), .val (.int g0), .val (.int g1), .val (.int y0), .val (.int y1), .val (.int z0), .val (.int z1), .val (.int k1), .val (.int k3), .val (.int m1), .val (.int m3), .val (.ref sb1), .val (.ref sb2), .val (.ref sb3), .val (.ref sb4), .val (.ref b5), .val (.ref b7), .unset, .unset] [(.int y1), (.int y0), (.int k3), (.int u1), (.int u0), (.int k1)])
  refine goStatic 0 X8 hx hZ hown (hw _ (List.mem_of_getElem? (i := 53) rfl)) (hw _ (List.mem_of_getElem? (i := 54) rfl)) (hw _ (List.mem_of_getElem? (i := 2) rfl)) (hw _ (List.mem_of_getElem? (i := 55) rfl)) (by decide) (rm_same l Z a0 hw k1 u0 u1 k3 y0 y1 T8.heap n0 O0) (rfl : T8.heap = _) (g := (mkF m 255 #[.val (.int p1), .val (.int p2), .val (.int p3), .val (.int u0), .val (.int u1), .val (.int g0), .val (.int g1), .val (.int y0), .val (.int y1), .val (.int z0), .val (.int z1), .val (.int k1), .val (.int k3), .val (.int m1), .val (.int m3), .val (.ref sb1), .val (.ref sb2), .val (.ref sb3), .val (.ref sb4), .val (.ref b5), .val (.ref b7), .unset, .unset] [(.int y1), (.int y0), (.int k3), (.int u1), (.int u0), (.int k1)])) rfl (by rw [hml]; rfl) [(.int k1), (.int u0), (.int u1), (.int k3), (.int y0), (.int y1)] [] (lenOf pd__ICCICC_Z rfl) rfl rfl (by show 2 * 0 + _ ≤ _; exact Nat.le_of_eq rfl) (hb hby at_255) (by decide) (by decide) (by decide) (by decide) ?_
  intro v9 T9 L9 X9 q9
  obtain ⟨rfl, Nq9, eT9⟩ := q9
  have N9 := Fr.app N8 Nq9
  show Goes p e below _ T9 (mkF m 258 #[.val (.int p1), .val (.int p2), .val (.int p3), .val (.int u0), .val (.int u1), .val (.int g0), .val (.int g1), .val (.int y0), .val (.int y1), .val (.int z0), .val (.int z1), .val (.int k1), .val (.int k3), .val (.int m1), .val (.int m3), .val (.ref sb1), .val (.ref sb2), .val (.ref sb3), .val (.ref sb4), .val (.ref b5), .val (.ref b7), .unset, .unset] [(.int (if k1 = k3 then (if k1 < (1 : Int32) then (if k1 < (2 : Int32) then (1 : Int32) else (if u1 = y1 then (1 : Int32) else (0 : Int32))) else (if u0 = y0 then (if k1 < (2 : Int32) then (1 : Int32) else (if u1 = y1 then (1 : Int32) else (0 : Int32))) else (0 : Int32))) else (0 : Int32)))])
  by_cases hpc258 : (if k1 = k3 then (if k1 < (1 : Int32) then (if k1 < (2 : Int32) then (1 : Int32) else (if u1 = y1 then (1 : Int32) else (0 : Int32))) else (if u0 = y0 then (if k1 < (2 : Int32) then (1 : Int32) else (if u1 = y1 then (1 : Int32) else (0 : Int32))) else (0 : Int32))) else (0 : Int32)) = (0 : Int32)
  · refine Goes.of (fun _ => XS.ifYes X9.here hx rfl (pc0 := 258) (pc' := 283) rfl (hb hby at_258) rfl ((if0 _ _).trans (teq hpc258).1) (by decide) (by decide)) ?_
    show Goes p e below _ T9 (mkF m 283 #[.val (.int p1), .val (.int p2), .val (.int p3), .val (.int u0), .val (.int u1), .val (.int g0), .val (.int g1), .val (.int y0), .val (.int y1), .val (.int z0), .val (.int z1), .val (.int k1), .val (.int k3), .val (.int m1), .val (.int m3), .val (.ref sb1), .val (.ref sb2), .val (.ref sb3), .val (.ref sb4), .val (.ref b5), .val (.ref b7), .unset, .unset] [])
    refine Goes.of (fun _ => XS.iconst X9.here hx rfl (hb hby at_283)) ?_
    show Goes p e below _ T9 (mkF m 284 #[.val (.int p1), .val (.int p2), .val (.int p3), .val (.int u0), .val (.int u1), .val (.int g0), .val (.int g1), .val (.int y0), .val (.int y1), .val (.int z0), .val (.int z1), .val (.int k1), .val (.int k3), .val (.int m1), .val (.int m3), .val (.ref sb1), .val (.ref sb2), .val (.ref sb3), .val (.ref sb4), .val (.ref b5), .val (.ref b7), .unset, .unset] [(.int (0 : Int32))])
    refine Goes.of (fun _ => XS.istore X9.here hx rfl (hb hby at_284) rfl (l' := #[.val (.int p1), .val (.int p2), .val (.int p3), .val (.int u0), .val (.int u1), .val (.int g0), .val (.int g1), .val (.int y0), .val (.int y1), .val (.int z0), .val (.int z1), .val (.int k1), .val (.int k3), .val (.int m1), .val (.int m3), .val (.ref sb1), .val (.ref sb2), .val (.ref sb3), .val (.ref sb4), .val (.ref b5), .val (.ref b7), .val (.int (0 : Int32)), .unset]) rfl) ?_
    show Goes p e below _ T9 (mkF m 286 #[.val (.int p1), .val (.int p2), .val (.int p3), .val (.int u0), .val (.int u1), .val (.int g0), .val (.int g1), .val (.int y0), .val (.int y1), .val (.int z0), .val (.int z1), .val (.int k1), .val (.int k3), .val (.int m1), .val (.int m3), .val (.ref sb1), .val (.ref sb2), .val (.ref sb3), .val (.ref sb4), .val (.ref b5), .val (.ref b7), .val (.int (0 : Int32)), .unset] [])
    refine Goes.of (fun _ => XS.aload X9.here hx rfl (hb hby at_286) rfl rfl) ?_
    show Goes p e below _ T9 (mkF m 288 #[.val (.int p1), .val (.int p2), .val (.int p3), .val (.int u0), .val (.int u1), .val (.int g0), .val (.int g1), .val (.int y0), .val (.int y1), .val (.int z0), .val (.int z1), .val (.int k1), .val (.int k3), .val (.int m1), .val (.int m3), .val (.ref sb1), .val (.ref sb2), .val (.ref sb3), .val (.ref sb4), .val (.ref b5), .val (.ref b7), .val (.int (0 : Int32)), .unset] [(.ref sb1)])
    refine Goes.of (fun _ => XS.astore X9.here hx rfl (hb hby at_288) rfl rfl (l' := #[.val (.int p1), .val (.int p2), .val (.int p3), .val (.int u0), .val (.int u1), .val (.int g0), .val (.int g1), .val (.int y0), .val (.int y1), .val (.int z0), .val (.int z1), .val (.int k1), .val (.int k3), .val (.int m1), .val (.int m3), .val (.ref sb1), .val (.ref sb2), .val (.ref sb3), .val (.ref sb4), .val (.ref b5), .val (.ref b7), .val (.int (0 : Int32)), .val (.ref sb1)]) rfl) ?_
    show Goes p e below _ T9 (mkF m 290 #[.val (.int p1), .val (.int p2), .val (.int p3), .val (.int u0), .val (.int u1), .val (.int g0), .val (.int g1), .val (.int y0), .val (.int y1), .val (.int z0), .val (.int z1), .val (.int k1), .val (.int k3), .val (.int m1), .val (.int m3), .val (.ref sb1), .val (.ref sb2), .val (.ref sb3), .val (.ref sb4), .val (.ref b5), .val (.ref b7), .val (.int (0 : Int32)), .val (.ref sb1)] [])
    refine Goes.of (fun _ => XS.aload X9.here hx rfl (hb hby at_290) rfl rfl) ?_
    show Goes p e below _ T9 (mkF m 292 #[.val (.int p1), .val (.int p2), .val (.int p3), .val (.int u0), .val (.int u1), .val (.int g0), .val (.int g1), .val (.int y0), .val (.int y1), .val (.int z0), .val (.int z1), .val (.int k1), .val (.int k3), .val (.int m1), .val (.int m3), .val (.ref sb1), .val (.ref sb2), .val (.ref sb3), .val (.ref sb4), .val (.ref b5), .val (.ref b7), .val (.int (0 : Int32)), .val (.ref sb1)] [(.ref b5)])
    refine Goes.of (fun _ => XS.aload X9.here hx rfl (hb hby at_292) rfl rfl) ?_
    show Goes p e below _ T9 (mkF m 294 #[.val (.int p1), .val (.int p2), .val (.int p3), .val (.int u0), .val (.int u1), .val (.int g0), .val (.int g1), .val (.int y0), .val (.int y1), .val (.int z0), .val (.int z1), .val (.int k1), .val (.int k3), .val (.int m1), .val (.int m3), .val (.ref sb1), .val (.ref sb2), .val (.ref sb3), .val (.ref sb4), .val (.ref b5), .val (.ref b7), .val (.int (0 : Int32)), .val (.ref sb1)] [(.ref b7), (.ref b5)])
    refine goVirtual 0 X9 hx hZ hown (hw _ (List.mem_of_getElem? (i := 56) rfl)) (hw _ (List.mem_of_getElem? (i := 57) rfl)) (notFace_of_selects (args := #[]) (mvT hZ (hw _ (List.mem_of_getElem? (i := 59) rfl)))) (hw _ (List.mem_of_getElem? (i := 59) rfl)) (hw _ (List.mem_of_getElem? (i := 58) rfl)) (hw _ (List.mem_of_getElem? (i := 39) rfl)) (hw _ (List.mem_of_getElem? (i := 60) rfl)) (by decide) (rm_eq l Z a0 hw b5 b7 sb1 sb2 sb3 sb4 (strL k1 u0 u1) (strL m1 g0 g1) (strL k3 y0 y1) (strL m3 z0 z1) cz T8.heap n0 O0 Sc hcz A7 H0_6 H1_6 H0_8 H1_8 S1 S2 S3 S4) eT9 A5 (g := (mkF m 294 #[.val (.int p1), .val (.int p2), .val (.int p3), .val (.int u0), .val (.int u1), .val (.int g0), .val (.int g1), .val (.int y0), .val (.int y1), .val (.int z0), .val (.int z1), .val (.int k1), .val (.int k3), .val (.int m1), .val (.int m3), .val (.ref sb1), .val (.ref sb2), .val (.ref sb3), .val (.ref sb4), .val (.ref b5), .val (.ref b7), .val (.int (0 : Int32)), .val (.ref sb1)] [(.ref b7), (.ref b5)])) rfl (by rw [hml]; rfl) [(.ref b7)] [] (lenOf pd__Ljava_lang_Object__Z rfl) rfl rfl (by show 2 * 0 + _ ≤ _; exact Nat.le_of_eq rfl) (hb hby at_294) (by decide) (by decide) (by decide) (by decide) ?_
    intro v10 T10 L10 X10 q10
    obtain ⟨rfl, Nq10, eT10⟩ := q10
    have N10 := Fr.app N9 Nq10
    show Goes p e below _ T10 (mkF m 297 #[.val (.int p1), .val (.int p2), .val (.int p3), .val (.int u0), .val (.int u1), .val (.int g0), .val (.int g1), .val (.int y0), .val (.int y1), .val (.int z0), .val (.int z1), .val (.int k1), .val (.int k3), .val (.int m1), .val (.int m3), .val (.ref sb1), .val (.ref sb2), .val (.ref sb3), .val (.ref sb4), .val (.ref b5), .val (.ref b7), .val (.int (0 : Int32)), .val (.ref sb1)] [(.int (if (if (strL k1 u0 u1) = (strL k3 y0 y1) then (1 : Int32) else (0 : Int32)) = (0 : Int32) then (0 : Int32) else (if (if (strL m1 g0 g1) = (strL m3 z0 z1) then (1 : Int32) else (0 : Int32)) = (0 : Int32) then (0 : Int32) else (1 : Int32))))])
    refine Goes.of (fun _ => XS.iload X10.here hx rfl (hb hby at_297) rfl) ?_
    show Goes p e below _ T10 (mkF m 299 #[.val (.int p1), .val (.int p2), .val (.int p3), .val (.int u0), .val (.int u1), .val (.int g0), .val (.int g1), .val (.int y0), .val (.int y1), .val (.int z0), .val (.int z1), .val (.int k1), .val (.int k3), .val (.int m1), .val (.int m3), .val (.ref sb1), .val (.ref sb2), .val (.ref sb3), .val (.ref sb4), .val (.ref b5), .val (.ref b7), .val (.int (0 : Int32)), .val (.ref sb1)] [(.int (0 : Int32)), (.int (if (if (strL k1 u0 u1) = (strL k3 y0 y1) then (1 : Int32) else (0 : Int32)) = (0 : Int32) then (0 : Int32) else (if (if (strL m1 g0 g1) = (strL m3 z0 z1) then (1 : Int32) else (0 : Int32)) = (0 : Int32) then (0 : Int32) else (1 : Int32))))])
    refine Goes.of (fun _ => XS.icmpNo X10.here hx rfl (hb hby at_299) rfl (teq (by rw [eq_fin k1 k3 u0 u1 y0 y1 hk1 hk3, if_pos hpc258])).2) ?_
    show Goes p e below _ T10 (mkF m 302 #[.val (.int p1), .val (.int p2), .val (.int p3), .val (.int u0), .val (.int u1), .val (.int g0), .val (.int g1), .val (.int y0), .val (.int y1), .val (.int z0), .val (.int z1), .val (.int k1), .val (.int k3), .val (.int m1), .val (.int m3), .val (.ref sb1), .val (.ref sb2), .val (.ref sb3), .val (.ref sb4), .val (.ref b5), .val (.ref b7), .val (.int (0 : Int32)), .val (.ref sb1)] [])
    refine Goes.of (fun _ => XS.aload X10.here hx rfl (hb hby at_302) rfl rfl) ?_
    show Goes p e below _ T10 (mkF m 304 #[.val (.int p1), .val (.int p2), .val (.int p3), .val (.int u0), .val (.int u1), .val (.int g0), .val (.int g1), .val (.int y0), .val (.int y1), .val (.int z0), .val (.int z1), .val (.int k1), .val (.int k3), .val (.int m1), .val (.int m3), .val (.ref sb1), .val (.ref sb2), .val (.ref sb3), .val (.ref sb4), .val (.ref b5), .val (.ref b7), .val (.int (0 : Int32)), .val (.ref sb1)] [(.ref b7)])
    refine Goes.of (fun _ => XS.aload X10.here hx rfl (hb hby at_304) rfl rfl) ?_
    show Goes p e below _ T10 (mkF m 306 #[.val (.int p1), .val (.int p2), .val (.int p3), .val (.int u0), .val (.int u1), .val (.int g0), .val (.int g1), .val (.int y0), .val (.int y1), .val (.int z0), .val (.int z1), .val (.int k1), .val (.int k3), .val (.int m1), .val (.int m3), .val (.ref sb1), .val (.ref sb2), .val (.ref sb3), .val (.ref sb4), .val (.ref b5), .val (.ref b7), .val (.int (0 : Int32)), .val (.ref sb1)] [(.ref b5), (.ref b7)])
    refine goVirtual 0 X10 hx hZ hown (hw _ (List.mem_of_getElem? (i := 56) rfl)) (hw _ (List.mem_of_getElem? (i := 57) rfl)) (notFace_of_selects (args := #[]) (mvT hZ (hw _ (List.mem_of_getElem? (i := 59) rfl)))) (hw _ (List.mem_of_getElem? (i := 59) rfl)) (hw _ (List.mem_of_getElem? (i := 58) rfl)) (hw _ (List.mem_of_getElem? (i := 39) rfl)) (hw _ (List.mem_of_getElem? (i := 60) rfl)) (by decide) (rm_eq l Z a0 hw b7 b5 sb3 sb4 sb1 sb2 (strL k3 y0 y1) (strL m3 z0 z1) (strL k1 u0 u1) (strL m1 g0 g1) cz T8.heap n0 O0 Sc hcz A5 H0_8 H1_8 H0_6 H1_6 S3 S4 S1 S2) eT10 A7 (g := (mkF m 306 #[.val (.int p1), .val (.int p2), .val (.int p3), .val (.int u0), .val (.int u1), .val (.int g0), .val (.int g1), .val (.int y0), .val (.int y1), .val (.int z0), .val (.int z1), .val (.int k1), .val (.int k3), .val (.int m1), .val (.int m3), .val (.ref sb1), .val (.ref sb2), .val (.ref sb3), .val (.ref sb4), .val (.ref b5), .val (.ref b7), .val (.int (0 : Int32)), .val (.ref sb1)] [(.ref b5), (.ref b7)])) rfl (by rw [hml]; rfl) [(.ref b5)] [] (lenOf pd__Ljava_lang_Object__Z rfl) rfl rfl (by show 2 * 0 + _ ≤ _; exact Nat.le_of_eq rfl) (hb hby at_306) (by decide) (by decide) (by decide) (by decide) ?_
    intro v11 T11 L11 X11 q11
    obtain ⟨rfl, Nq11, eT11⟩ := q11
    have N11 := Fr.app N10 Nq11
    show Goes p e below _ T11 (mkF m 309 #[.val (.int p1), .val (.int p2), .val (.int p3), .val (.int u0), .val (.int u1), .val (.int g0), .val (.int g1), .val (.int y0), .val (.int y1), .val (.int z0), .val (.int z1), .val (.int k1), .val (.int k3), .val (.int m1), .val (.int m3), .val (.ref sb1), .val (.ref sb2), .val (.ref sb3), .val (.ref sb4), .val (.ref b5), .val (.ref b7), .val (.int (0 : Int32)), .val (.ref sb1)] [(.int (if (if (strL k3 y0 y1) = (strL k1 u0 u1) then (1 : Int32) else (0 : Int32)) = (0 : Int32) then (0 : Int32) else (if (if (strL m3 z0 z1) = (strL m1 g0 g1) then (1 : Int32) else (0 : Int32)) = (0 : Int32) then (0 : Int32) else (1 : Int32))))])
    refine Goes.of (fun _ => XS.iload X11.here hx rfl (hb hby at_309) rfl) ?_
    show Goes p e below _ T11 (mkF m 311 #[.val (.int p1), .val (.int p2), .val (.int p3), .val (.int u0), .val (.int u1), .val (.int g0), .val (.int g1), .val (.int y0), .val (.int y1), .val (.int z0), .val (.int z1), .val (.int k1), .val (.int k3), .val (.int m1), .val (.int m3), .val (.ref sb1), .val (.ref sb2), .val (.ref sb3), .val (.ref sb4), .val (.ref b5), .val (.ref b7), .val (.int (0 : Int32)), .val (.ref sb1)] [(.int (0 : Int32)), (.int (if (if (strL k3 y0 y1) = (strL k1 u0 u1) then (1 : Int32) else (0 : Int32)) = (0 : Int32) then (0 : Int32) else (if (if (strL m3 z0 z1) = (strL m1 g0 g1) then (1 : Int32) else (0 : Int32)) = (0 : Int32) then (0 : Int32) else (1 : Int32))))])
    refine Goes.of (fun _ => XS.icmpNo X11.here hx rfl (hb hby at_311) rfl (teq (by rw [eq_fin' k1 k3 u0 u1 y0 y1 hk1 hk3, if_pos hpc258])).2) ?_
    show Goes p e below _ T11 (mkF m 314 #[.val (.int p1), .val (.int p2), .val (.int p3), .val (.int u0), .val (.int u1), .val (.int g0), .val (.int g1), .val (.int y0), .val (.int y1), .val (.int z0), .val (.int z1), .val (.int k1), .val (.int k3), .val (.int m1), .val (.int m3), .val (.ref sb1), .val (.ref sb2), .val (.ref sb3), .val (.ref sb4), .val (.ref b5), .val (.ref b7), .val (.int (0 : Int32)), .val (.ref sb1)] [])
    refine Goes.of (fun _ => XS.aload X11.here hx rfl (hb hby at_314) rfl rfl) ?_
    show Goes p e below _ T11 (mkF m 316 #[.val (.int p1), .val (.int p2), .val (.int p3), .val (.int u0), .val (.int u1), .val (.int g0), .val (.int g1), .val (.int y0), .val (.int y1), .val (.int z0), .val (.int z1), .val (.int k1), .val (.int k3), .val (.int m1), .val (.int m3), .val (.ref sb1), .val (.ref sb2), .val (.ref sb3), .val (.ref sb4), .val (.ref b5), .val (.ref b7), .val (.int (0 : Int32)), .val (.ref sb1)] [(.ref b5)])
    refine Goes.of (fun _ => XS.aload X11.here hx rfl (hb hby at_316) rfl rfl) ?_
    show Goes p e below _ T11 (mkF m 318 #[.val (.int p1), .val (.int p2), .val (.int p3), .val (.int u0), .val (.int u1), .val (.int g0), .val (.int g1), .val (.int y0), .val (.int y1), .val (.int z0), .val (.int z1), .val (.int k1), .val (.int k3), .val (.int m1), .val (.int m3), .val (.ref sb1), .val (.ref sb2), .val (.ref sb3), .val (.ref sb4), .val (.ref b5), .val (.ref b7), .val (.int (0 : Int32)), .val (.ref sb1)] [(.ref b5), (.ref b5)])
    refine goVirtual 0 X11 hx hZ hown (hw _ (List.mem_of_getElem? (i := 56) rfl)) (hw _ (List.mem_of_getElem? (i := 57) rfl)) (notFace_of_selects (args := #[]) (mvT hZ (hw _ (List.mem_of_getElem? (i := 59) rfl)))) (hw _ (List.mem_of_getElem? (i := 59) rfl)) (hw _ (List.mem_of_getElem? (i := 58) rfl)) (hw _ (List.mem_of_getElem? (i := 39) rfl)) (hw _ (List.mem_of_getElem? (i := 60) rfl)) (by decide) (rm_eq l Z a0 hw b5 b5 sb1 sb2 sb1 sb2 (strL k1 u0 u1) (strL m1 g0 g1) (strL k1 u0 u1) (strL m1 g0 g1) cz T8.heap n0 O0 Sc hcz A5 H0_6 H1_6 H0_6 H1_6 S1 S2 S1 S2) eT11 A5 (g := (mkF m 318 #[.val (.int p1), .val (.int p2), .val (.int p3), .val (.int u0), .val (.int u1), .val (.int g0), .val (.int g1), .val (.int y0), .val (.int y1), .val (.int z0), .val (.int z1), .val (.int k1), .val (.int k3), .val (.int m1), .val (.int m3), .val (.ref sb1), .val (.ref sb2), .val (.ref sb3), .val (.ref sb4), .val (.ref b5), .val (.ref b7), .val (.int (0 : Int32)), .val (.ref sb1)] [(.ref b5), (.ref b5)])) rfl (by rw [hml]; rfl) [(.ref b5)] [] (lenOf pd__Ljava_lang_Object__Z rfl) rfl rfl (by show 2 * 0 + _ ≤ _; exact Nat.le_of_eq rfl) (hb hby at_318) (by decide) (by decide) (by decide) (by decide) ?_
    intro v12 T12 L12 X12 q12
    obtain ⟨rfl, Nq12, eT12⟩ := q12
    have N12 := Fr.app N11 Nq12
    show Goes p e below _ T12 (mkF m 321 #[.val (.int p1), .val (.int p2), .val (.int p3), .val (.int u0), .val (.int u1), .val (.int g0), .val (.int g1), .val (.int y0), .val (.int y1), .val (.int z0), .val (.int z1), .val (.int k1), .val (.int k3), .val (.int m1), .val (.int m3), .val (.ref sb1), .val (.ref sb2), .val (.ref sb3), .val (.ref sb4), .val (.ref b5), .val (.ref b7), .val (.int (0 : Int32)), .val (.ref sb1)] [(.int (if (if (strL k1 u0 u1) = (strL k1 u0 u1) then (1 : Int32) else (0 : Int32)) = (0 : Int32) then (0 : Int32) else (if (if (strL m1 g0 g1) = (strL m1 g0 g1) then (1 : Int32) else (0 : Int32)) = (0 : Int32) then (0 : Int32) else (1 : Int32))))])
    refine Goes.of (fun _ => XS.ifNo X12.here hx rfl (hb hby at_321) rfl ((if0 _ _).trans (feq (by simp : ¬ (if (if (strL k1 u0 u1) = (strL k1 u0 u1) then (1 : Int32) else (0 : Int32)) = (0 : Int32) then (0 : Int32) else (if (if (strL m1 g0 g1) = (strL m1 g0 g1) then (1 : Int32) else (0 : Int32)) = (0 : Int32) then (0 : Int32) else (1 : Int32))) = (0 : Int32))).1)) ?_
    show Goes p e below _ T12 (mkF m 324 #[.val (.int p1), .val (.int p2), .val (.int p3), .val (.int u0), .val (.int u1), .val (.int g0), .val (.int g1), .val (.int y0), .val (.int y1), .val (.int z0), .val (.int z1), .val (.int k1), .val (.int k3), .val (.int m1), .val (.int m3), .val (.ref sb1), .val (.ref sb2), .val (.ref sb3), .val (.ref sb4), .val (.ref b5), .val (.ref b7), .val (.int (0 : Int32)), .val (.ref sb1)] [])
    refine Goes.of (fun _ => XS.aload X12.here hx rfl (hb hby at_324) rfl rfl) ?_
    show Goes p e below _ T12 (mkF m 326 #[.val (.int p1), .val (.int p2), .val (.int p3), .val (.int u0), .val (.int u1), .val (.int g0), .val (.int g1), .val (.int y0), .val (.int y1), .val (.int z0), .val (.int z1), .val (.int k1), .val (.int k3), .val (.int m1), .val (.int m3), .val (.ref sb1), .val (.ref sb2), .val (.ref sb3), .val (.ref sb4), .val (.ref b5), .val (.ref b7), .val (.int (0 : Int32)), .val (.ref sb1)] [(.ref b5)])
    refine Goes.of (fun _ => XS.aconstNull X12.here hx rfl (hb hby at_326)) ?_
    show Goes p e below _ T12 (mkF m 327 #[.val (.int p1), .val (.int p2), .val (.int p3), .val (.int u0), .val (.int u1), .val (.int g0), .val (.int g1), .val (.int y0), .val (.int y1), .val (.int z0), .val (.int z1), .val (.int k1), .val (.int k3), .val (.int m1), .val (.int m3), .val (.ref sb1), .val (.ref sb2), .val (.ref sb3), .val (.ref sb4), .val (.ref b5), .val (.ref b7), .val (.int (0 : Int32)), .val (.ref sb1)] [.null, (.ref b5)])
    refine goVirtual 0 X12 hx hZ hown (hw _ (List.mem_of_getElem? (i := 56) rfl)) (hw _ (List.mem_of_getElem? (i := 57) rfl)) (notFace_of_selects (args := #[]) (mvT hZ (hw _ (List.mem_of_getElem? (i := 59) rfl)))) (hw _ (List.mem_of_getElem? (i := 59) rfl)) (hw _ (List.mem_of_getElem? (i := 58) rfl)) (hw _ (List.mem_of_getElem? (i := 39) rfl)) (hw _ (List.mem_of_getElem? (i := 60) rfl)) (by decide) (rm_eqnull l Z a0 hw b5 T8.heap n0 O0) eT12 A5 (g := (mkF m 327 #[.val (.int p1), .val (.int p2), .val (.int p3), .val (.int u0), .val (.int u1), .val (.int g0), .val (.int g1), .val (.int y0), .val (.int y1), .val (.int z0), .val (.int z1), .val (.int k1), .val (.int k3), .val (.int m1), .val (.int m3), .val (.ref sb1), .val (.ref sb2), .val (.ref sb3), .val (.ref sb4), .val (.ref b5), .val (.ref b7), .val (.int (0 : Int32)), .val (.ref sb1)] [.null, (.ref b5)])) rfl (by rw [hml]; rfl) [.null] [] (lenOf pd__Ljava_lang_Object__Z rfl) rfl rfl (by show 2 * 0 + _ ≤ _; exact Nat.le_of_eq rfl) (hb hby at_327) (by decide) (by decide) (by decide) (by decide) ?_
    intro v13 T13 L13 X13 q13
    obtain ⟨rfl, Nq13, eT13⟩ := q13
    have N13 := Fr.app N12 Nq13
    show Goes p e below _ T13 (mkF m 330 #[.val (.int p1), .val (.int p2), .val (.int p3), .val (.int u0), .val (.int u1), .val (.int g0), .val (.int g1), .val (.int y0), .val (.int y1), .val (.int z0), .val (.int z1), .val (.int k1), .val (.int k3), .val (.int m1), .val (.int m3), .val (.ref sb1), .val (.ref sb2), .val (.ref sb3), .val (.ref sb4), .val (.ref b5), .val (.ref b7), .val (.int (0 : Int32)), .val (.ref sb1)] [(.int (0 : Int32))])
    refine Goes.of (fun _ => XS.ifNo X13.here hx rfl (hb hby at_330) rfl ((if0 _ _).trans (teq (by decide)).2)) ?_
    show Goes p e below _ T13 (mkF m 333 #[.val (.int p1), .val (.int p2), .val (.int p3), .val (.int u0), .val (.int u1), .val (.int g0), .val (.int g1), .val (.int y0), .val (.int y1), .val (.int z0), .val (.int z1), .val (.int k1), .val (.int k3), .val (.int m1), .val (.int m3), .val (.ref sb1), .val (.ref sb2), .val (.ref sb3), .val (.ref sb4), .val (.ref b5), .val (.ref b7), .val (.int (0 : Int32)), .val (.ref sb1)] [])
    refine Goes.of (fun _ => XS.aload X13.here hx rfl (hb hby at_333) rfl rfl) ?_
    show Goes p e below _ T13 (mkF m 335 #[.val (.int p1), .val (.int p2), .val (.int p3), .val (.int u0), .val (.int u1), .val (.int g0), .val (.int g1), .val (.int y0), .val (.int y1), .val (.int z0), .val (.int z1), .val (.int k1), .val (.int k3), .val (.int m1), .val (.int m3), .val (.ref sb1), .val (.ref sb2), .val (.ref sb3), .val (.ref sb4), .val (.ref b5), .val (.ref b7), .val (.int (0 : Int32)), .val (.ref sb1)] [(.ref b5)])
    refine Goes.of (fun _ => XS.aload X13.here hx rfl (hb hby at_335) rfl rfl) ?_
    show Goes p e below _ T13 (mkF m 337 #[.val (.int p1), .val (.int p2), .val (.int p3), .val (.int u0), .val (.int u1), .val (.int g0), .val (.int g1), .val (.int y0), .val (.int y1), .val (.int z0), .val (.int z1), .val (.int k1), .val (.int k3), .val (.int m1), .val (.int m3), .val (.ref sb1), .val (.ref sb2), .val (.ref sb3), .val (.ref sb4), .val (.ref b5), .val (.ref b7), .val (.int (0 : Int32)), .val (.ref sb1)] [(.ref sb1), (.ref b5)])
    refine goVirtual 0 X13 hx hZ hown (hw _ (List.mem_of_getElem? (i := 56) rfl)) (hw _ (List.mem_of_getElem? (i := 57) rfl)) (notFace_of_selects (args := #[]) (mvT hZ (hw _ (List.mem_of_getElem? (i := 59) rfl)))) (hw _ (List.mem_of_getElem? (i := 59) rfl)) (hw _ (List.mem_of_getElem? (i := 58) rfl)) (hw _ (List.mem_of_getElem? (i := 39) rfl)) (hw _ (List.mem_of_getElem? (i := 60) rfl)) (by decide) (rm_eqstr l Z a0 hw b5 sb1 T8.heap n0 O0 S1.1) eT13 A5 (g := (mkF m 337 #[.val (.int p1), .val (.int p2), .val (.int p3), .val (.int u0), .val (.int u1), .val (.int g0), .val (.int g1), .val (.int y0), .val (.int y1), .val (.int z0), .val (.int z1), .val (.int k1), .val (.int k3), .val (.int m1), .val (.int m3), .val (.ref sb1), .val (.ref sb2), .val (.ref sb3), .val (.ref sb4), .val (.ref b5), .val (.ref b7), .val (.int (0 : Int32)), .val (.ref sb1)] [(.ref sb1), (.ref b5)])) rfl (by rw [hml]; rfl) [(.ref sb1)] [] (lenOf pd__Ljava_lang_Object__Z rfl) rfl rfl (by show 2 * 0 + _ ≤ _; exact Nat.le_of_eq rfl) (hb hby at_337) (by decide) (by decide) (by decide) (by decide) ?_
    intro v14 T14 L14 X14 q14
    obtain ⟨rfl, Nq14, eT14⟩ := q14
    have N14 := Fr.app N13 Nq14
    show Goes p e below _ T14 (mkF m 340 #[.val (.int p1), .val (.int p2), .val (.int p3), .val (.int u0), .val (.int u1), .val (.int g0), .val (.int g1), .val (.int y0), .val (.int y1), .val (.int z0), .val (.int z1), .val (.int k1), .val (.int k3), .val (.int m1), .val (.int m3), .val (.ref sb1), .val (.ref sb2), .val (.ref sb3), .val (.ref sb4), .val (.ref b5), .val (.ref b7), .val (.int (0 : Int32)), .val (.ref sb1)] [(.int (0 : Int32))])
    refine Goes.of (fun _ => XS.ifNo X14.here hx rfl (hb hby at_340) rfl ((if0 _ _).trans (teq (by decide)).2)) ?_
    show Goes p e below _ T14 (mkF m 343 #[.val (.int p1), .val (.int p2), .val (.int p3), .val (.int u0), .val (.int u1), .val (.int g0), .val (.int g1), .val (.int y0), .val (.int y1), .val (.int z0), .val (.int z1), .val (.int k1), .val (.int k3), .val (.int m1), .val (.int m3), .val (.ref sb1), .val (.ref sb2), .val (.ref sb3), .val (.ref sb4), .val (.ref b5), .val (.ref b7), .val (.int (0 : Int32)), .val (.ref sb1)] [])
    refine Goes.of (fun _ => XS.iconst X14.here hx rfl (hb hby at_343)) ?_
    show Goes p e below _ T14 (mkF m 344 #[.val (.int p1), .val (.int p2), .val (.int p3), .val (.int u0), .val (.int u1), .val (.int g0), .val (.int g1), .val (.int y0), .val (.int y1), .val (.int z0), .val (.int z1), .val (.int k1), .val (.int k3), .val (.int m1), .val (.int m3), .val (.ref sb1), .val (.ref sb2), .val (.ref sb3), .val (.ref sb4), .val (.ref b5), .val (.ref b7), .val (.int (0 : Int32)), .val (.ref sb1)] [(.int (1 : Int32))])
    refine Goes.of (fun _ => XS.goto X14.here hx rfl (pc0 := 344) (pc' := 348) rfl (hb hby at_344) (by decide) (by decide)) ?_
    show Goes p e below _ T14 (mkF m 348 #[.val (.int p1), .val (.int p2), .val (.int p3), .val (.int u0), .val (.int u1), .val (.int g0), .val (.int g1), .val (.int y0), .val (.int y1), .val (.int z0), .val (.int z1), .val (.int k1), .val (.int k3), .val (.int m1), .val (.int m3), .val (.ref sb1), .val (.ref sb2), .val (.ref sb3), .val (.ref sb4), .val (.ref b5), .val (.ref b7), .val (.int (0 : Int32)), .val (.ref sb1)] [(.int (1 : Int32))])
    exact retZW (t := .boolean) X14 hS hk hZ hEL HC hx hret hlk (by simp) (hb hby at_348) eT14 (by decide) (by decide) ⟨rfl, N14⟩
  · refine Goes.of (fun _ => XS.ifNo X9.here hx rfl (hb hby at_258) rfl ((if0 _ _).trans (feq hpc258).1)) ?_
    show Goes p e below _ T9 (mkF m 261 #[.val (.int p1), .val (.int p2), .val (.int p3), .val (.int u0), .val (.int u1), .val (.int g0), .val (.int g1), .val (.int y0), .val (.int y1), .val (.int z0), .val (.int z1), .val (.int k1), .val (.int k3), .val (.int m1), .val (.int m3), .val (.ref sb1), .val (.ref sb2), .val (.ref sb3), .val (.ref sb4), .val (.ref b5), .val (.ref b7), .unset, .unset] [])
    refine Goes.of (fun _ => XS.iload X9.here hx rfl (hb hby at_261) rfl) ?_
    show Goes p e below _ T9 (mkF m 263 #[.val (.int p1), .val (.int p2), .val (.int p3), .val (.int u0), .val (.int u1), .val (.int g0), .val (.int g1), .val (.int y0), .val (.int y1), .val (.int z0), .val (.int z1), .val (.int k1), .val (.int k3), .val (.int m1), .val (.int m3), .val (.ref sb1), .val (.ref sb2), .val (.ref sb3), .val (.ref sb4), .val (.ref b5), .val (.ref b7), .unset, .unset] [(.int m1)])
    refine Goes.of (fun _ => XS.iload X9.here hx rfl (hb hby at_263) rfl) ?_
    show Goes p e below _ T9 (mkF m 265 #[.val (.int p1), .val (.int p2), .val (.int p3), .val (.int u0), .val (.int u1), .val (.int g0), .val (.int g1), .val (.int y0), .val (.int y1), .val (.int z0), .val (.int z1), .val (.int k1), .val (.int k3), .val (.int m1), .val (.int m3), .val (.ref sb1), .val (.ref sb2), .val (.ref sb3), .val (.ref sb4), .val (.ref b5), .val (.ref b7), .unset, .unset] [(.int g0), (.int m1)])
    refine Goes.of (fun _ => XS.iload X9.here hx rfl (hb hby at_265) rfl) ?_
    show Goes p e below _ T9 (mkF m 267 #[.val (.int p1), .val (.int p2), .val (.int p3), .val (.int u0), .val (.int u1), .val (.int g0), .val (.int g1), .val (.int y0), .val (.int y1), .val (.int z0), .val (.int z1), .val (.int k1), .val (.int k3), .val (.int m1), .val (.int m3), .val (.ref sb1), .val (.ref sb2), .val (.ref sb3), .val (.ref sb4), .val (.ref b5), .val (.ref b7), .unset, .unset] [(.int g1), (.int g0), (.int m1)])
    refine Goes.of (fun _ => XS.iload X9.here hx rfl (hb hby at_267) rfl) ?_
    show Goes p e below _ T9 (mkF m 269 #[.val (.int p1), .val (.int p2), .val (.int p3), .val (.int u0), .val (.int u1), .val (.int g0), .val (.int g1), .val (.int y0), .val (.int y1), .val (.int z0), .val (.int z1), .val (.int k1), .val (.int k3), .val (.int m1), .val (.int m3), .val (.ref sb1), .val (.ref sb2), .val (.ref sb3), .val (.ref sb4), .val (.ref b5), .val (.ref b7), .unset, .unset] [(.int m3), (.int g1), (.int g0), (.int m1)])
    refine Goes.of (fun _ => XS.iload X9.here hx rfl (hb hby at_269) rfl) ?_
    show Goes p e below _ T9 (mkF m 271 #[.val (.int p1), .val (.int p2), .val (.int p3), .val (.int u0), .val (.int u1), .val (.int g0), .val (.int g1), .val (.int y0), .val (.int y1), .val (.int z0), .val (.int z1), .val (.int k1), .val (.int k3), .val (.int m1), .val (.int m3), .val (.ref sb1), .val (.ref sb2), .val (.ref sb3), .val (.ref sb4), .val (.ref b5), .val (.ref b7), .unset, .unset] [(.int z0), (.int m3), (.int g1), (.int g0), (.int m1)])
    refine Goes.of (fun _ => XS.iload X9.here hx rfl (hb hby at_271) rfl) ?_
    show Goes p e below _ T9 (mkF m 273 #[.val (.int p1), .val (.int p2), .val (.int p3), .val (.int u0), .val (.int u1), .val (.int g0), .val (.int g1), .val (.int y0), .val (.int y1), .val (.int z0), .val (.int z1), .val (.int k1), .val (.int k3), .val (.int m1), .val (.int m3), .val (.ref sb1), .val (.ref sb2), .val (.ref sb3), .val (.ref sb4), .val (.ref b5), .val (.ref b7), .unset, .unset] [(.int z1), (.int z0), (.int m3), (.int g1), (.int g0), (.int m1)])
    refine goStatic 0 X9 hx hZ hown (hw _ (List.mem_of_getElem? (i := 53) rfl)) (hw _ (List.mem_of_getElem? (i := 54) rfl)) (hw _ (List.mem_of_getElem? (i := 2) rfl)) (hw _ (List.mem_of_getElem? (i := 55) rfl)) (by decide) (rm_same l Z a0 hw m1 g0 g1 m3 z0 z1 T8.heap n0 O0) eT9 (g := (mkF m 273 #[.val (.int p1), .val (.int p2), .val (.int p3), .val (.int u0), .val (.int u1), .val (.int g0), .val (.int g1), .val (.int y0), .val (.int y1), .val (.int z0), .val (.int z1), .val (.int k1), .val (.int k3), .val (.int m1), .val (.int m3), .val (.ref sb1), .val (.ref sb2), .val (.ref sb3), .val (.ref sb4), .val (.ref b5), .val (.ref b7), .unset, .unset] [(.int z1), (.int z0), (.int m3), (.int g1), (.int g0), (.int m1)])) rfl (by rw [hml]; rfl) [(.int m1), (.int g0), (.int g1), (.int m3), (.int z0), (.int z1)] [] (lenOf pd__ICCICC_Z rfl) rfl rfl (by show 2 * 0 + _ ≤ _; exact Nat.le_of_eq rfl) (hb hby at_273) (by decide) (by decide) (by decide) (by decide) ?_
    intro v15 T15 L15 X15 q15
    obtain ⟨rfl, Nq15, eT15⟩ := q15
    have N15 := Fr.app N9 Nq15
    show Goes p e below _ T15 (mkF m 276 #[.val (.int p1), .val (.int p2), .val (.int p3), .val (.int u0), .val (.int u1), .val (.int g0), .val (.int g1), .val (.int y0), .val (.int y1), .val (.int z0), .val (.int z1), .val (.int k1), .val (.int k3), .val (.int m1), .val (.int m3), .val (.ref sb1), .val (.ref sb2), .val (.ref sb3), .val (.ref sb4), .val (.ref b5), .val (.ref b7), .unset, .unset] [(.int (if m1 = m3 then (if m1 < (1 : Int32) then (if m1 < (2 : Int32) then (1 : Int32) else (if g1 = z1 then (1 : Int32) else (0 : Int32))) else (if g0 = z0 then (if m1 < (2 : Int32) then (1 : Int32) else (if g1 = z1 then (1 : Int32) else (0 : Int32))) else (0 : Int32))) else (0 : Int32)))])
    refine Goes.of (T' := T15) (f' := (mkF m 284 #[.val (.int p1), .val (.int p2), .val (.int p3), .val (.int u0), .val (.int u1), .val (.int g0), .val (.int g1), .val (.int y0), .val (.int y1), .val (.int z0), .val (.int z1), .val (.int k1), .val (.int k3), .val (.int m1), .val (.int m3), .val (.ref sb1), .val (.ref sb2), .val (.ref sb3), .val (.ref sb4), .val (.ref b5), .val (.ref b7), .unset, .unset] [(.int (if (if m1 = m3 then (if m1 < (1 : Int32) then (if m1 < (2 : Int32) then (1 : Int32) else (if g1 = z1 then (1 : Int32) else (0 : Int32))) else (if g0 = z0 then (if m1 < (2 : Int32) then (1 : Int32) else (if g1 = z1 then (1 : Int32) else (0 : Int32))) else (0 : Int32))) else (0 : Int32)) = (0 : Int32) then (0 : Int32) else (1 : Int32)))])) (fun t kt => ?_) ?_
    · show Steps p.tables e below (T15.setTop (mkF m 276 #[.val (.int p1), .val (.int p2), .val (.int p3), .val (.int u0), .val (.int u1), .val (.int g0), .val (.int g1), .val (.int y0), .val (.int y1), .val (.int z0), .val (.int z1), .val (.int k1), .val (.int k3), .val (.int m1), .val (.int m3), .val (.ref sb1), .val (.ref sb2), .val (.ref sb3), .val (.ref sb4), .val (.ref b5), .val (.ref b7), .unset, .unset] [(.int (if m1 = m3 then (if m1 < (1 : Int32) then (if m1 < (2 : Int32) then (1 : Int32) else (if g1 = z1 then (1 : Int32) else (0 : Int32))) else (if g0 = z0 then (if m1 < (2 : Int32) then (1 : Int32) else (if g1 = z1 then (1 : Int32) else (0 : Int32))) else (0 : Int32))) else (0 : Int32)))])) _
      by_cases hq276 : (if m1 = m3 then (if m1 < (1 : Int32) then (if m1 < (2 : Int32) then (1 : Int32) else (if g1 = z1 then (1 : Int32) else (0 : Int32))) else (if g0 = z0 then (if m1 < (2 : Int32) then (1 : Int32) else (if g1 = z1 then (1 : Int32) else (0 : Int32))) else (0 : Int32))) else (0 : Int32)) = (0 : Int32)
      · simp only [if_pos hq276] at kt
        refine XS.ifYes X15.here hx rfl (pc0 := 276) (pc' := 283) rfl (hb hby at_276) rfl ((if0 _ _).trans (teq hq276).1) (by decide) (by decide) ?_
        show Steps p.tables e below (T15.setTop (mkF m 283 #[.val (.int p1), .val (.int p2), .val (.int p3), .val (.int u0), .val (.int u1), .val (.int g0), .val (.int g1), .val (.int y0), .val (.int y1), .val (.int z0), .val (.int z1), .val (.int k1), .val (.int k3), .val (.int m1), .val (.int m3), .val (.ref sb1), .val (.ref sb2), .val (.ref sb3), .val (.ref sb4), .val (.ref b5), .val (.ref b7), .unset, .unset] [])) _
        refine XS.iconst X15.here hx rfl (hb hby at_283) ?_
        show Steps p.tables e below (T15.setTop (mkF m 284 #[.val (.int p1), .val (.int p2), .val (.int p3), .val (.int u0), .val (.int u1), .val (.int g0), .val (.int g1), .val (.int y0), .val (.int y1), .val (.int z0), .val (.int z1), .val (.int k1), .val (.int k3), .val (.int m1), .val (.int m3), .val (.ref sb1), .val (.ref sb2), .val (.ref sb3), .val (.ref sb4), .val (.ref b5), .val (.ref b7), .unset, .unset] [(.int (0 : Int32))])) _
        exact kt
      · simp only [if_neg hq276] at kt
        refine XS.ifNo X15.here hx rfl (hb hby at_276) rfl ((if0 _ _).trans (feq hq276).1) ?_
        show Steps p.tables e below (T15.setTop (mkF m 279 #[.val (.int p1), .val (.int p2), .val (.int p3), .val (.int u0), .val (.int u1), .val (.int g0), .val (.int g1), .val (.int y0), .val (.int y1), .val (.int z0), .val (.int z1), .val (.int k1), .val (.int k3), .val (.int m1), .val (.int m3), .val (.ref sb1), .val (.ref sb2), .val (.ref sb3), .val (.ref sb4), .val (.ref b5), .val (.ref b7), .unset, .unset] [])) _
        refine XS.iconst X15.here hx rfl (hb hby at_279) ?_
        show Steps p.tables e below (T15.setTop (mkF m 280 #[.val (.int p1), .val (.int p2), .val (.int p3), .val (.int u0), .val (.int u1), .val (.int g0), .val (.int g1), .val (.int y0), .val (.int y1), .val (.int z0), .val (.int z1), .val (.int k1), .val (.int k3), .val (.int m1), .val (.int m3), .val (.ref sb1), .val (.ref sb2), .val (.ref sb3), .val (.ref sb4), .val (.ref b5), .val (.ref b7), .unset, .unset] [(.int (1 : Int32))])) _
        refine XS.goto X15.here hx rfl (pc0 := 280) (pc' := 284) rfl (hb hby at_280) (by decide) (by decide) ?_
        show Steps p.tables e below (T15.setTop (mkF m 284 #[.val (.int p1), .val (.int p2), .val (.int p3), .val (.int u0), .val (.int u1), .val (.int g0), .val (.int g1), .val (.int y0), .val (.int y1), .val (.int z0), .val (.int z1), .val (.int k1), .val (.int k3), .val (.int m1), .val (.int m3), .val (.ref sb1), .val (.ref sb2), .val (.ref sb3), .val (.ref sb4), .val (.ref b5), .val (.ref b7), .unset, .unset] [(.int (1 : Int32))])) _
        exact kt
    show Goes p e below _ T15 (mkF m 284 #[.val (.int p1), .val (.int p2), .val (.int p3), .val (.int u0), .val (.int u1), .val (.int g0), .val (.int g1), .val (.int y0), .val (.int y1), .val (.int z0), .val (.int z1), .val (.int k1), .val (.int k3), .val (.int m1), .val (.int m3), .val (.ref sb1), .val (.ref sb2), .val (.ref sb3), .val (.ref sb4), .val (.ref b5), .val (.ref b7), .unset, .unset] [(.int (if (if m1 = m3 then (if m1 < (1 : Int32) then (if m1 < (2 : Int32) then (1 : Int32) else (if g1 = z1 then (1 : Int32) else (0 : Int32))) else (if g0 = z0 then (if m1 < (2 : Int32) then (1 : Int32) else (if g1 = z1 then (1 : Int32) else (0 : Int32))) else (0 : Int32))) else (0 : Int32)) = (0 : Int32) then (0 : Int32) else (1 : Int32)))])
    refine Goes.of (fun _ => XS.istore X15.here hx rfl (hb hby at_284) rfl (l' := #[.val (.int p1), .val (.int p2), .val (.int p3), .val (.int u0), .val (.int u1), .val (.int g0), .val (.int g1), .val (.int y0), .val (.int y1), .val (.int z0), .val (.int z1), .val (.int k1), .val (.int k3), .val (.int m1), .val (.int m3), .val (.ref sb1), .val (.ref sb2), .val (.ref sb3), .val (.ref sb4), .val (.ref b5), .val (.ref b7), .val (.int (if (if m1 = m3 then (if m1 < (1 : Int32) then (if m1 < (2 : Int32) then (1 : Int32) else (if g1 = z1 then (1 : Int32) else (0 : Int32))) else (if g0 = z0 then (if m1 < (2 : Int32) then (1 : Int32) else (if g1 = z1 then (1 : Int32) else (0 : Int32))) else (0 : Int32))) else (0 : Int32)) = (0 : Int32) then (0 : Int32) else (1 : Int32))), .unset]) rfl) ?_
    show Goes p e below _ T15 (mkF m 286 #[.val (.int p1), .val (.int p2), .val (.int p3), .val (.int u0), .val (.int u1), .val (.int g0), .val (.int g1), .val (.int y0), .val (.int y1), .val (.int z0), .val (.int z1), .val (.int k1), .val (.int k3), .val (.int m1), .val (.int m3), .val (.ref sb1), .val (.ref sb2), .val (.ref sb3), .val (.ref sb4), .val (.ref b5), .val (.ref b7), .val (.int (if (if m1 = m3 then (if m1 < (1 : Int32) then (if m1 < (2 : Int32) then (1 : Int32) else (if g1 = z1 then (1 : Int32) else (0 : Int32))) else (if g0 = z0 then (if m1 < (2 : Int32) then (1 : Int32) else (if g1 = z1 then (1 : Int32) else (0 : Int32))) else (0 : Int32))) else (0 : Int32)) = (0 : Int32) then (0 : Int32) else (1 : Int32))), .unset] [])
    refine Goes.of (fun _ => XS.aload X15.here hx rfl (hb hby at_286) rfl rfl) ?_
    show Goes p e below _ T15 (mkF m 288 #[.val (.int p1), .val (.int p2), .val (.int p3), .val (.int u0), .val (.int u1), .val (.int g0), .val (.int g1), .val (.int y0), .val (.int y1), .val (.int z0), .val (.int z1), .val (.int k1), .val (.int k3), .val (.int m1), .val (.int m3), .val (.ref sb1), .val (.ref sb2), .val (.ref sb3), .val (.ref sb4), .val (.ref b5), .val (.ref b7), .val (.int (if (if m1 = m3 then (if m1 < (1 : Int32) then (if m1 < (2 : Int32) then (1 : Int32) else (if g1 = z1 then (1 : Int32) else (0 : Int32))) else (if g0 = z0 then (if m1 < (2 : Int32) then (1 : Int32) else (if g1 = z1 then (1 : Int32) else (0 : Int32))) else (0 : Int32))) else (0 : Int32)) = (0 : Int32) then (0 : Int32) else (1 : Int32))), .unset] [(.ref sb1)])
    refine Goes.of (fun _ => XS.astore X15.here hx rfl (hb hby at_288) rfl rfl (l' := #[.val (.int p1), .val (.int p2), .val (.int p3), .val (.int u0), .val (.int u1), .val (.int g0), .val (.int g1), .val (.int y0), .val (.int y1), .val (.int z0), .val (.int z1), .val (.int k1), .val (.int k3), .val (.int m1), .val (.int m3), .val (.ref sb1), .val (.ref sb2), .val (.ref sb3), .val (.ref sb4), .val (.ref b5), .val (.ref b7), .val (.int (if (if m1 = m3 then (if m1 < (1 : Int32) then (if m1 < (2 : Int32) then (1 : Int32) else (if g1 = z1 then (1 : Int32) else (0 : Int32))) else (if g0 = z0 then (if m1 < (2 : Int32) then (1 : Int32) else (if g1 = z1 then (1 : Int32) else (0 : Int32))) else (0 : Int32))) else (0 : Int32)) = (0 : Int32) then (0 : Int32) else (1 : Int32))), .val (.ref sb1)]) rfl) ?_
    show Goes p e below _ T15 (mkF m 290 #[.val (.int p1), .val (.int p2), .val (.int p3), .val (.int u0), .val (.int u1), .val (.int g0), .val (.int g1), .val (.int y0), .val (.int y1), .val (.int z0), .val (.int z1), .val (.int k1), .val (.int k3), .val (.int m1), .val (.int m3), .val (.ref sb1), .val (.ref sb2), .val (.ref sb3), .val (.ref sb4), .val (.ref b5), .val (.ref b7), .val (.int (if (if m1 = m3 then (if m1 < (1 : Int32) then (if m1 < (2 : Int32) then (1 : Int32) else (if g1 = z1 then (1 : Int32) else (0 : Int32))) else (if g0 = z0 then (if m1 < (2 : Int32) then (1 : Int32) else (if g1 = z1 then (1 : Int32) else (0 : Int32))) else (0 : Int32))) else (0 : Int32)) = (0 : Int32) then (0 : Int32) else (1 : Int32))), .val (.ref sb1)] [])
    refine Goes.of (fun _ => XS.aload X15.here hx rfl (hb hby at_290) rfl rfl) ?_
    show Goes p e below _ T15 (mkF m 292 #[.val (.int p1), .val (.int p2), .val (.int p3), .val (.int u0), .val (.int u1), .val (.int g0), .val (.int g1), .val (.int y0), .val (.int y1), .val (.int z0), .val (.int z1), .val (.int k1), .val (.int k3), .val (.int m1), .val (.int m3), .val (.ref sb1), .val (.ref sb2), .val (.ref sb3), .val (.ref sb4), .val (.ref b5), .val (.ref b7), .val (.int (if (if m1 = m3 then (if m1 < (1 : Int32) then (if m1 < (2 : Int32) then (1 : Int32) else (if g1 = z1 then (1 : Int32) else (0 : Int32))) else (if g0 = z0 then (if m1 < (2 : Int32) then (1 : Int32) else (if g1 = z1 then (1 : Int32) else (0 : Int32))) else (0 : Int32))) else (0 : Int32)) = (0 : Int32) then (0 : Int32) else (1 : Int32))), .val (.ref sb1)] [(.ref b5)])
    refine Goes.of (fun _ => XS.aload X15.here hx rfl (hb hby at_292) rfl rfl) ?_
    show Goes p e below _ T15 (mkF m 294 #[.val (.int p1), .val (.int p2), .val (.int p3), .val (.int u0), .val (.int u1), .val (.int g0), .val (.int g1), .val (.int y0), .val (.int y1), .val (.int z0), .val (.int z1), .val (.int k1), .val (.int k3), .val (.int m1), .val (.int m3), .val (.ref sb1), .val (.ref sb2), .val (.ref sb3), .val (.ref sb4), .val (.ref b5), .val (.ref b7), .val (.int (if (if m1 = m3 then (if m1 < (1 : Int32) then (if m1 < (2 : Int32) then (1 : Int32) else (if g1 = z1 then (1 : Int32) else (0 : Int32))) else (if g0 = z0 then (if m1 < (2 : Int32) then (1 : Int32) else (if g1 = z1 then (1 : Int32) else (0 : Int32))) else (0 : Int32))) else (0 : Int32)) = (0 : Int32) then (0 : Int32) else (1 : Int32))), .val (.ref sb1)] [(.ref b7), (.ref b5)])
    refine goVirtual 0 X15 hx hZ hown (hw _ (List.mem_of_getElem? (i := 56) rfl)) (hw _ (List.mem_of_getElem? (i := 57) rfl)) (notFace_of_selects (args := #[]) (mvT hZ (hw _ (List.mem_of_getElem? (i := 59) rfl)))) (hw _ (List.mem_of_getElem? (i := 59) rfl)) (hw _ (List.mem_of_getElem? (i := 58) rfl)) (hw _ (List.mem_of_getElem? (i := 39) rfl)) (hw _ (List.mem_of_getElem? (i := 60) rfl)) (by decide) (rm_eq l Z a0 hw b5 b7 sb1 sb2 sb3 sb4 (strL k1 u0 u1) (strL m1 g0 g1) (strL k3 y0 y1) (strL m3 z0 z1) cz T8.heap n0 O0 Sc hcz A7 H0_6 H1_6 H0_8 H1_8 S1 S2 S3 S4) eT15 A5 (g := (mkF m 294 #[.val (.int p1), .val (.int p2), .val (.int p3), .val (.int u0), .val (.int u1), .val (.int g0), .val (.int g1), .val (.int y0), .val (.int y1), .val (.int z0), .val (.int z1), .val (.int k1), .val (.int k3), .val (.int m1), .val (.int m3), .val (.ref sb1), .val (.ref sb2), .val (.ref sb3), .val (.ref sb4), .val (.ref b5), .val (.ref b7), .val (.int (if (if m1 = m3 then (if m1 < (1 : Int32) then (if m1 < (2 : Int32) then (1 : Int32) else (if g1 = z1 then (1 : Int32) else (0 : Int32))) else (if g0 = z0 then (if m1 < (2 : Int32) then (1 : Int32) else (if g1 = z1 then (1 : Int32) else (0 : Int32))) else (0 : Int32))) else (0 : Int32)) = (0 : Int32) then (0 : Int32) else (1 : Int32))), .val (.ref sb1)] [(.ref b7), (.ref b5)])) rfl (by rw [hml]; rfl) [(.ref b7)] [] (lenOf pd__Ljava_lang_Object__Z rfl) rfl rfl (by show 2 * 0 + _ ≤ _; exact Nat.le_of_eq rfl) (hb hby at_294) (by decide) (by decide) (by decide) (by decide) ?_
    intro v16 T16 L16 X16 q16
    obtain ⟨rfl, Nq16, eT16⟩ := q16
    have N16 := Fr.app N15 Nq16
    show Goes p e below _ T16 (mkF m 297 #[.val (.int p1), .val (.int p2), .val (.int p3), .val (.int u0), .val (.int u1), .val (.int g0), .val (.int g1), .val (.int y0), .val (.int y1), .val (.int z0), .val (.int z1), .val (.int k1), .val (.int k3), .val (.int m1), .val (.int m3), .val (.ref sb1), .val (.ref sb2), .val (.ref sb3), .val (.ref sb4), .val (.ref b5), .val (.ref b7), .val (.int (if (if m1 = m3 then (if m1 < (1 : Int32) then (if m1 < (2 : Int32) then (1 : Int32) else (if g1 = z1 then (1 : Int32) else (0 : Int32))) else (if g0 = z0 then (if m1 < (2 : Int32) then (1 : Int32) else (if g1 = z1 then (1 : Int32) else (0 : Int32))) else (0 : Int32))) else (0 : Int32)) = (0 : Int32) then (0 : Int32) else (1 : Int32))), .val (.ref sb1)] [(.int (if (if (strL k1 u0 u1) = (strL k3 y0 y1) then (1 : Int32) else (0 : Int32)) = (0 : Int32) then (0 : Int32) else (if (if (strL m1 g0 g1) = (strL m3 z0 z1) then (1 : Int32) else (0 : Int32)) = (0 : Int32) then (0 : Int32) else (1 : Int32))))])
    refine Goes.of (fun _ => XS.iload X16.here hx rfl (hb hby at_297) rfl) ?_
    show Goes p e below _ T16 (mkF m 299 #[.val (.int p1), .val (.int p2), .val (.int p3), .val (.int u0), .val (.int u1), .val (.int g0), .val (.int g1), .val (.int y0), .val (.int y1), .val (.int z0), .val (.int z1), .val (.int k1), .val (.int k3), .val (.int m1), .val (.int m3), .val (.ref sb1), .val (.ref sb2), .val (.ref sb3), .val (.ref sb4), .val (.ref b5), .val (.ref b7), .val (.int (if (if m1 = m3 then (if m1 < (1 : Int32) then (if m1 < (2 : Int32) then (1 : Int32) else (if g1 = z1 then (1 : Int32) else (0 : Int32))) else (if g0 = z0 then (if m1 < (2 : Int32) then (1 : Int32) else (if g1 = z1 then (1 : Int32) else (0 : Int32))) else (0 : Int32))) else (0 : Int32)) = (0 : Int32) then (0 : Int32) else (1 : Int32))), .val (.ref sb1)] [(.int (if (if m1 = m3 then (if m1 < (1 : Int32) then (if m1 < (2 : Int32) then (1 : Int32) else (if g1 = z1 then (1 : Int32) else (0 : Int32))) else (if g0 = z0 then (if m1 < (2 : Int32) then (1 : Int32) else (if g1 = z1 then (1 : Int32) else (0 : Int32))) else (0 : Int32))) else (0 : Int32)) = (0 : Int32) then (0 : Int32) else (1 : Int32))), (.int (if (if (strL k1 u0 u1) = (strL k3 y0 y1) then (1 : Int32) else (0 : Int32)) = (0 : Int32) then (0 : Int32) else (if (if (strL m1 g0 g1) = (strL m3 z0 z1) then (1 : Int32) else (0 : Int32)) = (0 : Int32) then (0 : Int32) else (1 : Int32))))])
    refine Goes.of (fun _ => XS.icmpNo X16.here hx rfl (hb hby at_299) rfl (teq (by rw [eq_fin k1 k3 u0 u1 y0 y1 hk1 hk3, if_neg hpc258, eq_fin m1 m3 g0 g1 z0 z1 hm1 hm3])).2) ?_
    show Goes p e below _ T16 (mkF m 302 #[.val (.int p1), .val (.int p2), .val (.int p3), .val (.int u0), .val (.int u1), .val (.int g0), .val (.int g1), .val (.int y0), .val (.int y1), .val (.int z0), .val (.int z1), .val (.int k1), .val (.int k3), .val (.int m1), .val (.int m3), .val (.ref sb1), .val (.ref sb2), .val (.ref sb3), .val (.ref sb4), .val (.ref b5), .val (.ref b7), .val (.int (if (if m1 = m3 then (if m1 < (1 : Int32) then (if m1 < (2 : Int32) then (1 : Int32) else (if g1 = z1 then (1 : Int32) else (0 : Int32))) else (if g0 = z0 then (if m1 < (2 : Int32) then (1 : Int32) else (if g1 = z1 then (1 : Int32) else (0 : Int32))) else (0 : Int32))) else (0 : Int32)) = (0 : Int32) then (0 : Int32) else (1 : Int32))), .val (.ref sb1)] [])
    refine Goes.of (fun _ => XS.aload X16.here hx rfl (hb hby at_302) rfl rfl) ?_
    show Goes p e below _ T16 (mkF m 304 #[.val (.int p1), .val (.int p2), .val (.int p3), .val (.int u0), .val (.int u1), .val (.int g0), .val (.int g1), .val (.int y0), .val (.int y1), .val (.int z0), .val (.int z1), .val (.int k1), .val (.int k3), .val (.int m1), .val (.int m3), .val (.ref sb1), .val (.ref sb2), .val (.ref sb3), .val (.ref sb4), .val (.ref b5), .val (.ref b7), .val (.int (if (if m1 = m3 then (if m1 < (1 : Int32) then (if m1 < (2 : Int32) then (1 : Int32) else (if g1 = z1 then (1 : Int32) else (0 : Int32))) else (if g0 = z0 then (if m1 < (2 : Int32) then (1 : Int32) else (if g1 = z1 then (1 : Int32) else (0 : Int32))) else (0 : Int32))) else (0 : Int32)) = (0 : Int32) then (0 : Int32) else (1 : Int32))), .val (.ref sb1)] [(.ref b7)])
    refine Goes.of (fun _ => XS.aload X16.here hx rfl (hb hby at_304) rfl rfl) ?_
    show Goes p e below _ T16 (mkF m 306 #[.val (.int p1), .val (.int p2), .val (.int p3), .val (.int u0), .val (.int u1), .val (.int g0), .val (.int g1), .val (.int y0), .val (.int y1), .val (.int z0), .val (.int z1), .val (.int k1), .val (.int k3), .val (.int m1), .val (.int m3), .val (.ref sb1), .val (.ref sb2), .val (.ref sb3), .val (.ref sb4), .val (.ref b5), .val (.ref b7), .val (.int (if (if m1 = m3 then (if m1 < (1 : Int32) then (if m1 < (2 : Int32) then (1 : Int32) else (if g1 = z1 then (1 : Int32) else (0 : Int32))) else (if g0 = z0 then (if m1 < (2 : Int32) then (1 : Int32) else (if g1 = z1 then (1 : Int32) else (0 : Int32))) else (0 : Int32))) else (0 : Int32)) = (0 : Int32) then (0 : Int32) else (1 : Int32))), .val (.ref sb1)] [(.ref b5), (.ref b7)])
    refine goVirtual 0 X16 hx hZ hown (hw _ (List.mem_of_getElem? (i := 56) rfl)) (hw _ (List.mem_of_getElem? (i := 57) rfl)) (notFace_of_selects (args := #[]) (mvT hZ (hw _ (List.mem_of_getElem? (i := 59) rfl)))) (hw _ (List.mem_of_getElem? (i := 59) rfl)) (hw _ (List.mem_of_getElem? (i := 58) rfl)) (hw _ (List.mem_of_getElem? (i := 39) rfl)) (hw _ (List.mem_of_getElem? (i := 60) rfl)) (by decide) (rm_eq l Z a0 hw b7 b5 sb3 sb4 sb1 sb2 (strL k3 y0 y1) (strL m3 z0 z1) (strL k1 u0 u1) (strL m1 g0 g1) cz T8.heap n0 O0 Sc hcz A5 H0_8 H1_8 H0_6 H1_6 S3 S4 S1 S2) eT16 A7 (g := (mkF m 306 #[.val (.int p1), .val (.int p2), .val (.int p3), .val (.int u0), .val (.int u1), .val (.int g0), .val (.int g1), .val (.int y0), .val (.int y1), .val (.int z0), .val (.int z1), .val (.int k1), .val (.int k3), .val (.int m1), .val (.int m3), .val (.ref sb1), .val (.ref sb2), .val (.ref sb3), .val (.ref sb4), .val (.ref b5), .val (.ref b7), .val (.int (if (if m1 = m3 then (if m1 < (1 : Int32) then (if m1 < (2 : Int32) then (1 : Int32) else (if g1 = z1 then (1 : Int32) else (0 : Int32))) else (if g0 = z0 then (if m1 < (2 : Int32) then (1 : Int32) else (if g1 = z1 then (1 : Int32) else (0 : Int32))) else (0 : Int32))) else (0 : Int32)) = (0 : Int32) then (0 : Int32) else (1 : Int32))), .val (.ref sb1)] [(.ref b5), (.ref b7)])) rfl (by rw [hml]; rfl) [(.ref b5)] [] (lenOf pd__Ljava_lang_Object__Z rfl) rfl rfl (by show 2 * 0 + _ ≤ _; exact Nat.le_of_eq rfl) (hb hby at_306) (by decide) (by decide) (by decide) (by decide) ?_
    intro v17 T17 L17 X17 q17
    obtain ⟨rfl, Nq17, eT17⟩ := q17
    have N17 := Fr.app N16 Nq17
    show Goes p e below _ T17 (mkF m 309 #[.val (.int p1), .val (.int p2), .val (.int p3), .val (.int u0), .val (.int u1), .val (.int g0), .val (.int g1), .val (.int y0), .val (.int y1), .val (.int z0), .val (.int z1), .val (.int k1), .val (.int k3), .val (.int m1), .val (.int m3), .val (.ref sb1), .val (.ref sb2), .val (.ref sb3), .val (.ref sb4), .val (.ref b5), .val (.ref b7), .val (.int (if (if m1 = m3 then (if m1 < (1 : Int32) then (if m1 < (2 : Int32) then (1 : Int32) else (if g1 = z1 then (1 : Int32) else (0 : Int32))) else (if g0 = z0 then (if m1 < (2 : Int32) then (1 : Int32) else (if g1 = z1 then (1 : Int32) else (0 : Int32))) else (0 : Int32))) else (0 : Int32)) = (0 : Int32) then (0 : Int32) else (1 : Int32))), .val (.ref sb1)] [(.int (if (if (strL k3 y0 y1) = (strL k1 u0 u1) then (1 : Int32) else (0 : Int32)) = (0 : Int32) then (0 : Int32) else (if (if (strL m3 z0 z1) = (strL m1 g0 g1) then (1 : Int32) else (0 : Int32)) = (0 : Int32) then (0 : Int32) else (1 : Int32))))])
    refine Goes.of (fun _ => XS.iload X17.here hx rfl (hb hby at_309) rfl) ?_
    show Goes p e below _ T17 (mkF m 311 #[.val (.int p1), .val (.int p2), .val (.int p3), .val (.int u0), .val (.int u1), .val (.int g0), .val (.int g1), .val (.int y0), .val (.int y1), .val (.int z0), .val (.int z1), .val (.int k1), .val (.int k3), .val (.int m1), .val (.int m3), .val (.ref sb1), .val (.ref sb2), .val (.ref sb3), .val (.ref sb4), .val (.ref b5), .val (.ref b7), .val (.int (if (if m1 = m3 then (if m1 < (1 : Int32) then (if m1 < (2 : Int32) then (1 : Int32) else (if g1 = z1 then (1 : Int32) else (0 : Int32))) else (if g0 = z0 then (if m1 < (2 : Int32) then (1 : Int32) else (if g1 = z1 then (1 : Int32) else (0 : Int32))) else (0 : Int32))) else (0 : Int32)) = (0 : Int32) then (0 : Int32) else (1 : Int32))), .val (.ref sb1)] [(.int (if (if m1 = m3 then (if m1 < (1 : Int32) then (if m1 < (2 : Int32) then (1 : Int32) else (if g1 = z1 then (1 : Int32) else (0 : Int32))) else (if g0 = z0 then (if m1 < (2 : Int32) then (1 : Int32) else (if g1 = z1 then (1 : Int32) else (0 : Int32))) else (0 : Int32))) else (0 : Int32)) = (0 : Int32) then (0 : Int32) else (1 : Int32))), (.int (if (if (strL k3 y0 y1) = (strL k1 u0 u1) then (1 : Int32) else (0 : Int32)) = (0 : Int32) then (0 : Int32) else (if (if (strL m3 z0 z1) = (strL m1 g0 g1) then (1 : Int32) else (0 : Int32)) = (0 : Int32) then (0 : Int32) else (1 : Int32))))])
    refine Goes.of (fun _ => XS.icmpNo X17.here hx rfl (hb hby at_311) rfl (teq (by rw [eq_fin' k1 k3 u0 u1 y0 y1 hk1 hk3, if_neg hpc258, eq_fin' m1 m3 g0 g1 z0 z1 hm1 hm3])).2) ?_
    show Goes p e below _ T17 (mkF m 314 #[.val (.int p1), .val (.int p2), .val (.int p3), .val (.int u0), .val (.int u1), .val (.int g0), .val (.int g1), .val (.int y0), .val (.int y1), .val (.int z0), .val (.int z1), .val (.int k1), .val (.int k3), .val (.int m1), .val (.int m3), .val (.ref sb1), .val (.ref sb2), .val (.ref sb3), .val (.ref sb4), .val (.ref b5), .val (.ref b7), .val (.int (if (if m1 = m3 then (if m1 < (1 : Int32) then (if m1 < (2 : Int32) then (1 : Int32) else (if g1 = z1 then (1 : Int32) else (0 : Int32))) else (if g0 = z0 then (if m1 < (2 : Int32) then (1 : Int32) else (if g1 = z1 then (1 : Int32) else (0 : Int32))) else (0 : Int32))) else (0 : Int32)) = (0 : Int32) then (0 : Int32) else (1 : Int32))), .val (.ref sb1)] [])
    refine Goes.of (fun _ => XS.aload X17.here hx rfl (hb hby at_314) rfl rfl) ?_
    show Goes p e below _ T17 (mkF m 316 #[.val (.int p1), .val (.int p2), .val (.int p3), .val (.int u0), .val (.int u1), .val (.int g0), .val (.int g1), .val (.int y0), .val (.int y1), .val (.int z0), .val (.int z1), .val (.int k1), .val (.int k3), .val (.int m1), .val (.int m3), .val (.ref sb1), .val (.ref sb2), .val (.ref sb3), .val (.ref sb4), .val (.ref b5), .val (.ref b7), .val (.int (if (if m1 = m3 then (if m1 < (1 : Int32) then (if m1 < (2 : Int32) then (1 : Int32) else (if g1 = z1 then (1 : Int32) else (0 : Int32))) else (if g0 = z0 then (if m1 < (2 : Int32) then (1 : Int32) else (if g1 = z1 then (1 : Int32) else (0 : Int32))) else (0 : Int32))) else (0 : Int32)) = (0 : Int32) then (0 : Int32) else (1 : Int32))), .val (.ref sb1)] [(.ref b5)])
    refine Goes.of (fun _ => XS.aload X17.here hx rfl (hb hby at_316) rfl rfl) ?_
    show Goes p e below _ T17 (mkF m 318 #[.val (.int p1), .val (.int p2), .val (.int p3), .val (.int u0), .val (.int u1), .val (.int g0), .val (.int g1), .val (.int y0), .val (.int y1), .val (.int z0), .val (.int z1), .val (.int k1), .val (.int k3), .val (.int m1), .val (.int m3), .val (.ref sb1), .val (.ref sb2), .val (.ref sb3), .val (.ref sb4), .val (.ref b5), .val (.ref b7), .val (.int (if (if m1 = m3 then (if m1 < (1 : Int32) then (if m1 < (2 : Int32) then (1 : Int32) else (if g1 = z1 then (1 : Int32) else (0 : Int32))) else (if g0 = z0 then (if m1 < (2 : Int32) then (1 : Int32) else (if g1 = z1 then (1 : Int32) else (0 : Int32))) else (0 : Int32))) else (0 : Int32)) = (0 : Int32) then (0 : Int32) else (1 : Int32))), .val (.ref sb1)] [(.ref b5), (.ref b5)])
    refine goVirtual 0 X17 hx hZ hown (hw _ (List.mem_of_getElem? (i := 56) rfl)) (hw _ (List.mem_of_getElem? (i := 57) rfl)) (notFace_of_selects (args := #[]) (mvT hZ (hw _ (List.mem_of_getElem? (i := 59) rfl)))) (hw _ (List.mem_of_getElem? (i := 59) rfl)) (hw _ (List.mem_of_getElem? (i := 58) rfl)) (hw _ (List.mem_of_getElem? (i := 39) rfl)) (hw _ (List.mem_of_getElem? (i := 60) rfl)) (by decide) (rm_eq l Z a0 hw b5 b5 sb1 sb2 sb1 sb2 (strL k1 u0 u1) (strL m1 g0 g1) (strL k1 u0 u1) (strL m1 g0 g1) cz T8.heap n0 O0 Sc hcz A5 H0_6 H1_6 H0_6 H1_6 S1 S2 S1 S2) eT17 A5 (g := (mkF m 318 #[.val (.int p1), .val (.int p2), .val (.int p3), .val (.int u0), .val (.int u1), .val (.int g0), .val (.int g1), .val (.int y0), .val (.int y1), .val (.int z0), .val (.int z1), .val (.int k1), .val (.int k3), .val (.int m1), .val (.int m3), .val (.ref sb1), .val (.ref sb2), .val (.ref sb3), .val (.ref sb4), .val (.ref b5), .val (.ref b7), .val (.int (if (if m1 = m3 then (if m1 < (1 : Int32) then (if m1 < (2 : Int32) then (1 : Int32) else (if g1 = z1 then (1 : Int32) else (0 : Int32))) else (if g0 = z0 then (if m1 < (2 : Int32) then (1 : Int32) else (if g1 = z1 then (1 : Int32) else (0 : Int32))) else (0 : Int32))) else (0 : Int32)) = (0 : Int32) then (0 : Int32) else (1 : Int32))), .val (.ref sb1)] [(.ref b5), (.ref b5)])) rfl (by rw [hml]; rfl) [(.ref b5)] [] (lenOf pd__Ljava_lang_Object__Z rfl) rfl rfl (by show 2 * 0 + _ ≤ _; exact Nat.le_of_eq rfl) (hb hby at_318) (by decide) (by decide) (by decide) (by decide) ?_
    intro v18 T18 L18 X18 q18
    obtain ⟨rfl, Nq18, eT18⟩ := q18
    have N18 := Fr.app N17 Nq18
    show Goes p e below _ T18 (mkF m 321 #[.val (.int p1), .val (.int p2), .val (.int p3), .val (.int u0), .val (.int u1), .val (.int g0), .val (.int g1), .val (.int y0), .val (.int y1), .val (.int z0), .val (.int z1), .val (.int k1), .val (.int k3), .val (.int m1), .val (.int m3), .val (.ref sb1), .val (.ref sb2), .val (.ref sb3), .val (.ref sb4), .val (.ref b5), .val (.ref b7), .val (.int (if (if m1 = m3 then (if m1 < (1 : Int32) then (if m1 < (2 : Int32) then (1 : Int32) else (if g1 = z1 then (1 : Int32) else (0 : Int32))) else (if g0 = z0 then (if m1 < (2 : Int32) then (1 : Int32) else (if g1 = z1 then (1 : Int32) else (0 : Int32))) else (0 : Int32))) else (0 : Int32)) = (0 : Int32) then (0 : Int32) else (1 : Int32))), .val (.ref sb1)] [(.int (if (if (strL k1 u0 u1) = (strL k1 u0 u1) then (1 : Int32) else (0 : Int32)) = (0 : Int32) then (0 : Int32) else (if (if (strL m1 g0 g1) = (strL m1 g0 g1) then (1 : Int32) else (0 : Int32)) = (0 : Int32) then (0 : Int32) else (1 : Int32))))])
    refine Goes.of (fun _ => XS.ifNo X18.here hx rfl (hb hby at_321) rfl ((if0 _ _).trans (feq (by simp : ¬ (if (if (strL k1 u0 u1) = (strL k1 u0 u1) then (1 : Int32) else (0 : Int32)) = (0 : Int32) then (0 : Int32) else (if (if (strL m1 g0 g1) = (strL m1 g0 g1) then (1 : Int32) else (0 : Int32)) = (0 : Int32) then (0 : Int32) else (1 : Int32))) = (0 : Int32))).1)) ?_
    show Goes p e below _ T18 (mkF m 324 #[.val (.int p1), .val (.int p2), .val (.int p3), .val (.int u0), .val (.int u1), .val (.int g0), .val (.int g1), .val (.int y0), .val (.int y1), .val (.int z0), .val (.int z1), .val (.int k1), .val (.int k3), .val (.int m1), .val (.int m3), .val (.ref sb1), .val (.ref sb2), .val (.ref sb3), .val (.ref sb4), .val (.ref b5), .val (.ref b7), .val (.int (if (if m1 = m3 then (if m1 < (1 : Int32) then (if m1 < (2 : Int32) then (1 : Int32) else (if g1 = z1 then (1 : Int32) else (0 : Int32))) else (if g0 = z0 then (if m1 < (2 : Int32) then (1 : Int32) else (if g1 = z1 then (1 : Int32) else (0 : Int32))) else (0 : Int32))) else (0 : Int32)) = (0 : Int32) then (0 : Int32) else (1 : Int32))), .val (.ref sb1)] [])
    refine Goes.of (fun _ => XS.aload X18.here hx rfl (hb hby at_324) rfl rfl) ?_
    show Goes p e below _ T18 (mkF m 326 #[.val (.int p1), .val (.int p2), .val (.int p3), .val (.int u0), .val (.int u1), .val (.int g0), .val (.int g1), .val (.int y0), .val (.int y1), .val (.int z0), .val (.int z1), .val (.int k1), .val (.int k3), .val (.int m1), .val (.int m3), .val (.ref sb1), .val (.ref sb2), .val (.ref sb3), .val (.ref sb4), .val (.ref b5), .val (.ref b7), .val (.int (if (if m1 = m3 then (if m1 < (1 : Int32) then (if m1 < (2 : Int32) then (1 : Int32) else (if g1 = z1 then (1 : Int32) else (0 : Int32))) else (if g0 = z0 then (if m1 < (2 : Int32) then (1 : Int32) else (if g1 = z1 then (1 : Int32) else (0 : Int32))) else (0 : Int32))) else (0 : Int32)) = (0 : Int32) then (0 : Int32) else (1 : Int32))), .val (.ref sb1)] [(.ref b5)])
    refine Goes.of (fun _ => XS.aconstNull X18.here hx rfl (hb hby at_326)) ?_
    show Goes p e below _ T18 (mkF m 327 #[.val (.int p1), .val (.int p2), .val (.int p3), .val (.int u0), .val (.int u1), .val (.int g0), .val (.int g1), .val (.int y0), .val (.int y1), .val (.int z0), .val (.int z1), .val (.int k1), .val (.int k3), .val (.int m1), .val (.int m3), .val (.ref sb1), .val (.ref sb2), .val (.ref sb3), .val (.ref sb4), .val (.ref b5), .val (.ref b7), .val (.int (if (if m1 = m3 then (if m1 < (1 : Int32) then (if m1 < (2 : Int32) then (1 : Int32) else (if g1 = z1 then (1 : Int32) else (0 : Int32))) else (if g0 = z0 then (if m1 < (2 : Int32) then (1 : Int32) else (if g1 = z1 then (1 : Int32) else (0 : Int32))) else (0 : Int32))) else (0 : Int32)) = (0 : Int32) then (0 : Int32) else (1 : Int32))), .val (.ref sb1)] [.null, (.ref b5)])
    refine goVirtual 0 X18 hx hZ hown (hw _ (List.mem_of_getElem? (i := 56) rfl)) (hw _ (List.mem_of_getElem? (i := 57) rfl)) (notFace_of_selects (args := #[]) (mvT hZ (hw _ (List.mem_of_getElem? (i := 59) rfl)))) (hw _ (List.mem_of_getElem? (i := 59) rfl)) (hw _ (List.mem_of_getElem? (i := 58) rfl)) (hw _ (List.mem_of_getElem? (i := 39) rfl)) (hw _ (List.mem_of_getElem? (i := 60) rfl)) (by decide) (rm_eqnull l Z a0 hw b5 T8.heap n0 O0) eT18 A5 (g := (mkF m 327 #[.val (.int p1), .val (.int p2), .val (.int p3), .val (.int u0), .val (.int u1), .val (.int g0), .val (.int g1), .val (.int y0), .val (.int y1), .val (.int z0), .val (.int z1), .val (.int k1), .val (.int k3), .val (.int m1), .val (.int m3), .val (.ref sb1), .val (.ref sb2), .val (.ref sb3), .val (.ref sb4), .val (.ref b5), .val (.ref b7), .val (.int (if (if m1 = m3 then (if m1 < (1 : Int32) then (if m1 < (2 : Int32) then (1 : Int32) else (if g1 = z1 then (1 : Int32) else (0 : Int32))) else (if g0 = z0 then (if m1 < (2 : Int32) then (1 : Int32) else (if g1 = z1 then (1 : Int32) else (0 : Int32))) else (0 : Int32))) else (0 : Int32)) = (0 : Int32) then (0 : Int32) else (1 : Int32))), .val (.ref sb1)] [.null, (.ref b5)])) rfl (by rw [hml]; rfl) [.null] [] (lenOf pd__Ljava_lang_Object__Z rfl) rfl rfl (by show 2 * 0 + _ ≤ _; exact Nat.le_of_eq rfl) (hb hby at_327) (by decide) (by decide) (by decide) (by decide) ?_
    intro v19 T19 L19 X19 q19
    obtain ⟨rfl, Nq19, eT19⟩ := q19
    have N19 := Fr.app N18 Nq19
    show Goes p e below _ T19 (mkF m 330 #[.val (.int p1), .val (.int p2), .val (.int p3), .val (.int u0), .val (.int u1), .val (.int g0), .val (.int g1), .val (.int y0), .val (.int y1), .val (.int z0), .val (.int z1), .val (.int k1), .val (.int k3), .val (.int m1), .val (.int m3), .val (.ref sb1), .val (.ref sb2), .val (.ref sb3), .val (.ref sb4), .val (.ref b5), .val (.ref b7), .val (.int (if (if m1 = m3 then (if m1 < (1 : Int32) then (if m1 < (2 : Int32) then (1 : Int32) else (if g1 = z1 then (1 : Int32) else (0 : Int32))) else (if g0 = z0 then (if m1 < (2 : Int32) then (1 : Int32) else (if g1 = z1 then (1 : Int32) else (0 : Int32))) else (0 : Int32))) else (0 : Int32)) = (0 : Int32) then (0 : Int32) else (1 : Int32))), .val (.ref sb1)] [(.int (0 : Int32))])
    refine Goes.of (fun _ => XS.ifNo X19.here hx rfl (hb hby at_330) rfl ((if0 _ _).trans (teq (by decide)).2)) ?_
    show Goes p e below _ T19 (mkF m 333 #[.val (.int p1), .val (.int p2), .val (.int p3), .val (.int u0), .val (.int u1), .val (.int g0), .val (.int g1), .val (.int y0), .val (.int y1), .val (.int z0), .val (.int z1), .val (.int k1), .val (.int k3), .val (.int m1), .val (.int m3), .val (.ref sb1), .val (.ref sb2), .val (.ref sb3), .val (.ref sb4), .val (.ref b5), .val (.ref b7), .val (.int (if (if m1 = m3 then (if m1 < (1 : Int32) then (if m1 < (2 : Int32) then (1 : Int32) else (if g1 = z1 then (1 : Int32) else (0 : Int32))) else (if g0 = z0 then (if m1 < (2 : Int32) then (1 : Int32) else (if g1 = z1 then (1 : Int32) else (0 : Int32))) else (0 : Int32))) else (0 : Int32)) = (0 : Int32) then (0 : Int32) else (1 : Int32))), .val (.ref sb1)] [])
    refine Goes.of (fun _ => XS.aload X19.here hx rfl (hb hby at_333) rfl rfl) ?_
    show Goes p e below _ T19 (mkF m 335 #[.val (.int p1), .val (.int p2), .val (.int p3), .val (.int u0), .val (.int u1), .val (.int g0), .val (.int g1), .val (.int y0), .val (.int y1), .val (.int z0), .val (.int z1), .val (.int k1), .val (.int k3), .val (.int m1), .val (.int m3), .val (.ref sb1), .val (.ref sb2), .val (.ref sb3), .val (.ref sb4), .val (.ref b5), .val (.ref b7), .val (.int (if (if m1 = m3 then (if m1 < (1 : Int32) then (if m1 < (2 : Int32) then (1 : Int32) else (if g1 = z1 then (1 : Int32) else (0 : Int32))) else (if g0 = z0 then (if m1 < (2 : Int32) then (1 : Int32) else (if g1 = z1 then (1 : Int32) else (0 : Int32))) else (0 : Int32))) else (0 : Int32)) = (0 : Int32) then (0 : Int32) else (1 : Int32))), .val (.ref sb1)] [(.ref b5)])
    refine Goes.of (fun _ => XS.aload X19.here hx rfl (hb hby at_335) rfl rfl) ?_
    show Goes p e below _ T19 (mkF m 337 #[.val (.int p1), .val (.int p2), .val (.int p3), .val (.int u0), .val (.int u1), .val (.int g0), .val (.int g1), .val (.int y0), .val (.int y1), .val (.int z0), .val (.int z1), .val (.int k1), .val (.int k3), .val (.int m1), .val (.int m3), .val (.ref sb1), .val (.ref sb2), .val (.ref sb3), .val (.ref sb4), .val (.ref b5), .val (.ref b7), .val (.int (if (if m1 = m3 then (if m1 < (1 : Int32) then (if m1 < (2 : Int32) then (1 : Int32) else (if g1 = z1 then (1 : Int32) else (0 : Int32))) else (if g0 = z0 then (if m1 < (2 : Int32) then (1 : Int32) else (if g1 = z1 then (1 : Int32) else (0 : Int32))) else (0 : Int32))) else (0 : Int32)) = (0 : Int32) then (0 : Int32) else (1 : Int32))), .val (.ref sb1)] [(.ref sb1), (.ref b5)])
    refine goVirtual 0 X19 hx hZ hown (hw _ (List.mem_of_getElem? (i := 56) rfl)) (hw _ (List.mem_of_getElem? (i := 57) rfl)) (notFace_of_selects (args := #[]) (mvT hZ (hw _ (List.mem_of_getElem? (i := 59) rfl)))) (hw _ (List.mem_of_getElem? (i := 59) rfl)) (hw _ (List.mem_of_getElem? (i := 58) rfl)) (hw _ (List.mem_of_getElem? (i := 39) rfl)) (hw _ (List.mem_of_getElem? (i := 60) rfl)) (by decide) (rm_eqstr l Z a0 hw b5 sb1 T8.heap n0 O0 S1.1) eT19 A5 (g := (mkF m 337 #[.val (.int p1), .val (.int p2), .val (.int p3), .val (.int u0), .val (.int u1), .val (.int g0), .val (.int g1), .val (.int y0), .val (.int y1), .val (.int z0), .val (.int z1), .val (.int k1), .val (.int k3), .val (.int m1), .val (.int m3), .val (.ref sb1), .val (.ref sb2), .val (.ref sb3), .val (.ref sb4), .val (.ref b5), .val (.ref b7), .val (.int (if (if m1 = m3 then (if m1 < (1 : Int32) then (if m1 < (2 : Int32) then (1 : Int32) else (if g1 = z1 then (1 : Int32) else (0 : Int32))) else (if g0 = z0 then (if m1 < (2 : Int32) then (1 : Int32) else (if g1 = z1 then (1 : Int32) else (0 : Int32))) else (0 : Int32))) else (0 : Int32)) = (0 : Int32) then (0 : Int32) else (1 : Int32))), .val (.ref sb1)] [(.ref sb1), (.ref b5)])) rfl (by rw [hml]; rfl) [(.ref sb1)] [] (lenOf pd__Ljava_lang_Object__Z rfl) rfl rfl (by show 2 * 0 + _ ≤ _; exact Nat.le_of_eq rfl) (hb hby at_337) (by decide) (by decide) (by decide) (by decide) ?_
    intro v20 T20 L20 X20 q20
    obtain ⟨rfl, Nq20, eT20⟩ := q20
    have N20 := Fr.app N19 Nq20
    show Goes p e below _ T20 (mkF m 340 #[.val (.int p1), .val (.int p2), .val (.int p3), .val (.int u0), .val (.int u1), .val (.int g0), .val (.int g1), .val (.int y0), .val (.int y1), .val (.int z0), .val (.int z1), .val (.int k1), .val (.int k3), .val (.int m1), .val (.int m3), .val (.ref sb1), .val (.ref sb2), .val (.ref sb3), .val (.ref sb4), .val (.ref b5), .val (.ref b7), .val (.int (if (if m1 = m3 then (if m1 < (1 : Int32) then (if m1 < (2 : Int32) then (1 : Int32) else (if g1 = z1 then (1 : Int32) else (0 : Int32))) else (if g0 = z0 then (if m1 < (2 : Int32) then (1 : Int32) else (if g1 = z1 then (1 : Int32) else (0 : Int32))) else (0 : Int32))) else (0 : Int32)) = (0 : Int32) then (0 : Int32) else (1 : Int32))), .val (.ref sb1)] [(.int (0 : Int32))])
    refine Goes.of (fun _ => XS.ifNo X20.here hx rfl (hb hby at_340) rfl ((if0 _ _).trans (teq (by decide)).2)) ?_
    show Goes p e below _ T20 (mkF m 343 #[.val (.int p1), .val (.int p2), .val (.int p3), .val (.int u0), .val (.int u1), .val (.int g0), .val (.int g1), .val (.int y0), .val (.int y1), .val (.int z0), .val (.int z1), .val (.int k1), .val (.int k3), .val (.int m1), .val (.int m3), .val (.ref sb1), .val (.ref sb2), .val (.ref sb3), .val (.ref sb4), .val (.ref b5), .val (.ref b7), .val (.int (if (if m1 = m3 then (if m1 < (1 : Int32) then (if m1 < (2 : Int32) then (1 : Int32) else (if g1 = z1 then (1 : Int32) else (0 : Int32))) else (if g0 = z0 then (if m1 < (2 : Int32) then (1 : Int32) else (if g1 = z1 then (1 : Int32) else (0 : Int32))) else (0 : Int32))) else (0 : Int32)) = (0 : Int32) then (0 : Int32) else (1 : Int32))), .val (.ref sb1)] [])
    refine Goes.of (fun _ => XS.iconst X20.here hx rfl (hb hby at_343)) ?_
    show Goes p e below _ T20 (mkF m 344 #[.val (.int p1), .val (.int p2), .val (.int p3), .val (.int u0), .val (.int u1), .val (.int g0), .val (.int g1), .val (.int y0), .val (.int y1), .val (.int z0), .val (.int z1), .val (.int k1), .val (.int k3), .val (.int m1), .val (.int m3), .val (.ref sb1), .val (.ref sb2), .val (.ref sb3), .val (.ref sb4), .val (.ref b5), .val (.ref b7), .val (.int (if (if m1 = m3 then (if m1 < (1 : Int32) then (if m1 < (2 : Int32) then (1 : Int32) else (if g1 = z1 then (1 : Int32) else (0 : Int32))) else (if g0 = z0 then (if m1 < (2 : Int32) then (1 : Int32) else (if g1 = z1 then (1 : Int32) else (0 : Int32))) else (0 : Int32))) else (0 : Int32)) = (0 : Int32) then (0 : Int32) else (1 : Int32))), .val (.ref sb1)] [(.int (1 : Int32))])
    refine Goes.of (fun _ => XS.goto X20.here hx rfl (pc0 := 344) (pc' := 348) rfl (hb hby at_344) (by decide) (by decide)) ?_
    show Goes p e below _ T20 (mkF m 348 #[.val (.int p1), .val (.int p2), .val (.int p3), .val (.int u0), .val (.int u1), .val (.int g0), .val (.int g1), .val (.int y0), .val (.int y1), .val (.int z0), .val (.int z1), .val (.int k1), .val (.int k3), .val (.int m1), .val (.int m3), .val (.ref sb1), .val (.ref sb2), .val (.ref sb3), .val (.ref sb4), .val (.ref b5), .val (.ref b7), .val (.int (if (if m1 = m3 then (if m1 < (1 : Int32) then (if m1 < (2 : Int32) then (1 : Int32) else (if g1 = z1 then (1 : Int32) else (0 : Int32))) else (if g0 = z0 then (if m1 < (2 : Int32) then (1 : Int32) else (if g1 = z1 then (1 : Int32) else (0 : Int32))) else (0 : Int32))) else (0 : Int32)) = (0 : Int32) then (0 : Int32) else (1 : Int32))), .val (.ref sb1)] [(.int (1 : Int32))])
    exact retZW (t := .boolean) X20 hS hk hZ hEL HC hx hret hlk (by simp) (hb hby at_348) eT20 (by decide) (by decide) ⟨rfl, N20⟩
set_option maxRecDepth 65536 in
set_option maxHeartbeats 40000000 in
theorem comes_1 {Post : Tables → Env → Array Value → State → Outcome → State → Prop} (hpost : ∀ tb e args s v u, (limb_1_1.after args s (.returned v) u = true ∧ limb_1_2.after args s (.returned v) u = true ∧ True) → ReturnedEndW s (.returned v) u (Jvm.fieldLocs frame_1_writes args s ++ Jvm.arrayLocs frame_1_arrays args s ++ Jvm.staticLocs frame_1_statics s) 40 1216 → Post tb e args s (.returned v) u) :
    ArmFor flags0 classFile x code maxLocals ret World_1 tables_1 room_1 Calls_1 rest_1 Pre_1 Post := by
  intro l hfl _ _ p e ha hc hk s m args below hf hA hF happ hP
  obtain ⟨hcalls, hrest, hpre⟩ := hP
  obtain ⟨-, -, -, hnamed, -, -, -, hat⟩ := (Spec.applies_iff hf).mp happ
  obtain ⟨hg, hn⟩ := and_e (Cond.before_iff.mp (show (Jvm.Cond.and given_1 narrow_1).before args s = true from hpre))
  obtain ⟨hcount, hg0⟩ := and_e hg
  obtain ⟨hv0, hg1⟩ := and_e hg0
  obtain ⟨hv1, hg2⟩ := and_e hg1
  have hv2 := hg2
  obtain ⟨w0, w1, w2, rfl⟩ : ∃ w0 w1 w2 : Value, args = #[w0, w1, w2] := by
    have hs : args.size = 3 := by simpa [Cond.value, given_1] using hcount
    obtain ⟨L⟩ := args
    match L, hs with
    | [w0, w1, w2], _ => exact ⟨w0, w1, w2, rfl⟩
  have hw := fun d (hd : d ∈ tables_1) => atoms_spec (ws := Jvm.Cond.code x code maxLocals ret :: tables_1) hat d (List.mem_cons_of_mem _ hd)
  have hfit : Fit s := fun {y c} hc i hi => by
    obtain ⟨ha, rfl⟩ := Array.getElem?_eq_some_iff.mp hc
    have q := List.all_eq_true.mp ((Array.all_eq_true_iff_forall_mem.mp hF) _ (Array.getElem_mem ha)) i (List.mem_range.mpr hi)
    simpa [Array.getElem?_eq_getElem hi] using q
  obtain ⟨hsets, hown0⟩ := atoms_of _ (rest_1_c_eq ▸ (show rest_1_c.before _ s = true from hrest))
  obtain ⟨i0, ei0⟩ := is_v hv0
  obtain rfl : w0 = (.int i0) := Option.some.inj ei0
  obtain ⟨i1, ei1⟩ := is_v hv1
  obtain rfl : w1 = (.int i1) := Option.some.inj ei1
  obtain ⟨i2, ei2⟩ := is_v hv2
  obtain rfl : w2 = (.int i2) := Option.some.inj ei2
  obtain ⟨cz, evcz⟩ := is_v (Cond.before_iff.mp (hsets _ (List.mem_of_getElem? (i := 1) rfl)))
  have Sc := Sta.start evcz (Or.inl (hsets _ (List.mem_of_getElem? (i := 0) rfl)))
  have hcz := ne_of_not evcz (hsets _ (List.mem_of_getElem? (i := 2) rfl))
  have hCH : CHv s EL s.vm s.heap := CHv.start (hELof hw) (fun p hp => hcalls.1 p hp) (hsets _ (List.mem_of_getElem? (i := 2) rfl)) (hw _ (List.mem_of_getElem? (i := 23) rfl)) (hw _ (List.mem_of_getElem? (i := 6) rfl))
  obtain ⟨n, o, h1, h2, h3, _, L, rfl, ⟨rfl, N⟩, -, hq⟩ := rm_law l s _ hw tables_1 i0 i1 i2 cz s.heap s.heap.size (Old.start s) Sc hcz p e ha hc hk s m _ below hf ((Spec.applies_iff_loose hf).mp happ).1 ⟨rfl, State.Warmed39.refl s, rfl, hCH⟩ trivial
  refine ⟨n, _, h1, h2, h3, hpost _ _ _ _ _ _ ⟨Cond.after_iff.mpr rfl, Cond.after_iff.mpr (eq_i res_at (Term.int_eval (1)) rfl), trivial⟩ ⟨hq.1, hq.2.1, hq.2.2.1, (hq.2.2.2.sift fun y hy => Or.inr (N y hy)).mono (by decide) (by decide)⟩⟩
theorem main_1_1 : Claimed_1_1 := comes_1 fun _ _ _ _ _ _ h hF => ⟨h.1, hF⟩
theorem main_1_2 : Claimed_1_2 := comes_1 fun _ _ _ _ _ _ h hF => ⟨h.2.1, hF⟩
end Jvm.Pilot.@@N@@
namespace Jvm.Pilot.@@N@@
open Jvm Jvm.ClassFile Sem Op Lib Jvm.Free Jvm.Stand Jvm.Pilot.@@N@@.Jvm.D
/-! MADE BY PROGRAM (witnessworld.py) out of the Statement's table words and the real class files: 21 classes; the members and pool entries that the words name. The judged class is class 1, her method 3. -/
namespace start1
open Jvm.ClassFile
def u (s : String) : CpInfo := .utf8 (stringToUtf16 s)
/-- a pool by its gaps: so many unusable entries, then the entry; so many at the end -/
def gap : Nat → List CpInfo → List CpInfo
  | 0, r => r
  | n + 1, r => .unusable :: gap n r
def poolList (es : List (Nat × CpInfo)) (last : Nat) : List CpInfo := es.foldr (fun e r => gap e.1 (e.2 :: r)) (gap last [])
def pool (es : List (Nat × CpInfo)) (last : Nat) : Array CpInfo := ⟨poolList es last⟩
def fileOf (pool : Array CpInfo) (this : Nat) (attrs : Array Attribute := #[]) (ms : Array MethodInfo := #[]) (fl : Nat := 33) (sup : Nat := 0) (ifs : Array Nat := #[]) (fds : Array FieldInfo := #[]) : ClassFile where
  minorVersion := 0
  majorVersion := 65
  constantPool := pool
  accessFlags := fl
  thisClass := this
  superClass := sup
  interfaces := ifs
  fields := fds
  methods := ms
  attributes := attrs
def plain (name : String) (sup : Option ClassId) : Class where
  name := name
  kind := .ordinary
  loader := none
  accessFlags := 33
  super := sup
  interfaces := #[]
  cf := none
  fields := #[]
  methods := #[]
  instanceTypes := #[]
  staticTypes := #[]
  resolved := #[]
  callSites := []
  init := .initialized
  statics := none
  mirror := none

def pool0 : Array CpInfo := pool [(5, u "<init>"), (0, u "()V"), (1, .class_ 10), (1, u "java/lang/Object")] 113

def k0c0 : Code := { maxStack := 0, maxLocals := 1, code := object_method_1_code, exceptionTable := #[], attributes := #[] }
def k0m0 : Method := { name := "<init>", desc := "()V", sig := { parameters := [], returnType := none }, accessFlags := 1, code := some k0c0 }
/-- java/lang/Object -/
def k0 : Class := { plain "java/lang/Object" none with
  accessFlags := 33
  interfaces := #[]
  cf := some (fileOf pool0 8 #[] #[{ accessFlags := 1, nameIndex := 5, descriptorIndex := 6, attributes := #[] }] 33 0 #[] #[])
  fields := #[]
  methods := #[k0m0]
  instanceTypes := #[]
  staticTypes := #[]
  resolved := Array.replicate 124 none
  statics := none }

def pool1 : Array CpInfo := pool [(2, .class_ 4), (1, u "java/lang/Object"), (0, u "<init>"), (0, u "()V"), (0, .string 8), (0, u ""), (0, .methodref 10 11), (0, .class_ 12), (0, .nameAndType 13 14), (0, u "java/lang/String"), (0, u "valueOf"), (0, u "(C)Ljava/lang/String;"), (0, .methodref 10 16), (0, .nameAndType 5 17), (0, u "([C)V"), (0, .methodref 19 20), (0, .class_ 21), (0, .nameAndType 22 23), (0, u "com/example/claimgate/claimgate/app/GranteeEqualsPinLaw"), (0, u "str"), (0, u "(ICC)Ljava/lang/String;"), (0, .class_ 25), (0, u "com/example/claimgate/claimgate/app/SectionAccess$Grantee"), (0, .methodref 24 27), (0, .nameAndType 5 28), (0, u "(Ljava/lang/String;Ljava/lang/String;)V"), (0, .methodref 19 30), (0, .nameAndType 31 32), (0, u "same"), (0, u "(ICCICC)Z"), (0, .methodref 24 34), (0, .nameAndType 35 36), (0, u "equals"), (0, u "(Ljava/lang/Object;)Z"), (3, u "law"), (0, u "(III)Z")] 6

def k1m0 : Method := { name := "<init>", desc := "()V", sig := { parameters := [], returnType := none }, accessFlags := 2, code := none }
def k1c1 : Code := { maxStack := 3, maxLocals := 4, code := method_2_code, exceptionTable := #[], attributes := #[] }
def k1m1 : Method := { name := "str", desc := "(ICC)Ljava/lang/String;", sig := { parameters := [.int, .char, .char], returnType := some (.object "java/lang/String") }, accessFlags := 10, code := some k1c1 }
def k1c2 : Code := { maxStack := 2, maxLocals := 6, code := method_3_code, exceptionTable := #[], attributes := #[] }
def k1m2 : Method := { name := "same", desc := "(ICCICC)Z", sig := { parameters := [.int, .char, .char, .int, .char, .char], returnType := some .boolean }, accessFlags := 10, code := some k1c2 }
def k1c3 : Code := { maxStack := 6, maxLocals := 23, code := code, exceptionTable := #[], attributes := #[] }
def k1m3 : Method := { name := "law", desc := "(III)Z", sig := { parameters := [.int, .int, .int], returnType := some .boolean }, accessFlags := 9, code := some k1c3 }
/-- com/example/claimgate/claimgate/app/GranteeEqualsPinLaw -/
def k1 : Class := { plain "com/example/claimgate/claimgate/app/GranteeEqualsPinLaw" (some 0) with
  accessFlags := 49
  interfaces := #[]
  cf := some (fileOf pool1 19 #[] #[{ accessFlags := 2, nameIndex := 5, descriptorIndex := 6, attributes := #[] }, { accessFlags := 10, nameIndex := 22, descriptorIndex := 23, attributes := #[] }, { accessFlags := 10, nameIndex := 31, descriptorIndex := 32, attributes := #[] }, { accessFlags := 9, nameIndex := 40, descriptorIndex := 41, attributes := #[] }] 49 2 #[] #[])
  fields := #[]
  methods := #[k1m0, k1m1, k1m2, k1m3]
  instanceTypes := #[]
  staticTypes := #[]
  resolved := Array.replicate 48 none
  statics := none }

def pool2 : Array CpInfo := pool [(1, .class_ 2), (0, u "java/io/Serializable"), (0, .class_ 4), (0, u "java/lang/Object")] 2

/-- java/io/Serializable -/
def k2 : Class := { plain "java/io/Serializable" (some 0) with
  accessFlags := 1537
  interfaces := #[]
  cf := some (fileOf pool2 1 #[] #[] 1537 3 #[] #[])
  fields := #[]
  methods := #[]
  instanceTypes := #[]
  staticTypes := #[]
  resolved := Array.replicate 7 none
  statics := none }

def pool3 : Array CpInfo := pool [(1, .class_ 2), (0, u "java/lang/Comparable"), (0, .class_ 4), (0, u "java/lang/Object")] 7

/-- java/lang/Comparable -/
def k3 : Class := { plain "java/lang/Comparable" (some 0) with
  accessFlags := 1537
  interfaces := #[]
  cf := some (fileOf pool3 1 #[] #[] 1537 3 #[] #[])
  fields := #[]
  methods := #[]
  instanceTypes := #[]
  staticTypes := #[]
  resolved := Array.replicate 12 none
  statics := none }

def pool4 : Array CpInfo := pool [(2, .class_ 4), (1, u "java/lang/CharSequence"), (42, .class_ 48), (0, u "java/lang/CharSequence$1CodePointIterator"), (10, .class_ 60), (0, u "java/lang/CharSequence$1CharIterator"), (5, .class_ 67), (0, u "java/lang/Object")] 63

/-- java/lang/CharSequence -/
def k4 : Class := { plain "java/lang/CharSequence" (some 0) with
  accessFlags := 1537
  interfaces := #[]
  cf := some (fileOf pool4 2 #[.nestMembers #[47, 59]] #[] 1537 66 #[] #[])
  fields := #[]
  methods := #[]
  instanceTypes := #[]
  staticTypes := #[]
  resolved := Array.replicate 131 none
  statics := none }

def pool5 : Array CpInfo := pool [(1, .class_ 2), (0, u "java/lang/constant/Constable"), (0, .class_ 4), (0, u "java/lang/Object")] 6

/-- java/lang/constant/Constable -/
def k5 : Class := { plain "java/lang/constant/Constable" (some 0) with
  accessFlags := 1537
  interfaces := #[]
  cf := some (fileOf pool5 1 #[] #[] 1537 3 #[] #[])
  fields := #[]
  methods := #[]
  instanceTypes := #[]
  staticTypes := #[]
  resolved := Array.replicate 11 none
  statics := none }

def pool6 : Array CpInfo := pool [(1, .class_ 2), (0, u "java/lang/constant/ConstantDesc"), (0, .class_ 4), (0, u "java/lang/Object")] 32

/-- java/lang/constant/ConstantDesc -/
def k6 : Class := { plain "java/lang/constant/ConstantDesc" (some 0) with
  accessFlags := 1537
  interfaces := #[]
  cf := some (fileOf pool6 1 #[] #[] 1537 3 #[] #[])
  fields := #[]
  methods := #[]
  instanceTypes := #[]
  staticTypes := #[]
  resolved := Array.replicate 37 none
  statics := none }

def pool7 : Array CpInfo := pool [(1, .methodref 2 3), (0, .class_ 4), (0, .nameAndType 5 6), (0, u "java/lang/Object"), (0, u "<init>"), (0, u "()V"), (2, .fieldref 10 11), (0, .class_ 12), (0, .nameAndType 13 14), (0, u "java/lang/String"), (0, u "value"), (0, u "[B"), (0, .fieldref 10 16), (0, .nameAndType 17 18), (0, u "coder"), (0, u "B"), (2, u "hash"), (0, u "I"), (2, u "hashIsZero"), (0, u "Z"), (0, .methodref 10 28), (0, .nameAndType 5 29), (0, u "([CIILjava/lang/Void;)V"), (8, .fieldref 10 39), (0, .nameAndType 40 26), (0, u "COMPACT_STRINGS"), (1, .class_ 44), (1, u "java/lang/StringUTF16"), (0, u "compress"), (1, .methodref 42 48), (0, .nameAndType 49 50), (0, u "coderFromArrayLen"), (0, u "([BI)B"), (2, u "toBytes"), (53, .class_ 109), (1, u "java/lang/StringLatin1"), (67, .methodref 42 178), (0, .nameAndType 45 179), (0, u "([CII)[B"), (29, .methodref 10 210), (0, .nameAndType 5 211), (0, u "([BB)V"), (157, u "(C)Z"), (171, .methodref 107 542), (0, .nameAndType 543 544), (0, u "equals"), (0, u "([B[B)Z"), (28, u "(Ljava/lang/Object;)Z"), (1, .class_ 576), (0, u "java/lang/CharSequence"), (22, u "CASE_INSENSITIVE_ORDER"), (0, u "Ljava/util/Comparator;"), (181, u "valueOf"), (0, u "(C)Ljava/lang/String;"), (226, u "([C)V"), (4, .methodref 107 1016), (0, .nameAndType 1017 369), (0, u "canEncode"), (0, .methodref 107 1019), (0, .nameAndType 53 1020), (0, u "(C)[B"), (80, u "serialPersistentFields"), (0, u "[Ljava/io/ObjectStreamField;"), (0, .class_ 1104), (0, u "java/lang/String$CaseInsensitiveComparator"), (1, .class_ 1107), (0, u "java/io/Serializable"), (0, .class_ 1109), (0, u "java/lang/Comparable"), (0, .class_ 1111), (0, u "java/lang/constant/Constable"), (0, .class_ 1113), (0, u "java/lang/constant/ConstantDesc"), (2, u "serialVersionUID"), (0, u "J"), (3, u "REPL"), (0, u "C"), (2, u "LATIN1"), (1, u "UTF16")] 323

def k7m0 : Method := { name := "<init>", desc := "()V", sig := { parameters := [], returnType := none }, accessFlags := 1, code := none }
def k7c1 : Code := { maxStack := 5, maxLocals := 2, code := jdk_42_method_3_code, exceptionTable := #[], attributes := #[] }
def k7m1 : Method := { name := "<init>", desc := "([C)V", sig := { parameters := [(.array .char)], returnType := none }, accessFlags := 1, code := some k7c1 }
def k7c2 : Code := { maxStack := 2, maxLocals := 3, code := jdk_42_method_66_code, exceptionTable := #[], attributes := #[] }
def k7m2 : Method := { name := "equals", desc := "(Ljava/lang/Object;)Z", sig := { parameters := [(.object "java/lang/Object")], returnType := some .boolean }, accessFlags := 1, code := some k7c2 }
def k7c3 : Code := { maxStack := 4, maxLocals := 1, code := jdk_42_method_139_code, exceptionTable := #[], attributes := #[] }
def k7m3 : Method := { name := "valueOf", desc := "(C)Ljava/lang/String;", sig := { parameters := [.char], returnType := some (.object "java/lang/String") }, accessFlags := 9, code := some k7c3 }
def k7c4 : Code := { maxStack := 4, maxLocals := 6, code := jdk_42_method_149_code, exceptionTable := #[], attributes := #[] }
def k7m4 : Method := { name := "<init>", desc := "([CIILjava/lang/Void;)V", sig := { parameters := [(.array .char), .int, .int, (.object "java/lang/Void")], returnType := none }, accessFlags := 2, code := some k7c4 }
def k7c5 : Code := { maxStack := 2, maxLocals := 3, code := jdk_42_method_151_code, exceptionTable := #[], attributes := #[] }
def k7m5 : Method := { name := "<init>", desc := "([BB)V", sig := { parameters := [(.array .byte), .byte], returnType := none }, accessFlags := 0, code := some k7c5 }
/-- java/lang/String -/
def k7 : Class := { plain "java/lang/String" (some 0) with
  accessFlags := 49
  interfaces := #[2, 3, 4, 5, 6]
  cf := some (fileOf pool7 10 #[.nestMembers #[1103]] #[{ accessFlags := 1, nameIndex := 5, descriptorIndex := 6, attributes := #[] }, { accessFlags := 1, nameIndex := 5, descriptorIndex := 1010, attributes := #[] }, { accessFlags := 1, nameIndex := 543, descriptorIndex := 573, attributes := #[] }, { accessFlags := 9, nameIndex := 782, descriptorIndex := 783, attributes := #[] }, { accessFlags := 2, nameIndex := 5, descriptorIndex := 29, attributes := #[] }, { accessFlags := 0, nameIndex := 5, descriptorIndex := 211, attributes := #[] }] 49 2 #[1106, 1108, 575, 1110, 1112] #[{ accessFlags := 18, nameIndex := 13, descriptorIndex := 14, attributes := #[] }, { accessFlags := 18, nameIndex := 17, descriptorIndex := 18, attributes := #[] }, { accessFlags := 2, nameIndex := 21, descriptorIndex := 22, attributes := #[] }, { accessFlags := 2, nameIndex := 25, descriptorIndex := 26, attributes := #[] }, { accessFlags := 26, nameIndex := 1116, descriptorIndex := 1117, attributes := #[] }, { accessFlags := 24, nameIndex := 40, descriptorIndex := 26, attributes := #[] }, { accessFlags := 26, nameIndex := 1101, descriptorIndex := 1102, attributes := #[] }, { accessFlags := 26, nameIndex := 1121, descriptorIndex := 1122, attributes := #[] }, { accessFlags := 25, nameIndex := 599, descriptorIndex := 600, attributes := #[] }, { accessFlags := 24, nameIndex := 1125, descriptorIndex := 18, attributes := #[] }, { accessFlags := 24, nameIndex := 1127, descriptorIndex := 18, attributes := #[] }])
  fields := #[{ name := "value", type := (.array .byte), accessFlags := 18, slot := 0, constantValue := 0 }, { name := "coder", type := .byte, accessFlags := 18, slot := 1, constantValue := 0 }, { name := "hash", type := .int, accessFlags := 2, slot := 2, constantValue := 0 }, { name := "hashIsZero", type := .boolean, accessFlags := 2, slot := 3, constantValue := 0 }, { name := "serialVersionUID", type := .long, accessFlags := 26, slot := 0, constantValue := 0 }, { name := "COMPACT_STRINGS", type := .boolean, accessFlags := 24, slot := 1, constantValue := 0 }, { name := "serialPersistentFields", type := (.array (.object "java/io/ObjectStreamField")), accessFlags := 26, slot := 2, constantValue := 0 }, { name := "REPL", type := .char, accessFlags := 26, slot := 3, constantValue := 0 }, { name := "CASE_INSENSITIVE_ORDER", type := (.object "java/util/Comparator"), accessFlags := 25, slot := 4, constantValue := 0 }, { name := "LATIN1", type := .byte, accessFlags := 24, slot := 5, constantValue := 0 }, { name := "UTF16", type := .byte, accessFlags := 24, slot := 6, constantValue := 0 }]
  methods := #[k7m0, k7m1, k7m2, k7m3, k7m4, k7m5]
  instanceTypes := #[(.array .byte), .byte, .int, .boolean]
  staticTypes := #[.long, .boolean, (.array (.object "java/io/ObjectStreamField")), .char, (.object "java/util/Comparator"), .byte, .byte]
  resolved := Array.replicate 1451 none
  statics := some 0 }

def pool8 : Array CpInfo := pool [(6, .class_ 8), (1, u "java/lang/Object"), (0, u "<init>"), (0, u "()V"), (1, .class_ 14), (1, u "java/lang/StringUTF16"), (31, u "$assertionsDisabled"), (0, u "Z"), (13, u "HI_BYTE_SHIFT"), (0, u "I"), (2, u "LO_BYTE_SHIFT"), (49, .methodref 12 116), (0, .nameAndType 117 118), (0, u "compress"), (0, u "([CI[BII)I"), (3, u "([CII)[B"), (138, u "coderFromArrayLen"), (0, u "([BI)B"), (106, .class_ 371), (1, u "java/lang/StringUTF16$LinesSpliterator"), (58, u "MAX_LENGTH"), (196, .class_ 628), (0, u "java/lang/StringUTF16$CodePointsSpliterator"), (0, .class_ 630), (0, u "java/lang/StringUTF16$CharsSpliterator")] 4

def k8m0 : Method := { name := "<init>", desc := "()V", sig := { parameters := [], returnType := none }, accessFlags := 0, code := none }
def k8c1 : Code := { maxStack := 2, maxLocals := 2, code := jdk_52_method_15_code, exceptionTable := #[], attributes := #[] }
def k8m1 : Method := { name := "coderFromArrayLen", desc := "([BI)B", sig := { parameters := [(.array .byte), .int], returnType := some .byte }, accessFlags := 8, code := some k8c1 }
def k8c2 : Code := { maxStack := 5, maxLocals := 6, code := jdk_52_method_16_code, exceptionTable := #[], attributes := #[] }
def k8m2 : Method := { name := "compress", desc := "([CII)[B", sig := { parameters := [(.array .char), .int, .int], returnType := some (.array .byte) }, accessFlags := 9, code := some k8c2 }
def k8c3 : Code := { maxStack := 3, maxLocals := 7, code := jdk_52_method_21_code, exceptionTable := #[], attributes := #[] }
def k8m3 : Method := { name := "compress", desc := "([CI[BII)I", sig := { parameters := [(.array .char), .int, (.array .byte), .int, .int], returnType := some .int }, accessFlags := 9, code := some k8c3 }
/-- java/lang/StringUTF16 -/
def k8 : Class := { plain "java/lang/StringUTF16" (some 0) with
  accessFlags := 48
  interfaces := #[]
  cf := some (fileOf pool8 12 #[.nestMembers #[627, 629, 369]] #[{ accessFlags := 0, nameIndex := 9, descriptorIndex := 10, attributes := #[] }, { accessFlags := 8, nameIndex := 261, descriptorIndex := 262, attributes := #[] }, { accessFlags := 9, nameIndex := 117, descriptorIndex := 122, attributes := #[] }, { accessFlags := 9, nameIndex := 117, descriptorIndex := 118, attributes := #[] }] 48 6 #[] #[{ accessFlags := 26, nameIndex := 61, descriptorIndex := 62, attributes := #[] }, { accessFlags := 26, nameIndex := 65, descriptorIndex := 62, attributes := #[] }, { accessFlags := 24, nameIndex := 430, descriptorIndex := 62, attributes := #[] }, { accessFlags := 4120, nameIndex := 46, descriptorIndex := 47, attributes := #[] }])
  fields := #[{ name := "HI_BYTE_SHIFT", type := .int, accessFlags := 26, slot := 0, constantValue := 0 }, { name := "LO_BYTE_SHIFT", type := .int, accessFlags := 26, slot := 1, constantValue := 0 }, { name := "MAX_LENGTH", type := .int, accessFlags := 24, slot := 2, constantValue := 0 }, { name := "$assertionsDisabled", type := .boolean, accessFlags := 4120, slot := 3, constantValue := 0 }]
  methods := #[k8m0, k8m1, k8m2, k8m3]
  instanceTypes := #[]
  staticTypes := #[.int, .int, .int, .boolean]
  resolved := Array.replicate 635 none
  statics := none }

def pool9 : Array CpInfo := pool [(1, .methodref 2 3), (0, .class_ 4), (0, .nameAndType 5 6), (0, u "java/lang/Object"), (0, u "<init>"), (0, u "()V"), (0, .class_ 8), (0, u "java/lang/Record")] 13

def k9c0 : Code := { maxStack := 1, maxLocals := 1, code := jdk_30_method_1_code, exceptionTable := #[], attributes := #[] }
def k9m0 : Method := { name := "<init>", desc := "()V", sig := { parameters := [], returnType := none }, accessFlags := 4, code := some k9c0 }
/-- java/lang/Record -/
def k9 : Class := { plain "java/lang/Record" (some 0) with
  accessFlags := 1057
  interfaces := #[]
  cf := some (fileOf pool9 7 #[] #[{ accessFlags := 4, nameIndex := 5, descriptorIndex := 6, attributes := #[] }] 1057 2 #[] #[])
  fields := #[]
  methods := #[k9m0]
  instanceTypes := #[]
  staticTypes := #[]
  resolved := Array.replicate 22 none
  statics := none }

def pool10 : Array CpInfo := pool [(1, .methodref 2 3), (0, .class_ 4), (0, .nameAndType 5 6), (0, u "java/lang/Record"), (0, u "<init>"), (0, u "()V"), (0, .fieldref 8 9), (0, .class_ 10), (0, .nameAndType 11 12), (0, u "com/example/claimgate/claimgate/app/SectionAccess$Grantee"), (0, u "user"), (0, u "Ljava/lang/String;"), (0, .fieldref 8 14), (0, .nameAndType 15 12), (0, u "group"), (0, .methodref 17 18), (0, .class_ 19), (0, .nameAndType 20 21), (0, u "java/lang/String"), (0, u "equals"), (0, u "(Ljava/lang/Object;)Z"), (14, u "(Ljava/lang/String;Ljava/lang/String;)V"), (8, .class_ 46), (0, u "com/example/claimgate/claimgate/app/SectionAccess")] 20

def k10c0 : Code := { maxStack := 2, maxLocals := 3, code := prog_26_method_1_code, exceptionTable := #[], attributes := #[] }
def k10m0 : Method := { name := "<init>", desc := "(Ljava/lang/String;Ljava/lang/String;)V", sig := { parameters := [(.object "java/lang/String"), (.object "java/lang/String")], returnType := none }, accessFlags := 0, code := some k10c0 }
def k10c1 : Code := { maxStack := 2, maxLocals := 3, code := prog_26_method_2_code, exceptionTable := #[], attributes := #[] }
def k10m1 : Method := { name := "equals", desc := "(Ljava/lang/Object;)Z", sig := { parameters := [(.object "java/lang/Object")], returnType := some .boolean }, accessFlags := 1, code := some k10c1 }
/-- com/example/claimgate/claimgate/app/SectionAccess$Grantee -/
def k10 : Class := { plain "com/example/claimgate/claimgate/app/SectionAccess$Grantee" (some 9) with
  accessFlags := 48
  interfaces := #[]
  cf := some (fileOf pool10 8 #[.nestHost 45] #[{ accessFlags := 0, nameIndex := 5, descriptorIndex := 36, attributes := #[] }, { accessFlags := 1, nameIndex := 20, descriptorIndex := 21, attributes := #[] }] 48 2 #[] #[{ accessFlags := 18, nameIndex := 11, descriptorIndex := 12, attributes := #[] }, { accessFlags := 18, nameIndex := 15, descriptorIndex := 12, attributes := #[] }])
  fields := #[{ name := "user", type := (.object "java/lang/String"), accessFlags := 18, slot := 0, constantValue := 0 }, { name := "group", type := (.object "java/lang/String"), accessFlags := 18, slot := 1, constantValue := 0 }]
  methods := #[k10m0, k10m1]
  instanceTypes := #[(.object "java/lang/String"), (.object "java/lang/String")]
  staticTypes := #[]
  resolved := Array.replicate 67 none
  statics := none }

def pool11 : Array CpInfo := pool [(4, .class_ 6), (1, u "java/lang/Object"), (0, u "<init>"), (0, u "()V"), (5, .class_ 16), (1, u "java/lang/StringLatin1"), (73, u "canEncode"), (14, u "(C)Z"), (15, u "$assertionsDisabled"), (0, u "Z"), (98, .class_ 223), (1, u "java/lang/StringLatin1$LinesSpliterator"), (57, u "equals"), (0, u "([B[B)Z"), (97, u "toBytes"), (1, u "(C)[B"), (7, .class_ 391), (0, u "java/lang/StringLatin1$CharsSpliterator")] 3

def k11m0 : Method := { name := "<init>", desc := "()V", sig := { parameters := [], returnType := none }, accessFlags := 0, code := none }
def k11c1 : Code := { maxStack := 2, maxLocals := 1, code := jdk_43_method_3_code, exceptionTable := #[], attributes := #[] }
def k11m1 : Method := { name := "canEncode", desc := "(C)Z", sig := { parameters := [.char], returnType := some .boolean }, accessFlags := 9, code := some k11c1 }
def k11c2 : Code := { maxStack := 3, maxLocals := 3, code := jdk_43_method_13_code, exceptionTable := #[], attributes := #[] }
def k11m2 : Method := { name := "equals", desc := "([B[B)Z", sig := { parameters := [(.array .byte), (.array .byte)], returnType := some .boolean }, accessFlags := 9, code := some k11c2 }
def k11c3 : Code := { maxStack := 4, maxLocals := 1, code := jdk_43_method_46_code, exceptionTable := #[], attributes := #[] }
def k11m3 : Method := { name := "toBytes", desc := "(C)[B", sig := { parameters := [.char], returnType := some (.array .byte) }, accessFlags := 9, code := some k11c3 }
/-- java/lang/StringLatin1 -/
def k11 : Class := { plain "java/lang/StringLatin1" (some 0) with
  accessFlags := 48
  interfaces := #[]
  cf := some (fileOf pool11 14 #[.nestMembers #[390, 221]] #[{ accessFlags := 0, nameIndex := 7, descriptorIndex := 8, attributes := #[] }, { accessFlags := 9, nameIndex := 90, descriptorIndex := 105, attributes := #[] }, { accessFlags := 9, nameIndex := 281, descriptorIndex := 282, attributes := #[] }, { accessFlags := 9, nameIndex := 380, descriptorIndex := 382, attributes := #[] }] 48 4 #[] #[{ accessFlags := 4120, nameIndex := 121, descriptorIndex := 122, attributes := #[] }])
  fields := #[{ name := "$assertionsDisabled", type := .boolean, accessFlags := 4120, slot := 0, constantValue := 0 }]
  methods := #[k11m0, k11m1, k11m2, k11m3]
  instanceTypes := #[]
  staticTypes := #[.boolean]
  resolved := Array.replicate 395 none
  statics := none }

def pool12 : Array CpInfo := pool [(2, .class_ 4), (1, u "java/lang/Object"), (0, u "<init>"), (0, u "()V"), (17, .class_ 26), (1, u "jdk/internal/util/Preconditions"), (28, .class_ 56), (0, u "jdk/internal/util/Preconditions$4"), (57, .class_ 115), (0, u "jdk/internal/util/Preconditions$1"), (7, u "SIOOBE_FORMATTER"), (0, u "Ljava/util/function/BiFunction;"), (0, .class_ 126), (0, u "jdk/internal/util/Preconditions$2"), (3, u "AIOOBE_FORMATTER"), (0, .class_ 132), (0, u "jdk/internal/util/Preconditions$3"), (3, u "IOOBE_FORMATTER")] 57

def k12m0 : Method := { name := "<init>", desc := "()V", sig := { parameters := [], returnType := none }, accessFlags := 1, code := none }
/-- jdk/internal/util/Preconditions -/
def k12 : Class := { plain "jdk/internal/util/Preconditions" (some 0) with
  accessFlags := 33
  interfaces := #[]
  cf := some (fileOf pool12 24 #[.nestMembers #[55, 131, 125, 114]] #[{ accessFlags := 1, nameIndex := 5, descriptorIndex := 6, attributes := #[] }] 33 2 #[] #[{ accessFlags := 25, nameIndex := 123, descriptorIndex := 124, attributes := #[] }, { accessFlags := 25, nameIndex := 130, descriptorIndex := 124, attributes := #[] }, { accessFlags := 25, nameIndex := 136, descriptorIndex := 124, attributes := #[] }])
  fields := #[{ name := "SIOOBE_FORMATTER", type := (.object "java/util/function/BiFunction"), accessFlags := 25, slot := 0, constantValue := 0 }, { name := "AIOOBE_FORMATTER", type := (.object "java/util/function/BiFunction"), accessFlags := 25, slot := 1, constantValue := 0 }, { name := "IOOBE_FORMATTER", type := (.object "java/util/function/BiFunction"), accessFlags := 25, slot := 2, constantValue := 0 }]
  methods := #[k12m0]
  instanceTypes := #[]
  staticTypes := #[(.object "java/util/function/BiFunction"), (.object "java/util/function/BiFunction"), (.object "java/util/function/BiFunction")]
  resolved := Array.replicate 194 none
  statics := some 1 }

def pool13 : Array CpInfo := pool [(9, u "<init>"), (6, .class_ 18), (1, u "java/lang/Object"), (0, u "()V"), (1, .class_ 23), (1, u "jdk/internal/util/ArraysSupport"), (0, u "LOG2_ARRAY_LONG_INDEX_SCALE"), (0, u "I"), (2, u "U"), (0, u "Ljdk/internal/misc/Unsafe;"), (8, u "BIG_ENDIAN"), (0, u "Z"), (8, u "LOG2_BYTE_BIT_SIZE"), (4, u "LOG2_ARRAY_INT_INDEX_SCALE"), (54, u "JLA"), (0, u "Ljdk/internal/access/JavaLangAccess;"), (11, u "LOG2_ARRAY_BOOLEAN_INDEX_SCALE"), (9, u "LOG2_ARRAY_BYTE_INDEX_SCALE"), (5, u "LOG2_ARRAY_CHAR_INDEX_SCALE"), (5, u "LOG2_ARRAY_SHORT_INDEX_SCALE"), (18, u "LOG2_ARRAY_FLOAT_INDEX_SCALE"), (24, u "LOG2_ARRAY_DOUBLE_INDEX_SCALE"), (89, u "T_BOOLEAN"), (2, u "T_CHAR"), (1, u "T_FLOAT"), (1, u "T_DOUBLE"), (1, u "T_BYTE"), (1, u "T_SHORT"), (1, u "T_INT"), (1, u "T_LONG"), (1, u "SOFT_MAX_ARRAY_LENGTH")] 83

def k13m0 : Method := { name := "<init>", desc := "()V", sig := { parameters := [], returnType := none }, accessFlags := 2, code := none }
/-- jdk/internal/util/ArraysSupport -/
def k13 : Class := { plain "jdk/internal/util/ArraysSupport" (some 0) with
  accessFlags := 33
  interfaces := #[]
  cf := some (fileOf pool13 21 #[] #[{ accessFlags := 2, nameIndex := 9, descriptorIndex := 19, attributes := #[] }] 33 16 #[] #[{ accessFlags := 24, nameIndex := 28, descriptorIndex := 29, attributes := #[] }, { accessFlags := 26, nameIndex := 38, descriptorIndex := 39, attributes := #[] }, { accessFlags := 25, nameIndex := 121, descriptorIndex := 25, attributes := #[] }, { accessFlags := 25, nameIndex := 131, descriptorIndex := 25, attributes := #[] }, { accessFlags := 25, nameIndex := 137, descriptorIndex := 25, attributes := #[] }, { accessFlags := 25, nameIndex := 143, descriptorIndex := 25, attributes := #[] }, { accessFlags := 25, nameIndex := 53, descriptorIndex := 25, attributes := #[] }, { accessFlags := 25, nameIndex := 24, descriptorIndex := 25, attributes := #[] }, { accessFlags := 25, nameIndex := 162, descriptorIndex := 25, attributes := #[] }, { accessFlags := 25, nameIndex := 187, descriptorIndex := 25, attributes := #[] }, { accessFlags := 26, nameIndex := 48, descriptorIndex := 25, attributes := #[] }, { accessFlags := 25, nameIndex := 277, descriptorIndex := 25, attributes := #[] }, { accessFlags := 25, nameIndex := 280, descriptorIndex := 25, attributes := #[] }, { accessFlags := 25, nameIndex := 282, descriptorIndex := 25, attributes := #[] }, { accessFlags := 25, nameIndex := 284, descriptorIndex := 25, attributes := #[] }, { accessFlags := 25, nameIndex := 286, descriptorIndex := 25, attributes := #[] }, { accessFlags := 25, nameIndex := 288, descriptorIndex := 25, attributes := #[] }, { accessFlags := 25, nameIndex := 290, descriptorIndex := 25, attributes := #[] }, { accessFlags := 25, nameIndex := 292, descriptorIndex := 25, attributes := #[] }, { accessFlags := 26, nameIndex := 108, descriptorIndex := 109, attributes := #[] }, { accessFlags := 25, nameIndex := 294, descriptorIndex := 25, attributes := #[] }])
  fields := #[{ name := "U", type := (.object "jdk/internal/misc/Unsafe"), accessFlags := 24, slot := 0, constantValue := 0 }, { name := "BIG_ENDIAN", type := .boolean, accessFlags := 26, slot := 1, constantValue := 0 }, { name := "LOG2_ARRAY_BOOLEAN_INDEX_SCALE", type := .int, accessFlags := 25, slot := 2, constantValue := 0 }, { name := "LOG2_ARRAY_BYTE_INDEX_SCALE", type := .int, accessFlags := 25, slot := 3, constantValue := 0 }, { name := "LOG2_ARRAY_CHAR_INDEX_SCALE", type := .int, accessFlags := 25, slot := 4, constantValue := 0 }, { name := "LOG2_ARRAY_SHORT_INDEX_SCALE", type := .int, accessFlags := 25, slot := 5, constantValue := 0 }, { name := "LOG2_ARRAY_INT_INDEX_SCALE", type := .int, accessFlags := 25, slot := 6, constantValue := 0 }, { name := "LOG2_ARRAY_LONG_INDEX_SCALE", type := .int, accessFlags := 25, slot := 7, constantValue := 0 }, { name := "LOG2_ARRAY_FLOAT_INDEX_SCALE", type := .int, accessFlags := 25, slot := 8, constantValue := 0 }, { name := "LOG2_ARRAY_DOUBLE_INDEX_SCALE", type := .int, accessFlags := 25, slot := 9, constantValue := 0 }, { name := "LOG2_BYTE_BIT_SIZE", type := .int, accessFlags := 26, slot := 10, constantValue := 0 }, { name := "T_BOOLEAN", type := .int, accessFlags := 25, slot := 11, constantValue := 0 }, { name := "T_CHAR", type := .int, accessFlags := 25, slot := 12, constantValue := 0 }, { name := "T_FLOAT", type := .int, accessFlags := 25, slot := 13, constantValue := 0 }, { name := "T_DOUBLE", type := .int, accessFlags := 25, slot := 14, constantValue := 0 }, { name := "T_BYTE", type := .int, accessFlags := 25, slot := 15, constantValue := 0 }, { name := "T_SHORT", type := .int, accessFlags := 25, slot := 16, constantValue := 0 }, { name := "T_INT", type := .int, accessFlags := 25, slot := 17, constantValue := 0 }, { name := "T_LONG", type := .int, accessFlags := 25, slot := 18, constantValue := 0 }, { name := "JLA", type := (.object "jdk/internal/access/JavaLangAccess"), accessFlags := 26, slot := 19, constantValue := 0 }, { name := "SOFT_MAX_ARRAY_LENGTH", type := .int, accessFlags := 25, slot := 20, constantValue := 0 }]
  methods := #[k13m0]
  instanceTypes := #[]
  staticTypes := #[(.object "jdk/internal/misc/Unsafe"), .boolean, .int, .int, .int, .int, .int, .int, .int, .int, .int, .int, .int, .int, .int, .int, .int, .int, .int, (.object "jdk/internal/access/JavaLangAccess"), .int]
  resolved := Array.replicate 378 none
  statics := none }

def pool14 : Array CpInfo := pool [(1, u "java/lang/Cloneable"), (0, .class_ 1), (0, u "java/lang/Object"), (0, .class_ 3)] 3

/-- java/lang/Cloneable -/
def k14 : Class := { plain "java/lang/Cloneable" (some 0) with
  accessFlags := 1537
  interfaces := #[]
  cf := some (fileOf pool14 2 #[] #[] 1537 4 #[] #[])
  fields := #[]
  methods := #[]
  instanceTypes := #[]
  staticTypes := #[]
  resolved := Array.replicate 8 none
  statics := none }

/-- the primitive byte -/
def k15 : Class := { plain "byte" none with kind := .primitive 'B', accessFlags := 0x411 }
/-- [B -/
def k16 : Class := { plain "[B" (some 0) with kind := .array 15 .byte, interfaces := #[14, 2], accessFlags := 1041 }

/-- the primitive char -/
def k17 : Class := { plain "char" none with kind := .primitive 'C', accessFlags := 0x411 }
/-- [C -/
def k18 : Class := { plain "[C" (some 0) with kind := .array 17 .char, interfaces := #[14, 2], accessFlags := 1041 }

/-- the primitive int -/
def k19 : Class := { plain "int" none with kind := .primitive 'I', accessFlags := 0x411 }
/-- [I -/
def k20 : Class := { plain "[I" (some 0) with kind := .array 19 .int, interfaces := #[14, 2], accessFlags := 1041 }

def heap : Heap := #[{ cls := 7, slots := #[.long 0, .int 1, .null, .int 0, .null, .int 0, .int 0], vm := .statics 7 },
  { cls := 12, slots := #[.null, .null, .null], vm := .statics 12 }]
def classes : Array Class := #[k0, k1, k2, k3, k4, k5, k6, k7, k8, k9, k10, k11, k12, k13, k14, k15, k16, k17, k18, k19, k20]
def interned : List (Array UInt16 × Addr) := []
def slotsUsed : Nat := 10
def theMethod : MethodId := ⟨1, 3⟩
def args0 : Array Value := #[.int 5, .int 1, .int 3]
def aboutOver (below : List Frame) : State where
  vm := { classes := classes, interned := interned.toArray }
  heap := heap
  slotsUsed := slotsUsed
  threads := #[{ frames := .invoking theMethod args0 :: below }]
def below0 : List Frame := [.native { method := ⟨0, 0⟩, args := #[] }]
def about1 : State := aboutOver below0
def p0 : Program := .bare "" "" ""
def e0 : Env := launch0.env 0 0 0
theorem w_frames : about1.frames = Frame.invoking theMethod args0 :: below0 := rfl
set_option maxRecDepth 65536 in
theorem w_args : argsFit about1.vm theMethod args0 = true := by decide +kernel
set_option maxRecDepth 65536 in
theorem w_heap : heapFits about1 = true := by decide +kernel
set_option maxRecDepth 65536 in
theorem w_runnable : about1.curStatus? = some .runnable := by decide +kernel
set_option maxRecDepth 65536 in
theorem w_alone : about1.alone = true := by decide +kernel
set_option maxRecDepth 65536 in
theorem w_named : about1.methodNamed? x = some theMethod := by decide +kernel
set_option maxRecDepth 65536 in
theorem w_hears : about1.hears theMethod below0 = true := by decide +kernel
set_option maxRecDepth 65536 in
theorem w_ripe : about1.ripe theMethod args0 below0 = true := by decide +kernel
theorem w_running : about1.status = .running := rfl
set_option maxRecDepth 65536 in
theorem w_room : about1.hasRoom e0.platform room_1 = true :=
  launch0.hasRoom_least _ room_1 (by decide +kernel) (by decide +kernel) (by decide +kernel) (by decide +kernel) (by decide +kernel) (by decide +kernel)
theorem allAtoms_all (ts : List Jvm.Cond) (a : Array Jvm.Value) (st : Jvm.State) : (allAtoms ts).before a st = ts.all (fun c => c.before a st) := by
  induction ts with
  | nil => rfl
  | cons c t ih =>
    show (Jvm.Cond.and c (allAtoms t)).before a st = _
    rw [Jvm.Cond.before_and, ih, List.all_cons]
def words1 : List Jvm.Cond := Jvm.Cond.code x code maxLocals ret :: tables_1
/-- a 'code' word, met by the world's own term for the bytes: nothing is compared byte by byte -/
theorem code_word {y : MethodName} {bytes : ByteArray} {mx : Nat} {rt : Option FieldType} {a : Array Value} {s : State} {m : MethodId} {meth : Method} {c : Code} (h1 : s.methodNamed? y = some m) (h2 : s.vm.method? m = some meth) (h3 : meth.code = some c) (h4 : c.code = bytes)
    (h5 : (c.maxLocals == mx && c.exceptionTable.isEmpty && decide (c.maxStack ≤ mostOperands) && decide (meth.sig.returnType = rt) && !meth.locks && decide (parseMethodDescriptor y.desc = some meth.sig)) = true) : (Jvm.Cond.code y bytes mx rt).before a s = true := by
  simp only [Bool.and_eq_true, beq_iff_eq, Bool.not_eq_true', decide_eq_true_eq] at h5
  obtain ⟨⟨⟨⟨⟨g1, g2⟩, g3⟩, g4⟩, g5⟩, g6⟩ := h5
  simp [Cond.before, Cond.holds, Cond.value, h1, h2, h3, h4, g1, g2, g3, g4, g5, g6]
def isCode : Jvm.Cond → Bool
  | .code _ _ _ _ => true
  | _ => false
theorem all_split {L : List Jvm.Cond} {P : Jvm.Cond → Bool} (h1 : L.all (fun c => isCode c || P c) = true) (h2 : ∀ c ∈ L.filter isCode, P c = true) : L.all P = true := by
  refine List.all_eq_true.mpr fun c hc => ?_
  have h := List.all_eq_true.mp h1 c hc
  rcases Bool.eq_false_or_eq_true (isCode c) with hi | hi
  · exact h2 c (List.mem_filter.mpr ⟨hc, hi⟩)
  · simpa [hi] using h
set_option maxRecDepth 65536 in
theorem w_c0 : (Jvm.Cond.code x code maxLocals ret).before args0 about1 = true := code_word (m := ⟨1, 3⟩) (meth := k1m3) (c := k1c3) (by decide +kernel) rfl rfl rfl (by decide +kernel)
set_option maxRecDepth 65536 in
theorem w_c1 : (Jvm.Cond.code ({ cls := "com/example/claimgate/claimgate/app/GranteeEqualsPinLaw", name := "str", desc := "(ICC)Ljava/lang/String;" } : Jvm.MethodName) method_2_code (4 : Nat) (Option.some (Jvm.ClassFile.FieldType.object "java/lang/String"))).before args0 about1 = true := code_word (m := ⟨1, 1⟩) (meth := k1m1) (c := k1c1) (by decide +kernel) rfl rfl rfl (by decide +kernel)
set_option maxRecDepth 65536 in
theorem w_c2 : (Jvm.Cond.code ({ cls := "java/lang/String", name := "<init>", desc := "([C)V" } : Jvm.MethodName) jdk_42_method_3_code (2 : Nat) (Option.none : Option Jvm.ClassFile.FieldType)).before args0 about1 = true := code_word (m := ⟨7, 1⟩) (meth := k7m1) (c := k7c1) (by decide +kernel) rfl rfl rfl (by decide +kernel)
set_option maxRecDepth 65536 in
theorem w_c3 : (Jvm.Cond.code ({ cls := "java/lang/String", name := "<init>", desc := "([CIILjava/lang/Void;)V" } : Jvm.MethodName) jdk_42_method_149_code (6 : Nat) (Option.none : Option Jvm.ClassFile.FieldType)).before args0 about1 = true := code_word (m := ⟨7, 4⟩) (meth := k7m4) (c := k7c4) (by decide +kernel) rfl rfl rfl (by decide +kernel)
set_option maxRecDepth 65536 in
theorem w_c4 : (Jvm.Cond.code ({ cls := "java/lang/Object", name := "<init>", desc := "()V" } : Jvm.MethodName) object_method_1_code (1 : Nat) (Option.none : Option Jvm.ClassFile.FieldType)).before args0 about1 = true := code_word (m := ⟨0, 0⟩) (meth := k0m0) (c := k0c0) (by decide +kernel) rfl rfl rfl (by decide +kernel)
set_option maxRecDepth 65536 in
theorem w_c5 : (Jvm.Cond.code ({ cls := "java/lang/StringUTF16", name := "compress", desc := "([CII)[B" } : Jvm.MethodName) jdk_52_method_16_code (6 : Nat) (Option.some (Jvm.ClassFile.FieldType.array Jvm.ClassFile.FieldType.byte))).before args0 about1 = true := code_word (m := ⟨8, 2⟩) (meth := k8m2) (c := k8c2) (by decide +kernel) rfl rfl rfl (by decide +kernel)
set_option maxRecDepth 65536 in
theorem w_c6 : (Jvm.Cond.code ({ cls := "java/lang/StringUTF16", name := "compress", desc := "([CI[BII)I" } : Jvm.MethodName) jdk_52_method_21_code (7 : Nat) (Option.some Jvm.ClassFile.FieldType.int)).before args0 about1 = true := code_word (m := ⟨8, 3⟩) (meth := k8m3) (c := k8c3) (by decide +kernel) rfl rfl rfl (by decide +kernel)
set_option maxRecDepth 65536 in
theorem w_c7 : (Jvm.Cond.code ({ cls := "java/lang/StringUTF16", name := "coderFromArrayLen", desc := "([BI)B" } : Jvm.MethodName) jdk_52_method_15_code (2 : Nat) (Option.some Jvm.ClassFile.FieldType.byte)).before args0 about1 = true := code_word (m := ⟨8, 1⟩) (meth := k8m1) (c := k8c1) (by decide +kernel) rfl rfl rfl (by decide +kernel)
set_option maxRecDepth 65536 in
theorem w_c8 : (Jvm.Cond.code ({ cls := "com/example/claimgate/claimgate/app/SectionAccess$Grantee", name := "<init>", desc := "(Ljava/lang/String;Ljava/lang/String;)V" } : Jvm.MethodName) prog_26_method_1_code (3 : Nat) (Option.none : Option Jvm.ClassFile.FieldType)).before args0 about1 = true := code_word (m := ⟨10, 0⟩) (meth := k10m0) (c := k10c0) (by decide +kernel) rfl rfl rfl (by decide +kernel)
set_option maxRecDepth 65536 in
theorem w_c9 : (Jvm.Cond.code ({ cls := "java/lang/Record", name := "<init>", desc := "()V" } : Jvm.MethodName) jdk_30_method_1_code (1 : Nat) (Option.none : Option Jvm.ClassFile.FieldType)).before args0 about1 = true := code_word (m := ⟨9, 0⟩) (meth := k9m0) (c := k9c0) (by decide +kernel) rfl rfl rfl (by decide +kernel)
set_option maxRecDepth 65536 in
theorem w_c10 : (Jvm.Cond.code ({ cls := "com/example/claimgate/claimgate/app/GranteeEqualsPinLaw", name := "same", desc := "(ICCICC)Z" } : Jvm.MethodName) method_3_code (6 : Nat) (Option.some Jvm.ClassFile.FieldType.boolean)).before args0 about1 = true := code_word (m := ⟨1, 2⟩) (meth := k1m2) (c := k1c2) (by decide +kernel) rfl rfl rfl (by decide +kernel)
set_option maxRecDepth 65536 in
theorem w_c11 : (Jvm.Cond.code ({ cls := "com/example/claimgate/claimgate/app/SectionAccess$Grantee", name := "equals", desc := "(Ljava/lang/Object;)Z" } : Jvm.MethodName) prog_26_method_2_code (3 : Nat) (Option.some Jvm.ClassFile.FieldType.boolean)).before args0 about1 = true := code_word (m := ⟨10, 1⟩) (meth := k10m1) (c := k10c1) (by decide +kernel) rfl rfl rfl (by decide +kernel)
set_option maxRecDepth 65536 in
theorem w_c12 : (Jvm.Cond.code ({ cls := "java/lang/String", name := "equals", desc := "(Ljava/lang/Object;)Z" } : Jvm.MethodName) jdk_42_method_66_code (3 : Nat) (Option.some Jvm.ClassFile.FieldType.boolean)).before args0 about1 = true := code_word (m := ⟨7, 2⟩) (meth := k7m2) (c := k7c2) (by decide +kernel) rfl rfl rfl (by decide +kernel)
set_option maxRecDepth 65536 in
theorem w_c13 : (Jvm.Cond.code ({ cls := "java/lang/StringLatin1", name := "equals", desc := "([B[B)Z" } : Jvm.MethodName) jdk_43_method_13_code (3 : Nat) (Option.some Jvm.ClassFile.FieldType.boolean)).before args0 about1 = true := code_word (m := ⟨11, 2⟩) (meth := k11m2) (c := k11c2) (by decide +kernel) rfl rfl rfl (by decide +kernel)
set_option maxRecDepth 65536 in
theorem w_c14 : (Jvm.Cond.code ({ cls := "java/lang/String", name := "valueOf", desc := "(C)Ljava/lang/String;" } : Jvm.MethodName) jdk_42_method_139_code (1 : Nat) (Option.some (Jvm.ClassFile.FieldType.object "java/lang/String"))).before args0 about1 = true := code_word (m := ⟨7, 3⟩) (meth := k7m3) (c := k7c3) (by decide +kernel) rfl rfl rfl (by decide +kernel)
set_option maxRecDepth 65536 in
theorem w_c15 : (Jvm.Cond.code ({ cls := "java/lang/StringLatin1", name := "canEncode", desc := "(C)Z" } : Jvm.MethodName) jdk_43_method_3_code (1 : Nat) (Option.some Jvm.ClassFile.FieldType.boolean)).before args0 about1 = true := code_word (m := ⟨11, 1⟩) (meth := k11m1) (c := k11c1) (by decide +kernel) rfl rfl rfl (by decide +kernel)
set_option maxRecDepth 65536 in
theorem w_c16 : (Jvm.Cond.code ({ cls := "java/lang/StringLatin1", name := "toBytes", desc := "(C)[B" } : Jvm.MethodName) jdk_43_method_46_code (1 : Nat) (Option.some (Jvm.ClassFile.FieldType.array Jvm.ClassFile.FieldType.byte))).before args0 about1 = true := code_word (m := ⟨11, 3⟩) (meth := k11m3) (c := k11c3) (by decide +kernel) rfl rfl rfl (by decide +kernel)
set_option maxRecDepth 65536 in
theorem w_c17 : (Jvm.Cond.code ({ cls := "java/lang/String", name := "<init>", desc := "([BB)V" } : Jvm.MethodName) jdk_42_method_151_code (3 : Nat) (Option.none : Option Jvm.ClassFile.FieldType)).before args0 about1 = true := code_word (m := ⟨7, 5⟩) (meth := k7m5) (c := k7c5) (by decide +kernel) rfl rfl rfl (by decide +kernel)
def codes1 : List Jvm.Cond := [Jvm.Cond.code x code maxLocals ret, Jvm.Cond.code ({ cls := "com/example/claimgate/claimgate/app/GranteeEqualsPinLaw", name := "str", desc := "(ICC)Ljava/lang/String;" } : Jvm.MethodName) method_2_code (4 : Nat) (Option.some (Jvm.ClassFile.FieldType.object "java/lang/String")), Jvm.Cond.code ({ cls := "java/lang/String", name := "<init>", desc := "([C)V" } : Jvm.MethodName) jdk_42_method_3_code (2 : Nat) (Option.none : Option Jvm.ClassFile.FieldType), Jvm.Cond.code ({ cls := "java/lang/String", name := "<init>", desc := "([CIILjava/lang/Void;)V" } : Jvm.MethodName) jdk_42_method_149_code (6 : Nat) (Option.none : Option Jvm.ClassFile.FieldType), Jvm.Cond.code ({ cls := "java/lang/Object", name := "<init>", desc := "()V" } : Jvm.MethodName) object_method_1_code (1 : Nat) (Option.none : Option Jvm.ClassFile.FieldType), Jvm.Cond.code ({ cls := "java/lang/StringUTF16", name := "compress", desc := "([CII)[B" } : Jvm.MethodName) jdk_52_method_16_code (6 : Nat) (Option.some (Jvm.ClassFile.FieldType.array Jvm.ClassFile.FieldType.byte)), Jvm.Cond.code ({ cls := "java/lang/StringUTF16", name := "compress", desc := "([CI[BII)I" } : Jvm.MethodName) jdk_52_method_21_code (7 : Nat) (Option.some Jvm.ClassFile.FieldType.int), Jvm.Cond.code ({ cls := "java/lang/StringUTF16", name := "coderFromArrayLen", desc := "([BI)B" } : Jvm.MethodName) jdk_52_method_15_code (2 : Nat) (Option.some Jvm.ClassFile.FieldType.byte), Jvm.Cond.code ({ cls := "com/example/claimgate/claimgate/app/SectionAccess$Grantee", name := "<init>", desc := "(Ljava/lang/String;Ljava/lang/String;)V" } : Jvm.MethodName) prog_26_method_1_code (3 : Nat) (Option.none : Option Jvm.ClassFile.FieldType), Jvm.Cond.code ({ cls := "java/lang/Record", name := "<init>", desc := "()V" } : Jvm.MethodName) jdk_30_method_1_code (1 : Nat) (Option.none : Option Jvm.ClassFile.FieldType), Jvm.Cond.code ({ cls := "com/example/claimgate/claimgate/app/GranteeEqualsPinLaw", name := "same", desc := "(ICCICC)Z" } : Jvm.MethodName) method_3_code (6 : Nat) (Option.some Jvm.ClassFile.FieldType.boolean), Jvm.Cond.code ({ cls := "com/example/claimgate/claimgate/app/SectionAccess$Grantee", name := "equals", desc := "(Ljava/lang/Object;)Z" } : Jvm.MethodName) prog_26_method_2_code (3 : Nat) (Option.some Jvm.ClassFile.FieldType.boolean), Jvm.Cond.code ({ cls := "java/lang/String", name := "equals", desc := "(Ljava/lang/Object;)Z" } : Jvm.MethodName) jdk_42_method_66_code (3 : Nat) (Option.some Jvm.ClassFile.FieldType.boolean), Jvm.Cond.code ({ cls := "java/lang/StringLatin1", name := "equals", desc := "([B[B)Z" } : Jvm.MethodName) jdk_43_method_13_code (3 : Nat) (Option.some Jvm.ClassFile.FieldType.boolean), Jvm.Cond.code ({ cls := "java/lang/String", name := "valueOf", desc := "(C)Ljava/lang/String;" } : Jvm.MethodName) jdk_42_method_139_code (1 : Nat) (Option.some (Jvm.ClassFile.FieldType.object "java/lang/String")), Jvm.Cond.code ({ cls := "java/lang/StringLatin1", name := "canEncode", desc := "(C)Z" } : Jvm.MethodName) jdk_43_method_3_code (1 : Nat) (Option.some Jvm.ClassFile.FieldType.boolean), Jvm.Cond.code ({ cls := "java/lang/StringLatin1", name := "toBytes", desc := "(C)[B" } : Jvm.MethodName) jdk_43_method_46_code (1 : Nat) (Option.some (Jvm.ClassFile.FieldType.array Jvm.ClassFile.FieldType.byte)), Jvm.Cond.code ({ cls := "java/lang/String", name := "<init>", desc := "([BB)V" } : Jvm.MethodName) jdk_42_method_151_code (3 : Nat) (Option.none : Option Jvm.ClassFile.FieldType)]
set_option maxRecDepth 65536 in
theorem codes_eq : words1.filter isCode = codes1 := rfl
theorem w_codes : ∀ c ∈ words1.filter isCode, c.before args0 about1 = true := by
  rw [codes_eq]
  intro c hc
  simp only [codes1, List.mem_cons, List.not_mem_nil, or_false] at hc
  rcases hc with rfl | rfl | rfl | rfl | rfl | rfl | rfl | rfl | rfl | rfl | rfl | rfl | rfl | rfl | rfl | rfl | rfl | rfl
  · exact w_c0
  · exact w_c1
  · exact w_c2
  · exact w_c3
  · exact w_c4
  · exact w_c5
  · exact w_c6
  · exact w_c7
  · exact w_c8
  · exact w_c9
  · exact w_c10
  · exact w_c11
  · exact w_c12
  · exact w_c13
  · exact w_c14
  · exact w_c15
  · exact w_c16
  · exact w_c17
set_option maxRecDepth 65536 in
theorem w_t1 : (words1.take 24).all (fun c => isCode c || c.before args0 about1) = true := by decide +kernel
set_option maxRecDepth 65536 in
theorem w_t2 : ((words1.drop 24).take 24).all (fun c => isCode c || c.before args0 about1) = true := by decide +kernel
set_option maxRecDepth 65536 in
theorem w_t3 : (((words1.drop 24).drop 24).take 24).all (fun c => isCode c || c.before args0 about1) = true := by decide +kernel
set_option maxRecDepth 65536 in
theorem w_t4 : (((words1.drop 24).drop 24).drop 24).all (fun c => isCode c || c.before args0 about1) = true := by decide +kernel
theorem w_tables : (allAtoms (Jvm.Cond.code x code maxLocals ret :: tables_1)).before args0 about1 = true := by
  rw [allAtoms_all]
  show words1.all (fun c => c.before args0 about1) = true
  refine all_split ?_ w_codes
  rw [← List.take_append_drop 24 words1, List.all_append, w_t1, ← List.take_append_drop 24 (words1.drop 24), List.all_append, w_t2, ← List.take_append_drop 24 ((words1.drop 24).drop 24), List.all_append, w_t3, w_t4]
  rfl
set_option maxRecDepth 65536 in
theorem w_rest : rest_1_c.before args0 about1 = true := by decide +kernel
set_option maxRecDepth 65536 in
theorem w_case : (Jvm.Cond.and given_1 narrow_1).before args0 about1 = true := by decide +kernel
set_option maxRecDepth 65536 in
theorem w_consts : constsHeld consts_1 about1 := Jvm.Lit.constsHeldB_iff.mp (by decide +kernel)
theorem w_applies : (headSpec (Jvm.Cond.code x code maxLocals ret :: tables_1) room_1).applies x e0.platform about1 = true :=
  (Spec.applies_iff w_frames).mpr ⟨w_running, w_runnable, w_alone, w_named, w_hears, w_ripe, w_room, w_tables⟩
theorem atStart : AtStart classFile x code maxLocals ret World_1 tables_1 room_1 Calls_1 rest_1 Pre_1 launch0 p0 e0 about1 theMethod args0 below0 :=
  ⟨lists_1, trivial, launch0.admits_env _ _ _, launch0.least_env, fairChoices_fair.cas, fairChoices_fair.clock, w_frames, w_args, w_heap, w_applies, ⟨w_consts, trivial⟩, w_rest, w_case⟩
end start1
theorem witness_1 : WitnessClaimed_1 := ⟨start1.p0, start1.e0, start1.about1, start1.theMethod, start1.args0, start1.below0, start1.atStart⟩
end Jvm.Pilot.@@N@@
