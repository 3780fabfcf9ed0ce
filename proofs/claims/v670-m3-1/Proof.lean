import JvmDerived
import JvmDerived.Pilot.@@N@@Statement
import JvmDerived.Pilot.@@N@@Code
set_option linter.unusedVariables false
set_option linter.unusedSimpArgs false
namespace Jvm.Own
open Jvm Sem ClassFile Op Lib Jvm.Stand Jvm.Free Jvm.LawKit Jvm.RoadKit
/-- from this state and frame the run comes to an end that E says -/
def Goes (p : Program) (e : Env) (below : List Frame) (E : Outcome → State → Prop) (T : State) (f : JFrame) : Prop :=
  ∃ s₂ o, Steps p.tables e below (T.setTop f) s₂ ∧ s₂.status = .running ∧ Ended s₂ below o ∧ E o s₂
/-- the end of a walk that interns nothing -/
def EndN (s : State) (Q : Option Value → Heap → List Loc → Prop) (K N : Nat) (o : Outcome) (U : State) : Prop :=
  ∃ v L, o = .returned v ∧ Q v U.heap L ∧ FrameEnd s o U L K N
/-- a body's contract -/
def Rm (l : Launch) (y : MethodName) (bytes : ByteArray) (maxL : Nat) (ret : Option FieldType) (rm : Room) (ws : List Jvm.Cond) (Z : State) (as' : Array Value) (h : Heap) (Q : Option Value → Heap → List Loc → Prop) : Prop :=
  MetFree l y (head1 (Jvm.Cond.code y bytes maxL ret :: ws) rm) (fun a U => a = as' ∧ Z.Warmed39 U.vm ∧ U.heap = h) (fun _ _ _ _ _ => True) (fun _ U o U' => ∃ v L, o = .returned v ∧ Q v U'.heap L ∧ FrameEnd U o U' L rm.cells rm.slots)
section Own1
variable {p : Program} {l : Launch} {e : Env} {R : Room} {s : State} {m : MethodId} {args : Array Value} {below : List Frame} {meth : Method} {c : Code} {T : State} {locs : List Loc} {cells slots : Nat} {Z : State} {a0 : Array Value} {h : Heap} {E : Outcome → State → Prop}
theorem Goes.of {T T' : State} {f f' : JFrame} (st : ∀ t, Steps p.tables e below (T'.setTop f') t → Steps p.tables e below (T.setTop f) t) (k : Goes p e below E T' f') : Goes p e below E T f := by
  obtain ⟨s₂, o, h1, h2⟩ := k
  exact ⟨s₂, o, st _ h1, h2⟩
theorem Goes.cast {T : State} {f f' : JFrame} (q : f = f') (k : Goes p e below E T f') : Goes p e below E T f := q ▸ k
theorem oldLe {n0 : Nat} (O : Old Z n0 h) : n0 ≤ h.size := O.1 ▸ O.2.1
theorem goRet {Q : Option Value → Heap → List Loc → Prop} {K N : Nat} {g : JFrame} {v : Option Value} (X : Stand p l e R s m args below meth c T locs cells slots) (hv : meth.sig.returnType = none → v = none) (hlocks : meth.locks = false) (eT : T.heap = h) (hQ : Q v h locs) (hK : cells ≤ K) (hN : slots ≤ N)
    (st : ∀ fs, (∀ (f : JFrame) (acts : List Action), f.method = m → f.locked = none → f.entered = [] → (doReturn e (T.setTop f) acts v).1 = T.setFrames fs) → Steps p.tables e below (T.setTop g) (T.setFrames fs)) : Goes p e below (EndN s Q K N) T g := by
  obtain ⟨fs, hr, hrun, hended, hW, hsame⟩ := X.leave (v := v) hv hlocks
  subst eT
  exact ⟨_, _, st fs hr, hrun, hended, _, _, rfl, hQ, ⟨_, rfl⟩, hW, hsame.mono hK hN⟩
theorem retZ {Q : Option Value → Heap → List Loc → Prop} {K N pc : Nat} {Ls : Array Slot} {z : Int32} {t : FieldType} {rest : List Value} (X : Stand p l e R s m args below meth c T locs cells slots) (hx : p.tables.exec = Jvm.exec) (hret : meth.sig.returnType = some t) (hlocks : meth.locks = false) (ht : t = .boolean ∨ t = .byte ∨ t = .char ∨ t = .short)
    (hd : decode c.code pc = .ok (.ireturn, 1)) (eT : T.heap = h) (hK : cells ≤ K) (hN : slots ≤ N) (hQ : Q (some (.int (nar t z))) h locs) : Goes p e below (EndN s Q K N) T (mkF m pc Ls (.int z :: rest)) :=
  goRet X (fun q => by rw [hret] at q; cases q) hlocks eT hQ hK hN fun fs hr => retN X hx hret ht hd hr
theorem retInt {Q : Option Value → Heap → List Loc → Prop} {K N pc : Nat} {Ls : Array Slot} {z : Int32} {rest : List Value} (X : Stand p l e R s m args below meth c T locs cells slots) (hx : p.tables.exec = Jvm.exec) (hret : meth.sig.returnType = some .int) (hlocks : meth.locks = false)
    (hd : decode c.code pc = .ok (.ireturn, 1)) (eT : T.heap = h) (hK : cells ≤ K) (hN : slots ≤ N) (hQ : Q (some (.int z)) h locs) : Goes p e below (EndN s Q K N) T (mkF m pc Ls (.int z :: rest)) :=
  goRet X (fun q => by rw [hret] at q; cases q) hlocks eT hQ hK hN fun fs hr => by
    have hm' : T.vm.method? m = some meth := X.method'
    have hn : narrow .int (.int z) = .int z := rfl
    show Steps p.tables e below (T.setTop { method := m, pc := pc, locals := Ls, stack := _ :: rest, locked := none }) _
    jvm_step X.here [X.here.top, hx, hd, hm', hret, hn]
    first | (intro acts; rw [hr _ acts rfl rfl rfl]) | rw [hr _ _ rfl rfl rfl]
    exact Steps.refl _
theorem retLong {Q : Option Value → Heap → List Loc → Prop} {K N pc : Nat} {Ls : Array Slot} {z : Int64} {rest : List Value} (X : Stand p l e R s m args below meth c T locs cells slots) (hx : p.tables.exec = Jvm.exec) (hret : meth.sig.returnType = some .long) (hlocks : meth.locks = false)
    (hd : decode c.code pc = .ok (.lreturn, 1)) (eT : T.heap = h) (hK : cells ≤ K) (hN : slots ≤ N) (hQ : Q (some (.long z)) h locs) : Goes p e below (EndN s Q K N) T (mkF m pc Ls (.long z :: rest)) :=
  goRet X (fun q => by rw [hret] at q; cases q) hlocks eT hQ hK hN fun fs hr => by
    have hm' : T.vm.method? m = some meth := X.method'
    show Steps p.tables e below (T.setTop { method := m, pc := pc, locals := Ls, stack := _ :: rest, locked := none }) _
    jvm_step X.here [X.here.top, hx, hd, hm', hret, narrow]
    first | (intro acts; rw [hr _ acts rfl rfl rfl]) | rw [hr _ _ rfl rfl rfl]
    exact Steps.refl _
theorem retRef {Q : Option Value → Heap → List Loc → Prop} {K N pc : Nat} {Ls : Array Slot} {z : Value} {t : FieldType} {rest : List Value} (X : Stand p l e R s m args below meth c T locs cells slots) (hx : p.tables.exec = Jvm.exec) (hret : meth.sig.returnType = some t) (hlocks : meth.locks = false) (ht : t.isReference = true) (hz : z.isRef = true)
    (hd : decode c.code pc = .ok (.areturn, 1)) (eT : T.heap = h) (hK : cells ≤ K) (hN : slots ≤ N) (hQ : Q (some z) h locs) : Goes p e below (EndN s Q K N) T (mkF m pc Ls (z :: rest)) :=
  goRet X (fun q => by rw [hret] at q; cases q) hlocks eT hQ hK hN fun fs hr => by
    have hm' : T.vm.method? m = some meth := X.method'
    show Steps p.tables e below (T.setTop { method := m, pc := pc, locals := Ls, stack := _ :: rest, locked := none }) _
    rcases ref_cases hz with rfl | ⟨_, rfl⟩
    all_goals
      jvm_step X.here [X.here.top, hx, hd, hm', hret, ht, Value.isRef]
      first | (intro acts; rw [hr _ acts rfl rfl rfl]) | rw [hr _ _ rfl rfl rfl]
      exact Steps.refl _
theorem retVoid {Q : Option Value → Heap → List Loc → Prop} {K N pc : Nat} {Ls : Array Slot} {rest : List Value} (X : Stand p l e R s m args below meth c T locs cells slots) (hx : p.tables.exec = Jvm.exec) (hret : meth.sig.returnType = none) (hlocks : meth.locks = false)
    (hd : decode c.code pc = .ok (.return_, 1)) (eT : T.heap = h) (hK : cells ≤ K) (hN : slots ≤ N) (hQ : Q none h locs) : Goes p e below (EndN s Q K N) T (mkF m pc Ls rest) :=
  goRet X (fun _ => rfl) hlocks eT hQ hK hN fun fs hr => by
    have hm' : T.vm.method? m = some meth := X.method'
    show Steps p.tables e below (T.setTop { method := m, pc := pc, locals := Ls, stack := rest, locked := none }) _
    jvm_step X.here [X.here.top, hx, hd, hm', hret]
    first | (intro acts; rw [hr _ acts rfl rfl rfl]) | rw [hr _ _ rfl rfl rfl]
    exact Steps.refl _
/-- a body's contract out of its walk -/
theorem Rm.of {ws : List Jvm.Cond} {y : MethodName} {bytes : ByteArray} {maxL : Nat} {ret : Option FieldType} {rm : Room} {as' : Array Value} {h : Heap} {Q : Option Value → Heap → List Loc → Prop} (hp : plainFor y = true)
    (body : ∀ (p : Program) (e : Env) (s : State) (m : MethodId) (below : List Frame) (meth : Method) (c : Code) (T : State), Stand p l e rm s m as' below meth c T [] 0 0 → p.tables.exec = Jvm.exec → Z.Warmed39 s.vm → c.code = bytes → c.maxLocals = maxL → s.vm.findClass y.cls = some m.cls → meth.name = y.name → meth.sig.returnType = ret → meth.locks = false → T.heap = h →
      Goes p e below (EndN s Q rm.cells rm.slots) T (entryFrame m as' maxL)) : Rm l y bytes maxL ret rm ws Z as' h Q := by
  refine MetFree.of_bodySF hp hisR ?_
  intro p e s m args below meth c s₁ Bd hml0 hP hK
  obtain ⟨rfl, hZ, hh⟩ := hP
  exact body p e s m below meth c s₁ (Stand.of_body Bd) Bd.exec hZ Bd.bytes hml0 (findClass_of_methodNamed Bd.named) (name_of_methodNamed Bd.named Bd.method).1 Bd.returns Bd.notSynchronized (by rw [← hh, Bd.state]; rfl)
theorem goStatic {own : String} {index : Nat} {y : MethodName} {bytes : ByteArray} {maxL : Nat} {ret : Option FieldType} {rm : Room} {as' : Array Value} {Q : Option Value → Heap → List Loc → Prop} (W : Nat)
    (X : Stand p l e R s m args below meth c T locs cells slots) (hx : p.tables.exec = Jvm.exec) (hZ : Z.Warmed39 s.vm) (hown : s.vm.findClass own = some m.cls) (w1 : (Jvm.Cond.methodLink own index y).before a0 Z = true) (w2 : (Jvm.Cond.static y).before a0 Z = true) (w3 : (Jvm.Cond.initialized y.cls).before a0 Z = true) (w4 : (Jvm.Cond.code y bytes maxL ret).before a0 Z = true)
    (hy : y.cls ≠ "java/lang/invoke/MethodHandle" ∧ y.cls ≠ "java/lang/invoke/VarHandle") (r : Rm l y bytes maxL ret rm [] Z as' h Q) (eT : T.heap = h) {g : JFrame} (hg : g.method = m) (hsize : g.locals.size = c.maxLocals) (argsL rest : List Value) (hlen : ∀ sig, parseMethodDescriptor y.desc = some sig → argsL.length = sig.parameters.length)
    (hstack : g.stack = argsL.reverse ++ rest) (has : argsL.toArray = as') (hW : 2 * g.monitorRoom + (rest.map fun v => v.category).sum ≤ W) (hd : decode c.code g.pc = .ok (.invokestatic index, 3)) (hf : rm.frames + 1 ≤ R.frames) (hl : W + (maxL + 11) + rm.locals ≤ R.locals) (hc : cells + rm.cells ≤ R.cells) (hs : slots + rm.slots ≤ R.slots)
    (k : ∀ v T' L, Stand p l e R s m args below meth c T' (locs ++ L) (cells + rm.cells) (slots + rm.slots) → Q v T'.heap L → Goes p e below E T' { g with pc := g.pc + 3, stack := v.toList ++ rest }) : Goes p e below E T g := by
  obtain ⟨v, vm₁, ⟨T', L', k', n'⟩, -, X', ⟨L, hQ, q1, q2, q3⟩, st⟩ := Jvm.LawKit.callS X hx (y := y) hown (mvT hZ w1) (mvT hZ w2) (mvT hZ w3) (mvT hZ w4) hy (backOf (W := W) r hZ w4 w3 hf hl) hg hsize hlen hstack hW hd (fun _ _ => ⟨has, eT, hc, hs⟩)
  dsimp only [Pt.U, Pt.locs, Pt.cells, Pt.slots] at X' q1 q2 q3 st hQ
  subst q1 q2 q3
  exact Goes.of st (k v T' L X' hQ)
theorem goSpecial {own : String} {index : Nat} {y : MethodName} {bytes : ByteArray} {maxL : Nat} {rm : Room} {as' : Array Value} {Q : Option Value → Heap → List Loc → Prop} (W : Nat)
    (X : Stand p l e R s m args below meth c T locs cells slots) (hx : p.tables.exec = Jvm.exec) (hZ : Z.Warmed39 s.vm) (hy1 : y.name = "<init>") (hown : s.vm.findClass own = some m.cls) (w1 : (Jvm.Cond.methodLink own index y).before a0 Z = true) (w2 : (Jvm.Cond.instanceMethod y).before a0 Z = true) (w3 : (Jvm.Cond.initialized y.cls).before a0 Z = true) (w4 : (Jvm.Cond.code y bytes maxL none).before a0 Z = true)
    (hy : y.cls ≠ "java/lang/invoke/MethodHandle" ∧ y.cls ≠ "java/lang/invoke/VarHandle") (r : Rm l y bytes maxL none rm [] Z as' h Q) (eT : T.heap = h) {g : JFrame} (hg : g.method = m) (hsize : g.locals.size = c.maxLocals) (a : Addr) (argsL rest : List Value) (hlen : ∀ sig, parseMethodDescriptor y.desc = some sig → argsL.length = sig.parameters.length)
    (hstack : g.stack = argsL.reverse ++ .ref a :: rest) (has : (.ref a :: argsL).toArray = as') (hW : 2 * g.monitorRoom + (rest.map fun v => v.category).sum ≤ W) (hd : decode c.code g.pc = .ok (.invokespecial index, 3)) (hf : rm.frames + 1 ≤ R.frames) (hl : W + (maxL + 11) + rm.locals ≤ R.locals) (hc : cells + rm.cells ≤ R.cells) (hs : slots + rm.slots ≤ R.slots)
    (k : ∀ v T' L, Stand p l e R s m args below meth c T' (locs ++ L) (cells + rm.cells) (slots + rm.slots) → Q v T'.heap L → Goes p e below E T' { g with pc := g.pc + 3, stack := v.toList ++ rest }) : Goes p e below E T g := by
  obtain ⟨v, vm₁, ⟨T', L', k', n'⟩, -, X', ⟨L, hQ, q1, q2, q3⟩, st⟩ := X.specialBack hx (y := y) hy1 hown (mvT hZ w1) (mvT hZ w2) (mvT hZ w4) hy (backOf (W := W) r hZ w4 w3 hf hl) hg hsize (Steps.refl _) (a := a) hlen hstack hW hd (fun _ _ => ⟨has, eT, hc, hs⟩)
  dsimp only [Pt.U, Pt.locs, Pt.cells, Pt.slots] at X' q1 q2 q3 st hQ
  subst q1 q2 q3
  exact Goes.of (fun _ => st.trans) (k v T' L X' hQ)
theorem goVirtual {own C : String} {index : Nat} {y z : MethodName} {bytes : ByteArray} {maxL : Nat} {ret : Option FieldType} {rm : Room} {as' : Array Value} {Q : Option Value → Heap → List Loc → Prop} (W : Nat)
    (X : Stand p l e R s m args below meth c T locs cells slots) (hx : p.tables.exec = Jvm.exec) (hZ : Z.Warmed39 s.vm) (hown : s.vm.findClass own = some m.cls) (w1 : (Jvm.Cond.methodLink own index y).before a0 Z = true) (w2 : (Jvm.Cond.declares y).before a0 Z = true) (hnf : NotFace s y) (w3 : (Jvm.Cond.selects C y z).before a0 Z = true) (w4 : (Jvm.Cond.instanceMethod z).before a0 Z = true) (w5 : (Jvm.Cond.initialized z.cls).before a0 Z = true) (w6 : (Jvm.Cond.code z bytes maxL ret).before a0 Z = true)
    (hy : y.cls ≠ "java/lang/invoke/MethodHandle" ∧ y.cls ≠ "java/lang/invoke/VarHandle") (r : Rm l z bytes maxL ret rm [] Z as' h Q) (eT : T.heap = h) {a : Addr} (F : Exa Z h a C) {g : JFrame} (hg : g.method = m) (hsize : g.locals.size = c.maxLocals) (argsL rest : List Value) (hlen : ∀ sig, parseMethodDescriptor y.desc = some sig → argsL.length = sig.parameters.length)
    (hstack : g.stack = argsL.reverse ++ .ref a :: rest) (has : (.ref a :: argsL).toArray = as') (hW : 2 * g.monitorRoom + (rest.map fun v => v.category).sum ≤ W) (hd : decode c.code g.pc = .ok (.invokevirtual index, 3)) (hf : rm.frames + 1 ≤ R.frames) (hl : W + (maxL + 11) + rm.locals ≤ R.locals) (hc : cells + rm.cells ≤ R.cells) (hs : slots + rm.slots ≤ R.slots)
    (k : ∀ v T' L, Stand p l e R s m args below meth c T' (locs ++ L) (cells + rm.cells) (slots + rm.slots) → Q v T'.heap L → Goes p e below E T' { g with pc := g.pc + 3, stack := v.toList ++ rest }) : Goes p e below E T g := by
  obtain ⟨cq, kq, qa, qb, qc⟩ := isOf hZ eT F
  obtain ⟨v, vm₁, ⟨T', L', k', n'⟩, -, X', ⟨L, hQ, q1, q2, q3⟩, st⟩ := X.virtualBack hx (y := y) (z := z) hown (mvT hZ w1) (mvT hZ w2) hnf (mvT hZ w3) (mvT hZ w4) hy (backOf (W := W) r hZ w6 w5 hf hl) qa qc hg hsize (Steps.refl _) hlen hstack hW hd (fun _ _ => ⟨has, eT, hc, hs⟩)
  dsimp only [Pt.U, Pt.locs, Pt.cells, Pt.slots] at X' q1 q2 q3 st hQ
  subst q1 q2 q3
  exact Goes.of (fun _ => st.trans) (k v T' L X' hQ)
theorem goNew {own C : String} {index n : Nat} (X : Stand p l e R s m args below meth c T locs cells slots) (hx : p.tables.exec = Jvm.exec) (hZ : Z.Warmed39 s.vm) (hown : s.vm.findClass own = some m.cls) (w : (Jvm.Cond.classLink own index C).before a0 Z = true) (wi : (Jvm.Cond.instantiable C n).before a0 Z = true) (wz : (Jvm.Cond.initialized C).before a0 Z = true) (eT : T.heap = h)
    {g : JFrame} (hg : g.method = m) (hd : decode c.code g.pc = .ok (.new index, 3)) (hc : cells + 1 ≤ R.cells) (hl : slots + n ≤ R.slots)
    (k : ∀ T' h' b, Stand p l e R s m args below meth c T' locs (cells + 1) (slots + n) → T'.heap = h' → Ext h h' → h.size ≤ b → Exa Z h' b C → (∀ {O nm d : String} {ty : FieldType}, Laid Z a0 C O nm d → parseFieldDescriptor d = some ty → Fld Z h' b O nm d (defaultValue ty)) → Goes p e below E T' { g with pc := g.pc + 3, stack := .ref b :: g.stack }) : Goes p e below E T g := by
  obtain ⟨T', h', X', e', E', A', D', -, st⟩ := newO X hx hZ hown w wi wz eT hg hd hc hl
  exact Goes.of st (k T' h' _ X' e' E' (Nat.le_refl _) A' D')
theorem goInitO {own : String} {idx : Nat} (W : Nat) (X : Stand p l e R s m args below meth c T locs cells slots) (hx : p.tables.exec = Jvm.exec) (hZ : Z.Warmed39 s.vm) (hown : s.vm.findClass own = some m.cls) (w1 : (Jvm.Cond.methodLink own idx Lib.objectInit).before a0 Z = true) (w2 : (Jvm.Cond.instanceMethod Lib.objectInit).before a0 Z = true)
    (w3 : (Jvm.Cond.code Lib.objectInit ⟨#[0xb1]⟩ 1 none).before a0 Z = true) (eT : T.heap = h) {g : JFrame} (hg : g.method = m) (hsize : g.locals.size = c.maxLocals) {a : Addr} {rest : List Value} (hs : g.stack = .ref a :: rest) (hd : decode c.code g.pc = .ok (.invokespecial idx, 3))
    (hf : 1 ≤ R.frames) (hW : 2 * g.monitorRoom + (rest.map fun v => v.category).sum ≤ W) (hl : W + 12 ≤ R.locals) (k : ∀ T', Stand p l e R s m args below meth c T' locs cells slots → T'.heap = h → Goes p e below E T' { g with pc := g.pc + 3, stack := rest }) : Goes p e below E T g := by
  obtain ⟨T', X', e', st⟩ := initO X hx hZ hown w1 w2 w3 eT hg hsize hs hd hf hW hl
  exact Goes.of st (k T' X' e')
theorem goGet {own R0 O n d host : String} {index : Nat} (X : Stand p l e R s m args below meth c T locs cells slots) (hx : p.tables.exec = Jvm.exec) (hZ : Z.Warmed39 s.vm) (hown : s.vm.findClass own = some m.cls) (w : (Jvm.Cond.fieldLink own index R0 n d).before a0 Z = true ∨ (Jvm.Cond.fieldLinkNest own index R0 n d host).before a0 Z = true) (via : Via Z R0 O n d)
    (eT : T.heap = h) {a : Addr} {v : Value} (F : Fld Z h a O n d v) {g : JFrame} (hg : g.method = m) {rest : List Value} (hs : g.stack = .ref a :: rest) (hd : decode c.code g.pc = .ok (.getfield index, 3))
    (k : ∀ T', Stand p l e R s m args below meth c T' locs cells slots → T'.heap = h → Goes p e below E T' { g with pc := g.pc + 3, stack := v :: rest }) : Goes p e below E T g := by
  obtain ⟨T', X', e', st⟩ := getF X hx hZ hown w via eT F hg hs hd
  exact Goes.of st (k T' X' e')
theorem goGetS {own R0 O n d host : String} {index : Nat} (X : Stand p l e R s m args below meth c T locs cells slots) (hx : p.tables.exec = Jvm.exec) (hZ : Z.Warmed39 s.vm) (hown : s.vm.findClass own = some m.cls) (w : (Jvm.Cond.fieldLink own index R0 n d).before a0 Z = true ∨ (Jvm.Cond.fieldLinkNest own index R0 n d host).before a0 Z = true) (via : Via Z R0 O n d)
    (eT : T.heap = h) {v : Value} (F : Sta Z h O n d v) {g : JFrame} (hg : g.method = m) (hd : decode c.code g.pc = .ok (.getstatic index, 3))
    (k : ∀ T', Stand p l e R s m args below meth c T' locs cells slots → T'.heap = h → Goes p e below E T' { g with pc := g.pc + 3, stack := v :: g.stack }) : Goes p e below E T g := by
  obtain ⟨T', X', e', st⟩ := getS2 X hx hZ hown w via eT F hg hd
  exact Goes.of st (k T' X' e')
theorem goPut {own R0 O n d host C : String} {index kk : Nat} {ty : FieldType} (X : Stand p l e R s m args below meth c T locs cells slots) (hx : p.tables.exec = Jvm.exec) (hZ : Z.Warmed39 s.vm) (hown : s.vm.findClass own = some m.cls) (w : (Jvm.Cond.fieldLink own index R0 n d).before a0 Z = true ∨ (Jvm.Cond.fieldLinkNest own index R0 n d host).before a0 Z = true) (via : Via Z R0 O n d)
    (eT : T.heap = h) {a : Addr} {v old : Value} (F : Fld Z h a O n d old) (Ex : Exa Z h a C) (L : (Jvm.Cond.lays C O n d).before a0 Z = true ∨ ((Jvm.Cond.laysFinal C O n d).before a0 Z = true ∧ own = O ∧ meth.name = "<init>")) (wi : (Jvm.Cond.instantiable C kk).before a0 Z = true)
    (hty : parseFieldDescriptor d = some ty) (hn : narrow ty v = v) (hf : fits ty v = true) {g : JFrame} (hg : g.method = m) {rest : List Value} (hs : g.stack = v :: .ref a :: rest) (hd : decode c.code g.pc = .ok (.putfield index, 3))
    (k : ∀ T' h', Stand p l e R s m args below meth c T' (locs ++ [⟨a, Jvm.RoadKit.slotOf Z O n d⟩]) cells slots → T'.heap = h' → Wr h h' a (Jvm.RoadKit.slotOf Z O n d) v → Goes p e below E T' { g with pc := g.pc + 3, stack := rest }) : Goes p e below E T g := by
  obtain ⟨T', h', X', e', W', st⟩ := putF X hx hZ hown w via eT F Ex L wi hty hn hf hg hs hd
  exact Goes.of st (k T' h' X' e' W')
theorem goCast {own K : String} {index : Nat} (X : Stand p l e R s m args below meth c T locs cells slots) (hx : p.tables.exec = Jvm.exec) (hZ : Z.Warmed39 s.vm) (hown : s.vm.findClass own = some m.cls) (w : (Jvm.Cond.classLink own index K).before a0 Z = true) (eT : T.heap = h) {a : Addr} (F : Ins Z h a K true)
    {g : JFrame} (hg : g.method = m) {rest : List Value} (hs : g.stack = .ref a :: rest) (hd : decode c.code g.pc = .ok (.checkcast index, 3))
    (k : ∀ T', Stand p l e R s m args below meth c T' locs cells slots → T'.heap = h → Goes p e below E T' { g with pc := g.pc + 3 }) : Goes p e below E T g := by
  obtain ⟨T', X', e', st⟩ := castY X hx hZ hown w eT F hg hs hd
  exact Goes.of st (k T' X' e')
theorem goInstY {own K : String} {index : Nat} (X : Stand p l e R s m args below meth c T locs cells slots) (hx : p.tables.exec = Jvm.exec) (hZ : Z.Warmed39 s.vm) (hown : s.vm.findClass own = some m.cls) (w : (Jvm.Cond.classLink own index K).before a0 Z = true) (eT : T.heap = h) {a : Addr} (F : Ins Z h a K true)
    {g : JFrame} (hg : g.method = m) {rest : List Value} (hs : g.stack = .ref a :: rest) (hd : decode c.code g.pc = .ok (.instanceof index, 3))
    (k : ∀ T', Stand p l e R s m args below meth c T' locs cells slots → T'.heap = h → Goes p e below E T' { g with pc := g.pc + 3, stack := .int 1 :: rest }) : Goes p e below E T g := by
  obtain ⟨T', X', e', st⟩ := instY X hx hZ hown w eT F hg hs hd
  exact Goes.of st (k T' X' e')
theorem goInstN {own K C : String} {index : Nat} (X : Stand p l e R s m args below meth c T locs cells slots) (hx : p.tables.exec = Jvm.exec) (hZ : Z.Warmed39 s.vm) (hown : s.vm.findClass own = some m.cls) (w : (Jvm.Cond.classLink own index K).before a0 Z = true) (eT : T.heap = h) {a : Addr} (Ex : Exa Z h a C) (F : ∃ c t, Z.vm.findClass C = some c ∧ Z.vm.findClass K = some t ∧ Z.vm.assignable c t = false)
    {g : JFrame} (hg : g.method = m) {rest : List Value} (hs : g.stack = .ref a :: rest) (hd : decode c.code g.pc = .ok (.instanceof index, 3))
    (k : ∀ T', Stand p l e R s m args below meth c T' locs cells slots → T'.heap = h → Goes p e below E T' { g with pc := g.pc + 3, stack := .int 0 :: rest }) : Goes p e below E T g := by
  obtain ⟨T', X', e', st⟩ := Jvm.RoadKit.instNo X hx hZ hown w eT Ex F hg hs hd
  exact Goes.of st (k T' X' e')
theorem goNewP {aty : ArrayType} (cap : Nat) (X : Stand p l e R s m args below meth c T locs cells slots) (hx : p.tables.exec = Jvm.exec) (hZ : Z.Warmed39 s.vm) (w : (Jvm.Cond.arrayClass (newarray.typeOf aty)).before a0 Z = true) (eT : T.heap = h) {g : JFrame} (hg : g.method = m) (hd : decode c.code g.pc = .ok (.newarray aty, 2)) {n : Int32} {rest : List Value} (hs : g.stack = .int n :: rest)
    (hn : ¬ n < 0) (hcap : n.toNatClampNeg ≤ cap) (hb : cap * 8 ≤ 536870912) (hc : cells + 1 ≤ R.cells) (hl : slots + cap ≤ R.slots) {ad : String} (had : "[" ++ (newarray.typeOf aty).toString = ad) 
    (k : ∀ T' h' b cA, Stand p l e R s m args below meth c T' locs (cells + 1) (slots + cap) → T'.heap = h' → Ext h h' → h.size ≤ b → Arv Z h' b cA (newarray.typeOf aty) n (List.replicate cap (defaultValue (newarray.typeOf aty))) (defaultValue (newarray.typeOf aty)) → Exa Z h' b ad → Goes p e below E T' { g with pc := g.pc + 2, stack := .ref b :: rest }) : Goes p e below E T g := by
  obtain ⟨T', h', cA, X', e', E', A', Ex', st⟩ := newPE X hx hZ w eT hg hd hs hn hcap hb hc hl had
  exact Goes.of st (k T' h' _ cA X' e' E' (Nat.le_refl _) ((Arv.new A' hn).pad (pad_rep [] _ cap)) Ex')
theorem goNewR {own C : String} {index : Nat} (cap : Nat) (X : Stand p l e R s m args below meth c T locs cells slots) (hx : p.tables.exec = Jvm.exec) (hZ : Z.Warmed39 s.vm) (hown : s.vm.findClass own = some m.cls) (w1 : (Jvm.Cond.classLink own index C).before a0 Z = true) (w2 : (Jvm.Cond.arrayOver (.object C)).before a0 Z = true) (eT : T.heap = h) {g : JFrame} (hg : g.method = m) (hd : decode c.code g.pc = .ok (.anewarray index, 3)) {n : Int32} {rest : List Value} (hs : g.stack = .int n :: rest)
    (hn : ¬ n < 0) (hcap : n.toNatClampNeg ≤ cap) (hb : cap * 8 ≤ 536870912) (hc : cells + 1 ≤ R.cells) (hl : slots + cap ≤ R.slots)
    (k : ∀ T' h' b cA, Stand p l e R s m args below meth c T' locs (cells + 1) (slots + cap) → T'.heap = h' → Ext h h' → h.size ≤ b → Arv Z h' b cA (.object C) n (List.replicate cap .null) .null → Ovr Z cA C → Goes p e below E T' { g with pc := g.pc + 3, stack := .ref b :: rest }) : Goes p e below E T g := by
  obtain ⟨T', h', cA, X', e', E', A', O', st⟩ := newR X hx hZ hown w1 w2 eT hg hd hs hn hcap hb hc hl
  exact Goes.of st (k T' h' _ cA X' e' E' (Nat.le_refl _) ((Arv.new A' hn).pad (pad_rep [] _ cap)) O')
theorem inbV {cl : Cell} {z j : Int32} (S : cl.slots.size = z.toNatClampNeg) (hj : ¬ j < 0) (hj' : j < z) : ¬ (j < 0 ∨ cl.slots.size ≤ j.toNatClampNeg) := inb_of S ⟨hj, hj'⟩
theorem goStI {a : Addr} {kc : ClassId} {z j x : Int32} {vs : List Value} {dv : Value} (i : Nat) (X : Stand p l e R s m args below meth c T locs cells slots) (hx : p.tables.exec = Jvm.exec) (hZ : Z.Warmed39 s.vm) (eT : T.heap = h) (V : Arv Z h a kc .int z vs dv) (hj : ¬ j < 0) (hj' : j < z) (hi : j.toNatClampNeg = i) (hl : i < vs.length)
    {g : JFrame} (hg : g.method = m) {rest : List Value} (hs : g.stack = .int x :: .int j :: .ref a :: rest) (hd : decode c.code g.pc = .ok (.iastore, 1))
    (k : ∀ T' h', Stand p l e R s m args below meth c T' (locs ++ [⟨a, j.toNatClampNeg⟩]) cells slots → T'.heap = h' → Wr h h' a j.toNatClampNeg (.int x) → Arv Z h' a kc .int z (vs.set i (.int x)) dv → Goes p e below E T' { g with pc := g.pc + 1, stack := rest }) : Goes p e below E T g := by
  obtain ⟨cl, A, q1, S, q3, H, G⟩ := V
  obtain ⟨T', h', X', e', W', st⟩ := stI X hx hZ eT A (inbV S hj hj') hg hs hd
  exact Goes.of st (k T' h' X' e' W' (Arv.set A q1 S q3 H G rfl W' i hi hl))
theorem goStJ {a : Addr} {kc : ClassId} {z j : Int32} {x : Int64} {vs : List Value} {dv : Value} (i : Nat) (X : Stand p l e R s m args below meth c T locs cells slots) (hx : p.tables.exec = Jvm.exec) (hZ : Z.Warmed39 s.vm) (eT : T.heap = h) (V : Arv Z h a kc .long z vs dv) (hj : ¬ j < 0) (hj' : j < z) (hi : j.toNatClampNeg = i) (hl : i < vs.length)
    {g : JFrame} (hg : g.method = m) {rest : List Value} (hs : g.stack = .long x :: .int j :: .ref a :: rest) (hd : decode c.code g.pc = .ok (.lastore, 1))
    (k : ∀ T' h', Stand p l e R s m args below meth c T' (locs ++ [⟨a, j.toNatClampNeg⟩]) cells slots → T'.heap = h' → Wr h h' a j.toNatClampNeg (.long x) → Arv Z h' a kc .long z (vs.set i (.long x)) dv → Goes p e below E T' { g with pc := g.pc + 1, stack := rest }) : Goes p e below E T g := by
  obtain ⟨cl, A, q1, S, q3, H, G⟩ := V
  obtain ⟨T', h', X', e', W', st⟩ := stJ X hx hZ eT A (inbV S hj hj') hg hs hd
  exact Goes.of st (k T' h' X' e' W' (Arv.set A q1 S q3 H G rfl W' i hi hl))
theorem goStC {a : Addr} {kc : ClassId} {z j x : Int32} {vs : List Value} {dv : Value} (i : Nat) (X : Stand p l e R s m args below meth c T locs cells slots) (hx : p.tables.exec = Jvm.exec) (hZ : Z.Warmed39 s.vm) (eT : T.heap = h) (V : Arv Z h a kc .char z vs dv) (hj : ¬ j < 0) (hj' : j < z) (hi : j.toNatClampNeg = i) (hl : i < vs.length)
    {g : JFrame} (hg : g.method = m) {rest : List Value} (hs : g.stack = .int x :: .int j :: .ref a :: rest) (hd : decode c.code g.pc = .ok (.castore, 1))
    (k : ∀ T' h', Stand p l e R s m args below meth c T' (locs ++ [⟨a, j.toNatClampNeg⟩]) cells slots → T'.heap = h' → Wr h h' a j.toNatClampNeg (.int (nar .char x)) → Arv Z h' a kc .char z (vs.set i (.int (nar .char x))) dv → Goes p e below E T' { g with pc := g.pc + 1, stack := rest }) : Goes p e below E T g := by
  obtain ⟨cl, A, q1, S, q3, H, G⟩ := V
  obtain ⟨T', h', X', e', W', st⟩ := stC X hx hZ eT A (inbV S hj hj') hg hs hd
  exact Goes.of st (k T' h' X' e' W' (Arv.set A q1 S q3 H G (fits_nar_char _) W' i hi hl))
theorem goStB {a : Addr} {kc : ClassId} {z j x : Int32} {vs : List Value} {dv : Value} (i : Nat) (X : Stand p l e R s m args below meth c T locs cells slots) (hx : p.tables.exec = Jvm.exec) (hZ : Z.Warmed39 s.vm) (eT : T.heap = h) (V : Arv Z h a kc .byte z vs dv) (hj : ¬ j < 0) (hj' : j < z) (hi : j.toNatClampNeg = i) (hl : i < vs.length)
    {g : JFrame} (hg : g.method = m) {rest : List Value} (hs : g.stack = .int x :: .int j :: .ref a :: rest) (hd : decode c.code g.pc = .ok (.bastore, 1))
    (k : ∀ T' h', Stand p l e R s m args below meth c T' (locs ++ [⟨a, j.toNatClampNeg⟩]) cells slots → T'.heap = h' → Wr h h' a j.toNatClampNeg (.int (nar .byte x)) → Arv Z h' a kc .byte z (vs.set i (.int (nar .byte x))) dv → Goes p e below E T' { g with pc := g.pc + 1, stack := rest }) : Goes p e below E T g := by
  obtain ⟨cl, A, q1, S, q3, H, G⟩ := V
  obtain ⟨T', h', X', e', W', st⟩ := stB X hx hZ eT A (inbV S hj hj') hg hs hd
  exact Goes.of st (k T' h' X' e' W' (Arv.set A q1 S q3 H G (fits_nar_byte _) W' i hi hl))
theorem goStZ {a : Addr} {kc : ClassId} {z j x : Int32} {vs : List Value} {dv : Value} (i : Nat) (X : Stand p l e R s m args below meth c T locs cells slots) (hx : p.tables.exec = Jvm.exec) (hZ : Z.Warmed39 s.vm) (eT : T.heap = h) (V : Arv Z h a kc .boolean z vs dv) (hj : ¬ j < 0) (hj' : j < z) (hi : j.toNatClampNeg = i) (hl : i < vs.length)
    {g : JFrame} (hg : g.method = m) {rest : List Value} (hs : g.stack = .int x :: .int j :: .ref a :: rest) (hd : decode c.code g.pc = .ok (.bastore, 1))
    (k : ∀ T' h', Stand p l e R s m args below meth c T' (locs ++ [⟨a, j.toNatClampNeg⟩]) cells slots → T'.heap = h' → Wr h h' a j.toNatClampNeg (.int (nar .boolean x)) → Arv Z h' a kc .boolean z (vs.set i (.int (nar .boolean x))) dv → Goes p e below E T' { g with pc := g.pc + 1, stack := rest }) : Goes p e below E T g := by
  obtain ⟨cl, A, q1, S, q3, H, G⟩ := V
  obtain ⟨T', h', X', e', W', st⟩ := stZ X hx hZ eT A (inbV S hj hj') hg hs hd
  exact Goes.of st (k T' h' X' e' W' (Arv.set A q1 S q3 H G (fits_nar_bool _) W' i hi hl))
theorem goStR {a y : Addr} {C : String} {kc : ClassId} {z j : Int32} {vs : List Value} {dv : Value} (i : Nat) (X : Stand p l e R s m args below meth c T locs cells slots) (hx : p.tables.exec = Jvm.exec) (hZ : Z.Warmed39 s.vm) (eT : T.heap = h) (V : Arv Z h a kc (.object C) z vs dv) (O : Ovr Z kc C) (I : Ins Z h y C true) (hj : ¬ j < 0) (hj' : j < z) (hi : j.toNatClampNeg = i) (hl : i < vs.length)
    {g : JFrame} (hg : g.method = m) {rest : List Value} (hs : g.stack = .ref y :: .int j :: .ref a :: rest) (hd : decode c.code g.pc = .ok (.aastore, 1))
    (k : ∀ T' h', Stand p l e R s m args below meth c T' (locs ++ [⟨a, j.toNatClampNeg⟩]) cells slots → T'.heap = h' → Wr h h' a j.toNatClampNeg (.ref y) → Arv Z h' a kc (.object C) z (vs.set i (.ref y)) dv → Goes p e below E T' { g with pc := g.pc + 1, stack := rest }) : Goes p e below E T g := by
  obtain ⟨cl, A, q1, S, q3, H, G⟩ := V
  obtain ⟨T', h', X', e', W', st⟩ := stR X hx hZ eT A (inbV S hj hj') rfl (Sto.ofV A q1 O I) hg hs hd
  exact Goes.of st (k T' h' X' e' W' (Arv.set A q1 S q3 H G rfl W' i hi hl))
theorem goLdI {a : Addr} {kc : ClassId} {z j : Int32} {vs : List Value} {dv : Value} (v : Value) (X : Stand p l e R s m args below meth c T locs cells slots) (hx : p.tables.exec = Jvm.exec) (hZ : Z.Warmed39 s.vm) (eT : T.heap = h) (V : Arv Z h a kc .int z vs dv) (hj : ¬ j < 0) (hj' : j < z) (hv : vs.getD j.toNatClampNeg dv = v)
    {g : JFrame} (hg : g.method = m) {rest : List Value} (hs : g.stack = .int j :: .ref a :: rest) (hd : decode c.code g.pc = .ok (.iaload, 1)) (k : Goes p e below E T { g with pc := g.pc + 1, stack := v :: rest }) : Goes p e below E T g := by
  obtain ⟨cl, A, q1, S, q3, H, G⟩ := V
  exact Goes.of (fun t q => X.iaload hx (by rw [eT]; exact A.1) (State.isArrayOf_alike hZ.alike A.2.1) A.2.2 (inbV S hj hj') (H.at (inbV S hj hj') hv) hg hs hd t q) k
theorem goLdJ {a : Addr} {kc : ClassId} {z j : Int32} {vs : List Value} {dv : Value} (v : Value) (X : Stand p l e R s m args below meth c T locs cells slots) (hx : p.tables.exec = Jvm.exec) (hZ : Z.Warmed39 s.vm) (eT : T.heap = h) (V : Arv Z h a kc .long z vs dv) (hj : ¬ j < 0) (hj' : j < z) (hv : vs.getD j.toNatClampNeg dv = v)
    {g : JFrame} (hg : g.method = m) {rest : List Value} (hs : g.stack = .int j :: .ref a :: rest) (hd : decode c.code g.pc = .ok (.laload, 1)) (k : Goes p e below E T { g with pc := g.pc + 1, stack := v :: rest }) : Goes p e below E T g := by
  obtain ⟨cl, A, q1, S, q3, H, G⟩ := V
  exact Goes.of (fun t q => X.laload hx (by rw [eT]; exact A.1) (State.isArrayOf_alike hZ.alike A.2.1) A.2.2 (inbV S hj hj') (H.at (inbV S hj hj') hv) hg hs hd t q) k
theorem goLdC {a : Addr} {kc : ClassId} {z j : Int32} {vs : List Value} {dv : Value} (v : Value) (X : Stand p l e R s m args below meth c T locs cells slots) (hx : p.tables.exec = Jvm.exec) (hZ : Z.Warmed39 s.vm) (eT : T.heap = h) (V : Arv Z h a kc .char z vs dv) (hj : ¬ j < 0) (hj' : j < z) (hv : vs.getD j.toNatClampNeg dv = v)
    {g : JFrame} (hg : g.method = m) {rest : List Value} (hs : g.stack = .int j :: .ref a :: rest) (hd : decode c.code g.pc = .ok (.caload, 1)) (k : Goes p e below E T { g with pc := g.pc + 1, stack := v :: rest }) : Goes p e below E T g := by
  obtain ⟨cl, A, q1, S, q3, H, G⟩ := V
  exact Goes.of (fun t q => X.caload hx (by rw [eT]; exact A.1) (State.isArrayOf_alike hZ.alike A.2.1) A.2.2 (inbV S hj hj') (H.at (inbV S hj hj') hv) hg hs hd t q) k
theorem goLdB {a : Addr} {kc : ClassId} {z j : Int32} {vs : List Value} {dv : Value} (v : Value) (X : Stand p l e R s m args below meth c T locs cells slots) (hx : p.tables.exec = Jvm.exec) (hZ : Z.Warmed39 s.vm) (eT : T.heap = h) (V : Arv Z h a kc .byte z vs dv) (hj : ¬ j < 0) (hj' : j < z) (hv : vs.getD j.toNatClampNeg dv = v)
    {g : JFrame} (hg : g.method = m) {rest : List Value} (hs : g.stack = .int j :: .ref a :: rest) (hd : decode c.code g.pc = .ok (.baload, 1)) (k : Goes p e below E T { g with pc := g.pc + 1, stack := v :: rest }) : Goes p e below E T g := by
  obtain ⟨cl, A, q1, S, q3, H, G⟩ := V
  exact Goes.of (fun t q => X.baloadBytes hx (by rw [eT]; exact A.1) (State.isArrayOf_alike hZ.alike A.2.1) A.2.2 (inbV S hj hj') (H.at (inbV S hj hj') hv) hg hs hd t q) k
theorem goLdZ {a : Addr} {kc : ClassId} {z j : Int32} {vs : List Value} {dv : Value} (v : Value) (X : Stand p l e R s m args below meth c T locs cells slots) (hx : p.tables.exec = Jvm.exec) (hZ : Z.Warmed39 s.vm) (eT : T.heap = h) (V : Arv Z h a kc .boolean z vs dv) (hj : ¬ j < 0) (hj' : j < z) (hv : vs.getD j.toNatClampNeg dv = v)
    {g : JFrame} (hg : g.method = m) {rest : List Value} (hs : g.stack = .int j :: .ref a :: rest) (hd : decode c.code g.pc = .ok (.baload, 1)) (k : Goes p e below E T { g with pc := g.pc + 1, stack := v :: rest }) : Goes p e below E T g := by
  obtain ⟨cl, A, q1, S, q3, H, G⟩ := V
  exact Goes.of (fun t q => X.baloadBooleans hx (by rw [eT]; exact A.1) (State.isArrayOf_alike hZ.alike A.2.1) A.2.2 (inbV S hj hj') (H.at (inbV S hj hj') hv) hg hs hd t q) k
theorem goLdR {a : Addr} {C : String} {kc : ClassId} {z j : Int32} {vs : List Value} {dv : Value} (v : Value) (X : Stand p l e R s m args below meth c T locs cells slots) (hx : p.tables.exec = Jvm.exec) (hZ : Z.Warmed39 s.vm) (eT : T.heap = h) (V : Arv Z h a kc (.object C) z vs dv) (hj : ¬ j < 0) (hj' : j < z) (hv : vs.getD j.toNatClampNeg dv = v)
    {g : JFrame} (hg : g.method = m) {rest : List Value} (hs : g.stack = .int j :: .ref a :: rest) (hd : decode c.code g.pc = .ok (.aaload, 1)) (k : Goes p e below E T { g with pc := g.pc + 1, stack := v :: rest }) : Goes p e below E T g := by
  obtain ⟨cl, A, q1, S, q3, H, G⟩ := V
  exact Goes.of (fun t q => X.aaload hx (by rw [eT]; exact A.1) (State.isArrayOf_alike hZ.alike A.2.1) rfl A.2.2 (inbV S hj hj') (H.at (inbV S hj hj') hv) hg hs hd t q) k
theorem goLen {a : Addr} {kc : ClassId} {ty : FieldType} {z : Int32} {vs : List Value} {dv : Value} (X : Stand p l e R s m args below meth c T locs cells slots) (hx : p.tables.exec = Jvm.exec) (hZ : Z.Warmed39 s.vm) (eT : T.heap = h) (V : Arv Z h a kc ty z vs dv)
    {g : JFrame} (hg : g.method = m) {rest : List Value} (hs : g.stack = .ref a :: rest) (hd : decode c.code g.pc = .ok (.arraylength, 1)) (k : Goes p e below E T { g with pc := g.pc + 1, stack := .int z :: rest }) : Goes p e below E T g := by
  obtain ⟨cl, A, q1, S, q3, H, G⟩ := V
  exact Goes.of (fun t q => X.arraylength hx (by rw [eT]; exact A.1) (State.isArrayOf_alike hZ.alike A.2.1) hg hs hd t (by rw [len_of S q3]; exact q)) k
/-- a start fact out of a case's word -/
theorem fld_of_eq {args : Array Value} {t u : Term} {C n d : String} {a : Addr} {v : Value} (ev : t.eval args s none [] s = some (.ref a)) (hu : u.eval args s none [] s = some v) (h : (Jvm.Cond.eq (.field t C n d) u).value args s none s [] = some true) : Fld s s.heap a C n d v := by
  refine Fld.start ?_
  simp only [Jvm.Cond.value, fld_at ev, hu] at h
  cases hf : s.fieldOf? a C n d with
  | none => simp [hf] at h
  | some x => cases x <;> cases v <;> simp [hf] at h ⊢ <;> exact h
theorem sta_at {args : Array Value} {C n d : String} {v : Value} (ev : (Term.static C n d).eval args s none [] s = some v) (w1 : (Jvm.Cond.initialized C).before args s = true) (w2 : (Jvm.Cond.laysStatic C n d).before args s = true) : Sta s s.heap C n d v := Sta.start ev (Or.inr ⟨w1, w2⟩)
/-- an enum constant: the static, the object's class, its ordinal -/
def Con (Z : State) (C f : String) (d : String) (k : Int32) (a : Addr) : Prop := Sta Z Z.heap C f d (.ref a) ∧ Exa Z Z.heap a C ∧ Fld Z Z.heap a "java/lang/Enum" "ordinal" "I" (.int k)
theorem con_of {args : Array Value} {C f d : String} {k : Int32} (h1 : (Jvm.Cond.exactly (.static C f d) C).value args s none s [] = some true) (h2 : (Jvm.Cond.eq (.field (.static C f d) "java/lang/Enum" "ordinal" "I") (.int k)).value args s none s [] = some true)
    (w1 : (Jvm.Cond.initialized C).before args s = true) (w2 : (Jvm.Cond.laysStatic C f d).before args s = true) : ∃ a, Con s C f d k a ∧ (Term.static C f d).eval args s none [] s = some (.ref a) := by
  obtain ⟨a, ev⟩ := exa_v h1
  exact ⟨a, ⟨sta_at ev w1 w2, Exa.start ev h1, fld_of_eq ev (Term.int_eval k) h2⟩, ev⟩
theorem Con.ne {C f d C' f' d' : String} {k k' : Int32} {a b : Addr} (F : Con Z C f d k a) (G : Con Z C' f' d' k' b) (q : k ≠ k') : a ≠ b := Fld.ne F.2.2 G.2.2 (fun h => q (Value.int.inj h))
theorem mask31 (x : Int32) : (x &&& (2147483647 : Int32)).toInt = x.toInt % 2147483648 := c_mask x _ 31 (by decide) (by decide)
theorem div_pos (x y : Int32) {k : Int} (hx : ¬ x < 0) (hy : y.toInt = k) (h1 : y ≠ -1) : (x / y).toInt = x.toInt / k := (c_idiv x y k hy h1).1 (by rw [Int32.lt_iff_toInt_lt] at hx; have : (0 : Int32).toInt = 0 := rfl; omega)
theorem rem_pos {x y : Int32} {k : Int} (h : 0 ≤ x.toInt) (hy : y.toInt = k) : (x - (x / y) * y).toInt = x.toInt % k := by
  rw [irem_eq_mod]; exact (c_irem x y k hy).1 h
theorem rem31 (x y : Int32) {k : Int} (hy : y.toInt = k) : ((x &&& (2147483647 : Int32)) - ((x &&& (2147483647 : Int32)) / y) * y).toInt = (x.toInt % 2147483648) % k := by
  have e := mask31 x
  rw [rem_pos (by omega) hy, e]
def Cst (Z : State) (C f : String) (d : String) (a : Addr) : Prop := Sta Z Z.heap C f d (.ref a) ∧ Exa Z Z.heap a C
theorem cst_of {args : Array Value} {C f d : String} (h1 : (Jvm.Cond.exactly (.static C f d) C).value args s none s [] = some true)
    (w1 : (Jvm.Cond.initialized C).before args s = true) (w2 : (Jvm.Cond.laysStatic C f d).before args s = true) : ∃ a, Cst s C f d a ∧ (Term.static C f d).eval args s none [] s = some (.ref a) := by
  obtain ⟨a, ev⟩ := exa_v h1
  exact ⟨a, ⟨sta_at ev w1 w2, Exa.start ev h1⟩, ev⟩
theorem goClone {own ad : String} {index : Nat} {ty : FieldType} {a : Addr} {kc : ClassId} {z : Int32} {vs : List Value} {dv : Value} (W cap : Nat) (X : Stand p l e R s m args below meth c T locs cells slots) (hx : p.tables.exec = Jvm.exec) (hZ : Z.Warmed39 s.vm) (hown : s.vm.findClass own = some m.cls)
    (w1 : (Jvm.Cond.methodLink own index ⟨ad, "clone", "()Ljava/lang/Object;"⟩).before a0 Z = true) (w2 : (Jvm.Cond.sameMethod ad "java/lang/Object" "clone" "()Ljava/lang/Object;").before a0 Z = true) (w3 : (Jvm.Cond.native ⟨"java/lang/Object", "clone", "()Ljava/lang/Object;"⟩).before a0 Z = true)
    (w4 : (Jvm.Cond.instanceMethod ⟨"java/lang/Object", "clone", "()Ljava/lang/Object;"⟩).before a0 Z = true) (w5 : (Jvm.Cond.selects ad ⟨ad, "clone", "()Ljava/lang/Object;"⟩ ⟨"java/lang/Object", "clone", "()Ljava/lang/Object;"⟩).before a0 Z = true) (w6 : (Jvm.Cond.castable ad "java/lang/Cloneable").before a0 Z = true)
    (eT : T.heap = h) (V : Arv Z h a kc ty z vs dv) (Ex : Exa Z h a ad) {g : JFrame} (hg : g.method = m) (hsize : g.locals.size = c.maxLocals) {rest : List Value} (hst : g.stack = .ref a :: rest) (hd : decode c.code g.pc = .ok (.invokevirtual index, 3))
    (hf : 1 ≤ R.frames) (hW : 2 * g.monitorRoom + (rest.map fun v => v.category).sum ≤ W) (hl : W + 14 ≤ R.locals) (hcap : z.toNatClampNeg ≤ cap) (hc : cells + 1 ≤ R.cells) (hsl : slots + cap ≤ R.slots)
    (k : ∀ T' h' b, Stand p l e R s m args below meth c T' locs (cells + 1) (slots + cap) → T'.heap = h' → Ext h h' → h.size ≤ b → Arv Z h' b kc ty z vs dv → Exa Z h' b ad → Goes p e below E T' { g with pc := g.pc + 3, stack := .ref b :: rest }) : Goes p e below E T g := by
  obtain ⟨T', h', X', e', E', A', Ex', st⟩ := cloneH X hx hZ hown w1 w2 w3 w4 w5 w6 eT V.arh Ex hg hsize hst hd hf hW hl hcap hc hsl
  exact Goes.of st (k T' h' _ X' e' E' (Nat.le_refl _) A' Ex')
theorem nsRoot {O K : String} {n : Nat} (w : (Jvm.Cond.noSuperclass O).before a0 Z = true) (wk : (Jvm.Cond.instantiable K n).before a0 Z = true) (hn : O ≠ K) : NS Z O K := by
  obtain ⟨c, k, h1, h2, h3, -, -⟩ := Cond.noSuperclass_spec w
  obtain ⟨t, kt, g1, -⟩ := Cond.instantiable_spec wk
  have ne := ids_ne h1 g1 hn
  refine ⟨c, t, h1, g1, fun fuel => ?_⟩
  cases fuel with
  | zero => rfl
  | succ f => simp [Vm.isSubclassAux, ne, h2, h3]
theorem nsNo {C S K : String} {n : Nat} (w : (Jvm.Cond.superclass C S).before a0 Z = true) (wk : (Jvm.Cond.instantiable K n).before a0 Z = true) (q : NS Z C K) (hn : C ≠ K) : ∃ c t, Z.vm.findClass C = some c ∧ Z.vm.findClass K = some t ∧ Z.vm.assignable c t = false := by
  obtain ⟨c, t, h0, g0, n3⟩ := q
  obtain ⟨p, k, kp, h1, h2, h3, h4, h5, -, h7⟩ := Cond.superclass_spec h0 w
  obtain ⟨t', kt, g1, g2, g5, g7, -⟩ := Cond.instantiable_spec wk
  cases g0.symm.trans g1
  have g8 : kt.isInterface = false := by simp only [Bool.or_eq_false_iff] at g7; exact g7.1
  have ne := ids_ne h0 g0 hn
  refine ⟨c, t, h0, g0, ?_⟩
  show Z.vm.assignableAux (255 + 1) c t = false
  simp [Vm.assignableAux, ne, h2, g2, h5, g5, g8, Vm.isSubclass, n3]
/-- what is known of Integer's cache at the start -/
def IntC (Z : State) (ca : Addr) (cl : Cell) : Prop := Sta Z Z.heap "java/lang/Integer$IntegerCache" "high" "I" (.int 127) ∧ Sta Z Z.heap "java/lang/Integer$IntegerCache" "cache" "[Ljava/lang/Integer;" (.ref ca) ∧ Arr Z Z.heap ca cl (.object "java/lang/Integer") ∧ cl.slots.size = 256 ∧ ∀ j, j < 256 → ∃ b, cl.slots[j]? = some (.ref b) ∧ Exa Z Z.heap b "java/lang/Integer"
theorem ne_of_not {args : Array Value} {t : Term} {x : Int32} (ev : t.eval args s none [] s = some (.int x)) (h : (Jvm.Cond.not (.eq t (.int 0))).before args s = true) : ¬ x = 0 := by
  intro q
  subst q
  have e := Cond.before_iff.mp h
  simp [Jvm.Cond.value, ev, Term.eval] at e
end Own1
end Jvm.Own
namespace Jvm.Pilot.@@N@@
open Jvm Jvm.ClassFile Sem Op Lib Jvm.Free Jvm.Stand Jvm.LawKit Jvm.RoadKit Jvm.Own Bundle Jvm.Pilot.@@N@@.Jvm.D
theorem ef_4 (m : MethodId) (x0 : Int32) : entryFrame m #[(.int x0)] 1 = mkF m 0 #[.val (.int x0)] [] := by first | (simp [entryFrame, mkF, argsToLocals, Value.category]; done) | rfl
theorem d4_0 : decode method_2_code 0 = .ok (.iload_n 0, 1) := by decide +kernel
theorem d4_1 : decode method_2_code 1 = .ok (.ifCond .ne 7, 3) := by decide +kernel
theorem d4_4 : decode method_2_code 4 = .ok (.getstatic 7, 3) := by decide +kernel
theorem d4_7 : decode method_2_code 7 = .ok (.areturn, 1) := by decide +kernel
theorem d4_8 : decode method_2_code 8 = .ok (.iload_n 0, 1) := by decide +kernel
theorem d4_9 : decode method_2_code 9 = .ok (.iconst 1, 1) := by decide +kernel
theorem d4_10 : decode method_2_code 10 = .ok (.if_icmp .ne 7, 3) := by decide +kernel
theorem d4_13 : decode method_2_code 13 = .ok (.getstatic 13, 3) := by decide +kernel
theorem d4_16 : decode method_2_code 16 = .ok (.areturn, 1) := by decide +kernel
theorem d4_17 : decode method_2_code 17 = .ok (.iload_n 0, 1) := by decide +kernel
theorem d4_18 : decode method_2_code 18 = .ok (.iconst 2, 1) := by decide +kernel
theorem d4_19 : decode method_2_code 19 = .ok (.if_icmp .ne 7, 3) := by decide +kernel
theorem d4_22 : decode method_2_code 22 = .ok (.getstatic 16, 3) := by decide +kernel
theorem d4_25 : decode method_2_code 25 = .ok (.areturn, 1) := by decide +kernel
theorem d4_26 : decode method_2_code 26 = .ok (.iload_n 0, 1) := by decide +kernel
theorem d4_27 : decode method_2_code 27 = .ok (.iconst 3, 1) := by decide +kernel
theorem d4_28 : decode method_2_code 28 = .ok (.if_icmp .ne 7, 3) := by decide +kernel
theorem d4_31 : decode method_2_code 31 = .ok (.getstatic 19, 3) := by decide +kernel
theorem d4_34 : decode method_2_code 34 = .ok (.areturn, 1) := by decide +kernel
theorem d4_35 : decode method_2_code 35 = .ok (.iload_n 0, 1) := by decide +kernel
theorem d4_36 : decode method_2_code 36 = .ok (.iconst 4, 1) := by decide +kernel
theorem d4_37 : decode method_2_code 37 = .ok (.if_icmp .ne 7, 3) := by decide +kernel
theorem d4_40 : decode method_2_code 40 = .ok (.getstatic 22, 3) := by decide +kernel
theorem d4_43 : decode method_2_code 43 = .ok (.areturn, 1) := by decide +kernel
theorem d4_44 : decode method_2_code 44 = .ok (.iload_n 0, 1) := by decide +kernel
theorem d4_45 : decode method_2_code 45 = .ok (.iconst 5, 1) := by decide +kernel
theorem d4_46 : decode method_2_code 46 = .ok (.if_icmp .ne 7, 3) := by decide +kernel
theorem d4_49 : decode method_2_code 49 = .ok (.getstatic 25, 3) := by decide +kernel
theorem d4_52 : decode method_2_code 52 = .ok (.areturn, 1) := by decide +kernel
theorem d4_53 : decode method_2_code 53 = .ok (.iload_n 0, 1) := by decide +kernel
theorem d4_54 : decode method_2_code 54 = .ok (.bipush 6, 2) := by decide +kernel
theorem d4_56 : decode method_2_code 56 = .ok (.if_icmp .ne 7, 3) := by decide +kernel
theorem d4_59 : decode method_2_code 59 = .ok (.getstatic 28, 3) := by decide +kernel
theorem d4_62 : decode method_2_code 62 = .ok (.areturn, 1) := by decide +kernel
theorem d4_63 : decode method_2_code 63 = .ok (.iload_n 0, 1) := by decide +kernel
theorem d4_64 : decode method_2_code 64 = .ok (.bipush 7, 2) := by decide +kernel
theorem d4_66 : decode method_2_code 66 = .ok (.if_icmp .ne 7, 3) := by decide +kernel
theorem d4_69 : decode method_2_code 69 = .ok (.getstatic 31, 3) := by decide +kernel
theorem d4_72 : decode method_2_code 72 = .ok (.areturn, 1) := by decide +kernel
theorem d4_73 : decode method_2_code 73 = .ok (.getstatic 34, 3) := by decide +kernel
theorem d4_76 : decode method_2_code 76 = .ok (.areturn, 1) := by decide +kernel
theorem pn_com_example_claimgate_claimgate_token_HmacKeyChecksPinLaw : plainName "com/example/claimgate/claimgate/token/HmacKeyChecksPinLaw" = true := by first | (simp [plainName, overriddenIn]; done) | decide +kernel
theorem ef_6 (m : MethodId) (x0 : Addr) : entryFrame m #[(.ref x0)] 1 = mkF m 0 #[.val (.ref x0)] [] := by first | (simp [entryFrame, mkF, argsToLocals, Value.category]; done) | rfl
theorem d6_0 : decode prog_37_method_5_code 0 = .ok (.aload_n 0, 1) := by decide +kernel
theorem d6_1 : decode prog_37_method_5_code 1 = .ok (.getfield 50, 3) := by decide +kernel
theorem d6_4 : decode prog_37_method_5_code 4 = .ok (.areturn, 1) := by decide +kernel
theorem pn_com_example_claimgate_claimgate_token_Algorithm : plainName "com/example/claimgate/claimgate/token/Algorithm" = true := by first | (simp [plainName, overriddenIn]; done) | decide +kernel
theorem ef_5 (m : MethodId) (x0 : Addr) (x1 : Addr) : entryFrame m #[(.ref x0), (.ref x1)] 2 = mkF m 0 #[.val (.ref x0), .val (.ref x1)] [] := by first | (simp [entryFrame, mkF, argsToLocals, Value.category]; done) | rfl
theorem d5_0 : decode prog_41_method_2_code 0 = .ok (.aload_n 1, 1) := by decide +kernel
theorem d5_1 : decode prog_41_method_2_code 1 = .ok (.invokevirtual 25, 3) := by decide +kernel
theorem pd___Lcom_example_claimgate_claimgate_token_Algorithm_Family_ : parseMethodDescriptor "()Lcom/example/claimgate/claimgate/token/Algorithm$Family;" = some ⟨[], some (.object "com/example/claimgate/claimgate/token/Algorithm$Family")⟩ := by decide +kernel
theorem d5_4 : decode prog_41_method_2_code 4 = .ok (.getstatic 31, 3) := by decide +kernel
theorem d5_7 : decode prog_41_method_2_code 7 = .ok (.if_acmp .ne 7, 3) := by decide +kernel
theorem d5_10 : decode prog_41_method_2_code 10 = .ok (.iconst 1, 1) := by decide +kernel
theorem d5_11 : decode prog_41_method_2_code 11 = .ok (.goto 4, 3) := by decide +kernel
theorem d5_15 : decode prog_41_method_2_code 15 = .ok (.ireturn, 1) := by decide +kernel
theorem d5_14 : decode prog_41_method_2_code 14 = .ok (.iconst 0, 1) := by decide +kernel
theorem pn_com_example_claimgate_claimgate_token_HmacKey : plainName "com/example/claimgate/claimgate/token/HmacKey" = true := by first | (simp [plainName, overriddenIn]; done) | decide +kernel
theorem ef_2 (m : MethodId) (x0 : Addr) : entryFrame m #[(.ref x0)] 1 = mkF m 0 #[.val (.ref x0)] [] := by first | (simp [entryFrame, mkF, argsToLocals, Value.category]; done) | rfl
theorem d2_0 : decode prog_48_method_1_code 0 = .ok (.aload_n 0, 1) := by decide +kernel
theorem d2_1 : decode prog_48_method_1_code 1 = .ok (.invokespecial 1, 3) := by decide +kernel
theorem d2_4 : decode prog_48_method_1_code 4 = .ok (.return_, 1) := by decide +kernel
theorem pn_com_example_claimgate_claimgate_token_VerificationKey : plainName "com/example/claimgate/claimgate/token/VerificationKey" = true := by first | (simp [plainName, overriddenIn]; done) | decide +kernel
theorem ef_1 (m : MethodId) (x0 : Addr) (x1 : Addr) : entryFrame m #[(.ref x0), (.ref x1)] 2 = mkF m 0 #[.val (.ref x0), .val (.ref x1)] [] := by first | (simp [entryFrame, mkF, argsToLocals, Value.category]; done) | rfl
theorem d1_0 : decode prog_41_method_1_code 0 = .ok (.aload_n 0, 1) := by decide +kernel
theorem d1_1 : decode prog_41_method_1_code 1 = .ok (.invokespecial 1, 3) := by decide +kernel
theorem pd___V : parseMethodDescriptor "()V" = some ⟨[], none⟩ := by decide +kernel
theorem d1_4 : decode prog_41_method_1_code 4 = .ok (.aload_n 1, 1) := by decide +kernel
theorem d1_5 : decode prog_41_method_1_code 5 = .ok (.arraylength, 1) := by decide +kernel
theorem d1_6 : decode prog_41_method_1_code 6 = .ok (.ifCond .ne 13, 3) := by decide +kernel
theorem d1_19 : decode prog_41_method_1_code 19 = .ok (.aload_n 0, 1) := by decide +kernel
theorem d1_20 : decode prog_41_method_1_code 20 = .ok (.aload_n 1, 1) := by decide +kernel
theorem d1_21 : decode prog_41_method_1_code 21 = .ok (.invokevirtual 14, 3) := by decide +kernel
theorem d1_24 : decode prog_41_method_1_code 24 = .ok (.checkcast 15, 3) := by decide +kernel
theorem d1_27 : decode prog_41_method_1_code 27 = .ok (.putfield 20, 3) := by decide +kernel
theorem d1_30 : decode prog_41_method_1_code 30 = .ok (.return_, 1) := by decide +kernel
theorem ef_0 (m : MethodId) (x0 : Int32) (x1 : Int32) (x2 : Int32) (x3 : Int32) (x4 : Int32) : entryFrame m #[(.int x0), (.int x1), (.int x2), (.int x3), (.int x4)] maxLocals = mkF m 0 #[.val (.int x0), .val (.int x1), .val (.int x2), .val (.int x3), .val (.int x4), .unset, .unset, .unset, .unset, .unset] [] := by first | (simp [entryFrame, mkF, argsToLocals, Value.category, maxLocals]; done) | rfl
theorem pd___B_V : parseMethodDescriptor "([B)V" = some ⟨[(.array .byte)], none⟩ := by decide +kernel
theorem pd__I_Lcom_example_claimgate_claimgate_token_Algorithm_ : parseMethodDescriptor "(I)Lcom/example/claimgate/claimgate/token/Algorithm;" = some ⟨[.int], some (.object "com/example/claimgate/claimgate/token/Algorithm")⟩ := by decide +kernel
theorem pd__Lcom_example_claimgate_claimgate_token_Algorithm__Z : parseMethodDescriptor "(Lcom/example/claimgate/claimgate/token/Algorithm;)Z" = some ⟨[(.object "com/example/claimgate/claimgate/token/Algorithm")], some .boolean⟩ := by decide +kernel
theorem case9 (i : Int32) (h0 : 0 ≤ i.toInt) (h1 : i.toInt < 9) : i = (0 : Int32) ∨ i = (1 : Int32) ∨ i = (2 : Int32) ∨ i = (3 : Int32) ∨ i = (4 : Int32) ∨ i = (5 : Int32) ∨ i = (6 : Int32) ∨ i = (7 : Int32) ∨ i = (8 : Int32) := by
  have e0 : (0 : Int32).toInt = 0 := rfl
  have e1 : (1 : Int32).toInt = 1 := rfl
  have e2 : (2 : Int32).toInt = 2 := rfl
  have e3 : (3 : Int32).toInt = 3 := rfl
  have e4 : (4 : Int32).toInt = 4 := rfl
  have e5 : (5 : Int32).toInt = 5 := rfl
  have e6 : (6 : Int32).toInt = 6 := rfl
  have e7 : (7 : Int32).toInt = 7 := rfl
  have e8 : (8 : Int32).toInt = 8 := rfl
  simp only [← Int32.toInt_inj]
  omega
theorem case4 (i : Int32) (h0 : 0 ≤ i.toInt) (h1 : i.toInt < 4) : i = (0 : Int32) ∨ i = (1 : Int32) ∨ i = (2 : Int32) ∨ i = (3 : Int32) := by
  have e0 : (0 : Int32).toInt = 0 := rfl
  have e1 : (1 : Int32).toInt = 1 := rfl
  have e2 : (2 : Int32).toInt = 2 := rfl
  have e3 : (3 : Int32).toInt = 3 := rfl
  simp only [← Int32.toInt_inj]
  omega
def pickW (i : Int32) (w0 : Addr) (w1 : Addr) (w2 : Addr) (w3 : Addr) (w4 : Addr) (w5 : Addr) (w6 : Addr) (w7 : Addr) (w8 : Addr) : Addr := if i = (0 : Int32) then w0 else if i = (1 : Int32) then w1 else if i = (2 : Int32) then w2 else if i = (3 : Int32) then w3 else if i = (4 : Int32) then w4 else if i = (5 : Int32) then w5 else if i = (6 : Int32) then w6 else if i = (7 : Int32) then w7 else w8
def pickF (i : Int32) (y0 y1 y2 : Addr) : Addr := if i = (0 : Int32) then y0 else if i = (1 : Int32) then y0 else if i = (2 : Int32) then y0 else if i = (3 : Int32) then y1 else if i = (4 : Int32) then y1 else if i = (5 : Int32) then y1 else if i = (6 : Int32) then y2 else if i = (7 : Int32) then y2 else y2
theorem pick_exa {Z : State} (i : Int32) {w0 w1 w2 w3 w4 w5 w6 w7 w8 : Addr} (c0 : Cst Z "com/example/claimgate/claimgate/token/Algorithm" "HS256" "Lcom/example/claimgate/claimgate/token/Algorithm;" w0) (c1 : Cst Z "com/example/claimgate/claimgate/token/Algorithm" "HS384" "Lcom/example/claimgate/claimgate/token/Algorithm;" w1) (c2 : Cst Z "com/example/claimgate/claimgate/token/Algorithm" "HS512" "Lcom/example/claimgate/claimgate/token/Algorithm;" w2) (c3 : Cst Z "com/example/claimgate/claimgate/token/Algorithm" "RS256" "Lcom/example/claimgate/claimgate/token/Algorithm;" w3) (c4 : Cst Z "com/example/claimgate/claimgate/token/Algorithm" "RS384" "Lcom/example/claimgate/claimgate/token/Algorithm;" w4) (c5 : Cst Z "com/example/claimgate/claimgate/token/Algorithm" "RS512" "Lcom/example/claimgate/claimgate/token/Algorithm;" w5) (c6 : Cst Z "com/example/claimgate/claimgate/token/Algorithm" "ES256" "Lcom/example/claimgate/claimgate/token/Algorithm;" w6) (c7 : Cst Z "com/example/claimgate/claimgate/token/Algorithm" "ES384" "Lcom/example/claimgate/claimgate/token/Algorithm;" w7) (c8 : Cst Z "com/example/claimgate/claimgate/token/Algorithm" "ES512" "Lcom/example/claimgate/claimgate/token/Algorithm;" w8) : Exa Z Z.heap (pickW i w0 w1 w2 w3 w4 w5 w6 w7 w8) "com/example/claimgate/claimgate/token/Algorithm" := by
  unfold pickW
  repeat' split
  · exact c0.2
  · exact c1.2
  · exact c2.2
  · exact c3.2
  · exact c4.2
  · exact c5.2
  · exact c6.2
  · exact c7.2
  · exact c8.2
theorem pick_fam {Z : State} (i : Int32) {w0 w1 w2 w3 w4 w5 w6 w7 w8 y0 y1 y2 : Addr} (m0 : Fld Z Z.heap w0 "com/example/claimgate/claimgate/token/Algorithm" "family" "Lcom/example/claimgate/claimgate/token/Algorithm$Family;" (.ref y0)) (m1 : Fld Z Z.heap w1 "com/example/claimgate/claimgate/token/Algorithm" "family" "Lcom/example/claimgate/claimgate/token/Algorithm$Family;" (.ref y0)) (m2 : Fld Z Z.heap w2 "com/example/claimgate/claimgate/token/Algorithm" "family" "Lcom/example/claimgate/claimgate/token/Algorithm$Family;" (.ref y0)) (m3 : Fld Z Z.heap w3 "com/example/claimgate/claimgate/token/Algorithm" "family" "Lcom/example/claimgate/claimgate/token/Algorithm$Family;" (.ref y1)) (m4 : Fld Z Z.heap w4 "com/example/claimgate/claimgate/token/Algorithm" "family" "Lcom/example/claimgate/claimgate/token/Algorithm$Family;" (.ref y1)) (m5 : Fld Z Z.heap w5 "com/example/claimgate/claimgate/token/Algorithm" "family" "Lcom/example/claimgate/claimgate/token/Algorithm$Family;" (.ref y1)) (m6 : Fld Z Z.heap w6 "com/example/claimgate/claimgate/token/Algorithm" "family" "Lcom/example/claimgate/claimgate/token/Algorithm$Family;" (.ref y2)) (m7 : Fld Z Z.heap w7 "com/example/claimgate/claimgate/token/Algorithm" "family" "Lcom/example/claimgate/claimgate/token/Algorithm$Family;" (.ref y2)) (m8 : Fld Z Z.heap w8 "com/example/claimgate/claimgate/token/Algorithm" "family" "Lcom/example/claimgate/claimgate/token/Algorithm$Family;" (.ref y2)) : Fld Z Z.heap (pickW i w0 w1 w2 w3 w4 w5 w6 w7 w8) "com/example/claimgate/claimgate/token/Algorithm" "family" "Lcom/example/claimgate/claimgate/token/Algorithm$Family;" (.ref (pickF i y0 y1 y2)) := by
  unfold pickW pickF
  repeat' split
  · exact m0
  · exact m1
  · exact m2
  · exact m3
  · exact m4
  · exact m5
  · exact m6
  · exact m7
  · exact m8
theorem pick_eq {Z : State} (i : Int32) {y0 y1 y2 : Addr} (f0 : Con Z "com/example/claimgate/claimgate/token/Algorithm$Family" "HMAC" "Lcom/example/claimgate/claimgate/token/Algorithm$Family;" 0 y0) (f1 : Con Z "com/example/claimgate/claimgate/token/Algorithm$Family" "RSA" "Lcom/example/claimgate/claimgate/token/Algorithm$Family;" 1 y1) (f2 : Con Z "com/example/claimgate/claimgate/token/Algorithm$Family" "ECDSA" "Lcom/example/claimgate/claimgate/token/Algorithm$Family;" 2 y2) (h0 : 0 ≤ i.toInt) (h1 : i.toInt < 9) : (if pickF i y0 y1 y2 = y0 then (1 : Int32) else (0 : Int32)) = (if (2 : Int32) < i then (0 : Int32) else (1 : Int32)) := by
  have e1 : y1 ≠ y0 := f1.ne f0 (by decide)
  have e2 : y2 ≠ y0 := f2.ne f0 (by decide)
  rcases case9 i h0 h1 with rfl | rfl | rfl | rfl | rfl | rfl | rfl | rfl | rfl <;> simp +decide [pickF, e1, e2]
theorem n4 (x : Int32) : 0 ≤ (x &&& (3 : Int32)).toInt ∧ (x &&& (3 : Int32)).toInt < 4 := by
  have e := c_mask x 3 2 (by decide) (by decide)
  omega
set_option maxRecDepth 65536 in
set_option maxHeartbeats 40000000 in
theorem rm_pick (l : Launch) (Z : State) (a0 : Array Value) (hw : ∀ d ∈ tables_1, d.before a0 Z = true) (i : Int32) (w0 : Addr) (w1 : Addr) (w2 : Addr) (w3 : Addr) (w4 : Addr) (w5 : Addr) (w6 : Addr) (w7 : Addr) (w8 : Addr) (h0 : Heap) (n0 : Nat) (O0 : Old Z n0 h0) (c0 : Cst Z "com/example/claimgate/claimgate/token/Algorithm" "HS256" "Lcom/example/claimgate/claimgate/token/Algorithm;" w0) (c1 : Cst Z "com/example/claimgate/claimgate/token/Algorithm" "HS384" "Lcom/example/claimgate/claimgate/token/Algorithm;" w1) (c2 : Cst Z "com/example/claimgate/claimgate/token/Algorithm" "HS512" "Lcom/example/claimgate/claimgate/token/Algorithm;" w2) (c3 : Cst Z "com/example/claimgate/claimgate/token/Algorithm" "RS256" "Lcom/example/claimgate/claimgate/token/Algorithm;" w3) (c4 : Cst Z "com/example/claimgate/claimgate/token/Algorithm" "RS384" "Lcom/example/claimgate/claimgate/token/Algorithm;" w4) (c5 : Cst Z "com/example/claimgate/claimgate/token/Algorithm" "RS512" "Lcom/example/claimgate/claimgate/token/Algorithm;" w5) (c6 : Cst Z "com/example/claimgate/claimgate/token/Algorithm" "ES256" "Lcom/example/claimgate/claimgate/token/Algorithm;" w6) (c7 : Cst Z "com/example/claimgate/claimgate/token/Algorithm" "ES384" "Lcom/example/claimgate/claimgate/token/Algorithm;" w7) (c8 : Cst Z "com/example/claimgate/claimgate/token/Algorithm" "ES512" "Lcom/example/claimgate/claimgate/token/Algorithm;" w8) :
    Rm l (⟨"com/example/claimgate/claimgate/token/HmacKeyChecksPinLaw", "pick", "(I)Lcom/example/claimgate/claimgate/token/Algorithm;"⟩ : MethodName) method_2_code 1 (some (.object "com/example/claimgate/claimgate/token/Algorithm")) ({ frames := 0, cells := 0, slots := 0, locals := 0 } : Room) [] Z #[(.int i)] h0 (fun v h L => v = some (.ref (pickW i w0 w1 w2 w3 w4 w5 w6 w7 w8)) ∧ Fr n0 L ∧ h = h0) := by
  refine Rm.of (plainFor_of_name pn_com_example_claimgate_claimgate_token_HmacKeyChecksPinLaw) ?_
  intro p e s m below meth cod T X hx hZ hby hml hown hnm hret hlk eT0
  have hown : s.vm.findClass "com/example/claimgate/claimgate/token/HmacKeyChecksPinLaw" = some m.cls := hown
  have hnm : meth.name = "pick" := hnm
  have N0 := Fr.nil n0
  refine Goes.cast (ef_4 m i) ?_
  show Goes p e below _ T (mkF m 0 #[.val (.int i)] [])
  refine Goes.of (fun _ => XS.iloadN X.here hx rfl (hb hby d4_0) rfl) ?_
  show Goes p e below _ T (mkF m 1 #[.val (.int i)] [(.int i)])
  by_cases hpc1 : i = (0 : Int32)
  · refine Goes.of (fun _ => XS.ifNo X.here hx rfl (hb hby d4_1) rfl ((if0 _ _).trans (teq hpc1).2)) ?_
    show Goes p e below _ T (mkF m 4 #[.val (.int i)] [])
    refine goGetS X hx hZ hown (host := "") (Or.inl (hw _ (List.mem_of_getElem? (i := 31) rfl))) Via.refl eT0 (c0.1.ext O0.2) (g := (mkF m 4 #[.val (.int i)] [])) rfl (hb hby d4_4) ?_
    intro T1 X1 eT1
    show Goes p e below _ T1 (mkF m 7 #[.val (.int i)] [(.ref w0)])
    exact retRef X1 hx hret hlk rfl rfl (hb hby d4_7) eT1 (by decide) (by decide) ⟨by unfold pickW; rw [if_pos hpc1]; try first | rfl | (split <;> rfl), N0, rfl⟩
  · refine Goes.of (fun _ => XS.ifYes X.here hx rfl (pc0 := 1) (pc' := 8) rfl (hb hby d4_1) rfl ((if0 _ _).trans (feq hpc1).2) (by decide) (by decide)) ?_
    show Goes p e below _ T (mkF m 8 #[.val (.int i)] [])
    refine Goes.of (fun _ => XS.iloadN X.here hx rfl (hb hby d4_8) rfl) ?_
    show Goes p e below _ T (mkF m 9 #[.val (.int i)] [(.int i)])
    refine Goes.of (fun _ => XS.iconst X.here hx rfl (hb hby d4_9)) ?_
    show Goes p e below _ T (mkF m 10 #[.val (.int i)] [(.int (1 : Int32)), (.int i)])
    by_cases hpc10 : i = (1 : Int32)
    · refine Goes.of (fun _ => XS.icmpNo X.here hx rfl (hb hby d4_10) rfl (teq hpc10).2) ?_
      show Goes p e below _ T (mkF m 13 #[.val (.int i)] [])
      refine goGetS X hx hZ hown (host := "") (Or.inl (hw _ (List.mem_of_getElem? (i := 61) rfl))) Via.refl eT0 (c1.1.ext O0.2) (g := (mkF m 13 #[.val (.int i)] [])) rfl (hb hby d4_13) ?_
      intro T2 X2 eT2
      show Goes p e below _ T2 (mkF m 16 #[.val (.int i)] [(.ref w1)])
      exact retRef X2 hx hret hlk rfl rfl (hb hby d4_16) eT2 (by decide) (by decide) ⟨by unfold pickW; rw [if_neg hpc1, if_pos hpc10]; try first | rfl | (split <;> rfl), N0, rfl⟩
    · refine Goes.of (fun _ => XS.icmpYes X.here hx rfl (pc0 := 10) (pc' := 17) rfl (hb hby d4_10) rfl (feq hpc10).2 (by decide) (by decide)) ?_
      show Goes p e below _ T (mkF m 17 #[.val (.int i)] [])
      refine Goes.of (fun _ => XS.iloadN X.here hx rfl (hb hby d4_17) rfl) ?_
      show Goes p e below _ T (mkF m 18 #[.val (.int i)] [(.int i)])
      refine Goes.of (fun _ => XS.iconst X.here hx rfl (hb hby d4_18)) ?_
      show Goes p e below _ T (mkF m 19 #[.val (.int i)] [(.int (2 : Int32)), (.int i)])
      by_cases hpc19 : i = (2 : Int32)
      · refine Goes.of (fun _ => XS.icmpNo X.here hx rfl (hb hby d4_19) rfl (teq hpc19).2) ?_
        show Goes p e below _ T (mkF m 22 #[.val (.int i)] [])
        refine goGetS X hx hZ hown (host := "") (Or.inl (hw _ (List.mem_of_getElem? (i := 63) rfl))) Via.refl eT0 (c2.1.ext O0.2) (g := (mkF m 22 #[.val (.int i)] [])) rfl (hb hby d4_22) ?_
        intro T3 X3 eT3
        show Goes p e below _ T3 (mkF m 25 #[.val (.int i)] [(.ref w2)])
        exact retRef X3 hx hret hlk rfl rfl (hb hby d4_25) eT3 (by decide) (by decide) ⟨by unfold pickW; rw [if_neg hpc1, if_neg hpc10, if_pos hpc19]; try first | rfl | (split <;> rfl), N0, rfl⟩
      · refine Goes.of (fun _ => XS.icmpYes X.here hx rfl (pc0 := 19) (pc' := 26) rfl (hb hby d4_19) rfl (feq hpc19).2 (by decide) (by decide)) ?_
        show Goes p e below _ T (mkF m 26 #[.val (.int i)] [])
        refine Goes.of (fun _ => XS.iloadN X.here hx rfl (hb hby d4_26) rfl) ?_
        show Goes p e below _ T (mkF m 27 #[.val (.int i)] [(.int i)])
        refine Goes.of (fun _ => XS.iconst X.here hx rfl (hb hby d4_27)) ?_
        show Goes p e below _ T (mkF m 28 #[.val (.int i)] [(.int (3 : Int32)), (.int i)])
        by_cases hpc28 : i = (3 : Int32)
        · refine Goes.of (fun _ => XS.icmpNo X.here hx rfl (hb hby d4_28) rfl (teq hpc28).2) ?_
          show Goes p e below _ T (mkF m 31 #[.val (.int i)] [])
          refine goGetS X hx hZ hown (host := "") (Or.inl (hw _ (List.mem_of_getElem? (i := 49) rfl))) Via.refl eT0 (c3.1.ext O0.2) (g := (mkF m 31 #[.val (.int i)] [])) rfl (hb hby d4_31) ?_
          intro T4 X4 eT4
          show Goes p e below _ T4 (mkF m 34 #[.val (.int i)] [(.ref w3)])
          exact retRef X4 hx hret hlk rfl rfl (hb hby d4_34) eT4 (by decide) (by decide) ⟨by unfold pickW; rw [if_neg hpc1, if_neg hpc10, if_neg hpc19, if_pos hpc28]; try first | rfl | (split <;> rfl), N0, rfl⟩
        · refine Goes.of (fun _ => XS.icmpYes X.here hx rfl (pc0 := 28) (pc' := 35) rfl (hb hby d4_28) rfl (feq hpc28).2 (by decide) (by decide)) ?_
          show Goes p e below _ T (mkF m 35 #[.val (.int i)] [])
          refine Goes.of (fun _ => XS.iloadN X.here hx rfl (hb hby d4_35) rfl) ?_
          show Goes p e below _ T (mkF m 36 #[.val (.int i)] [(.int i)])
          refine Goes.of (fun _ => XS.iconst X.here hx rfl (hb hby d4_36)) ?_
          show Goes p e below _ T (mkF m 37 #[.val (.int i)] [(.int (4 : Int32)), (.int i)])
          by_cases hpc37 : i = (4 : Int32)
          · refine Goes.of (fun _ => XS.icmpNo X.here hx rfl (hb hby d4_37) rfl (teq hpc37).2) ?_
            show Goes p e below _ T (mkF m 40 #[.val (.int i)] [])
            refine goGetS X hx hZ hown (host := "") (Or.inl (hw _ (List.mem_of_getElem? (i := 55) rfl))) Via.refl eT0 (c4.1.ext O0.2) (g := (mkF m 40 #[.val (.int i)] [])) rfl (hb hby d4_40) ?_
            intro T5 X5 eT5
            show Goes p e below _ T5 (mkF m 43 #[.val (.int i)] [(.ref w4)])
            exact retRef X5 hx hret hlk rfl rfl (hb hby d4_43) eT5 (by decide) (by decide) ⟨by unfold pickW; rw [if_neg hpc1, if_neg hpc10, if_neg hpc19, if_neg hpc28, if_pos hpc37]; try first | rfl | (split <;> rfl), N0, rfl⟩
          · refine Goes.of (fun _ => XS.icmpYes X.here hx rfl (pc0 := 37) (pc' := 44) rfl (hb hby d4_37) rfl (feq hpc37).2 (by decide) (by decide)) ?_
            show Goes p e below _ T (mkF m 44 #[.val (.int i)] [])
            refine Goes.of (fun _ => XS.iloadN X.here hx rfl (hb hby d4_44) rfl) ?_
            show Goes p e below _ T (mkF m 45 #[.val (.int i)] [(.int i)])
            refine Goes.of (fun _ => XS.iconst X.here hx rfl (hb hby d4_45)) ?_
            show Goes p e below _ T (mkF m 46 #[.val (.int i)] [(.int (5 : Int32)), (.int i)])
            by_cases hpc46 : i = (5 : Int32)
            · refine Goes.of (fun _ => XS.icmpNo X.here hx rfl (hb hby d4_46) rfl (teq hpc46).2) ?_
              show Goes p e below _ T (mkF m 49 #[.val (.int i)] [])
              refine goGetS X hx hZ hown (host := "") (Or.inl (hw _ (List.mem_of_getElem? (i := 65) rfl))) Via.refl eT0 (c5.1.ext O0.2) (g := (mkF m 49 #[.val (.int i)] [])) rfl (hb hby d4_49) ?_
              intro T6 X6 eT6
              show Goes p e below _ T6 (mkF m 52 #[.val (.int i)] [(.ref w5)])
              exact retRef X6 hx hret hlk rfl rfl (hb hby d4_52) eT6 (by decide) (by decide) ⟨by unfold pickW; rw [if_neg hpc1, if_neg hpc10, if_neg hpc19, if_neg hpc28, if_neg hpc37, if_pos hpc46]; try first | rfl | (split <;> rfl), N0, rfl⟩
            · refine Goes.of (fun _ => XS.icmpYes X.here hx rfl (pc0 := 46) (pc' := 53) rfl (hb hby d4_46) rfl (feq hpc46).2 (by decide) (by decide)) ?_
              show Goes p e below _ T (mkF m 53 #[.val (.int i)] [])
              refine Goes.of (fun _ => XS.iloadN X.here hx rfl (hb hby d4_53) rfl) ?_
              show Goes p e below _ T (mkF m 54 #[.val (.int i)] [(.int i)])
              refine Goes.of (fun _ => XS.bipush X.here hx rfl (hb hby d4_54)) ?_
              show Goes p e below _ T (mkF m 56 #[.val (.int i)] [(.int (6 : Int32)), (.int i)])
              by_cases hpc56 : i = (6 : Int32)
              · refine Goes.of (fun _ => XS.icmpNo X.here hx rfl (hb hby d4_56) rfl (teq hpc56).2) ?_
                show Goes p e below _ T (mkF m 59 #[.val (.int i)] [])
                refine goGetS X hx hZ hown (host := "") (Or.inl (hw _ (List.mem_of_getElem? (i := 57) rfl))) Via.refl eT0 (c6.1.ext O0.2) (g := (mkF m 59 #[.val (.int i)] [])) rfl (hb hby d4_59) ?_
                intro T7 X7 eT7
                show Goes p e below _ T7 (mkF m 62 #[.val (.int i)] [(.ref w6)])
                exact retRef X7 hx hret hlk rfl rfl (hb hby d4_62) eT7 (by decide) (by decide) ⟨by unfold pickW; rw [if_neg hpc1, if_neg hpc10, if_neg hpc19, if_neg hpc28, if_neg hpc37, if_neg hpc46, if_pos hpc56]; try first | rfl | (split <;> rfl), N0, rfl⟩
              · refine Goes.of (fun _ => XS.icmpYes X.here hx rfl (pc0 := 56) (pc' := 63) rfl (hb hby d4_56) rfl (feq hpc56).2 (by decide) (by decide)) ?_
                show Goes p e below _ T (mkF m 63 #[.val (.int i)] [])
                refine Goes.of (fun _ => XS.iloadN X.here hx rfl (hb hby d4_63) rfl) ?_
                show Goes p e below _ T (mkF m 64 #[.val (.int i)] [(.int i)])
                refine Goes.of (fun _ => XS.bipush X.here hx rfl (hb hby d4_64)) ?_
                show Goes p e below _ T (mkF m 66 #[.val (.int i)] [(.int (7 : Int32)), (.int i)])
                by_cases hpc66 : i = (7 : Int32)
                · refine Goes.of (fun _ => XS.icmpNo X.here hx rfl (hb hby d4_66) rfl (teq hpc66).2) ?_
                  show Goes p e below _ T (mkF m 69 #[.val (.int i)] [])
                  refine goGetS X hx hZ hown (host := "") (Or.inl (hw _ (List.mem_of_getElem? (i := 59) rfl))) Via.refl eT0 (c7.1.ext O0.2) (g := (mkF m 69 #[.val (.int i)] [])) rfl (hb hby d4_69) ?_
                  intro T8 X8 eT8
                  show Goes p e below _ T8 (mkF m 72 #[.val (.int i)] [(.ref w7)])
                  exact retRef X8 hx hret hlk rfl rfl (hb hby d4_72) eT8 (by decide) (by decide) ⟨by unfold pickW; rw [if_neg hpc1, if_neg hpc10, if_neg hpc19, if_neg hpc28, if_neg hpc37, if_neg hpc46, if_neg hpc56, if_pos hpc66]; try first | rfl | (split <;> rfl), N0, rfl⟩
                · refine Goes.of (fun _ => XS.icmpYes X.here hx rfl (pc0 := 66) (pc' := 73) rfl (hb hby d4_66) rfl (feq hpc66).2 (by decide) (by decide)) ?_
                  show Goes p e below _ T (mkF m 73 #[.val (.int i)] [])
                  refine goGetS X hx hZ hown (host := "") (Or.inl (hw _ (List.mem_of_getElem? (i := 52) rfl))) Via.refl eT0 (c8.1.ext O0.2) (g := (mkF m 73 #[.val (.int i)] [])) rfl (hb hby d4_73) ?_
                  intro T9 X9 eT9
                  show Goes p e below _ T9 (mkF m 76 #[.val (.int i)] [(.ref w8)])
                  exact retRef X9 hx hret hlk rfl rfl (hb hby d4_76) eT9 (by decide) (by decide) ⟨by unfold pickW; rw [if_neg hpc1, if_neg hpc10, if_neg hpc19, if_neg hpc28, if_neg hpc37, if_neg hpc46, if_neg hpc56, if_neg hpc66]; try first | rfl | (split <;> rfl), N0, rfl⟩
set_option maxRecDepth 65536 in
set_option maxHeartbeats 40000000 in
theorem rm_family (l : Launch) (Z : State) (a0 : Array Value) (hw : ∀ d ∈ tables_1, d.before a0 Z = true) (a y : Addr) (h0 : Heap) (n0 : Nat) (O0 : Old Z n0 h0) (Fm : Fld Z Z.heap a "com/example/claimgate/claimgate/token/Algorithm" "family" "Lcom/example/claimgate/claimgate/token/Algorithm$Family;" (.ref y)) :
    Rm l (⟨"com/example/claimgate/claimgate/token/Algorithm", "family", "()Lcom/example/claimgate/claimgate/token/Algorithm$Family;"⟩ : MethodName) prog_37_method_5_code 1 (some (.object "com/example/claimgate/claimgate/token/Algorithm$Family")) ({ frames := 0, cells := 0, slots := 0, locals := 0 } : Room) [] Z #[(.ref a)] h0 (fun v h L => v = some (.ref y) ∧ Fr n0 L ∧ h = h0) := by
  refine Rm.of (plainFor_of_name pn_com_example_claimgate_claimgate_token_Algorithm) ?_
  intro p e s m below meth cod T X hx hZ hby hml hown hnm hret hlk eT0
  have hown : s.vm.findClass "com/example/claimgate/claimgate/token/Algorithm" = some m.cls := hown
  have hnm : meth.name = "family" := hnm
  have N0 := Fr.nil n0
  refine Goes.cast (ef_6 m a) ?_
  show Goes p e below _ T (mkF m 0 #[.val (.ref a)] [])
  refine Goes.of (fun _ => XS.aloadN X.here hx rfl (hb hby d6_0) rfl rfl) ?_
  show Goes p e below _ T (mkF m 1 #[.val (.ref a)] [(.ref a)])
  refine goGet X hx hZ hown (host := "") (Or.inl (hw _ (List.mem_of_getElem? (i := 44) rfl))) Via.refl eT0 (Fm.ext O0.2) (g := (mkF m 1 #[.val (.ref a)] [(.ref a)])) rfl rfl (hb hby d6_1) ?_
  intro T1 X1 eT1
  show Goes p e below _ T1 (mkF m 4 #[.val (.ref a)] [(.ref y)])
  exact retRef X1 hx hret hlk rfl rfl (hb hby d6_4) eT1 (by decide) (by decide) ⟨rfl, N0, rfl⟩
set_option maxRecDepth 65536 in
set_option maxHeartbeats 40000000 in
theorem rm_checks (l : Launch) (Z : State) (a0 : Array Value) (hw : ∀ d ∈ tables_1, d.before a0 Z = true) (k a y y0 : Addr) (h0 : Heap) (n0 : Nat) (O0 : Old Z n0 h0) (Ea : Exa Z Z.heap a "com/example/claimgate/claimgate/token/Algorithm") (Fm : Fld Z Z.heap a "com/example/claimgate/claimgate/token/Algorithm" "family" "Lcom/example/claimgate/claimgate/token/Algorithm$Family;" (.ref y)) (f0 : Con Z "com/example/claimgate/claimgate/token/Algorithm$Family" "HMAC" "Lcom/example/claimgate/claimgate/token/Algorithm$Family;" 0 y0) :
    Rm l (⟨"com/example/claimgate/claimgate/token/HmacKey", "checks", "(Lcom/example/claimgate/claimgate/token/Algorithm;)Z"⟩ : MethodName) prog_41_method_2_code 2 (some .boolean) ({ frames := 1, cells := 0, slots := 0, locals := 12 } : Room) [] Z #[(.ref k), (.ref a)] h0 (fun v h L => v = some (.int (if y = y0 then (1 : Int32) else (0 : Int32))) ∧ Fr n0 L ∧ h = h0) := by
  refine Rm.of (plainFor_of_name pn_com_example_claimgate_claimgate_token_HmacKey) ?_
  intro p e s m below meth cod T X hx hZ hby hml hown hnm hret hlk eT0
  have hown : s.vm.findClass "com/example/claimgate/claimgate/token/HmacKey" = some m.cls := hown
  have hnm : meth.name = "checks" := hnm
  have N0 := Fr.nil n0
  refine Goes.cast (ef_5 m k a) ?_
  show Goes p e below _ T (mkF m 0 #[.val (.ref k), .val (.ref a)] [])
  refine Goes.of (fun _ => XS.aloadN X.here hx rfl (hb hby d5_0) rfl rfl) ?_
  show Goes p e below _ T (mkF m 1 #[.val (.ref k), .val (.ref a)] [(.ref a)])
  refine goVirtual 0 X hx hZ hown (hw _ (List.mem_of_getElem? (i := 39) rfl)) (hw _ (List.mem_of_getElem? (i := 40) rfl)) (notFace_of_selects (args := #[]) (mvT hZ (hw _ (List.mem_of_getElem? (i := 42) rfl)))) (hw _ (List.mem_of_getElem? (i := 42) rfl)) (hw _ (List.mem_of_getElem? (i := 41) rfl)) (hw _ (List.mem_of_getElem? (i := 32) rfl)) (hw _ (List.mem_of_getElem? (i := 43) rfl)) (by decide) (rm_family l Z a0 hw a y h0 n0 O0 Fm) eT0 (Ea.ext O0.2) (g := (mkF m 1 #[.val (.ref k), .val (.ref a)] [(.ref a)])) rfl (by rw [hml]; rfl) [] [] (lenOf pd___Lcom_example_claimgate_claimgate_token_Algorithm_Family_ rfl) rfl rfl (by show 2 * 0 + _ ≤ _; exact Nat.le_of_eq rfl) (hb hby d5_1) (by decide) (by decide) (by decide) (by decide) ?_
  intro v1 T1 L1 X1 q1
  obtain ⟨rfl, Nq1, eT1⟩ := q1
  have N1 := Fr.app N0 Nq1
  show Goes p e below _ T1 (mkF m 4 #[.val (.ref k), .val (.ref a)] [(.ref y)])
  refine goGetS X1 hx hZ hown (host := "") (Or.inl (hw _ (List.mem_of_getElem? (i := 48) rfl))) Via.refl eT1 (f0.1.ext O0.2) (g := (mkF m 4 #[.val (.ref k), .val (.ref a)] [(.ref y)])) rfl (hb hby d5_4) ?_
  intro T2 X2 eT2
  show Goes p e below _ T2 (mkF m 7 #[.val (.ref k), .val (.ref a)] [(.ref y0), (.ref y)])
  by_cases ha7 : y = y0
  · refine Goes.of (fun _ => Jvm.RoadKit.acmp (g := (mkF m 7 #[.val (.ref k), .val (.ref a)] [(.ref y0), (.ref y)])) X2 hx rfl rfl rfl (pc0 := 7) (pc' := 10) (same := true) rfl (hb hby d5_7) rfl (decide_eq_true (congrArg Value.ref ha7)) (by decide) (by decide)) ?_
    show Goes p e below _ T2 (mkF m 10 #[.val (.ref k), .val (.ref a)] [])
    refine Goes.of (fun _ => XS.iconst X2.here hx rfl (hb hby d5_10)) ?_
    show Goes p e below _ T2 (mkF m 11 #[.val (.ref k), .val (.ref a)] [(.int (1 : Int32))])
    refine Goes.of (fun _ => XS.goto X2.here hx rfl (pc0 := 11) (pc' := 15) rfl (hb hby d5_11) (by decide) (by decide)) ?_
    show Goes p e below _ T2 (mkF m 15 #[.val (.ref k), .val (.ref a)] [(.int (1 : Int32))])
    exact retZ (t := .boolean) X2 hx hret hlk (by simp) (hb hby d5_15) eT2 (by decide) (by decide) ⟨by rw [if_pos ha7]; try first | rfl | (split <;> rfl), N1, rfl⟩
  · refine Goes.of (fun _ => Jvm.RoadKit.acmp (g := (mkF m 7 #[.val (.ref k), .val (.ref a)] [(.ref y0), (.ref y)])) X2 hx rfl rfl rfl (pc0 := 7) (pc' := 14) (same := false) rfl (hb hby d5_7) rfl (decide_eq_false fun q => ha7 (Value.ref.inj q)) (by decide) (by decide)) ?_
    show Goes p e below _ T2 (mkF m 14 #[.val (.ref k), .val (.ref a)] [])
    refine Goes.of (fun _ => XS.iconst X2.here hx rfl (hb hby d5_14)) ?_
    show Goes p e below _ T2 (mkF m 15 #[.val (.ref k), .val (.ref a)] [(.int (0 : Int32))])
    exact retZ (t := .boolean) X2 hx hret hlk (by simp) (hb hby d5_15) eT2 (by decide) (by decide) ⟨by rw [if_neg ha7]; try first | rfl | (split <;> rfl), N1, rfl⟩
set_option maxRecDepth 65536 in
set_option maxHeartbeats 40000000 in
theorem rm_vkey (l : Launch) (Z : State) (a0 : Array Value) (hw : ∀ d ∈ tables_1, d.before a0 Z = true) (a : Addr) (h0 : Heap) (n0 : Nat) (O0 : Old Z n0 h0)  :
    Rm l (⟨"com/example/claimgate/claimgate/token/VerificationKey", "<init>", "()V"⟩ : MethodName) prog_48_method_1_code 1 none ({ frames := 1, cells := 0, slots := 0, locals := 12 } : Room) [] Z #[(.ref a)] h0 (fun v h L => v = none ∧ Fr n0 L ∧ h = h0) := by
  refine Rm.of (plainFor_of_name pn_com_example_claimgate_claimgate_token_VerificationKey) ?_
  intro p e s m below meth cod T X hx hZ hby hml hown hnm hret hlk eT0
  have hown : s.vm.findClass "com/example/claimgate/claimgate/token/VerificationKey" = some m.cls := hown
  have hnm : meth.name = "<init>" := hnm
  have N0 := Fr.nil n0
  refine Goes.cast (ef_2 m a) ?_
  show Goes p e below _ T (mkF m 0 #[.val (.ref a)] [])
  refine Goes.of (fun _ => XS.aloadN X.here hx rfl (hb hby d2_0) rfl rfl) ?_
  show Goes p e below _ T (mkF m 1 #[.val (.ref a)] [(.ref a)])
  refine goInitO 0 X hx hZ hown (hw _ (List.mem_of_getElem? (i := 13) rfl)) (hw _ (List.mem_of_getElem? (i := 14) rfl)) (hw _ (List.mem_of_getElem? (i := 15) rfl)) eT0 (g := (mkF m 1 #[.val (.ref a)] [(.ref a)])) rfl (by rw [hml]; rfl) rfl (hb hby d2_1) (by decide) (by show 2 * 0 + _ ≤ _; exact Nat.le_of_eq rfl) (by decide) ?_
  intro T1 X1 eT1
  show Goes p e below _ T1 (mkF m 4 #[.val (.ref a)] [])
  exact retVoid X1 hx hret hlk (hb hby d2_4) eT1 (by decide) (by decide) ⟨rfl, N0, rfl⟩
set_option maxRecDepth 65536 in
set_option maxHeartbeats 40000000 in
theorem rm_init (l : Launch) (Z : State) (a0 : Array Value) (hw : ∀ d ∈ tables_1, d.before a0 Z = true) (a b : Addr) (kb : ClassId) (n : Int32) (vs : List Value) (dv : Value) (h0 : Heap) (n0 : Nat) (O0 : Old Z n0 h0) (g_a : n0 ≤ a) (hab : a ≠ b) (Ex : Exa Z h0 a "com/example/claimgate/claimgate/token/HmacKey") (F0 : Fld Z h0 a "com/example/claimgate/claimgate/token/HmacKey" "secret" "[B" .null) (Vb : Arv Z h0 b kb .byte n vs dv) (Eb : Exa Z h0 b "[B") (hn0 : ¬ n = 0) (hn4 : n.toNatClampNeg ≤ 4) :
    Rm l (⟨"com/example/claimgate/claimgate/token/HmacKey", "<init>", "([B)V"⟩ : MethodName) prog_41_method_1_code 2 none ({ frames := 2, cells := 1, slots := 4, locals := 24 } : Room) [] Z #[(.ref a), (.ref b)] h0 (fun v h L => v = none ∧ Fr n0 L ∧ Keep h0 h [a]) := by
  refine Rm.of (plainFor_of_name pn_com_example_claimgate_claimgate_token_HmacKey) ?_
  intro p e s m below meth cod T X hx hZ hby hml hown hnm hret hlk eT0
  have hown : s.vm.findClass "com/example/claimgate/claimgate/token/HmacKey" = some m.cls := hown
  have hnm : meth.name = "<init>" := hnm
  have N0 := Fr.nil n0
  have Kp := Keep.refl h0 [a]
  refine Goes.cast (ef_1 m a b) ?_
  show Goes p e below _ T (mkF m 0 #[.val (.ref a), .val (.ref b)] [])
  refine Goes.of (fun _ => XS.aloadN X.here hx rfl (hb hby d1_0) rfl rfl) ?_
  show Goes p e below _ T (mkF m 1 #[.val (.ref a), .val (.ref b)] [(.ref a)])
  refine goSpecial 0 X hx hZ rfl hown (hw _ (List.mem_of_getElem? (i := 8) rfl)) (hw _ (List.mem_of_getElem? (i := 9) rfl)) (hw _ (List.mem_of_getElem? (i := 11) rfl)) (hw _ (List.mem_of_getElem? (i := 12) rfl)) (by decide) (rm_vkey l Z a0 hw a h0 n0 O0) eT0 (g := (mkF m 1 #[.val (.ref a), .val (.ref b)] [(.ref a)])) rfl (by rw [hml]; rfl) a [] [] (lenOf pd___V rfl) rfl rfl (by show 2 * 0 + _ ≤ _; exact Nat.le_of_eq rfl) (hb hby d1_1) (by decide) (by decide) (by decide) (by decide) ?_
  intro v1 T1 L1 X1 q1
  obtain ⟨rfl, Nq1, eT1⟩ := q1
  have N1 := Fr.app N0 Nq1
  show Goes p e below _ T1 (mkF m 4 #[.val (.ref a), .val (.ref b)] [])
  refine Goes.of (fun _ => XS.aloadN X1.here hx rfl (hb hby d1_4) rfl rfl) ?_
  show Goes p e below _ T1 (mkF m 5 #[.val (.ref a), .val (.ref b)] [(.ref b)])
  refine goLen X1 hx hZ eT1 Vb (g := (mkF m 5 #[.val (.ref a), .val (.ref b)] [(.ref b)])) rfl rfl (hb hby d1_5) ?_
  show Goes p e below _ T1 (mkF m 6 #[.val (.ref a), .val (.ref b)] [(.int n)])
  refine Goes.of (fun _ => XS.ifYes X1.here hx rfl (pc0 := 6) (pc' := 19) rfl (hb hby d1_6) rfl ((if0 _ _).trans (feq hn0).2) (by decide) (by decide)) ?_
  show Goes p e below _ T1 (mkF m 19 #[.val (.ref a), .val (.ref b)] [])
  refine Goes.of (fun _ => XS.aloadN X1.here hx rfl (hb hby d1_19) rfl rfl) ?_
  show Goes p e below _ T1 (mkF m 20 #[.val (.ref a), .val (.ref b)] [(.ref a)])
  refine Goes.of (fun _ => XS.aloadN X1.here hx rfl (hb hby d1_20) rfl rfl) ?_
  show Goes p e below _ T1 (mkF m 21 #[.val (.ref a), .val (.ref b)] [(.ref b), (.ref a)])
  refine goClone 1 4 X1 hx hZ hown (hw _ (List.mem_of_getElem? (i := 16) rfl)) (hw _ (List.mem_of_getElem? (i := 17) rfl)) (hw _ (List.mem_of_getElem? (i := 21) rfl)) (hw _ (List.mem_of_getElem? (i := 19) rfl)) (hw _ (List.mem_of_getElem? (i := 20) rfl)) (hw _ (List.mem_of_getElem? (i := 22) rfl)) eT1 Vb Eb (g := (mkF m 21 #[.val (.ref a), .val (.ref b)] [(.ref b), (.ref a)])) rfl (by rw [hml]; rfl) rfl (hb hby d1_21) (by decide) (by show 2 * 0 + _ ≤ _; exact Nat.le_of_eq rfl) (by decide) hn4 (by decide) (by decide) ?_
  intro T3 h3 b3 X3 eT3 E3 hb3 V3 A3
  have g_b3 : n0 ≤ b3 := Nat.le_trans (oldLe O0) hb3
  have sz_b3 : h0.size ≤ b3 := Nat.le_trans Kp.1 hb3
  have ne_a_b3 : a ≠ b3 := Nat.ne_of_lt (Nat.lt_of_lt_of_le Ex.lt hb3)
  have ne_b_b3 : b ≠ b3 := Nat.ne_of_lt (Nat.lt_of_lt_of_le Vb.lt hb3)
  have Ex := Ex.ext E3
  have F0 := F0.ext E3
  have Vb := Vb.ext E3
  have Eb := Eb.ext E3
  have Kp := Kp.ext E3
  have O0 := O0.ext E3
  show Goes p e below _ T3 (mkF m 24 #[.val (.ref a), .val (.ref b)] [(.ref b3), (.ref a)])
  refine goCast X3 hx hZ hown (hw _ (List.mem_of_getElem? (i := 23) rfl)) eT3 (Ins.self A3) (g := (mkF m 24 #[.val (.ref a), .val (.ref b)] [(.ref b3), (.ref a)])) rfl rfl (hb hby d1_24) ?_
  intro T4 X4 eT4
  show Goes p e below _ T4 (mkF m 27 #[.val (.ref a), .val (.ref b)] [(.ref b3), (.ref a)])
  refine goPut (ty := (.array .byte)) X4 hx hZ hown (host := "") (Or.inl (hw _ (List.mem_of_getElem? (i := 25) rfl))) Via.refl eT4 F0 Ex (Or.inr ⟨(hw _ (List.mem_of_getElem? (i := 26) rfl)), rfl, hnm⟩) (hw _ (List.mem_of_getElem? (i := 3) rfl)) (by decide) rfl rfl (g := (mkF m 27 #[.val (.ref a), .val (.ref b)] [(.ref b3), (.ref a)])) rfl rfl (hb hby d1_27) ?_
  intro T5 h5 X5 eT5 W5
  have F0 := Fld.same W5 F0
  have N5 := Fr.snoc X5 N1 g_a
  have Ex := Ex.wr W5
  have Vb := Vb.other W5 (Ne.symm hab)
  have Eb := Eb.wr W5
  have V3 := V3.other W5 (Ne.symm ne_a_b3)
  have A3 := A3.wr W5
  have Kp := Kp.wr W5 (Or.inl (List.mem_of_getElem? (i := 0) rfl))
  have O0 := O0.wr W5 g_a
  show Goes p e below _ T5 (mkF m 30 #[.val (.ref a), .val (.ref b)] [])
  exact retVoid X5 hx hret hlk (hb hby d1_30) eT5 (by decide) (by decide) ⟨rfl, N5, Kp⟩
set_option maxRecDepth 65536 in
set_option maxHeartbeats 40000000 in
theorem rm_law (l : Launch) (Z : State) (a0 : Array Value) (hw : ∀ d ∈ tables_1, d.before a0 Z = true) (ws : List Jvm.Cond) (p1 p2 p3 p4 p5 : Int32) (w0 : Addr) (w1 : Addr) (w2 : Addr) (w3 : Addr) (w4 : Addr) (w5 : Addr) (w6 : Addr) (w7 : Addr) (w8 : Addr) (y0 y1 y2 : Addr) (h0 : Heap) (n0 : Nat) (O0 : Old Z n0 h0) (c0 : Cst Z "com/example/claimgate/claimgate/token/Algorithm" "HS256" "Lcom/example/claimgate/claimgate/token/Algorithm;" w0) (c1 : Cst Z "com/example/claimgate/claimgate/token/Algorithm" "HS384" "Lcom/example/claimgate/claimgate/token/Algorithm;" w1) (c2 : Cst Z "com/example/claimgate/claimgate/token/Algorithm" "HS512" "Lcom/example/claimgate/claimgate/token/Algorithm;" w2) (c3 : Cst Z "com/example/claimgate/claimgate/token/Algorithm" "RS256" "Lcom/example/claimgate/claimgate/token/Algorithm;" w3) (c4 : Cst Z "com/example/claimgate/claimgate/token/Algorithm" "RS384" "Lcom/example/claimgate/claimgate/token/Algorithm;" w4) (c5 : Cst Z "com/example/claimgate/claimgate/token/Algorithm" "RS512" "Lcom/example/claimgate/claimgate/token/Algorithm;" w5) (c6 : Cst Z "com/example/claimgate/claimgate/token/Algorithm" "ES256" "Lcom/example/claimgate/claimgate/token/Algorithm;" w6) (c7 : Cst Z "com/example/claimgate/claimgate/token/Algorithm" "ES384" "Lcom/example/claimgate/claimgate/token/Algorithm;" w7) (c8 : Cst Z "com/example/claimgate/claimgate/token/Algorithm" "ES512" "Lcom/example/claimgate/claimgate/token/Algorithm;" w8) (m0 : Fld Z Z.heap w0 "com/example/claimgate/claimgate/token/Algorithm" "family" "Lcom/example/claimgate/claimgate/token/Algorithm$Family;" (.ref y0)) (m1 : Fld Z Z.heap w1 "com/example/claimgate/claimgate/token/Algorithm" "family" "Lcom/example/claimgate/claimgate/token/Algorithm$Family;" (.ref y0)) (m2 : Fld Z Z.heap w2 "com/example/claimgate/claimgate/token/Algorithm" "family" "Lcom/example/claimgate/claimgate/token/Algorithm$Family;" (.ref y0)) (m3 : Fld Z Z.heap w3 "com/example/claimgate/claimgate/token/Algorithm" "family" "Lcom/example/claimgate/claimgate/token/Algorithm$Family;" (.ref y1)) (m4 : Fld Z Z.heap w4 "com/example/claimgate/claimgate/token/Algorithm" "family" "Lcom/example/claimgate/claimgate/token/Algorithm$Family;" (.ref y1)) (m5 : Fld Z Z.heap w5 "com/example/claimgate/claimgate/token/Algorithm" "family" "Lcom/example/claimgate/claimgate/token/Algorithm$Family;" (.ref y1)) (m6 : Fld Z Z.heap w6 "com/example/claimgate/claimgate/token/Algorithm" "family" "Lcom/example/claimgate/claimgate/token/Algorithm$Family;" (.ref y2)) (m7 : Fld Z Z.heap w7 "com/example/claimgate/claimgate/token/Algorithm" "family" "Lcom/example/claimgate/claimgate/token/Algorithm$Family;" (.ref y2)) (m8 : Fld Z Z.heap w8 "com/example/claimgate/claimgate/token/Algorithm" "family" "Lcom/example/claimgate/claimgate/token/Algorithm$Family;" (.ref y2)) (f0 : Con Z "com/example/claimgate/claimgate/token/Algorithm$Family" "HMAC" "Lcom/example/claimgate/claimgate/token/Algorithm$Family;" 0 y0) (f1 : Con Z "com/example/claimgate/claimgate/token/Algorithm$Family" "RSA" "Lcom/example/claimgate/claimgate/token/Algorithm$Family;" 1 y1) (f2 : Con Z "com/example/claimgate/claimgate/token/Algorithm$Family" "ECDSA" "Lcom/example/claimgate/claimgate/token/Algorithm$Family;" 2 y2) :
    Rm l x code maxLocals ret room_1 ws Z #[(.int p1), (.int p2), (.int p3), (.int p4), (.int p5)] h0 (fun v h L => v = some (.int 1) ∧ Fr n0 L) := by
  refine Rm.of (plainFor_of_name pn_com_example_claimgate_claimgate_token_HmacKeyChecksPinLaw) ?_
  intro p e s m below meth cod T X hx hZ hby hml hown hnm hret hlk eT0
  have hown : s.vm.findClass "com/example/claimgate/claimgate/token/HmacKeyChecksPinLaw" = some m.cls := hown
  have hnm : meth.name = "law" := hnm
  have N0 := Fr.nil n0
  refine Goes.cast (ef_0 m p1 p2 p3 p4 p5) ?_
  show Goes p e below _ T (mkF m 0 #[.val (.int p1), .val (.int p2), .val (.int p3), .val (.int p4), .val (.int p5), .unset, .unset, .unset, .unset, .unset] [])
  refine Goes.of (fun _ => XS.iloadN X.here hx rfl (hb hby at_0) rfl) ?_
  show Goes p e below _ T (mkF m 1 #[.val (.int p1), .val (.int p2), .val (.int p3), .val (.int p4), .val (.int p5), .unset, .unset, .unset, .unset, .unset] [(.int p1)])
  refine Goes.of (fun _ => X.ldcInt hx hown (mvT hZ (hw _ (List.mem_of_getElem? (i := 0) rfl))) (g := (mkF m 1 #[.val (.int p1), .val (.int p2), .val (.int p3), .val (.int p4), .val (.int p5), .unset, .unset, .unset, .unset, .unset] [(.int p1)])) rfl (hb hby at_1) _) ?_
  show Goes p e below _ T (mkF m 3 #[.val (.int p1), .val (.int p2), .val (.int p3), .val (.int p4), .val (.int p5), .unset, .unset, .unset, .unset, .unset] [(.int (2147483647 : Int32)), (.int p1)])
  refine Goes.of (fun _ => XS.iand X.here hx rfl (hb hby at_3) rfl) ?_
  show Goes p e below _ T (mkF m 4 #[.val (.int p1), .val (.int p2), .val (.int p3), .val (.int p4), .val (.int p5), .unset, .unset, .unset, .unset, .unset] [(.int (p1 &&& (2147483647 : Int32)))])
  refine Goes.of (fun _ => XS.bipush X.here hx rfl (hb hby at_4)) ?_
  show Goes p e below _ T (mkF m 6 #[.val (.int p1), .val (.int p2), .val (.int p3), .val (.int p4), .val (.int p5), .unset, .unset, .unset, .unset, .unset] [(.int (9 : Int32)), (.int (p1 &&& (2147483647 : Int32)))])
  refine Goes.of (fun _ => XS.irem X.here hx rfl (hb hby at_6) rfl (by decide)) ?_
  show Goes p e below _ T (mkF m 7 #[.val (.int p1), .val (.int p2), .val (.int p3), .val (.int p4), .val (.int p5), .unset, .unset, .unset, .unset, .unset] [(.int ((p1 &&& (2147483647 : Int32)) - ((p1 &&& (2147483647 : Int32)) / (9 : Int32)) * (9 : Int32)))])
  refine Goes.of (fun _ => XS.istore X.here hx rfl (hb hby at_7) rfl (l' := #[.val (.int p1), .val (.int p2), .val (.int p3), .val (.int p4), .val (.int p5), .val (.int ((p1 &&& (2147483647 : Int32)) - ((p1 &&& (2147483647 : Int32)) / (9 : Int32)) * (9 : Int32))), .unset, .unset, .unset, .unset]) rfl) ?_
  show Goes p e below _ T (mkF m 9 #[.val (.int p1), .val (.int p2), .val (.int p3), .val (.int p4), .val (.int p5), .val (.int ((p1 &&& (2147483647 : Int32)) - ((p1 &&& (2147483647 : Int32)) / (9 : Int32)) * (9 : Int32))), .unset, .unset, .unset, .unset] [])
  generalize hi : ((p1 &&& (2147483647 : Int32)) - ((p1 &&& (2147483647 : Int32)) / (9 : Int32)) * (9 : Int32)) = i
  show Goes p e below _ T (mkF m 9 #[.val (.int p1), .val (.int p2), .val (.int p3), .val (.int p4), .val (.int p5), .val (.int i), .unset, .unset, .unset, .unset] [])
  have hi0 : 0 ≤ i.toInt := by rw [← hi, rem31 _ _ (k := 9) rfl]; omega
  have hi9 : i.toInt < 9 := by rw [← hi, rem31 _ _ (k := 9) rfl]; omega
  show Goes p e below _ T (mkF m 9 #[.val (.int p1), .val (.int p2), .val (.int p3), .val (.int p4), .val (.int p5), .val (.int i), .unset, .unset, .unset, .unset] [])
  refine Goes.of (fun _ => XS.iconst X.here hx rfl (hb hby at_9)) ?_
  show Goes p e below _ T (mkF m 10 #[.val (.int p1), .val (.int p2), .val (.int p3), .val (.int p4), .val (.int p5), .val (.int i), .unset, .unset, .unset, .unset] [(.int (1 : Int32))])
  refine Goes.of (fun _ => XS.iloadN X.here hx rfl (hb hby at_10) rfl) ?_
  show Goes p e below _ T (mkF m 11 #[.val (.int p1), .val (.int p2), .val (.int p3), .val (.int p4), .val (.int p5), .val (.int i), .unset, .unset, .unset, .unset] [(.int p2), (.int (1 : Int32))])
  refine Goes.of (fun _ => XS.iconst X.here hx rfl (hb hby at_11)) ?_
  show Goes p e below _ T (mkF m 12 #[.val (.int p1), .val (.int p2), .val (.int p3), .val (.int p4), .val (.int p5), .val (.int i), .unset, .unset, .unset, .unset] [(.int (3 : Int32)), (.int p2), (.int (1 : Int32))])
  refine Goes.of (fun _ => XS.iand X.here hx rfl (hb hby at_12) rfl) ?_
  show Goes p e below _ T (mkF m 13 #[.val (.int p1), .val (.int p2), .val (.int p3), .val (.int p4), .val (.int p5), .val (.int i), .unset, .unset, .unset, .unset] [(.int (p2 &&& (3 : Int32))), (.int (1 : Int32))])
  refine Goes.of (fun _ => XS.iadd X.here hx rfl (hb hby at_13) rfl) ?_
  show Goes p e below _ T (mkF m 14 #[.val (.int p1), .val (.int p2), .val (.int p3), .val (.int p4), .val (.int p5), .val (.int i), .unset, .unset, .unset, .unset] [(.int ((1 : Int32) + (p2 &&& (3 : Int32))))])
  refine Goes.of (fun _ => XS.istore X.here hx rfl (hb hby at_14) rfl (l' := #[.val (.int p1), .val (.int p2), .val (.int p3), .val (.int p4), .val (.int p5), .val (.int i), .val (.int ((1 : Int32) + (p2 &&& (3 : Int32)))), .unset, .unset, .unset]) rfl) ?_
  show Goes p e below _ T (mkF m 16 #[.val (.int p1), .val (.int p2), .val (.int p3), .val (.int p4), .val (.int p5), .val (.int i), .val (.int ((1 : Int32) + (p2 &&& (3 : Int32)))), .unset, .unset, .unset] [])
  generalize hj : (p2 &&& (3 : Int32)) = j
  show Goes p e below _ T (mkF m 16 #[.val (.int p1), .val (.int p2), .val (.int p3), .val (.int p4), .val (.int p5), .val (.int i), .val (.int ((1 : Int32) + j)), .unset, .unset, .unset] [])
  have hj4 := case4 j (hj ▸ (n4 p2).1) (hj ▸ (n4 p2).2)
  rcases hj4 with rfl | rfl | rfl | rfl
  · show Goes p e below _ T (mkF m 16 #[.val (.int p1), .val (.int p2), .val (.int p3), .val (.int p4), .val (.int p5), .val (.int i), .val (.int ((1 : Int32) + (0 : Int32))), .unset, .unset, .unset] [])
    show Goes p e below _ T (mkF m 16 #[.val (.int p1), .val (.int p2), .val (.int p3), .val (.int p4), .val (.int p5), .val (.int i), .val (.int (1 : Int32)), .unset, .unset, .unset] [])
    refine Goes.of (fun _ => XS.iload X.here hx rfl (hb hby at_16) rfl) ?_
    show Goes p e below _ T (mkF m 18 #[.val (.int p1), .val (.int p2), .val (.int p3), .val (.int p4), .val (.int p5), .val (.int i), .val (.int (1 : Int32)), .unset, .unset, .unset] [(.int (1 : Int32))])
    refine goNewP 1 X hx hZ (hw _ (List.mem_of_getElem? (i := 1) rfl)) eT0 (g := (mkF m 18 #[.val (.int p1), .val (.int p2), .val (.int p3), .val (.int p4), .val (.int p5), .val (.int i), .val (.int (1 : Int32)), .unset, .unset, .unset] [(.int (1 : Int32))])) rfl (hb hby at_18) rfl (by decide) (by decide) (by decide) (by decide) (by decide) (ad := "[B") (by first | rfl | decide) ?_
    intro T1 h1 b1 kA1 X1 eT1 E1 hb1 V1 A1
    have g_b1 : n0 ≤ b1 := Nat.le_trans (oldLe O0) hb1
    have O0 := O0.ext E1
    have V1 : Arv Z h1 b1 kA1 .byte (1 : Int32) [(.int (0 : Int32))] (.int (0 : Int32)) := V1
    show Goes p e below _ T1 (mkF m 20 #[.val (.int p1), .val (.int p2), .val (.int p3), .val (.int p4), .val (.int p5), .val (.int i), .val (.int (1 : Int32)), .unset, .unset, .unset] [(.ref b1)])
    refine Goes.of (fun _ => XS.astore X1.here hx rfl (hb hby at_20) rfl rfl (l' := #[.val (.int p1), .val (.int p2), .val (.int p3), .val (.int p4), .val (.int p5), .val (.int i), .val (.int (1 : Int32)), .val (.ref b1), .unset, .unset]) rfl) ?_
    show Goes p e below _ T1 (mkF m 22 #[.val (.int p1), .val (.int p2), .val (.int p3), .val (.int p4), .val (.int p5), .val (.int i), .val (.int (1 : Int32)), .val (.ref b1), .unset, .unset] [])
    refine Goes.of (fun _ => XS.aload X1.here hx rfl (hb hby at_22) rfl rfl) ?_
    show Goes p e below _ T1 (mkF m 24 #[.val (.int p1), .val (.int p2), .val (.int p3), .val (.int p4), .val (.int p5), .val (.int i), .val (.int (1 : Int32)), .val (.ref b1), .unset, .unset] [(.ref b1)])
    refine Goes.of (fun _ => XS.iconst X1.here hx rfl (hb hby at_24)) ?_
    show Goes p e below _ T1 (mkF m 25 #[.val (.int p1), .val (.int p2), .val (.int p3), .val (.int p4), .val (.int p5), .val (.int i), .val (.int (1 : Int32)), .val (.ref b1), .unset, .unset] [(.int (0 : Int32)), (.ref b1)])
    refine Goes.of (fun _ => XS.iloadN X1.here hx rfl (hb hby at_25) rfl) ?_
    show Goes p e below _ T1 (mkF m 26 #[.val (.int p1), .val (.int p2), .val (.int p3), .val (.int p4), .val (.int p5), .val (.int i), .val (.int (1 : Int32)), .val (.ref b1), .unset, .unset] [(.int p3), (.int (0 : Int32)), (.ref b1)])
    refine Goes.of (fun _ => XS.i2b X1.here hx rfl (hb hby at_26) rfl) ?_
    show Goes p e below _ T1 (mkF m 27 #[.val (.int p1), .val (.int p2), .val (.int p3), .val (.int p4), .val (.int p5), .val (.int i), .val (.int (1 : Int32)), .val (.ref b1), .unset, .unset] [(.int (p3.toInt8.toInt32)), (.int (0 : Int32)), (.ref b1)])
    refine goStB 0 X1 hx hZ eT1 V1 (by decide) (by decide) rfl (Nat.lt_of_lt_of_le (Nat.lt_succ_self _) (Nat.le_of_ble_eq_true rfl)) (g := (mkF m 27 #[.val (.int p1), .val (.int p2), .val (.int p3), .val (.int p4), .val (.int p5), .val (.int i), .val (.int (1 : Int32)), .val (.ref b1), .unset, .unset] [(.int (p3.toInt8.toInt32)), (.int (0 : Int32)), (.ref b1)])) rfl rfl (hb hby at_27) ?_
    intro T2 h2 X2 eT2 W2 V1
    have N2 := Fr.snoc X2 N0 g_b1
    have A1 := A1.wr W2
    have O0 := O0.wr W2 g_b1
    have V1 : Arv Z h2 b1 kA1 .byte (1 : Int32) [(.int (nar .byte (p3.toInt8.toInt32)))] (.int (0 : Int32)) := V1
    show Goes p e below _ T2 (mkF m 28 #[.val (.int p1), .val (.int p2), .val (.int p3), .val (.int p4), .val (.int p5), .val (.int i), .val (.int (1 : Int32)), .val (.ref b1), .unset, .unset] [])
    refine Goes.of (fun _ => XS.iload X2.here hx rfl (hb hby at_28) rfl) ?_
    show Goes p e below _ T2 (mkF m 30 #[.val (.int p1), .val (.int p2), .val (.int p3), .val (.int p4), .val (.int p5), .val (.int i), .val (.int (1 : Int32)), .val (.ref b1), .unset, .unset] [(.int (1 : Int32))])
    refine Goes.of (fun _ => XS.iconst X2.here hx rfl (hb hby at_30)) ?_
    show Goes p e below _ T2 (mkF m 31 #[.val (.int p1), .val (.int p2), .val (.int p3), .val (.int p4), .val (.int p5), .val (.int i), .val (.int (1 : Int32)), .val (.ref b1), .unset, .unset] [(.int (1 : Int32)), (.int (1 : Int32))])
    refine Goes.of (fun _ => XS.icmpYes X2.here hx rfl (pc0 := 31) (pc' := 40) rfl (hb hby at_31) rfl (flt (by decide)).2.2.2 (by decide) (by decide)) ?_
    show Goes p e below _ T2 (mkF m 40 #[.val (.int p1), .val (.int p2), .val (.int p3), .val (.int p4), .val (.int p5), .val (.int i), .val (.int (1 : Int32)), .val (.ref b1), .unset, .unset] [])
    refine Goes.of (fun _ => XS.iload X2.here hx rfl (hb hby at_40) rfl) ?_
    show Goes p e below _ T2 (mkF m 42 #[.val (.int p1), .val (.int p2), .val (.int p3), .val (.int p4), .val (.int p5), .val (.int i), .val (.int (1 : Int32)), .val (.ref b1), .unset, .unset] [(.int (1 : Int32))])
    refine Goes.of (fun _ => XS.iconst X2.here hx rfl (hb hby at_42)) ?_
    show Goes p e below _ T2 (mkF m 43 #[.val (.int p1), .val (.int p2), .val (.int p3), .val (.int p4), .val (.int p5), .val (.int i), .val (.int (1 : Int32)), .val (.ref b1), .unset, .unset] [(.int (2 : Int32)), (.int (1 : Int32))])
    refine Goes.of (fun _ => XS.icmpYes X2.here hx rfl (pc0 := 43) (pc' := 53) rfl (hb hby at_43) rfl (flt (by decide)).2.2.2 (by decide) (by decide)) ?_
    show Goes p e below _ T2 (mkF m 53 #[.val (.int p1), .val (.int p2), .val (.int p3), .val (.int p4), .val (.int p5), .val (.int i), .val (.int (1 : Int32)), .val (.ref b1), .unset, .unset] [])
    refine Goes.of (fun _ => XS.iload X2.here hx rfl (hb hby at_53) rfl) ?_
    show Goes p e below _ T2 (mkF m 55 #[.val (.int p1), .val (.int p2), .val (.int p3), .val (.int p4), .val (.int p5), .val (.int i), .val (.int (1 : Int32)), .val (.ref b1), .unset, .unset] [(.int (1 : Int32))])
    refine Goes.of (fun _ => XS.iconst X2.here hx rfl (hb hby at_55)) ?_
    show Goes p e below _ T2 (mkF m 56 #[.val (.int p1), .val (.int p2), .val (.int p3), .val (.int p4), .val (.int p5), .val (.int i), .val (.int (1 : Int32)), .val (.ref b1), .unset, .unset] [(.int (3 : Int32)), (.int (1 : Int32))])
    refine Goes.of (fun _ => XS.icmpYes X2.here hx rfl (pc0 := 56) (pc' := 67) rfl (hb hby at_56) rfl (flt (by decide)).2.2.2 (by decide) (by decide)) ?_
    show Goes p e below _ T2 (mkF m 67 #[.val (.int p1), .val (.int p2), .val (.int p3), .val (.int p4), .val (.int p5), .val (.int i), .val (.int (1 : Int32)), .val (.ref b1), .unset, .unset] [])
    refine goNew X2 hx hZ hown (hw _ (List.mem_of_getElem? (i := 2) rfl)) (hw _ (List.mem_of_getElem? (i := 3) rfl)) (hw _ (List.mem_of_getElem? (i := 4) rfl)) eT2 (g := (mkF m 67 #[.val (.int p1), .val (.int p2), .val (.int p3), .val (.int p4), .val (.int p5), .val (.int i), .val (.int (1 : Int32)), .val (.ref b1), .unset, .unset] [])) rfl (hb hby at_67) (by decide) (by decide) ?_
    intro T3 h3 b3 X3 eT3 E3 hb3 A3 D3
    have g_b3 : n0 ≤ b3 := Nat.le_trans (oldLe O0) hb3
    have ne_b1_b3 : b1 ≠ b3 := Nat.ne_of_lt (Nat.lt_of_lt_of_le V1.lt hb3)
    have V1 := V1.ext E3
    have A1 := A1.ext E3
    have O0 := O0.ext E3
    have F3_secret : Fld Z h3 b3 "com/example/claimgate/claimgate/token/HmacKey" "secret" "[B" .null := D3 (Or.inr (hw _ (List.mem_of_getElem? (i := 26) rfl))) (ty := (.array .byte)) (by decide)
    show Goes p e below _ T3 (mkF m 70 #[.val (.int p1), .val (.int p2), .val (.int p3), .val (.int p4), .val (.int p5), .val (.int i), .val (.int (1 : Int32)), .val (.ref b1), .unset, .unset] [(.ref b3)])
    refine Goes.of (fun _ => XS.dup X3.here hx rfl (hb hby at_70) rfl rfl) ?_
    show Goes p e below _ T3 (mkF m 71 #[.val (.int p1), .val (.int p2), .val (.int p3), .val (.int p4), .val (.int p5), .val (.int i), .val (.int (1 : Int32)), .val (.ref b1), .unset, .unset] [(.ref b3), (.ref b3)])
    refine Goes.of (fun _ => XS.aload X3.here hx rfl (hb hby at_71) rfl rfl) ?_
    show Goes p e below _ T3 (mkF m 73 #[.val (.int p1), .val (.int p2), .val (.int p3), .val (.int p4), .val (.int p5), .val (.int i), .val (.int (1 : Int32)), .val (.ref b1), .unset, .unset] [(.ref b1), (.ref b3), (.ref b3)])
    refine goSpecial 1 X3 hx hZ rfl hown (hw _ (List.mem_of_getElem? (i := 5) rfl)) (hw _ (List.mem_of_getElem? (i := 6) rfl)) (hw _ (List.mem_of_getElem? (i := 4) rfl)) (hw _ (List.mem_of_getElem? (i := 7) rfl)) (by decide) (rm_init l Z a0 hw b3 b1 _ _ _ _ h3 n0 O0 g_b3 (Ne.symm ne_b1_b3) A3 F3_secret V1 A1 (by decide) (by decide)) eT3 (g := (mkF m 73 #[.val (.int p1), .val (.int p2), .val (.int p3), .val (.int p4), .val (.int p5), .val (.int i), .val (.int (1 : Int32)), .val (.ref b1), .unset, .unset] [(.ref b1), (.ref b3), (.ref b3)])) rfl (by rw [hml]; rfl) b3 [(.ref b1)] [(.ref b3)] (lenOf pd___B_V rfl) rfl rfl (by show 2 * 0 + _ ≤ _; exact Nat.le_of_eq rfl) (hb hby at_73) (by decide) (by decide) (by decide) (by decide) ?_
    intro v4 T4 L4 X4 q4
    obtain ⟨rfl, Nq4, Kq4⟩ := q4
    have N4 := Fr.app N2 Nq4
    have V1 := V1.keep Kq4 (ninS ne_b1_b3 nin0)
    have A1 := A1.keep Kq4
    have A3 := A3.keep Kq4
    have O0 := O0.keep Kq4 (allS g_b3 all0)
    show Goes p e below _ T4 (mkF m 76 #[.val (.int p1), .val (.int p2), .val (.int p3), .val (.int p4), .val (.int p5), .val (.int i), .val (.int (1 : Int32)), .val (.ref b1), .unset, .unset] [(.ref b3)])
    refine Goes.of (fun _ => XS.astore X4.here hx rfl (hb hby at_76) rfl rfl (l' := #[.val (.int p1), .val (.int p2), .val (.int p3), .val (.int p4), .val (.int p5), .val (.int i), .val (.int (1 : Int32)), .val (.ref b1), .val (.ref b3), .unset]) rfl) ?_
    show Goes p e below _ T4 (mkF m 78 #[.val (.int p1), .val (.int p2), .val (.int p3), .val (.int p4), .val (.int p5), .val (.int i), .val (.int (1 : Int32)), .val (.ref b1), .val (.ref b3), .unset] [])
    refine Goes.of (fun _ => XS.iload X4.here hx rfl (hb hby at_78) rfl) ?_
    show Goes p e below _ T4 (mkF m 80 #[.val (.int p1), .val (.int p2), .val (.int p3), .val (.int p4), .val (.int p5), .val (.int i), .val (.int (1 : Int32)), .val (.ref b1), .val (.ref b3), .unset] [(.int i)])
    refine Goes.of (fun _ => XS.iconst X4.here hx rfl (hb hby at_80)) ?_
    show Goes p e below _ T4 (mkF m 81 #[.val (.int p1), .val (.int p2), .val (.int p3), .val (.int p4), .val (.int p5), .val (.int i), .val (.int (1 : Int32)), .val (.ref b1), .val (.ref b3), .unset] [(.int (2 : Int32)), (.int i)])
    refine Goes.of (T' := T4) (f' := (mkF m 89 #[.val (.int p1), .val (.int p2), .val (.int p3), .val (.int p4), .val (.int p5), .val (.int i), .val (.int (1 : Int32)), .val (.ref b1), .val (.ref b3), .unset] [(.int (if (2 : Int32) < i then (0 : Int32) else (1 : Int32)))])) (fun t kt => ?_) ?_
    · show Steps p.tables e below (T4.setTop (mkF m 81 #[.val (.int p1), .val (.int p2), .val (.int p3), .val (.int p4), .val (.int p5), .val (.int i), .val (.int (1 : Int32)), .val (.ref b1), .val (.ref b3), .unset] [(.int (2 : Int32)), (.int i)])) _
      by_cases hq81 : (2 : Int32) < i
      · simp only [if_pos hq81] at kt
        refine XS.icmpYes X4.here hx rfl (pc0 := 81) (pc' := 88) rfl (hb hby at_81) rfl (tlt hq81).2.2.1 (by decide) (by decide) ?_
        show Steps p.tables e below (T4.setTop (mkF m 88 #[.val (.int p1), .val (.int p2), .val (.int p3), .val (.int p4), .val (.int p5), .val (.int i), .val (.int (1 : Int32)), .val (.ref b1), .val (.ref b3), .unset] [])) _
        refine XS.iconst X4.here hx rfl (hb hby at_88) ?_
        show Steps p.tables e below (T4.setTop (mkF m 89 #[.val (.int p1), .val (.int p2), .val (.int p3), .val (.int p4), .val (.int p5), .val (.int i), .val (.int (1 : Int32)), .val (.ref b1), .val (.ref b3), .unset] [(.int (0 : Int32))])) _
        exact kt
      · simp only [if_neg hq81] at kt
        refine XS.icmpNo X4.here hx rfl (hb hby at_81) rfl (flt hq81).2.2.1 ?_
        show Steps p.tables e below (T4.setTop (mkF m 84 #[.val (.int p1), .val (.int p2), .val (.int p3), .val (.int p4), .val (.int p5), .val (.int i), .val (.int (1 : Int32)), .val (.ref b1), .val (.ref b3), .unset] [])) _
        refine XS.iconst X4.here hx rfl (hb hby at_84) ?_
        show Steps p.tables e below (T4.setTop (mkF m 85 #[.val (.int p1), .val (.int p2), .val (.int p3), .val (.int p4), .val (.int p5), .val (.int i), .val (.int (1 : Int32)), .val (.ref b1), .val (.ref b3), .unset] [(.int (1 : Int32))])) _
        refine XS.goto X4.here hx rfl (pc0 := 85) (pc' := 89) rfl (hb hby at_85) (by decide) (by decide) ?_
        show Steps p.tables e below (T4.setTop (mkF m 89 #[.val (.int p1), .val (.int p2), .val (.int p3), .val (.int p4), .val (.int p5), .val (.int i), .val (.int (1 : Int32)), .val (.ref b1), .val (.ref b3), .unset] [(.int (1 : Int32))])) _
        exact kt
    show Goes p e below _ T4 (mkF m 89 #[.val (.int p1), .val (.int p2), .val (.int p3), .val (.int p4), .val (.int p5), .val (.int i), .val (.int (1 : Int32)), .val (.ref b1), .val (.ref b3), .unset] [(.int (if (2 : Int32) < i then (0 : Int32) else (1 : Int32)))])
    refine Goes.of (fun _ => XS.istore X4.here hx rfl (hb hby at_89) rfl (l' := #[.val (.int p1), .val (.int p2), .val (.int p3), .val (.int p4), .val (.int p5), .val (.int i), .val (.int (1 : Int32)), .val (.ref b1), .val (.ref b3), .val (.int (if (2 : Int32) < i then (0 : Int32) else (1 : Int32)))]) rfl) ?_
    show Goes p e below _ T4 (mkF m 91 #[.val (.int p1), .val (.int p2), .val (.int p3), .val (.int p4), .val (.int p5), .val (.int i), .val (.int (1 : Int32)), .val (.ref b1), .val (.ref b3), .val (.int (if (2 : Int32) < i then (0 : Int32) else (1 : Int32)))] [])
    refine Goes.of (fun _ => XS.aload X4.here hx rfl (hb hby at_91) rfl rfl) ?_
    show Goes p e below _ T4 (mkF m 93 #[.val (.int p1), .val (.int p2), .val (.int p3), .val (.int p4), .val (.int p5), .val (.int i), .val (.int (1 : Int32)), .val (.ref b1), .val (.ref b3), .val (.int (if (2 : Int32) < i then (0 : Int32) else (1 : Int32)))] [(.ref b3)])
    refine Goes.of (fun _ => XS.iload X4.here hx rfl (hb hby at_93) rfl) ?_
    show Goes p e below _ T4 (mkF m 95 #[.val (.int p1), .val (.int p2), .val (.int p3), .val (.int p4), .val (.int p5), .val (.int i), .val (.int (1 : Int32)), .val (.ref b1), .val (.ref b3), .val (.int (if (2 : Int32) < i then (0 : Int32) else (1 : Int32)))] [(.int i), (.ref b3)])
    refine goStatic 1 X4 hx hZ hown (hw _ (List.mem_of_getElem? (i := 27) rfl)) (hw _ (List.mem_of_getElem? (i := 28) rfl)) (hw _ (List.mem_of_getElem? (i := 29) rfl)) (hw _ (List.mem_of_getElem? (i := 30) rfl)) (by decide) (rm_pick l Z a0 hw i w0 w1 w2 w3 w4 w5 w6 w7 w8 T4.heap n0 O0 c0 c1 c2 c3 c4 c5 c6 c7 c8) (rfl : T4.heap = _) (g := (mkF m 95 #[.val (.int p1), .val (.int p2), .val (.int p3), .val (.int p4), .val (.int p5), .val (.int i), .val (.int (1 : Int32)), .val (.ref b1), .val (.ref b3), .val (.int (if (2 : Int32) < i then (0 : Int32) else (1 : Int32)))] [(.int i), (.ref b3)])) rfl (by rw [hml]; rfl) [(.int i)] [(.ref b3)] (lenOf pd__I_Lcom_example_claimgate_claimgate_token_Algorithm_ rfl) rfl rfl (by show 2 * 0 + _ ≤ _; exact Nat.le_of_eq rfl) (hb hby at_95) (by decide) (by decide) (by decide) (by decide) ?_
    intro v5 T5 L5 X5 q5
    obtain ⟨rfl, Nq5, eT5⟩ := q5
    have N5 := Fr.app N4 Nq5
    show Goes p e below _ T5 (mkF m 98 #[.val (.int p1), .val (.int p2), .val (.int p3), .val (.int p4), .val (.int p5), .val (.int i), .val (.int (1 : Int32)), .val (.ref b1), .val (.ref b3), .val (.int (if (2 : Int32) < i then (0 : Int32) else (1 : Int32)))] [(.ref (pickW i w0 w1 w2 w3 w4 w5 w6 w7 w8)), (.ref b3)])
    refine goVirtual 0 X5 hx hZ hown (hw _ (List.mem_of_getElem? (i := 34) rfl)) (hw _ (List.mem_of_getElem? (i := 35) rfl)) (notFace_of_selects (args := #[]) (mvT hZ (hw _ (List.mem_of_getElem? (i := 37) rfl)))) (hw _ (List.mem_of_getElem? (i := 37) rfl)) (hw _ (List.mem_of_getElem? (i := 36) rfl)) (hw _ (List.mem_of_getElem? (i := 4) rfl)) (hw _ (List.mem_of_getElem? (i := 38) rfl)) (by decide) (rm_checks l Z a0 hw b3 (pickW i w0 w1 w2 w3 w4 w5 w6 w7 w8) (pickF i y0 y1 y2) y0 T4.heap n0 O0 (pick_exa i c0 c1 c2 c3 c4 c5 c6 c7 c8) (pick_fam i m0 m1 m2 m3 m4 m5 m6 m7 m8) f0) eT5 A3 (g := (mkF m 98 #[.val (.int p1), .val (.int p2), .val (.int p3), .val (.int p4), .val (.int p5), .val (.int i), .val (.int (1 : Int32)), .val (.ref b1), .val (.ref b3), .val (.int (if (2 : Int32) < i then (0 : Int32) else (1 : Int32)))] [(.ref (pickW i w0 w1 w2 w3 w4 w5 w6 w7 w8)), (.ref b3)])) rfl (by rw [hml]; rfl) [(.ref (pickW i w0 w1 w2 w3 w4 w5 w6 w7 w8))] [] (lenOf pd__Lcom_example_claimgate_claimgate_token_Algorithm__Z rfl) rfl rfl (by show 2 * 0 + _ ≤ _; exact Nat.le_of_eq rfl) (hb hby at_98) (by decide) (by decide) (by decide) (by decide) ?_
    intro v6 T6 L6 X6 q6
    obtain ⟨rfl, Nq6, eT6⟩ := q6
    have N6 := Fr.app N5 Nq6
    show Goes p e below _ T6 (mkF m 101 #[.val (.int p1), .val (.int p2), .val (.int p3), .val (.int p4), .val (.int p5), .val (.int i), .val (.int (1 : Int32)), .val (.ref b1), .val (.ref b3), .val (.int (if (2 : Int32) < i then (0 : Int32) else (1 : Int32)))] [(.int (if pickF i y0 y1 y2 = y0 then (1 : Int32) else (0 : Int32)))])
    refine Goes.of (fun _ => XS.iload X6.here hx rfl (hb hby at_101) rfl) ?_
    show Goes p e below _ T6 (mkF m 103 #[.val (.int p1), .val (.int p2), .val (.int p3), .val (.int p4), .val (.int p5), .val (.int i), .val (.int (1 : Int32)), .val (.ref b1), .val (.ref b3), .val (.int (if (2 : Int32) < i then (0 : Int32) else (1 : Int32)))] [(.int (if (2 : Int32) < i then (0 : Int32) else (1 : Int32))), (.int (if pickF i y0 y1 y2 = y0 then (1 : Int32) else (0 : Int32)))])
    refine Goes.of (fun _ => XS.icmpNo X6.here hx rfl (hb hby at_103) rfl (teq (pick_eq i f0 f1 f2 hi0 hi9)).2) ?_
    show Goes p e below _ T6 (mkF m 106 #[.val (.int p1), .val (.int p2), .val (.int p3), .val (.int p4), .val (.int p5), .val (.int i), .val (.int (1 : Int32)), .val (.ref b1), .val (.ref b3), .val (.int (if (2 : Int32) < i then (0 : Int32) else (1 : Int32)))] [])
    refine Goes.of (fun _ => XS.iconst X6.here hx rfl (hb hby at_106)) ?_
    show Goes p e below _ T6 (mkF m 107 #[.val (.int p1), .val (.int p2), .val (.int p3), .val (.int p4), .val (.int p5), .val (.int i), .val (.int (1 : Int32)), .val (.ref b1), .val (.ref b3), .val (.int (if (2 : Int32) < i then (0 : Int32) else (1 : Int32)))] [(.int (1 : Int32))])
    refine Goes.of (fun _ => XS.goto X6.here hx rfl (pc0 := 107) (pc' := 111) rfl (hb hby at_107) (by decide) (by decide)) ?_
    show Goes p e below _ T6 (mkF m 111 #[.val (.int p1), .val (.int p2), .val (.int p3), .val (.int p4), .val (.int p5), .val (.int i), .val (.int (1 : Int32)), .val (.ref b1), .val (.ref b3), .val (.int (if (2 : Int32) < i then (0 : Int32) else (1 : Int32)))] [(.int (1 : Int32))])
    exact retZ (t := .boolean) X6 hx hret hlk (by simp) (hb hby at_111) eT6 (by decide) (by decide) ⟨rfl, N6⟩
  · show Goes p e below _ T (mkF m 16 #[.val (.int p1), .val (.int p2), .val (.int p3), .val (.int p4), .val (.int p5), .val (.int i), .val (.int ((1 : Int32) + (1 : Int32))), .unset, .unset, .unset] [])
    show Goes p e below _ T (mkF m 16 #[.val (.int p1), .val (.int p2), .val (.int p3), .val (.int p4), .val (.int p5), .val (.int i), .val (.int (2 : Int32)), .unset, .unset, .unset] [])
    refine Goes.of (fun _ => XS.iload X.here hx rfl (hb hby at_16) rfl) ?_
    show Goes p e below _ T (mkF m 18 #[.val (.int p1), .val (.int p2), .val (.int p3), .val (.int p4), .val (.int p5), .val (.int i), .val (.int (2 : Int32)), .unset, .unset, .unset] [(.int (2 : Int32))])
    refine goNewP 2 X hx hZ (hw _ (List.mem_of_getElem? (i := 1) rfl)) eT0 (g := (mkF m 18 #[.val (.int p1), .val (.int p2), .val (.int p3), .val (.int p4), .val (.int p5), .val (.int i), .val (.int (2 : Int32)), .unset, .unset, .unset] [(.int (2 : Int32))])) rfl (hb hby at_18) rfl (by decide) (by decide) (by decide) (by decide) (by decide) (ad := "[B") (by first | rfl | decide) ?_
    intro T7 h7 b7 kA7 X7 eT7 E7 hb7 V7 A7
    have g_b7 : n0 ≤ b7 := Nat.le_trans (oldLe O0) hb7
    have O0 := O0.ext E7
    have V7 : Arv Z h7 b7 kA7 .byte (2 : Int32) [(.int (0 : Int32)), (.int (0 : Int32))] (.int (0 : Int32)) := V7
    show Goes p e below _ T7 (mkF m 20 #[.val (.int p1), .val (.int p2), .val (.int p3), .val (.int p4), .val (.int p5), .val (.int i), .val (.int (2 : Int32)), .unset, .unset, .unset] [(.ref b7)])
    refine Goes.of (fun _ => XS.astore X7.here hx rfl (hb hby at_20) rfl rfl (l' := #[.val (.int p1), .val (.int p2), .val (.int p3), .val (.int p4), .val (.int p5), .val (.int i), .val (.int (2 : Int32)), .val (.ref b7), .unset, .unset]) rfl) ?_
    show Goes p e below _ T7 (mkF m 22 #[.val (.int p1), .val (.int p2), .val (.int p3), .val (.int p4), .val (.int p5), .val (.int i), .val (.int (2 : Int32)), .val (.ref b7), .unset, .unset] [])
    refine Goes.of (fun _ => XS.aload X7.here hx rfl (hb hby at_22) rfl rfl) ?_
    show Goes p e below _ T7 (mkF m 24 #[.val (.int p1), .val (.int p2), .val (.int p3), .val (.int p4), .val (.int p5), .val (.int i), .val (.int (2 : Int32)), .val (.ref b7), .unset, .unset] [(.ref b7)])
    refine Goes.of (fun _ => XS.iconst X7.here hx rfl (hb hby at_24)) ?_
    show Goes p e below _ T7 (mkF m 25 #[.val (.int p1), .val (.int p2), .val (.int p3), .val (.int p4), .val (.int p5), .val (.int i), .val (.int (2 : Int32)), .val (.ref b7), .unset, .unset] [(.int (0 : Int32)), (.ref b7)])
    refine Goes.of (fun _ => XS.iloadN X7.here hx rfl (hb hby at_25) rfl) ?_
    show Goes p e below _ T7 (mkF m 26 #[.val (.int p1), .val (.int p2), .val (.int p3), .val (.int p4), .val (.int p5), .val (.int i), .val (.int (2 : Int32)), .val (.ref b7), .unset, .unset] [(.int p3), (.int (0 : Int32)), (.ref b7)])
    refine Goes.of (fun _ => XS.i2b X7.here hx rfl (hb hby at_26) rfl) ?_
    show Goes p e below _ T7 (mkF m 27 #[.val (.int p1), .val (.int p2), .val (.int p3), .val (.int p4), .val (.int p5), .val (.int i), .val (.int (2 : Int32)), .val (.ref b7), .unset, .unset] [(.int (p3.toInt8.toInt32)), (.int (0 : Int32)), (.ref b7)])
    refine goStB 0 X7 hx hZ eT7 V7 (by decide) (by decide) rfl (Nat.lt_of_lt_of_le (Nat.lt_succ_self _) (Nat.le_of_ble_eq_true rfl)) (g := (mkF m 27 #[.val (.int p1), .val (.int p2), .val (.int p3), .val (.int p4), .val (.int p5), .val (.int i), .val (.int (2 : Int32)), .val (.ref b7), .unset, .unset] [(.int (p3.toInt8.toInt32)), (.int (0 : Int32)), (.ref b7)])) rfl rfl (hb hby at_27) ?_
    intro T8 h8 X8 eT8 W8 V7
    have N8 := Fr.snoc X8 N0 g_b7
    have A7 := A7.wr W8
    have O0 := O0.wr W8 g_b7
    have V7 : Arv Z h8 b7 kA7 .byte (2 : Int32) [(.int (nar .byte (p3.toInt8.toInt32))), (.int (0 : Int32))] (.int (0 : Int32)) := V7
    show Goes p e below _ T8 (mkF m 28 #[.val (.int p1), .val (.int p2), .val (.int p3), .val (.int p4), .val (.int p5), .val (.int i), .val (.int (2 : Int32)), .val (.ref b7), .unset, .unset] [])
    refine Goes.of (fun _ => XS.iload X8.here hx rfl (hb hby at_28) rfl) ?_
    show Goes p e below _ T8 (mkF m 30 #[.val (.int p1), .val (.int p2), .val (.int p3), .val (.int p4), .val (.int p5), .val (.int i), .val (.int (2 : Int32)), .val (.ref b7), .unset, .unset] [(.int (2 : Int32))])
    refine Goes.of (fun _ => XS.iconst X8.here hx rfl (hb hby at_30)) ?_
    show Goes p e below _ T8 (mkF m 31 #[.val (.int p1), .val (.int p2), .val (.int p3), .val (.int p4), .val (.int p5), .val (.int i), .val (.int (2 : Int32)), .val (.ref b7), .unset, .unset] [(.int (1 : Int32)), (.int (2 : Int32))])
    refine Goes.of (fun _ => XS.icmpNo X8.here hx rfl (hb hby at_31) rfl (tlt (by decide)).2.2.2) ?_
    show Goes p e below _ T8 (mkF m 34 #[.val (.int p1), .val (.int p2), .val (.int p3), .val (.int p4), .val (.int p5), .val (.int i), .val (.int (2 : Int32)), .val (.ref b7), .unset, .unset] [])
    refine Goes.of (fun _ => XS.aload X8.here hx rfl (hb hby at_34) rfl rfl) ?_
    show Goes p e below _ T8 (mkF m 36 #[.val (.int p1), .val (.int p2), .val (.int p3), .val (.int p4), .val (.int p5), .val (.int i), .val (.int (2 : Int32)), .val (.ref b7), .unset, .unset] [(.ref b7)])
    refine Goes.of (fun _ => XS.iconst X8.here hx rfl (hb hby at_36)) ?_
    show Goes p e below _ T8 (mkF m 37 #[.val (.int p1), .val (.int p2), .val (.int p3), .val (.int p4), .val (.int p5), .val (.int i), .val (.int (2 : Int32)), .val (.ref b7), .unset, .unset] [(.int (1 : Int32)), (.ref b7)])
    refine Goes.of (fun _ => XS.iloadN X8.here hx rfl (hb hby at_37) rfl) ?_
    show Goes p e below _ T8 (mkF m 38 #[.val (.int p1), .val (.int p2), .val (.int p3), .val (.int p4), .val (.int p5), .val (.int i), .val (.int (2 : Int32)), .val (.ref b7), .unset, .unset] [(.int p4), (.int (1 : Int32)), (.ref b7)])
    refine Goes.of (fun _ => XS.i2b X8.here hx rfl (hb hby at_38) rfl) ?_
    show Goes p e below _ T8 (mkF m 39 #[.val (.int p1), .val (.int p2), .val (.int p3), .val (.int p4), .val (.int p5), .val (.int i), .val (.int (2 : Int32)), .val (.ref b7), .unset, .unset] [(.int (p4.toInt8.toInt32)), (.int (1 : Int32)), (.ref b7)])
    refine goStB 1 X8 hx hZ eT8 V7 (by decide) (by decide) rfl (Nat.lt_of_lt_of_le (Nat.lt_succ_self _) (Nat.le_of_ble_eq_true rfl)) (g := (mkF m 39 #[.val (.int p1), .val (.int p2), .val (.int p3), .val (.int p4), .val (.int p5), .val (.int i), .val (.int (2 : Int32)), .val (.ref b7), .unset, .unset] [(.int (p4.toInt8.toInt32)), (.int (1 : Int32)), (.ref b7)])) rfl rfl (hb hby at_39) ?_
    intro T9 h9 X9 eT9 W9 V7
    have N9 := Fr.snoc X9 N8 g_b7
    have A7 := A7.wr W9
    have O0 := O0.wr W9 g_b7
    have V7 : Arv Z h9 b7 kA7 .byte (2 : Int32) [(.int (nar .byte (p3.toInt8.toInt32))), (.int (nar .byte (p4.toInt8.toInt32)))] (.int (0 : Int32)) := V7
    show Goes p e below _ T9 (mkF m 40 #[.val (.int p1), .val (.int p2), .val (.int p3), .val (.int p4), .val (.int p5), .val (.int i), .val (.int (2 : Int32)), .val (.ref b7), .unset, .unset] [])
    refine Goes.of (fun _ => XS.iload X9.here hx rfl (hb hby at_40) rfl) ?_
    show Goes p e below _ T9 (mkF m 42 #[.val (.int p1), .val (.int p2), .val (.int p3), .val (.int p4), .val (.int p5), .val (.int i), .val (.int (2 : Int32)), .val (.ref b7), .unset, .unset] [(.int (2 : Int32))])
    refine Goes.of (fun _ => XS.iconst X9.here hx rfl (hb hby at_42)) ?_
    show Goes p e below _ T9 (mkF m 43 #[.val (.int p1), .val (.int p2), .val (.int p3), .val (.int p4), .val (.int p5), .val (.int i), .val (.int (2 : Int32)), .val (.ref b7), .unset, .unset] [(.int (2 : Int32)), (.int (2 : Int32))])
    refine Goes.of (fun _ => XS.icmpYes X9.here hx rfl (pc0 := 43) (pc' := 53) rfl (hb hby at_43) rfl (flt (by decide)).2.2.2 (by decide) (by decide)) ?_
    show Goes p e below _ T9 (mkF m 53 #[.val (.int p1), .val (.int p2), .val (.int p3), .val (.int p4), .val (.int p5), .val (.int i), .val (.int (2 : Int32)), .val (.ref b7), .unset, .unset] [])
    refine Goes.of (fun _ => XS.iload X9.here hx rfl (hb hby at_53) rfl) ?_
    show Goes p e below _ T9 (mkF m 55 #[.val (.int p1), .val (.int p2), .val (.int p3), .val (.int p4), .val (.int p5), .val (.int i), .val (.int (2 : Int32)), .val (.ref b7), .unset, .unset] [(.int (2 : Int32))])
    refine Goes.of (fun _ => XS.iconst X9.here hx rfl (hb hby at_55)) ?_
    show Goes p e below _ T9 (mkF m 56 #[.val (.int p1), .val (.int p2), .val (.int p3), .val (.int p4), .val (.int p5), .val (.int i), .val (.int (2 : Int32)), .val (.ref b7), .unset, .unset] [(.int (3 : Int32)), (.int (2 : Int32))])
    refine Goes.of (fun _ => XS.icmpYes X9.here hx rfl (pc0 := 56) (pc' := 67) rfl (hb hby at_56) rfl (flt (by decide)).2.2.2 (by decide) (by decide)) ?_
    show Goes p e below _ T9 (mkF m 67 #[.val (.int p1), .val (.int p2), .val (.int p3), .val (.int p4), .val (.int p5), .val (.int i), .val (.int (2 : Int32)), .val (.ref b7), .unset, .unset] [])
    refine goNew X9 hx hZ hown (hw _ (List.mem_of_getElem? (i := 2) rfl)) (hw _ (List.mem_of_getElem? (i := 3) rfl)) (hw _ (List.mem_of_getElem? (i := 4) rfl)) eT9 (g := (mkF m 67 #[.val (.int p1), .val (.int p2), .val (.int p3), .val (.int p4), .val (.int p5), .val (.int i), .val (.int (2 : Int32)), .val (.ref b7), .unset, .unset] [])) rfl (hb hby at_67) (by decide) (by decide) ?_
    intro T10 h10 b10 X10 eT10 E10 hb10 A10 D10
    have g_b10 : n0 ≤ b10 := Nat.le_trans (oldLe O0) hb10
    have ne_b7_b10 : b7 ≠ b10 := Nat.ne_of_lt (Nat.lt_of_lt_of_le V7.lt hb10)
    have V7 := V7.ext E10
    have A7 := A7.ext E10
    have O0 := O0.ext E10
    have F10_secret : Fld Z h10 b10 "com/example/claimgate/claimgate/token/HmacKey" "secret" "[B" .null := D10 (Or.inr (hw _ (List.mem_of_getElem? (i := 26) rfl))) (ty := (.array .byte)) (by decide)
    show Goes p e below _ T10 (mkF m 70 #[.val (.int p1), .val (.int p2), .val (.int p3), .val (.int p4), .val (.int p5), .val (.int i), .val (.int (2 : Int32)), .val (.ref b7), .unset, .unset] [(.ref b10)])
    refine Goes.of (fun _ => XS.dup X10.here hx rfl (hb hby at_70) rfl rfl) ?_
    show Goes p e below _ T10 (mkF m 71 #[.val (.int p1), .val (.int p2), .val (.int p3), .val (.int p4), .val (.int p5), .val (.int i), .val (.int (2 : Int32)), .val (.ref b7), .unset, .unset] [(.ref b10), (.ref b10)])
    refine Goes.of (fun _ => XS.aload X10.here hx rfl (hb hby at_71) rfl rfl) ?_
    show Goes p e below _ T10 (mkF m 73 #[.val (.int p1), .val (.int p2), .val (.int p3), .val (.int p4), .val (.int p5), .val (.int i), .val (.int (2 : Int32)), .val (.ref b7), .unset, .unset] [(.ref b7), (.ref b10), (.ref b10)])
    refine goSpecial 1 X10 hx hZ rfl hown (hw _ (List.mem_of_getElem? (i := 5) rfl)) (hw _ (List.mem_of_getElem? (i := 6) rfl)) (hw _ (List.mem_of_getElem? (i := 4) rfl)) (hw _ (List.mem_of_getElem? (i := 7) rfl)) (by decide) (rm_init l Z a0 hw b10 b7 _ _ _ _ h10 n0 O0 g_b10 (Ne.symm ne_b7_b10) A10 F10_secret V7 A7 (by decide) (by decide)) eT10 (g := (mkF m 73 #[.val (.int p1), .val (.int p2), .val (.int p3), .val (.int p4), .val (.int p5), .val (.int i), .val (.int (2 : Int32)), .val (.ref b7), .unset, .unset] [(.ref b7), (.ref b10), (.ref b10)])) rfl (by rw [hml]; rfl) b10 [(.ref b7)] [(.ref b10)] (lenOf pd___B_V rfl) rfl rfl (by show 2 * 0 + _ ≤ _; exact Nat.le_of_eq rfl) (hb hby at_73) (by decide) (by decide) (by decide) (by decide) ?_
    intro v11 T11 L11 X11 q11
    obtain ⟨rfl, Nq11, Kq11⟩ := q11
    have N11 := Fr.app N9 Nq11
    have V7 := V7.keep Kq11 (ninS ne_b7_b10 nin0)
    have A7 := A7.keep Kq11
    have A10 := A10.keep Kq11
    have O0 := O0.keep Kq11 (allS g_b10 all0)
    show Goes p e below _ T11 (mkF m 76 #[.val (.int p1), .val (.int p2), .val (.int p3), .val (.int p4), .val (.int p5), .val (.int i), .val (.int (2 : Int32)), .val (.ref b7), .unset, .unset] [(.ref b10)])
    refine Goes.of (fun _ => XS.astore X11.here hx rfl (hb hby at_76) rfl rfl (l' := #[.val (.int p1), .val (.int p2), .val (.int p3), .val (.int p4), .val (.int p5), .val (.int i), .val (.int (2 : Int32)), .val (.ref b7), .val (.ref b10), .unset]) rfl) ?_
    show Goes p e below _ T11 (mkF m 78 #[.val (.int p1), .val (.int p2), .val (.int p3), .val (.int p4), .val (.int p5), .val (.int i), .val (.int (2 : Int32)), .val (.ref b7), .val (.ref b10), .unset] [])
    refine Goes.of (fun _ => XS.iload X11.here hx rfl (hb hby at_78) rfl) ?_
    show Goes p e below _ T11 (mkF m 80 #[.val (.int p1), .val (.int p2), .val (.int p3), .val (.int p4), .val (.int p5), .val (.int i), .val (.int (2 : Int32)), .val (.ref b7), .val (.ref b10), .unset] [(.int i)])
    refine Goes.of (fun _ => XS.iconst X11.here hx rfl (hb hby at_80)) ?_
    show Goes p e below _ T11 (mkF m 81 #[.val (.int p1), .val (.int p2), .val (.int p3), .val (.int p4), .val (.int p5), .val (.int i), .val (.int (2 : Int32)), .val (.ref b7), .val (.ref b10), .unset] [(.int (2 : Int32)), (.int i)])
    refine Goes.of (T' := T11) (f' := (mkF m 89 #[.val (.int p1), .val (.int p2), .val (.int p3), .val (.int p4), .val (.int p5), .val (.int i), .val (.int (2 : Int32)), .val (.ref b7), .val (.ref b10), .unset] [(.int (if (2 : Int32) < i then (0 : Int32) else (1 : Int32)))])) (fun t kt => ?_) ?_
    · show Steps p.tables e below (T11.setTop (mkF m 81 #[.val (.int p1), .val (.int p2), .val (.int p3), .val (.int p4), .val (.int p5), .val (.int i), .val (.int (2 : Int32)), .val (.ref b7), .val (.ref b10), .unset] [(.int (2 : Int32)), (.int i)])) _
      by_cases hq81 : (2 : Int32) < i
      · simp only [if_pos hq81] at kt
        refine XS.icmpYes X11.here hx rfl (pc0 := 81) (pc' := 88) rfl (hb hby at_81) rfl (tlt hq81).2.2.1 (by decide) (by decide) ?_
        show Steps p.tables e below (T11.setTop (mkF m 88 #[.val (.int p1), .val (.int p2), .val (.int p3), .val (.int p4), .val (.int p5), .val (.int i), .val (.int (2 : Int32)), .val (.ref b7), .val (.ref b10), .unset] [])) _
        refine XS.iconst X11.here hx rfl (hb hby at_88) ?_
        show Steps p.tables e below (T11.setTop (mkF m 89 #[.val (.int p1), .val (.int p2), .val (.int p3), .val (.int p4), .val (.int p5), .val (.int i), .val (.int (2 : Int32)), .val (.ref b7), .val (.ref b10), .unset] [(.int (0 : Int32))])) _
        exact kt
      · simp only [if_neg hq81] at kt
        refine XS.icmpNo X11.here hx rfl (hb hby at_81) rfl (flt hq81).2.2.1 ?_
        show Steps p.tables e below (T11.setTop (mkF m 84 #[.val (.int p1), .val (.int p2), .val (.int p3), .val (.int p4), .val (.int p5), .val (.int i), .val (.int (2 : Int32)), .val (.ref b7), .val (.ref b10), .unset] [])) _
        refine XS.iconst X11.here hx rfl (hb hby at_84) ?_
        show Steps p.tables e below (T11.setTop (mkF m 85 #[.val (.int p1), .val (.int p2), .val (.int p3), .val (.int p4), .val (.int p5), .val (.int i), .val (.int (2 : Int32)), .val (.ref b7), .val (.ref b10), .unset] [(.int (1 : Int32))])) _
        refine XS.goto X11.here hx rfl (pc0 := 85) (pc' := 89) rfl (hb hby at_85) (by decide) (by decide) ?_
        show Steps p.tables e below (T11.setTop (mkF m 89 #[.val (.int p1), .val (.int p2), .val (.int p3), .val (.int p4), .val (.int p5), .val (.int i), .val (.int (2 : Int32)), .val (.ref b7), .val (.ref b10), .unset] [(.int (1 : Int32))])) _
        exact kt
    show Goes p e below _ T11 (mkF m 89 #[.val (.int p1), .val (.int p2), .val (.int p3), .val (.int p4), .val (.int p5), .val (.int i), .val (.int (2 : Int32)), .val (.ref b7), .val (.ref b10), .unset] [(.int (if (2 : Int32) < i then (0 : Int32) else (1 : Int32)))])
    refine Goes.of (fun _ => XS.istore X11.here hx rfl (hb hby at_89) rfl (l' := #[.val (.int p1), .val (.int p2), .val (.int p3), .val (.int p4), .val (.int p5), .val (.int i), .val (.int (2 : Int32)), .val (.ref b7), .val (.ref b10), .val (.int (if (2 : Int32) < i then (0 : Int32) else (1 : Int32)))]) rfl) ?_
    show Goes p e below _ T11 (mkF m 91 #[.val (.int p1), .val (.int p2), .val (.int p3), .val (.int p4), .val (.int p5), .val (.int i), .val (.int (2 : Int32)), .val (.ref b7), .val (.ref b10), .val (.int (if (2 : Int32) < i then (0 : Int32) else (1 : Int32)))] [])
    refine Goes.of (fun _ => XS.aload X11.here hx rfl (hb hby at_91) rfl rfl) ?_
    show Goes p e below _ T11 (mkF m 93 #[.val (.int p1), .val (.int p2), .val (.int p3), .val (.int p4), .val (.int p5), .val (.int i), .val (.int (2 : Int32)), .val (.ref b7), .val (.ref b10), .val (.int (if (2 : Int32) < i then (0 : Int32) else (1 : Int32)))] [(.ref b10)])
    refine Goes.of (fun _ => XS.iload X11.here hx rfl (hb hby at_93) rfl) ?_
    show Goes p e below _ T11 (mkF m 95 #[.val (.int p1), .val (.int p2), .val (.int p3), .val (.int p4), .val (.int p5), .val (.int i), .val (.int (2 : Int32)), .val (.ref b7), .val (.ref b10), .val (.int (if (2 : Int32) < i then (0 : Int32) else (1 : Int32)))] [(.int i), (.ref b10)])
    refine goStatic 1 X11 hx hZ hown (hw _ (List.mem_of_getElem? (i := 27) rfl)) (hw _ (List.mem_of_getElem? (i := 28) rfl)) (hw _ (List.mem_of_getElem? (i := 29) rfl)) (hw _ (List.mem_of_getElem? (i := 30) rfl)) (by decide) (rm_pick l Z a0 hw i w0 w1 w2 w3 w4 w5 w6 w7 w8 T11.heap n0 O0 c0 c1 c2 c3 c4 c5 c6 c7 c8) (rfl : T11.heap = _) (g := (mkF m 95 #[.val (.int p1), .val (.int p2), .val (.int p3), .val (.int p4), .val (.int p5), .val (.int i), .val (.int (2 : Int32)), .val (.ref b7), .val (.ref b10), .val (.int (if (2 : Int32) < i then (0 : Int32) else (1 : Int32)))] [(.int i), (.ref b10)])) rfl (by rw [hml]; rfl) [(.int i)] [(.ref b10)] (lenOf pd__I_Lcom_example_claimgate_claimgate_token_Algorithm_ rfl) rfl rfl (by show 2 * 0 + _ ≤ _; exact Nat.le_of_eq rfl) (hb hby at_95) (by decide) (by decide) (by decide) (by decide) ?_
    intro v12 T12 L12 X12 q12
    obtain ⟨rfl, Nq12, eT12⟩ := q12
    have N12 := Fr.app N11 Nq12
    show Goes p e below _ T12 (mkF m 98 #[.val (.int p1), .val (.int p2), .val (.int p3), .val (.int p4), .val (.int p5), .val (.int i), .val (.int (2 : Int32)), .val (.ref b7), .val (.ref b10), .val (.int (if (2 : Int32) < i then (0 : Int32) else (1 : Int32)))] [(.ref (pickW i w0 w1 w2 w3 w4 w5 w6 w7 w8)), (.ref b10)])
    refine goVirtual 0 X12 hx hZ hown (hw _ (List.mem_of_getElem? (i := 34) rfl)) (hw _ (List.mem_of_getElem? (i := 35) rfl)) (notFace_of_selects (args := #[]) (mvT hZ (hw _ (List.mem_of_getElem? (i := 37) rfl)))) (hw _ (List.mem_of_getElem? (i := 37) rfl)) (hw _ (List.mem_of_getElem? (i := 36) rfl)) (hw _ (List.mem_of_getElem? (i := 4) rfl)) (hw _ (List.mem_of_getElem? (i := 38) rfl)) (by decide) (rm_checks l Z a0 hw b10 (pickW i w0 w1 w2 w3 w4 w5 w6 w7 w8) (pickF i y0 y1 y2) y0 T11.heap n0 O0 (pick_exa i c0 c1 c2 c3 c4 c5 c6 c7 c8) (pick_fam i m0 m1 m2 m3 m4 m5 m6 m7 m8) f0) eT12 A10 (g := (mkF m 98 #[.val (.int p1), .val (.int p2), .val (.int p3), .val (.int p4), .val (.int p5), .val (.int i), .val (.int (2 : Int32)), .val (.ref b7), .val (.ref b10), .val (.int (if (2 : Int32) < i then (0 : Int32) else (1 : Int32)))] [(.ref (pickW i w0 w1 w2 w3 w4 w5 w6 w7 w8)), (.ref b10)])) rfl (by rw [hml]; rfl) [(.ref (pickW i w0 w1 w2 w3 w4 w5 w6 w7 w8))] [] (lenOf pd__Lcom_example_claimgate_claimgate_token_Algorithm__Z rfl) rfl rfl (by show 2 * 0 + _ ≤ _; exact Nat.le_of_eq rfl) (hb hby at_98) (by decide) (by decide) (by decide) (by decide) ?_
    intro v13 T13 L13 X13 q13
    obtain ⟨rfl, Nq13, eT13⟩ := q13
    have N13 := Fr.app N12 Nq13
    show Goes p e below _ T13 (mkF m 101 #[.val (.int p1), .val (.int p2), .val (.int p3), .val (.int p4), .val (.int p5), .val (.int i), .val (.int (2 : Int32)), .val (.ref b7), .val (.ref b10), .val (.int (if (2 : Int32) < i then (0 : Int32) else (1 : Int32)))] [(.int (if pickF i y0 y1 y2 = y0 then (1 : Int32) else (0 : Int32)))])
    refine Goes.of (fun _ => XS.iload X13.here hx rfl (hb hby at_101) rfl) ?_
    show Goes p e below _ T13 (mkF m 103 #[.val (.int p1), .val (.int p2), .val (.int p3), .val (.int p4), .val (.int p5), .val (.int i), .val (.int (2 : Int32)), .val (.ref b7), .val (.ref b10), .val (.int (if (2 : Int32) < i then (0 : Int32) else (1 : Int32)))] [(.int (if (2 : Int32) < i then (0 : Int32) else (1 : Int32))), (.int (if pickF i y0 y1 y2 = y0 then (1 : Int32) else (0 : Int32)))])
    refine Goes.of (fun _ => XS.icmpNo X13.here hx rfl (hb hby at_103) rfl (teq (pick_eq i f0 f1 f2 hi0 hi9)).2) ?_
    show Goes p e below _ T13 (mkF m 106 #[.val (.int p1), .val (.int p2), .val (.int p3), .val (.int p4), .val (.int p5), .val (.int i), .val (.int (2 : Int32)), .val (.ref b7), .val (.ref b10), .val (.int (if (2 : Int32) < i then (0 : Int32) else (1 : Int32)))] [])
    refine Goes.of (fun _ => XS.iconst X13.here hx rfl (hb hby at_106)) ?_
    show Goes p e below _ T13 (mkF m 107 #[.val (.int p1), .val (.int p2), .val (.int p3), .val (.int p4), .val (.int p5), .val (.int i), .val (.int (2 : Int32)), .val (.ref b7), .val (.ref b10), .val (.int (if (2 : Int32) < i then (0 : Int32) else (1 : Int32)))] [(.int (1 : Int32))])
    refine Goes.of (fun _ => XS.goto X13.here hx rfl (pc0 := 107) (pc' := 111) rfl (hb hby at_107) (by decide) (by decide)) ?_
    show Goes p e below _ T13 (mkF m 111 #[.val (.int p1), .val (.int p2), .val (.int p3), .val (.int p4), .val (.int p5), .val (.int i), .val (.int (2 : Int32)), .val (.ref b7), .val (.ref b10), .val (.int (if (2 : Int32) < i then (0 : Int32) else (1 : Int32)))] [(.int (1 : Int32))])
    exact retZ (t := .boolean) X13 hx hret hlk (by simp) (hb hby at_111) eT13 (by decide) (by decide) ⟨rfl, N13⟩
  · show Goes p e below _ T (mkF m 16 #[.val (.int p1), .val (.int p2), .val (.int p3), .val (.int p4), .val (.int p5), .val (.int i), .val (.int ((1 : Int32) + (2 : Int32))), .unset, .unset, .unset] [])
    show Goes p e below _ T (mkF m 16 #[.val (.int p1), .val (.int p2), .val (.int p3), .val (.int p4), .val (.int p5), .val (.int i), .val (.int (3 : Int32)), .unset, .unset, .unset] [])
    refine Goes.of (fun _ => XS.iload X.here hx rfl (hb hby at_16) rfl) ?_
    show Goes p e below _ T (mkF m 18 #[.val (.int p1), .val (.int p2), .val (.int p3), .val (.int p4), .val (.int p5), .val (.int i), .val (.int (3 : Int32)), .unset, .unset, .unset] [(.int (3 : Int32))])
    refine goNewP 3 X hx hZ (hw _ (List.mem_of_getElem? (i := 1) rfl)) eT0 (g := (mkF m 18 #[.val (.int p1), .val (.int p2), .val (.int p3), .val (.int p4), .val (.int p5), .val (.int i), .val (.int (3 : Int32)), .unset, .unset, .unset] [(.int (3 : Int32))])) rfl (hb hby at_18) rfl (by decide) (by decide) (by decide) (by decide) (by decide) (ad := "[B") (by first | rfl | decide) ?_
    intro T14 h14 b14 kA14 X14 eT14 E14 hb14 V14 A14
    have g_b14 : n0 ≤ b14 := Nat.le_trans (oldLe O0) hb14
    have O0 := O0.ext E14
    have V14 : Arv Z h14 b14 kA14 .byte (3 : Int32) [(.int (0 : Int32)), (.int (0 : Int32)), (.int (0 : Int32))] (.int (0 : Int32)) := V14
    show Goes p e below _ T14 (mkF m 20 #[.val (.int p1), .val (.int p2), .val (.int p3), .val (.int p4), .val (.int p5), .val (.int i), .val (.int (3 : Int32)), .unset, .unset, .unset] [(.ref b14)])
    refine Goes.of (fun _ => XS.astore X14.here hx rfl (hb hby at_20) rfl rfl (l' := #[.val (.int p1), .val (.int p2), .val (.int p3), .val (.int p4), .val (.int p5), .val (.int i), .val (.int (3 : Int32)), .val (.ref b14), .unset, .unset]) rfl) ?_
    show Goes p e below _ T14 (mkF m 22 #[.val (.int p1), .val (.int p2), .val (.int p3), .val (.int p4), .val (.int p5), .val (.int i), .val (.int (3 : Int32)), .val (.ref b14), .unset, .unset] [])
    refine Goes.of (fun _ => XS.aload X14.here hx rfl (hb hby at_22) rfl rfl) ?_
    show Goes p e below _ T14 (mkF m 24 #[.val (.int p1), .val (.int p2), .val (.int p3), .val (.int p4), .val (.int p5), .val (.int i), .val (.int (3 : Int32)), .val (.ref b14), .unset, .unset] [(.ref b14)])
    refine Goes.of (fun _ => XS.iconst X14.here hx rfl (hb hby at_24)) ?_
    show Goes p e below _ T14 (mkF m 25 #[.val (.int p1), .val (.int p2), .val (.int p3), .val (.int p4), .val (.int p5), .val (.int i), .val (.int (3 : Int32)), .val (.ref b14), .unset, .unset] [(.int (0 : Int32)), (.ref b14)])
    refine Goes.of (fun _ => XS.iloadN X14.here hx rfl (hb hby at_25) rfl) ?_
    show Goes p e below _ T14 (mkF m 26 #[.val (.int p1), .val (.int p2), .val (.int p3), .val (.int p4), .val (.int p5), .val (.int i), .val (.int (3 : Int32)), .val (.ref b14), .unset, .unset] [(.int p3), (.int (0 : Int32)), (.ref b14)])
    refine Goes.of (fun _ => XS.i2b X14.here hx rfl (hb hby at_26) rfl) ?_
    show Goes p e below _ T14 (mkF m 27 #[.val (.int p1), .val (.int p2), .val (.int p3), .val (.int p4), .val (.int p5), .val (.int i), .val (.int (3 : Int32)), .val (.ref b14), .unset, .unset] [(.int (p3.toInt8.toInt32)), (.int (0 : Int32)), (.ref b14)])
    refine goStB 0 X14 hx hZ eT14 V14 (by decide) (by decide) rfl (Nat.lt_of_lt_of_le (Nat.lt_succ_self _) (Nat.le_of_ble_eq_true rfl)) (g := (mkF m 27 #[.val (.int p1), .val (.int p2), .val (.int p3), .val (.int p4), .val (.int p5), .val (.int i), .val (.int (3 : Int32)), .val (.ref b14), .unset, .unset] [(.int (p3.toInt8.toInt32)), (.int (0 : Int32)), (.ref b14)])) rfl rfl (hb hby at_27) ?_
    intro T15 h15 X15 eT15 W15 V14
    have N15 := Fr.snoc X15 N0 g_b14
    have A14 := A14.wr W15
    have O0 := O0.wr W15 g_b14
    have V14 : Arv Z h15 b14 kA14 .byte (3 : Int32) [(.int (nar .byte (p3.toInt8.toInt32))), (.int (0 : Int32)), (.int (0 : Int32))] (.int (0 : Int32)) := V14
    show Goes p e below _ T15 (mkF m 28 #[.val (.int p1), .val (.int p2), .val (.int p3), .val (.int p4), .val (.int p5), .val (.int i), .val (.int (3 : Int32)), .val (.ref b14), .unset, .unset] [])
    refine Goes.of (fun _ => XS.iload X15.here hx rfl (hb hby at_28) rfl) ?_
    show Goes p e below _ T15 (mkF m 30 #[.val (.int p1), .val (.int p2), .val (.int p3), .val (.int p4), .val (.int p5), .val (.int i), .val (.int (3 : Int32)), .val (.ref b14), .unset, .unset] [(.int (3 : Int32))])
    refine Goes.of (fun _ => XS.iconst X15.here hx rfl (hb hby at_30)) ?_
    show Goes p e below _ T15 (mkF m 31 #[.val (.int p1), .val (.int p2), .val (.int p3), .val (.int p4), .val (.int p5), .val (.int i), .val (.int (3 : Int32)), .val (.ref b14), .unset, .unset] [(.int (1 : Int32)), (.int (3 : Int32))])
    refine Goes.of (fun _ => XS.icmpNo X15.here hx rfl (hb hby at_31) rfl (tlt (by decide)).2.2.2) ?_
    show Goes p e below _ T15 (mkF m 34 #[.val (.int p1), .val (.int p2), .val (.int p3), .val (.int p4), .val (.int p5), .val (.int i), .val (.int (3 : Int32)), .val (.ref b14), .unset, .unset] [])
    refine Goes.of (fun _ => XS.aload X15.here hx rfl (hb hby at_34) rfl rfl) ?_
    show Goes p e below _ T15 (mkF m 36 #[.val (.int p1), .val (.int p2), .val (.int p3), .val (.int p4), .val (.int p5), .val (.int i), .val (.int (3 : Int32)), .val (.ref b14), .unset, .unset] [(.ref b14)])
    refine Goes.of (fun _ => XS.iconst X15.here hx rfl (hb hby at_36)) ?_
    show Goes p e below _ T15 (mkF m 37 #[.val (.int p1), .val (.int p2), .val (.int p3), .val (.int p4), .val (.int p5), .val (.int i), .val (.int (3 : Int32)), .val (.ref b14), .unset, .unset] [(.int (1 : Int32)), (.ref b14)])
    refine Goes.of (fun _ => XS.iloadN X15.here hx rfl (hb hby at_37) rfl) ?_
    show Goes p e below _ T15 (mkF m 38 #[.val (.int p1), .val (.int p2), .val (.int p3), .val (.int p4), .val (.int p5), .val (.int i), .val (.int (3 : Int32)), .val (.ref b14), .unset, .unset] [(.int p4), (.int (1 : Int32)), (.ref b14)])
    refine Goes.of (fun _ => XS.i2b X15.here hx rfl (hb hby at_38) rfl) ?_
    show Goes p e below _ T15 (mkF m 39 #[.val (.int p1), .val (.int p2), .val (.int p3), .val (.int p4), .val (.int p5), .val (.int i), .val (.int (3 : Int32)), .val (.ref b14), .unset, .unset] [(.int (p4.toInt8.toInt32)), (.int (1 : Int32)), (.ref b14)])
    refine goStB 1 X15 hx hZ eT15 V14 (by decide) (by decide) rfl (Nat.lt_of_lt_of_le (Nat.lt_succ_self _) (Nat.le_of_ble_eq_true rfl)) (g := (mkF m 39 #[.val (.int p1), .val (.int p2), .val (.int p3), .val (.int p4), .val (.int p5), .val (.int i), .val (.int (3 : Int32)), .val (.ref b14), .unset, .unset] [(.int (p4.toInt8.toInt32)), (.int (1 : Int32)), (.ref b14)])) rfl rfl (hb hby at_39) ?_
    intro T16 h16 X16 eT16 W16 V14
    have N16 := Fr.snoc X16 N15 g_b14
    have A14 := A14.wr W16
    have O0 := O0.wr W16 g_b14
    have V14 : Arv Z h16 b14 kA14 .byte (3 : Int32) [(.int (nar .byte (p3.toInt8.toInt32))), (.int (nar .byte (p4.toInt8.toInt32))), (.int (0 : Int32))] (.int (0 : Int32)) := V14
    show Goes p e below _ T16 (mkF m 40 #[.val (.int p1), .val (.int p2), .val (.int p3), .val (.int p4), .val (.int p5), .val (.int i), .val (.int (3 : Int32)), .val (.ref b14), .unset, .unset] [])
    refine Goes.of (fun _ => XS.iload X16.here hx rfl (hb hby at_40) rfl) ?_
    show Goes p e below _ T16 (mkF m 42 #[.val (.int p1), .val (.int p2), .val (.int p3), .val (.int p4), .val (.int p5), .val (.int i), .val (.int (3 : Int32)), .val (.ref b14), .unset, .unset] [(.int (3 : Int32))])
    refine Goes.of (fun _ => XS.iconst X16.here hx rfl (hb hby at_42)) ?_
    show Goes p e below _ T16 (mkF m 43 #[.val (.int p1), .val (.int p2), .val (.int p3), .val (.int p4), .val (.int p5), .val (.int i), .val (.int (3 : Int32)), .val (.ref b14), .unset, .unset] [(.int (2 : Int32)), (.int (3 : Int32))])
    refine Goes.of (fun _ => XS.icmpNo X16.here hx rfl (hb hby at_43) rfl (tlt (by decide)).2.2.2) ?_
    show Goes p e below _ T16 (mkF m 46 #[.val (.int p1), .val (.int p2), .val (.int p3), .val (.int p4), .val (.int p5), .val (.int i), .val (.int (3 : Int32)), .val (.ref b14), .unset, .unset] [])
    refine Goes.of (fun _ => XS.aload X16.here hx rfl (hb hby at_46) rfl rfl) ?_
    show Goes p e below _ T16 (mkF m 48 #[.val (.int p1), .val (.int p2), .val (.int p3), .val (.int p4), .val (.int p5), .val (.int i), .val (.int (3 : Int32)), .val (.ref b14), .unset, .unset] [(.ref b14)])
    refine Goes.of (fun _ => XS.iconst X16.here hx rfl (hb hby at_48)) ?_
    show Goes p e below _ T16 (mkF m 49 #[.val (.int p1), .val (.int p2), .val (.int p3), .val (.int p4), .val (.int p5), .val (.int i), .val (.int (3 : Int32)), .val (.ref b14), .unset, .unset] [(.int (2 : Int32)), (.ref b14)])
    refine Goes.of (fun _ => XS.iload X16.here hx rfl (hb hby at_49) rfl) ?_
    show Goes p e below _ T16 (mkF m 51 #[.val (.int p1), .val (.int p2), .val (.int p3), .val (.int p4), .val (.int p5), .val (.int i), .val (.int (3 : Int32)), .val (.ref b14), .unset, .unset] [(.int p5), (.int (2 : Int32)), (.ref b14)])
    refine Goes.of (fun _ => XS.i2b X16.here hx rfl (hb hby at_51) rfl) ?_
    show Goes p e below _ T16 (mkF m 52 #[.val (.int p1), .val (.int p2), .val (.int p3), .val (.int p4), .val (.int p5), .val (.int i), .val (.int (3 : Int32)), .val (.ref b14), .unset, .unset] [(.int (p5.toInt8.toInt32)), (.int (2 : Int32)), (.ref b14)])
    refine goStB 2 X16 hx hZ eT16 V14 (by decide) (by decide) rfl (Nat.lt_of_lt_of_le (Nat.lt_succ_self _) (Nat.le_of_ble_eq_true rfl)) (g := (mkF m 52 #[.val (.int p1), .val (.int p2), .val (.int p3), .val (.int p4), .val (.int p5), .val (.int i), .val (.int (3 : Int32)), .val (.ref b14), .unset, .unset] [(.int (p5.toInt8.toInt32)), (.int (2 : Int32)), (.ref b14)])) rfl rfl (hb hby at_52) ?_
    intro T17 h17 X17 eT17 W17 V14
    have N17 := Fr.snoc X17 N16 g_b14
    have A14 := A14.wr W17
    have O0 := O0.wr W17 g_b14
    have V14 : Arv Z h17 b14 kA14 .byte (3 : Int32) [(.int (nar .byte (p3.toInt8.toInt32))), (.int (nar .byte (p4.toInt8.toInt32))), (.int (nar .byte (p5.toInt8.toInt32)))] (.int (0 : Int32)) := V14
    show Goes p e below _ T17 (mkF m 53 #[.val (.int p1), .val (.int p2), .val (.int p3), .val (.int p4), .val (.int p5), .val (.int i), .val (.int (3 : Int32)), .val (.ref b14), .unset, .unset] [])
    refine Goes.of (fun _ => XS.iload X17.here hx rfl (hb hby at_53) rfl) ?_
    show Goes p e below _ T17 (mkF m 55 #[.val (.int p1), .val (.int p2), .val (.int p3), .val (.int p4), .val (.int p5), .val (.int i), .val (.int (3 : Int32)), .val (.ref b14), .unset, .unset] [(.int (3 : Int32))])
    refine Goes.of (fun _ => XS.iconst X17.here hx rfl (hb hby at_55)) ?_
    show Goes p e below _ T17 (mkF m 56 #[.val (.int p1), .val (.int p2), .val (.int p3), .val (.int p4), .val (.int p5), .val (.int i), .val (.int (3 : Int32)), .val (.ref b14), .unset, .unset] [(.int (3 : Int32)), (.int (3 : Int32))])
    refine Goes.of (fun _ => XS.icmpYes X17.here hx rfl (pc0 := 56) (pc' := 67) rfl (hb hby at_56) rfl (flt (by decide)).2.2.2 (by decide) (by decide)) ?_
    show Goes p e below _ T17 (mkF m 67 #[.val (.int p1), .val (.int p2), .val (.int p3), .val (.int p4), .val (.int p5), .val (.int i), .val (.int (3 : Int32)), .val (.ref b14), .unset, .unset] [])
    refine goNew X17 hx hZ hown (hw _ (List.mem_of_getElem? (i := 2) rfl)) (hw _ (List.mem_of_getElem? (i := 3) rfl)) (hw _ (List.mem_of_getElem? (i := 4) rfl)) eT17 (g := (mkF m 67 #[.val (.int p1), .val (.int p2), .val (.int p3), .val (.int p4), .val (.int p5), .val (.int i), .val (.int (3 : Int32)), .val (.ref b14), .unset, .unset] [])) rfl (hb hby at_67) (by decide) (by decide) ?_
    intro T18 h18 b18 X18 eT18 E18 hb18 A18 D18
    have g_b18 : n0 ≤ b18 := Nat.le_trans (oldLe O0) hb18
    have ne_b14_b18 : b14 ≠ b18 := Nat.ne_of_lt (Nat.lt_of_lt_of_le V14.lt hb18)
    have V14 := V14.ext E18
    have A14 := A14.ext E18
    have O0 := O0.ext E18
    have F18_secret : Fld Z h18 b18 "com/example/claimgate/claimgate/token/HmacKey" "secret" "[B" .null := D18 (Or.inr (hw _ (List.mem_of_getElem? (i := 26) rfl))) (ty := (.array .byte)) (by decide)
    show Goes p e below _ T18 (mkF m 70 #[.val (.int p1), .val (.int p2), .val (.int p3), .val (.int p4), .val (.int p5), .val (.int i), .val (.int (3 : Int32)), .val (.ref b14), .unset, .unset] [(.ref b18)])
    refine Goes.of (fun _ => XS.dup X18.here hx rfl (hb hby at_70) rfl rfl) ?_
    show Goes p e below _ T18 (mkF m 71 #[.val (.int p1), .val (.int p2), .val (.int p3), .val (.int p4), .val (.int p5), .val (.int i), .val (.int (3 : Int32)), .val (.ref b14), .unset, .unset] [(.ref b18), (.ref b18)])
    refine Goes.of (fun _ => XS.aload X18.here hx rfl (hb hby at_71) rfl rfl) ?_
    show Goes p e below _ T18 (mkF m 73 #[.val (.int p1), .val (.int p2), .val (.int p3), .val (.int p4), .val (.int p5), .val (.int i), .val (.int (3 : Int32)), .val (.ref b14), .unset, .unset] [(.ref b14), (.ref b18), (.ref b18)])
    refine goSpecial 1 X18 hx hZ rfl hown (hw _ (List.mem_of_getElem? (i := 5) rfl)) (hw _ (List.mem_of_getElem? (i := 6) rfl)) (hw _ (List.mem_of_getElem? (i := 4) rfl)) (hw _ (List.mem_of_getElem? (i := 7) rfl)) (by decide) (rm_init l Z a0 hw b18 b14 _ _ _ _ h18 n0 O0 g_b18 (Ne.symm ne_b14_b18) A18 F18_secret V14 A14 (by decide) (by decide)) eT18 (g := (mkF m 73 #[.val (.int p1), .val (.int p2), .val (.int p3), .val (.int p4), .val (.int p5), .val (.int i), .val (.int (3 : Int32)), .val (.ref b14), .unset, .unset] [(.ref b14), (.ref b18), (.ref b18)])) rfl (by rw [hml]; rfl) b18 [(.ref b14)] [(.ref b18)] (lenOf pd___B_V rfl) rfl rfl (by show 2 * 0 + _ ≤ _; exact Nat.le_of_eq rfl) (hb hby at_73) (by decide) (by decide) (by decide) (by decide) ?_
    intro v19 T19 L19 X19 q19
    obtain ⟨rfl, Nq19, Kq19⟩ := q19
    have N19 := Fr.app N17 Nq19
    have V14 := V14.keep Kq19 (ninS ne_b14_b18 nin0)
    have A14 := A14.keep Kq19
    have A18 := A18.keep Kq19
    have O0 := O0.keep Kq19 (allS g_b18 all0)
    show Goes p e below _ T19 (mkF m 76 #[.val (.int p1), .val (.int p2), .val (.int p3), .val (.int p4), .val (.int p5), .val (.int i), .val (.int (3 : Int32)), .val (.ref b14), .unset, .unset] [(.ref b18)])
    refine Goes.of (fun _ => XS.astore X19.here hx rfl (hb hby at_76) rfl rfl (l' := #[.val (.int p1), .val (.int p2), .val (.int p3), .val (.int p4), .val (.int p5), .val (.int i), .val (.int (3 : Int32)), .val (.ref b14), .val (.ref b18), .unset]) rfl) ?_
    show Goes p e below _ T19 (mkF m 78 #[.val (.int p1), .val (.int p2), .val (.int p3), .val (.int p4), .val (.int p5), .val (.int i), .val (.int (3 : Int32)), .val (.ref b14), .val (.ref b18), .unset] [])
    refine Goes.of (fun _ => XS.iload X19.here hx rfl (hb hby at_78) rfl) ?_
    show Goes p e below _ T19 (mkF m 80 #[.val (.int p1), .val (.int p2), .val (.int p3), .val (.int p4), .val (.int p5), .val (.int i), .val (.int (3 : Int32)), .val (.ref b14), .val (.ref b18), .unset] [(.int i)])
    refine Goes.of (fun _ => XS.iconst X19.here hx rfl (hb hby at_80)) ?_
    show Goes p e below _ T19 (mkF m 81 #[.val (.int p1), .val (.int p2), .val (.int p3), .val (.int p4), .val (.int p5), .val (.int i), .val (.int (3 : Int32)), .val (.ref b14), .val (.ref b18), .unset] [(.int (2 : Int32)), (.int i)])
    refine Goes.of (T' := T19) (f' := (mkF m 89 #[.val (.int p1), .val (.int p2), .val (.int p3), .val (.int p4), .val (.int p5), .val (.int i), .val (.int (3 : Int32)), .val (.ref b14), .val (.ref b18), .unset] [(.int (if (2 : Int32) < i then (0 : Int32) else (1 : Int32)))])) (fun t kt => ?_) ?_
    · show Steps p.tables e below (T19.setTop (mkF m 81 #[.val (.int p1), .val (.int p2), .val (.int p3), .val (.int p4), .val (.int p5), .val (.int i), .val (.int (3 : Int32)), .val (.ref b14), .val (.ref b18), .unset] [(.int (2 : Int32)), (.int i)])) _
      by_cases hq81 : (2 : Int32) < i
      · simp only [if_pos hq81] at kt
        refine XS.icmpYes X19.here hx rfl (pc0 := 81) (pc' := 88) rfl (hb hby at_81) rfl (tlt hq81).2.2.1 (by decide) (by decide) ?_
        show Steps p.tables e below (T19.setTop (mkF m 88 #[.val (.int p1), .val (.int p2), .val (.int p3), .val (.int p4), .val (.int p5), .val (.int i), .val (.int (3 : Int32)), .val (.ref b14), .val (.ref b18), .unset] [])) _
        refine XS.iconst X19.here hx rfl (hb hby at_88) ?_
        show Steps p.tables e below (T19.setTop (mkF m 89 #[.val (.int p1), .val (.int p2), .val (.int p3), .val (.int p4), .val (.int p5), .val (.int i), .val (.int (3 : Int32)), .val (.ref b14), .val (.ref b18), .unset] [(.int (0 : Int32))])) _
        exact kt
      · simp only [if_neg hq81] at kt
        refine XS.icmpNo X19.here hx rfl (hb hby at_81) rfl (flt hq81).2.2.1 ?_
        show Steps p.tables e below (T19.setTop (mkF m 84 #[.val (.int p1), .val (.int p2), .val (.int p3), .val (.int p4), .val (.int p5), .val (.int i), .val (.int (3 : Int32)), .val (.ref b14), .val (.ref b18), .unset] [])) _
        refine XS.iconst X19.here hx rfl (hb hby at_84) ?_
        show Steps p.tables e below (T19.setTop (mkF m 85 #[.val (.int p1), .val (.int p2), .val (.int p3), .val (.int p4), .val (.int p5), .val (.int i), .val (.int (3 : Int32)), .val (.ref b14), .val (.ref b18), .unset] [(.int (1 : Int32))])) _
        refine XS.goto X19.here hx rfl (pc0 := 85) (pc' := 89) rfl (hb hby at_85) (by decide) (by decide) ?_
        show Steps p.tables e below (T19.setTop (mkF m 89 #[.val (.int p1), .val (.int p2), .val (.int p3), .val (.int p4), .val (.int p5), .val (.int i), .val (.int (3 : Int32)), .val (.ref b14), .val (.ref b18), .unset] [(.int (1 : Int32))])) _
        exact kt
    show Goes p e below _ T19 (mkF m 89 #[.val (.int p1), .val (.int p2), .val (.int p3), .val (.int p4), .val (.int p5), .val (.int i), .val (.int (3 : Int32)), .val (.ref b14), .val (.ref b18), .unset] [(.int (if (2 : Int32) < i then (0 : Int32) else (1 : Int32)))])
    refine Goes.of (fun _ => XS.istore X19.here hx rfl (hb hby at_89) rfl (l' := #[.val (.int p1), .val (.int p2), .val (.int p3), .val (.int p4), .val (.int p5), .val (.int i), .val (.int (3 : Int32)), .val (.ref b14), .val (.ref b18), .val (.int (if (2 : Int32) < i then (0 : Int32) else (1 : Int32)))]) rfl) ?_
    show Goes p e below _ T19 (mkF m 91 #[.val (.int p1), .val (.int p2), .val (.int p3), .val (.int p4), .val (.int p5), .val (.int i), .val (.int (3 : Int32)), .val (.ref b14), .val (.ref b18), .val (.int (if (2 : Int32) < i then (0 : Int32) else (1 : Int32)))] [])
    refine Goes.of (fun _ => XS.aload X19.here hx rfl (hb hby at_91) rfl rfl) ?_
    show Goes p e below _ T19 (mkF m 93 #[.val (.int p1), .val (.int p2), .val (.int p3), .val (.int p4), .val (.int p5), .val (.int i), .val (.int (3 : Int32)), .val (.ref b14), .val (.ref b18), .val (.int (if (2 : Int32) < i then (0 : Int32) else (1 : Int32)))] [(.ref b18)])
    refine Goes.of (fun _ => XS.iload X19.here hx rfl (hb hby at_93) rfl) ?_
    show Goes p e below _ T19 (mkF m 95 #[.val (.int p1), .val (.int p2), .val (.int p3), .val (.int p4), .val (.int p5), .val (.int i), .val (.int (3 : Int32)), .val (.ref b14), .val (.ref b18), .val (.int (if (2 : Int32) < i then (0 : Int32) else (1 : Int32)))] [(.int i), (.ref b18)])
    refine goStatic 1 X19 hx hZ hown (hw _ (List.mem_of_getElem? (i := 27) rfl)) (hw _ (List.mem_of_getElem? (i := 28) rfl)) (hw _ (List.mem_of_getElem? (i := 29) rfl)) (hw _ (List.mem_of_getElem? (i := 30) rfl)) (by decide) (rm_pick l Z a0 hw i w0 w1 w2 w3 w4 w5 w6 w7 w8 T19.heap n0 O0 c0 c1 c2 c3 c4 c5 c6 c7 c8) (rfl : T19.heap = _) (g := (mkF m 95 #[.val (.int p1), .val (.int p2), .val (.int p3), .val (.int p4), .val (.int p5), .val (.int i), .val (.int (3 : Int32)), .val (.ref b14), .val (.ref b18), .val (.int (if (2 : Int32) < i then (0 : Int32) else (1 : Int32)))] [(.int i), (.ref b18)])) rfl (by rw [hml]; rfl) [(.int i)] [(.ref b18)] (lenOf pd__I_Lcom_example_claimgate_claimgate_token_Algorithm_ rfl) rfl rfl (by show 2 * 0 + _ ≤ _; exact Nat.le_of_eq rfl) (hb hby at_95) (by decide) (by decide) (by decide) (by decide) ?_
    intro v20 T20 L20 X20 q20
    obtain ⟨rfl, Nq20, eT20⟩ := q20
    have N20 := Fr.app N19 Nq20
    show Goes p e below _ T20 (mkF m 98 #[.val (.int p1), .val (.int p2), .val (.int p3), .val (.int p4), .val (.int p5), .val (.int i), .val (.int (3 : Int32)), .val (.ref b14), .val (.ref b18), .val (.int (if (2 : Int32) < i then (0 : Int32) else (1 : Int32)))] [(.ref (pickW i w0 w1 w2 w3 w4 w5 w6 w7 w8)), (.ref b18)])
    refine goVirtual 0 X20 hx hZ hown (hw _ (List.mem_of_getElem? (i := 34) rfl)) (hw _ (List.mem_of_getElem? (i := 35) rfl)) (notFace_of_selects (args := #[]) (mvT hZ (hw _ (List.mem_of_getElem? (i := 37) rfl)))) (hw _ (List.mem_of_getElem? (i := 37) rfl)) (hw _ (List.mem_of_getElem? (i := 36) rfl)) (hw _ (List.mem_of_getElem? (i := 4) rfl)) (hw _ (List.mem_of_getElem? (i := 38) rfl)) (by decide) (rm_checks l Z a0 hw b18 (pickW i w0 w1 w2 w3 w4 w5 w6 w7 w8) (pickF i y0 y1 y2) y0 T19.heap n0 O0 (pick_exa i c0 c1 c2 c3 c4 c5 c6 c7 c8) (pick_fam i m0 m1 m2 m3 m4 m5 m6 m7 m8) f0) eT20 A18 (g := (mkF m 98 #[.val (.int p1), .val (.int p2), .val (.int p3), .val (.int p4), .val (.int p5), .val (.int i), .val (.int (3 : Int32)), .val (.ref b14), .val (.ref b18), .val (.int (if (2 : Int32) < i then (0 : Int32) else (1 : Int32)))] [(.ref (pickW i w0 w1 w2 w3 w4 w5 w6 w7 w8)), (.ref b18)])) rfl (by rw [hml]; rfl) [(.ref (pickW i w0 w1 w2 w3 w4 w5 w6 w7 w8))] [] (lenOf pd__Lcom_example_claimgate_claimgate_token_Algorithm__Z rfl) rfl rfl (by show 2 * 0 + _ ≤ _; exact Nat.le_of_eq rfl) (hb hby at_98) (by decide) (by decide) (by decide) (by decide) ?_
    intro v21 T21 L21 X21 q21
    obtain ⟨rfl, Nq21, eT21⟩ := q21
    have N21 := Fr.app N20 Nq21
    show Goes p e below _ T21 (mkF m 101 #[.val (.int p1), .val (.int p2), .val (.int p3), .val (.int p4), .val (.int p5), .val (.int i), .val (.int (3 : Int32)), .val (.ref b14), .val (.ref b18), .val (.int (if (2 : Int32) < i then (0 : Int32) else (1 : Int32)))] [(.int (if pickF i y0 y1 y2 = y0 then (1 : Int32) else (0 : Int32)))])
    refine Goes.of (fun _ => XS.iload X21.here hx rfl (hb hby at_101) rfl) ?_
    show Goes p e below _ T21 (mkF m 103 #[.val (.int p1), .val (.int p2), .val (.int p3), .val (.int p4), .val (.int p5), .val (.int i), .val (.int (3 : Int32)), .val (.ref b14), .val (.ref b18), .val (.int (if (2 : Int32) < i then (0 : Int32) else (1 : Int32)))] [(.int (if (2 : Int32) < i then (0 : Int32) else (1 : Int32))), (.int (if pickF i y0 y1 y2 = y0 then (1 : Int32) else (0 : Int32)))])
    refine Goes.of (fun _ => XS.icmpNo X21.here hx rfl (hb hby at_103) rfl (teq (pick_eq i f0 f1 f2 hi0 hi9)).2) ?_
    show Goes p e below _ T21 (mkF m 106 #[.val (.int p1), .val (.int p2), .val (.int p3), .val (.int p4), .val (.int p5), .val (.int i), .val (.int (3 : Int32)), .val (.ref b14), .val (.ref b18), .val (.int (if (2 : Int32) < i then (0 : Int32) else (1 : Int32)))] [])
    refine Goes.of (fun _ => XS.iconst X21.here hx rfl (hb hby at_106)) ?_
    show Goes p e below _ T21 (mkF m 107 #[.val (.int p1), .val (.int p2), .val (.int p3), .val (.int p4), .val (.int p5), .val (.int i), .val (.int (3 : Int32)), .val (.ref b14), .val (.ref b18), .val (.int (if (2 : Int32) < i then (0 : Int32) else (1 : Int32)))] [(.int (1 : Int32))])
    refine Goes.of (fun _ => XS.goto X21.here hx rfl (pc0 := 107) (pc' := 111) rfl (hb hby at_107) (by decide) (by decide)) ?_
    show Goes p e below _ T21 (mkF m 111 #[.val (.int p1), .val (.int p2), .val (.int p3), .val (.int p4), .val (.int p5), .val (.int i), .val (.int (3 : Int32)), .val (.ref b14), .val (.ref b18), .val (.int (if (2 : Int32) < i then (0 : Int32) else (1 : Int32)))] [(.int (1 : Int32))])
    exact retZ (t := .boolean) X21 hx hret hlk (by simp) (hb hby at_111) eT21 (by decide) (by decide) ⟨rfl, N21⟩
  · show Goes p e below _ T (mkF m 16 #[.val (.int p1), .val (.int p2), .val (.int p3), .val (.int p4), .val (.int p5), .val (.int i), .val (.int ((1 : Int32) + (3 : Int32))), .unset, .unset, .unset] [])
    show Goes p e below _ T (mkF m 16 #[.val (.int p1), .val (.int p2), .val (.int p3), .val (.int p4), .val (.int p5), .val (.int i), .val (.int (4 : Int32)), .unset, .unset, .unset] [])
    refine Goes.of (fun _ => XS.iload X.here hx rfl (hb hby at_16) rfl) ?_
    show Goes p e below _ T (mkF m 18 #[.val (.int p1), .val (.int p2), .val (.int p3), .val (.int p4), .val (.int p5), .val (.int i), .val (.int (4 : Int32)), .unset, .unset, .unset] [(.int (4 : Int32))])
    refine goNewP 4 X hx hZ (hw _ (List.mem_of_getElem? (i := 1) rfl)) eT0 (g := (mkF m 18 #[.val (.int p1), .val (.int p2), .val (.int p3), .val (.int p4), .val (.int p5), .val (.int i), .val (.int (4 : Int32)), .unset, .unset, .unset] [(.int (4 : Int32))])) rfl (hb hby at_18) rfl (by decide) (by decide) (by decide) (by decide) (by decide) (ad := "[B") (by first | rfl | decide) ?_
    intro T22 h22 b22 kA22 X22 eT22 E22 hb22 V22 A22
    have g_b22 : n0 ≤ b22 := Nat.le_trans (oldLe O0) hb22
    have O0 := O0.ext E22
    have V22 : Arv Z h22 b22 kA22 .byte (4 : Int32) [(.int (0 : Int32)), (.int (0 : Int32)), (.int (0 : Int32)), (.int (0 : Int32))] (.int (0 : Int32)) := V22
    show Goes p e below _ T22 (mkF m 20 #[.val (.int p1), .val (.int p2), .val (.int p3), .val (.int p4), .val (.int p5), .val (.int i), .val (.int (4 : Int32)), .unset, .unset, .unset] [(.ref b22)])
    refine Goes.of (fun _ => XS.astore X22.here hx rfl (hb hby at_20) rfl rfl (l' := #[.val (.int p1), .val (.int p2), .val (.int p3), .val (.int p4), .val (.int p5), .val (.int i), .val (.int (4 : Int32)), .val (.ref b22), .unset, .unset]) rfl) ?_
    show Goes p e below _ T22 (mkF m 22 #[.val (.int p1), .val (.int p2), .val (.int p3), .val (.int p4), .val (.int p5), .val (.int i), .val (.int (4 : Int32)), .val (.ref b22), .unset, .unset] [])
    refine Goes.of (fun _ => XS.aload X22.here hx rfl (hb hby at_22) rfl rfl) ?_
    show Goes p e below _ T22 (mkF m 24 #[.val (.int p1), .val (.int p2), .val (.int p3), .val (.int p4), .val (.int p5), .val (.int i), .val (.int (4 : Int32)), .val (.ref b22), .unset, .unset] [(.ref b22)])
    refine Goes.of (fun _ => XS.iconst X22.here hx rfl (hb hby at_24)) ?_
    show Goes p e below _ T22 (mkF m 25 #[.val (.int p1), .val (.int p2), .val (.int p3), .val (.int p4), .val (.int p5), .val (.int i), .val (.int (4 : Int32)), .val (.ref b22), .unset, .unset] [(.int (0 : Int32)), (.ref b22)])
    refine Goes.of (fun _ => XS.iloadN X22.here hx rfl (hb hby at_25) rfl) ?_
    show Goes p e below _ T22 (mkF m 26 #[.val (.int p1), .val (.int p2), .val (.int p3), .val (.int p4), .val (.int p5), .val (.int i), .val (.int (4 : Int32)), .val (.ref b22), .unset, .unset] [(.int p3), (.int (0 : Int32)), (.ref b22)])
    refine Goes.of (fun _ => XS.i2b X22.here hx rfl (hb hby at_26) rfl) ?_
    show Goes p e below _ T22 (mkF m 27 #[.val (.int p1), .val (.int p2), .val (.int p3), .val (.int p4), .val (.int p5), .val (.int i), .val (.int (4 : Int32)), .val (.ref b22), .unset, .unset] [(.int (p3.toInt8.toInt32)), (.int (0 : Int32)), (.ref b22)])
    refine goStB 0 X22 hx hZ eT22 V22 (by decide) (by decide) rfl (Nat.lt_of_lt_of_le (Nat.lt_succ_self _) (Nat.le_of_ble_eq_true rfl)) (g := (mkF m 27 #[.val (.int p1), .val (.int p2), .val (.int p3), .val (.int p4), .val (.int p5), .val (.int i), .val (.int (4 : Int32)), .val (.ref b22), .unset, .unset] [(.int (p3.toInt8.toInt32)), (.int (0 : Int32)), (.ref b22)])) rfl rfl (hb hby at_27) ?_
    intro T23 h23 X23 eT23 W23 V22
    have N23 := Fr.snoc X23 N0 g_b22
    have A22 := A22.wr W23
    have O0 := O0.wr W23 g_b22
    have V22 : Arv Z h23 b22 kA22 .byte (4 : Int32) [(.int (nar .byte (p3.toInt8.toInt32))), (.int (0 : Int32)), (.int (0 : Int32)), (.int (0 : Int32))] (.int (0 : Int32)) := V22
    show Goes p e below _ T23 (mkF m 28 #[.val (.int p1), .val (.int p2), .val (.int p3), .val (.int p4), .val (.int p5), .val (.int i), .val (.int (4 : Int32)), .val (.ref b22), .unset, .unset] [])
    refine Goes.of (fun _ => XS.iload X23.here hx rfl (hb hby at_28) rfl) ?_
    show Goes p e below _ T23 (mkF m 30 #[.val (.int p1), .val (.int p2), .val (.int p3), .val (.int p4), .val (.int p5), .val (.int i), .val (.int (4 : Int32)), .val (.ref b22), .unset, .unset] [(.int (4 : Int32))])
    refine Goes.of (fun _ => XS.iconst X23.here hx rfl (hb hby at_30)) ?_
    show Goes p e below _ T23 (mkF m 31 #[.val (.int p1), .val (.int p2), .val (.int p3), .val (.int p4), .val (.int p5), .val (.int i), .val (.int (4 : Int32)), .val (.ref b22), .unset, .unset] [(.int (1 : Int32)), (.int (4 : Int32))])
    refine Goes.of (fun _ => XS.icmpNo X23.here hx rfl (hb hby at_31) rfl (tlt (by decide)).2.2.2) ?_
    show Goes p e below _ T23 (mkF m 34 #[.val (.int p1), .val (.int p2), .val (.int p3), .val (.int p4), .val (.int p5), .val (.int i), .val (.int (4 : Int32)), .val (.ref b22), .unset, .unset] [])
    refine Goes.of (fun _ => XS.aload X23.here hx rfl (hb hby at_34) rfl rfl) ?_
    show Goes p e below _ T23 (mkF m 36 #[.val (.int p1), .val (.int p2), .val (.int p3), .val (.int p4), .val (.int p5), .val (.int i), .val (.int (4 : Int32)), .val (.ref b22), .unset, .unset] [(.ref b22)])
    refine Goes.of (fun _ => XS.iconst X23.here hx rfl (hb hby at_36)) ?_
    show Goes p e below _ T23 (mkF m 37 #[.val (.int p1), .val (.int p2), .val (.int p3), .val (.int p4), .val (.int p5), .val (.int i), .val (.int (4 : Int32)), .val (.ref b22), .unset, .unset] [(.int (1 : Int32)), (.ref b22)])
    refine Goes.of (fun _ => XS.iloadN X23.here hx rfl (hb hby at_37) rfl) ?_
    show Goes p e below _ T23 (mkF m 38 #[.val (.int p1), .val (.int p2), .val (.int p3), .val (.int p4), .val (.int p5), .val (.int i), .val (.int (4 : Int32)), .val (.ref b22), .unset, .unset] [(.int p4), (.int (1 : Int32)), (.ref b22)])
    refine Goes.of (fun _ => XS.i2b X23.here hx rfl (hb hby at_38) rfl) ?_
    show Goes p e below _ T23 (mkF m 39 #[.val (.int p1), .val (.int p2), .val (.int p3), .val (.int p4), .val (.int p5), .val (.int i), .val (.int (4 : Int32)), .val (.ref b22), .unset, .unset] [(.int (p4.toInt8.toInt32)), (.int (1 : Int32)), (.ref b22)])
    refine goStB 1 X23 hx hZ eT23 V22 (by decide) (by decide) rfl (Nat.lt_of_lt_of_le (Nat.lt_succ_self _) (Nat.le_of_ble_eq_true rfl)) (g := (mkF m 39 #[.val (.int p1), .val (.int p2), .val (.int p3), .val (.int p4), .val (.int p5), .val (.int i), .val (.int (4 : Int32)), .val (.ref b22), .unset, .unset] [(.int (p4.toInt8.toInt32)), (.int (1 : Int32)), (.ref b22)])) rfl rfl (hb hby at_39) ?_
    intro T24 h24 X24 eT24 W24 V22
    have N24 := Fr.snoc X24 N23 g_b22
    have A22 := A22.wr W24
    have O0 := O0.wr W24 g_b22
    have V22 : Arv Z h24 b22 kA22 .byte (4 : Int32) [(.int (nar .byte (p3.toInt8.toInt32))), (.int (nar .byte (p4.toInt8.toInt32))), (.int (0 : Int32)), (.int (0 : Int32))] (.int (0 : Int32)) := V22
    show Goes p e below _ T24 (mkF m 40 #[.val (.int p1), .val (.int p2), .val (.int p3), .val (.int p4), .val (.int p5), .val (.int i), .val (.int (4 : Int32)), .val (.ref b22), .unset, .unset] [])
    refine Goes.of (fun _ => XS.iload X24.here hx rfl (hb hby at_40) rfl) ?_
    show Goes p e below _ T24 (mkF m 42 #[.val (.int p1), .val (.int p2), .val (.int p3), .val (.int p4), .val (.int p5), .val (.int i), .val (.int (4 : Int32)), .val (.ref b22), .unset, .unset] [(.int (4 : Int32))])
    refine Goes.of (fun _ => XS.iconst X24.here hx rfl (hb hby at_42)) ?_
    show Goes p e below _ T24 (mkF m 43 #[.val (.int p1), .val (.int p2), .val (.int p3), .val (.int p4), .val (.int p5), .val (.int i), .val (.int (4 : Int32)), .val (.ref b22), .unset, .unset] [(.int (2 : Int32)), (.int (4 : Int32))])
    refine Goes.of (fun _ => XS.icmpNo X24.here hx rfl (hb hby at_43) rfl (tlt (by decide)).2.2.2) ?_
    show Goes p e below _ T24 (mkF m 46 #[.val (.int p1), .val (.int p2), .val (.int p3), .val (.int p4), .val (.int p5), .val (.int i), .val (.int (4 : Int32)), .val (.ref b22), .unset, .unset] [])
    refine Goes.of (fun _ => XS.aload X24.here hx rfl (hb hby at_46) rfl rfl) ?_
    show Goes p e below _ T24 (mkF m 48 #[.val (.int p1), .val (.int p2), .val (.int p3), .val (.int p4), .val (.int p5), .val (.int i), .val (.int (4 : Int32)), .val (.ref b22), .unset, .unset] [(.ref b22)])
    refine Goes.of (fun _ => XS.iconst X24.here hx rfl (hb hby at_48)) ?_
    show Goes p e below _ T24 (mkF m 49 #[.val (.int p1), .val (.int p2), .val (.int p3), .val (.int p4), .val (.int p5), .val (.int i), .val (.int (4 : Int32)), .val (.ref b22), .unset, .unset] [(.int (2 : Int32)), (.ref b22)])
    refine Goes.of (fun _ => XS.iload X24.here hx rfl (hb hby at_49) rfl) ?_
    show Goes p e below _ T24 (mkF m 51 #[.val (.int p1), .val (.int p2), .val (.int p3), .val (.int p4), .val (.int p5), .val (.int i), .val (.int (4 : Int32)), .val (.ref b22), .unset, .unset] [(.int p5), (.int (2 : Int32)), (.ref b22)])
    refine Goes.of (fun _ => XS.i2b X24.here hx rfl (hb hby at_51) rfl) ?_
    show Goes p e below _ T24 (mkF m 52 #[.val (.int p1), .val (.int p2), .val (.int p3), .val (.int p4), .val (.int p5), .val (.int i), .val (.int (4 : Int32)), .val (.ref b22), .unset, .unset] [(.int (p5.toInt8.toInt32)), (.int (2 : Int32)), (.ref b22)])
    refine goStB 2 X24 hx hZ eT24 V22 (by decide) (by decide) rfl (Nat.lt_of_lt_of_le (Nat.lt_succ_self _) (Nat.le_of_ble_eq_true rfl)) (g := (mkF m 52 #[.val (.int p1), .val (.int p2), .val (.int p3), .val (.int p4), .val (.int p5), .val (.int i), .val (.int (4 : Int32)), .val (.ref b22), .unset, .unset] [(.int (p5.toInt8.toInt32)), (.int (2 : Int32)), (.ref b22)])) rfl rfl (hb hby at_52) ?_
    intro T25 h25 X25 eT25 W25 V22
    have N25 := Fr.snoc X25 N24 g_b22
    have A22 := A22.wr W25
    have O0 := O0.wr W25 g_b22
    have V22 : Arv Z h25 b22 kA22 .byte (4 : Int32) [(.int (nar .byte (p3.toInt8.toInt32))), (.int (nar .byte (p4.toInt8.toInt32))), (.int (nar .byte (p5.toInt8.toInt32))), (.int (0 : Int32))] (.int (0 : Int32)) := V22
    show Goes p e below _ T25 (mkF m 53 #[.val (.int p1), .val (.int p2), .val (.int p3), .val (.int p4), .val (.int p5), .val (.int i), .val (.int (4 : Int32)), .val (.ref b22), .unset, .unset] [])
    refine Goes.of (fun _ => XS.iload X25.here hx rfl (hb hby at_53) rfl) ?_
    show Goes p e below _ T25 (mkF m 55 #[.val (.int p1), .val (.int p2), .val (.int p3), .val (.int p4), .val (.int p5), .val (.int i), .val (.int (4 : Int32)), .val (.ref b22), .unset, .unset] [(.int (4 : Int32))])
    refine Goes.of (fun _ => XS.iconst X25.here hx rfl (hb hby at_55)) ?_
    show Goes p e below _ T25 (mkF m 56 #[.val (.int p1), .val (.int p2), .val (.int p3), .val (.int p4), .val (.int p5), .val (.int i), .val (.int (4 : Int32)), .val (.ref b22), .unset, .unset] [(.int (3 : Int32)), (.int (4 : Int32))])
    refine Goes.of (fun _ => XS.icmpNo X25.here hx rfl (hb hby at_56) rfl (tlt (by decide)).2.2.2) ?_
    show Goes p e below _ T25 (mkF m 59 #[.val (.int p1), .val (.int p2), .val (.int p3), .val (.int p4), .val (.int p5), .val (.int i), .val (.int (4 : Int32)), .val (.ref b22), .unset, .unset] [])
    refine Goes.of (fun _ => XS.aload X25.here hx rfl (hb hby at_59) rfl rfl) ?_
    show Goes p e below _ T25 (mkF m 61 #[.val (.int p1), .val (.int p2), .val (.int p3), .val (.int p4), .val (.int p5), .val (.int i), .val (.int (4 : Int32)), .val (.ref b22), .unset, .unset] [(.ref b22)])
    refine Goes.of (fun _ => XS.iconst X25.here hx rfl (hb hby at_61)) ?_
    show Goes p e below _ T25 (mkF m 62 #[.val (.int p1), .val (.int p2), .val (.int p3), .val (.int p4), .val (.int p5), .val (.int i), .val (.int (4 : Int32)), .val (.ref b22), .unset, .unset] [(.int (3 : Int32)), (.ref b22)])
    refine Goes.of (fun _ => XS.iloadN X25.here hx rfl (hb hby at_62) rfl) ?_
    show Goes p e below _ T25 (mkF m 63 #[.val (.int p1), .val (.int p2), .val (.int p3), .val (.int p4), .val (.int p5), .val (.int i), .val (.int (4 : Int32)), .val (.ref b22), .unset, .unset] [(.int p3), (.int (3 : Int32)), (.ref b22)])
    refine Goes.of (fun _ => XS.iloadN X25.here hx rfl (hb hby at_63) rfl) ?_
    show Goes p e below _ T25 (mkF m 64 #[.val (.int p1), .val (.int p2), .val (.int p3), .val (.int p4), .val (.int p5), .val (.int i), .val (.int (4 : Int32)), .val (.ref b22), .unset, .unset] [(.int p4), (.int p3), (.int (3 : Int32)), (.ref b22)])
    refine Goes.of (fun _ => XS.ixor X25.here hx rfl (hb hby at_64) rfl) ?_
    show Goes p e below _ T25 (mkF m 65 #[.val (.int p1), .val (.int p2), .val (.int p3), .val (.int p4), .val (.int p5), .val (.int i), .val (.int (4 : Int32)), .val (.ref b22), .unset, .unset] [(.int (p3 ^^^ p4)), (.int (3 : Int32)), (.ref b22)])
    refine Goes.of (fun _ => XS.i2b X25.here hx rfl (hb hby at_65) rfl) ?_
    show Goes p e below _ T25 (mkF m 66 #[.val (.int p1), .val (.int p2), .val (.int p3), .val (.int p4), .val (.int p5), .val (.int i), .val (.int (4 : Int32)), .val (.ref b22), .unset, .unset] [(.int ((p3 ^^^ p4).toInt8.toInt32)), (.int (3 : Int32)), (.ref b22)])
    refine goStB 3 X25 hx hZ eT25 V22 (by decide) (by decide) rfl (Nat.lt_of_lt_of_le (Nat.lt_succ_self _) (Nat.le_of_ble_eq_true rfl)) (g := (mkF m 66 #[.val (.int p1), .val (.int p2), .val (.int p3), .val (.int p4), .val (.int p5), .val (.int i), .val (.int (4 : Int32)), .val (.ref b22), .unset, .unset] [(.int ((p3 ^^^ p4).toInt8.toInt32)), (.int (3 : Int32)), (.ref b22)])) rfl rfl (hb hby at_66) ?_
    intro T26 h26 X26 eT26 W26 V22
    have N26 := Fr.snoc X26 N25 g_b22
    have A22 := A22.wr W26
    have O0 := O0.wr W26 g_b22
    have V22 : Arv Z h26 b22 kA22 .byte (4 : Int32) [(.int (nar .byte (p3.toInt8.toInt32))), (.int (nar .byte (p4.toInt8.toInt32))), (.int (nar .byte (p5.toInt8.toInt32))), (.int (nar .byte ((p3 ^^^ p4).toInt8.toInt32)))] (.int (0 : Int32)) := V22
    show Goes p e below _ T26 (mkF m 67 #[.val (.int p1), .val (.int p2), .val (.int p3), .val (.int p4), .val (.int p5), .val (.int i), .val (.int (4 : Int32)), .val (.ref b22), .unset, .unset] [])
    refine goNew X26 hx hZ hown (hw _ (List.mem_of_getElem? (i := 2) rfl)) (hw _ (List.mem_of_getElem? (i := 3) rfl)) (hw _ (List.mem_of_getElem? (i := 4) rfl)) eT26 (g := (mkF m 67 #[.val (.int p1), .val (.int p2), .val (.int p3), .val (.int p4), .val (.int p5), .val (.int i), .val (.int (4 : Int32)), .val (.ref b22), .unset, .unset] [])) rfl (hb hby at_67) (by decide) (by decide) ?_
    intro T27 h27 b27 X27 eT27 E27 hb27 A27 D27
    have g_b27 : n0 ≤ b27 := Nat.le_trans (oldLe O0) hb27
    have ne_b22_b27 : b22 ≠ b27 := Nat.ne_of_lt (Nat.lt_of_lt_of_le V22.lt hb27)
    have V22 := V22.ext E27
    have A22 := A22.ext E27
    have O0 := O0.ext E27
    have F27_secret : Fld Z h27 b27 "com/example/claimgate/claimgate/token/HmacKey" "secret" "[B" .null := D27 (Or.inr (hw _ (List.mem_of_getElem? (i := 26) rfl))) (ty := (.array .byte)) (by decide)
    show Goes p e below _ T27 (mkF m 70 #[.val (.int p1), .val (.int p2), .val (.int p3), .val (.int p4), .val (.int p5), .val (.int i), .val (.int (4 : Int32)), .val (.ref b22), .unset, .unset] [(.ref b27)])
    refine Goes.of (fun _ => XS.dup X27.here hx rfl (hb hby at_70) rfl rfl) ?_
    show Goes p e below _ T27 (mkF m 71 #[.val (.int p1), .val (.int p2), .val (.int p3), .val (.int p4), .val (.int p5), .val (.int i), .val (.int (4 : Int32)), .val (.ref b22), .unset, .unset] [(.ref b27), (.ref b27)])
    refine Goes.of (fun _ => XS.aload X27.here hx rfl (hb hby at_71) rfl rfl) ?_
    show Goes p e below _ T27 (mkF m 73 #[.val (.int p1), .val (.int p2), .val (.int p3), .val (.int p4), .val (.int p5), .val (.int i), .val (.int (4 : Int32)), .val (.ref b22), .unset, .unset] [(.ref b22), (.ref b27), (.ref b27)])
    refine goSpecial 1 X27 hx hZ rfl hown (hw _ (List.mem_of_getElem? (i := 5) rfl)) (hw _ (List.mem_of_getElem? (i := 6) rfl)) (hw _ (List.mem_of_getElem? (i := 4) rfl)) (hw _ (List.mem_of_getElem? (i := 7) rfl)) (by decide) (rm_init l Z a0 hw b27 b22 _ _ _ _ h27 n0 O0 g_b27 (Ne.symm ne_b22_b27) A27 F27_secret V22 A22 (by decide) (by decide)) eT27 (g := (mkF m 73 #[.val (.int p1), .val (.int p2), .val (.int p3), .val (.int p4), .val (.int p5), .val (.int i), .val (.int (4 : Int32)), .val (.ref b22), .unset, .unset] [(.ref b22), (.ref b27), (.ref b27)])) rfl (by rw [hml]; rfl) b27 [(.ref b22)] [(.ref b27)] (lenOf pd___B_V rfl) rfl rfl (by show 2 * 0 + _ ≤ _; exact Nat.le_of_eq rfl) (hb hby at_73) (by decide) (by decide) (by decide) (by decide) ?_
    intro v28 T28 L28 X28 q28
    obtain ⟨rfl, Nq28, Kq28⟩ := q28
    have N28 := Fr.app N26 Nq28
    have V22 := V22.keep Kq28 (ninS ne_b22_b27 nin0)
    have A22 := A22.keep Kq28
    have A27 := A27.keep Kq28
    have O0 := O0.keep Kq28 (allS g_b27 all0)
    show Goes p e below _ T28 (mkF m 76 #[.val (.int p1), .val (.int p2), .val (.int p3), .val (.int p4), .val (.int p5), .val (.int i), .val (.int (4 : Int32)), .val (.ref b22), .unset, .unset] [(.ref b27)])
    refine Goes.of (fun _ => XS.astore X28.here hx rfl (hb hby at_76) rfl rfl (l' := #[.val (.int p1), .val (.int p2), .val (.int p3), .val (.int p4), .val (.int p5), .val (.int i), .val (.int (4 : Int32)), .val (.ref b22), .val (.ref b27), .unset]) rfl) ?_
    show Goes p e below _ T28 (mkF m 78 #[.val (.int p1), .val (.int p2), .val (.int p3), .val (.int p4), .val (.int p5), .val (.int i), .val (.int (4 : Int32)), .val (.ref b22), .val (.ref b27), .unset] [])
    refine Goes.of (fun _ => XS.iload X28.here hx rfl (hb hby at_78) rfl) ?_
    show Goes p e below _ T28 (mkF m 80 #[.val (.int p1), .val (.int p2), .val (.int p3), .val (.int p4), .val (.int p5), .val (.int i), .val (.int (4 : Int32)), .val (.ref b22), .val (.ref b27), .unset] [(.int i)])
    refine Goes.of (fun _ => XS.iconst X28.here hx rfl (hb hby at_80)) ?_
    show Goes p e below _ T28 (mkF m 81 #[.val (.int p1), .val (.int p2), .val (.int p3), .val (.int p4), .val (.int p5), .val (.int i), .val (.int (4 : Int32)), .val (.ref b22), .val (.ref b27), .unset] [(.int (2 : Int32)), (.int i)])
    refine Goes.of (T' := T28) (f' := (mkF m 89 #[.val (.int p1), .val (.int p2), .val (.int p3), .val (.int p4), .val (.int p5), .val (.int i), .val (.int (4 : Int32)), .val (.ref b22), .val (.ref b27), .unset] [(.int (if (2 : Int32) < i then (0 : Int32) else (1 : Int32)))])) (fun t kt => ?_) ?_
    · show Steps p.tables e below (T28.setTop (mkF m 81 #[.val (.int p1), .val (.int p2), .val (.int p3), .val (.int p4), .val (.int p5), .val (.int i), .val (.int (4 : Int32)), .val (.ref b22), .val (.ref b27), .unset] [(.int (2 : Int32)), (.int i)])) _
      by_cases hq81 : (2 : Int32) < i
      · simp only [if_pos hq81] at kt
        refine XS.icmpYes X28.here hx rfl (pc0 := 81) (pc' := 88) rfl (hb hby at_81) rfl (tlt hq81).2.2.1 (by decide) (by decide) ?_
        show Steps p.tables e below (T28.setTop (mkF m 88 #[.val (.int p1), .val (.int p2), .val (.int p3), .val (.int p4), .val (.int p5), .val (.int i), .val (.int (4 : Int32)), .val (.ref b22), .val (.ref b27), .unset] [])) _
        refine XS.iconst X28.here hx rfl (hb hby at_88) ?_
        show Steps p.tables e below (T28.setTop (mkF m 89 #[.val (.int p1), .val (.int p2), .val (.int p3), .val (.int p4), .val (.int p5), .val (.int i), .val (.int (4 : Int32)), .val (.ref b22), .val (.ref b27), .unset] [(.int (0 : Int32))])) _
        exact kt
      · simp only [if_neg hq81] at kt
        refine XS.icmpNo X28.here hx rfl (hb hby at_81) rfl (flt hq81).2.2.1 ?_
        show Steps p.tables e below (T28.setTop (mkF m 84 #[.val (.int p1), .val (.int p2), .val (.int p3), .val (.int p4), .val (.int p5), .val (.int i), .val (.int (4 : Int32)), .val (.ref b22), .val (.ref b27), .unset] [])) _
        refine XS.iconst X28.here hx rfl (hb hby at_84) ?_
        show Steps p.tables e below (T28.setTop (mkF m 85 #[.val (.int p1), .val (.int p2), .val (.int p3), .val (.int p4), .val (.int p5), .val (.int i), .val (.int (4 : Int32)), .val (.ref b22), .val (.ref b27), .unset] [(.int (1 : Int32))])) _
        refine XS.goto X28.here hx rfl (pc0 := 85) (pc' := 89) rfl (hb hby at_85) (by decide) (by decide) ?_
        show Steps p.tables e below (T28.setTop (mkF m 89 #[.val (.int p1), .val (.int p2), .val (.int p3), .val (.int p4), .val (.int p5), .val (.int i), .val (.int (4 : Int32)), .val (.ref b22), .val (.ref b27), .unset] [(.int (1 : Int32))])) _
        exact kt
    show Goes p e below _ T28 (mkF m 89 #[.val (.int p1), .val (.int p2), .val (.int p3), .val (.int p4), .val (.int p5), .val (.int i), .val (.int (4 : Int32)), .val (.ref b22), .val (.ref b27), .unset] [(.int (if (2 : Int32) < i then (0 : Int32) else (1 : Int32)))])
    refine Goes.of (fun _ => XS.istore X28.here hx rfl (hb hby at_89) rfl (l' := #[.val (.int p1), .val (.int p2), .val (.int p3), .val (.int p4), .val (.int p5), .val (.int i), .val (.int (4 : Int32)), .val (.ref b22), .val (.ref b27), .val (.int (if (2 : Int32) < i then (0 : Int32) else (1 : Int32)))]) rfl) ?_
    show Goes p e below _ T28 (mkF m 91 #[.val (.int p1), .val (.int p2), .val (.int p3), .val (.int p4), .val (.int p5), .val (.int i), .val (.int (4 : Int32)), .val (.ref b22), .val (.ref b27), .val (.int (if (2 : Int32) < i then (0 : Int32) else (1 : Int32)))] [])
    refine Goes.of (fun _ => XS.aload X28.here hx rfl (hb hby at_91) rfl rfl) ?_
    show Goes p e below _ T28 (mkF m 93 #[.val (.int p1), .val (.int p2), .val (.int p3), .val (.int p4), .val (.int p5), .val (.int i), .val (.int (4 : Int32)), .val (.ref b22), .val (.ref b27), .val (.int (if (2 : Int32) < i then (0 : Int32) else (1 : Int32)))] [(.ref b27)])
    refine Goes.of (fun _ => XS.iload X28.here hx rfl (hb hby at_93) rfl) ?_
    show Goes p e below _ T28 (mkF m 95 #[.val (.int p1), .val (.int p2), .val (.int p3), .val (.int p4), .val (.int p5), .val (.int i), .val (.int (4 : Int32)), .val (.ref b22), .val (.ref b27), .val (.int (if (2 : Int32) < i then (0 : Int32) else (1 : Int32)))] [(.int i), (.ref b27)])
    refine goStatic 1 X28 hx hZ hown (hw _ (List.mem_of_getElem? (i := 27) rfl)) (hw _ (List.mem_of_getElem? (i := 28) rfl)) (hw _ (List.mem_of_getElem? (i := 29) rfl)) (hw _ (List.mem_of_getElem? (i := 30) rfl)) (by decide) (rm_pick l Z a0 hw i w0 w1 w2 w3 w4 w5 w6 w7 w8 T28.heap n0 O0 c0 c1 c2 c3 c4 c5 c6 c7 c8) (rfl : T28.heap = _) (g := (mkF m 95 #[.val (.int p1), .val (.int p2), .val (.int p3), .val (.int p4), .val (.int p5), .val (.int i), .val (.int (4 : Int32)), .val (.ref b22), .val (.ref b27), .val (.int (if (2 : Int32) < i then (0 : Int32) else (1 : Int32)))] [(.int i), (.ref b27)])) rfl (by rw [hml]; rfl) [(.int i)] [(.ref b27)] (lenOf pd__I_Lcom_example_claimgate_claimgate_token_Algorithm_ rfl) rfl rfl (by show 2 * 0 + _ ≤ _; exact Nat.le_of_eq rfl) (hb hby at_95) (by decide) (by decide) (by decide) (by decide) ?_
    intro v29 T29 L29 X29 q29
    obtain ⟨rfl, Nq29, eT29⟩ := q29
    have N29 := Fr.app N28 Nq29
    show Goes p e below _ T29 (mkF m 98 #[.val (.int p1), .val (.int p2), .val (.int p3), .val (.int p4), .val (.int p5), .val (.int i), .val (.int (4 : Int32)), .val (.ref b22), .val (.ref b27), .val (.int (if (2 : Int32) < i then (0 : Int32) else (1 : Int32)))] [(.ref (pickW i w0 w1 w2 w3 w4 w5 w6 w7 w8)), (.ref b27)])
    refine goVirtual 0 X29 hx hZ hown (hw _ (List.mem_of_getElem? (i := 34) rfl)) (hw _ (List.mem_of_getElem? (i := 35) rfl)) (notFace_of_selects (args := #[]) (mvT hZ (hw _ (List.mem_of_getElem? (i := 37) rfl)))) (hw _ (List.mem_of_getElem? (i := 37) rfl)) (hw _ (List.mem_of_getElem? (i := 36) rfl)) (hw _ (List.mem_of_getElem? (i := 4) rfl)) (hw _ (List.mem_of_getElem? (i := 38) rfl)) (by decide) (rm_checks l Z a0 hw b27 (pickW i w0 w1 w2 w3 w4 w5 w6 w7 w8) (pickF i y0 y1 y2) y0 T28.heap n0 O0 (pick_exa i c0 c1 c2 c3 c4 c5 c6 c7 c8) (pick_fam i m0 m1 m2 m3 m4 m5 m6 m7 m8) f0) eT29 A27 (g := (mkF m 98 #[.val (.int p1), .val (.int p2), .val (.int p3), .val (.int p4), .val (.int p5), .val (.int i), .val (.int (4 : Int32)), .val (.ref b22), .val (.ref b27), .val (.int (if (2 : Int32) < i then (0 : Int32) else (1 : Int32)))] [(.ref (pickW i w0 w1 w2 w3 w4 w5 w6 w7 w8)), (.ref b27)])) rfl (by rw [hml]; rfl) [(.ref (pickW i w0 w1 w2 w3 w4 w5 w6 w7 w8))] [] (lenOf pd__Lcom_example_claimgate_claimgate_token_Algorithm__Z rfl) rfl rfl (by show 2 * 0 + _ ≤ _; exact Nat.le_of_eq rfl) (hb hby at_98) (by decide) (by decide) (by decide) (by decide) ?_
    intro v30 T30 L30 X30 q30
    obtain ⟨rfl, Nq30, eT30⟩ := q30
    have N30 := Fr.app N29 Nq30
    show Goes p e below _ T30 (mkF m 101 #[.val (.int p1), .val (.int p2), .val (.int p3), .val (.int p4), .val (.int p5), .val (.int i), .val (.int (4 : Int32)), .val (.ref b22), .val (.ref b27), .val (.int (if (2 : Int32) < i then (0 : Int32) else (1 : Int32)))] [(.int (if pickF i y0 y1 y2 = y0 then (1 : Int32) else (0 : Int32)))])
    refine Goes.of (fun _ => XS.iload X30.here hx rfl (hb hby at_101) rfl) ?_
    show Goes p e below _ T30 (mkF m 103 #[.val (.int p1), .val (.int p2), .val (.int p3), .val (.int p4), .val (.int p5), .val (.int i), .val (.int (4 : Int32)), .val (.ref b22), .val (.ref b27), .val (.int (if (2 : Int32) < i then (0 : Int32) else (1 : Int32)))] [(.int (if (2 : Int32) < i then (0 : Int32) else (1 : Int32))), (.int (if pickF i y0 y1 y2 = y0 then (1 : Int32) else (0 : Int32)))])
    refine Goes.of (fun _ => XS.icmpNo X30.here hx rfl (hb hby at_103) rfl (teq (pick_eq i f0 f1 f2 hi0 hi9)).2) ?_
    show Goes p e below _ T30 (mkF m 106 #[.val (.int p1), .val (.int p2), .val (.int p3), .val (.int p4), .val (.int p5), .val (.int i), .val (.int (4 : Int32)), .val (.ref b22), .val (.ref b27), .val (.int (if (2 : Int32) < i then (0 : Int32) else (1 : Int32)))] [])
    refine Goes.of (fun _ => XS.iconst X30.here hx rfl (hb hby at_106)) ?_
    show Goes p e below _ T30 (mkF m 107 #[.val (.int p1), .val (.int p2), .val (.int p3), .val (.int p4), .val (.int p5), .val (.int i), .val (.int (4 : Int32)), .val (.ref b22), .val (.ref b27), .val (.int (if (2 : Int32) < i then (0 : Int32) else (1 : Int32)))] [(.int (1 : Int32))])
    refine Goes.of (fun _ => XS.goto X30.here hx rfl (pc0 := 107) (pc' := 111) rfl (hb hby at_107) (by decide) (by decide)) ?_
    show Goes p e below _ T30 (mkF m 111 #[.val (.int p1), .val (.int p2), .val (.int p3), .val (.int p4), .val (.int p5), .val (.int i), .val (.int (4 : Int32)), .val (.ref b22), .val (.ref b27), .val (.int (if (2 : Int32) < i then (0 : Int32) else (1 : Int32)))] [(.int (1 : Int32))])
    exact retZ (t := .boolean) X30 hx hret hlk (by simp) (hb hby at_111) eT30 (by decide) (by decide) ⟨rfl, N30⟩
set_option maxRecDepth 65536 in
set_option maxHeartbeats 40000000 in
theorem comes_1 {Post : Tables → Env → Array Value → State → Outcome → State → Prop} (hpost : ∀ tb e args s v u, (limb_1_1.after args s (.returned v) u = true ∧ limb_1_2.after args s (.returned v) u = true ∧ True) → FrameEnd s (.returned v) u (Jvm.fieldLocs frame_1_writes args s ++ Jvm.arrayLocs frame_1_arrays args s ++ Jvm.staticLocs frame_1_statics s) 16 128 → Post tb e args s (.returned v) u) :
    ArmFor flags0 classFile x code maxLocals ret World_1 tables_1 room_1 Calls_1 rest_1 Pre_1 Post := by
  intro l hfl _ _ p e ha hc hk s m args below hf hA hF happ hP
  obtain ⟨hcalls, hrest, hpre⟩ := hP
  obtain ⟨-, -, -, hnamed, -, -, -, hat⟩ := (Spec.applies_iff hf).mp happ
  obtain ⟨hg, hn⟩ := and_e (Cond.before_iff.mp (show (Jvm.Cond.and given_1 narrow_1).before args s = true from hpre))
  obtain ⟨hcount, hg0⟩ := and_e hg
  obtain ⟨hv0, hg1⟩ := and_e hg0
  obtain ⟨hv1, hg2⟩ := and_e hg1
  obtain ⟨hv2, hg3⟩ := and_e hg2
  obtain ⟨hv3, hg4⟩ := and_e hg3
  have hv4 := hg4
  obtain ⟨w0, w1, w2, w3, w4, rfl⟩ : ∃ w0 w1 w2 w3 w4 : Value, args = #[w0, w1, w2, w3, w4] := by
    have hs : args.size = 5 := by simpa [Cond.value, given_1] using hcount
    obtain ⟨L⟩ := args
    match L, hs with
    | [w0, w1, w2, w3, w4], _ => exact ⟨w0, w1, w2, w3, w4, rfl⟩
  have hw := fun d (hd : d ∈ tables_1) => atoms_spec (ws := Jvm.Cond.code x code maxLocals ret :: tables_1) hat d (List.mem_cons_of_mem _ hd)
  have hfit : Fit s := fun {y c} hc i hi => by
    obtain ⟨ha, rfl⟩ := Array.getElem?_eq_some_iff.mp hc
    have q := List.all_eq_true.mp ((Array.all_eq_true_iff_forall_mem.mp hF) _ (Array.getElem_mem ha)) i (List.mem_range.mpr hi)
    simpa [Array.getElem?_eq_getElem hi] using q
  obtain ⟨i0, ei0⟩ := is_v hv0
  obtain rfl : w0 = (.int i0) := Option.some.inj ei0
  obtain ⟨i1, ei1⟩ := is_v hv1
  obtain rfl : w1 = (.int i1) := Option.some.inj ei1
  obtain ⟨i2, ei2⟩ := is_v hv2
  obtain rfl : w2 = (.int i2) := Option.some.inj ei2
  obtain ⟨i3, ei3⟩ := is_v hv3
  obtain rfl : w3 = (.int i3) := Option.some.inj ei3
  obtain ⟨i4, ei4⟩ := is_v hv4
  obtain rfl : w4 = (.int i4) := Option.some.inj ei4
  obtain ⟨nw0, nr0⟩ := and_e hn
  obtain ⟨nw1, nr1⟩ := and_e nr0
  obtain ⟨nw2, nr2⟩ := and_e nr1
  obtain ⟨nw3, nr3⟩ := and_e nr2
  obtain ⟨nw4, nr4⟩ := and_e nr3
  obtain ⟨nw5, nr5⟩ := and_e nr4
  obtain ⟨nw6, nr6⟩ := and_e nr5
  obtain ⟨nw7, nr7⟩ := and_e nr6
  obtain ⟨nw8, nr8⟩ := and_e nr7
  obtain ⟨nw9, nr9⟩ := and_e nr8
  obtain ⟨nw10, nr10⟩ := and_e nr9
  obtain ⟨nw11, nr11⟩ := and_e nr10
  obtain ⟨nw12, nr12⟩ := and_e nr11
  obtain ⟨nw13, nr13⟩ := and_e nr12
  obtain ⟨nw14, nr14⟩ := and_e nr13
  obtain ⟨nw15, nr15⟩ := and_e nr14
  obtain ⟨nw16, nr16⟩ := and_e nr15
  obtain ⟨nw17, nr17⟩ := and_e nr16
  obtain ⟨nw18, nr18⟩ := and_e nr17
  obtain ⟨nw19, nr19⟩ := and_e nr18
  obtain ⟨nw20, nr20⟩ := and_e nr19
  obtain ⟨nw21, nr21⟩ := and_e nr20
  obtain ⟨nw22, nr22⟩ := and_e nr21
  have nw23 := nr22
  obtain ⟨y0', f0, evf0⟩ := con_of nw1 nw7 (hw _ (List.mem_of_getElem? (i := 46) rfl)) (hw _ (List.mem_of_getElem? (i := 47) rfl))
  obtain ⟨y1', f1, evf1⟩ := con_of nw4 nw6 (hw _ (List.mem_of_getElem? (i := 46) rfl)) (hw _ (List.mem_of_getElem? (i := 51) rfl))
  obtain ⟨y2', f2, evf2⟩ := con_of nw9 nw11 (hw _ (List.mem_of_getElem? (i := 46) rfl)) (hw _ (List.mem_of_getElem? (i := 54) rfl))
  obtain ⟨w0', c0, ev0⟩ := cst_of nw0 (hw _ (List.mem_of_getElem? (i := 32) rfl)) (hw _ (List.mem_of_getElem? (i := 33) rfl))
  have m0 := fld_of_eq ev0 evf0 nw2
  obtain ⟨w1', c1, ev1⟩ := cst_of nw18 (hw _ (List.mem_of_getElem? (i := 32) rfl)) (hw _ (List.mem_of_getElem? (i := 62) rfl))
  have m1 := fld_of_eq ev1 evf0 nw19
  obtain ⟨w2', c2, ev2⟩ := cst_of nw20 (hw _ (List.mem_of_getElem? (i := 32) rfl)) (hw _ (List.mem_of_getElem? (i := 64) rfl))
  have m2 := fld_of_eq ev2 evf0 nw21
  obtain ⟨w3', c3, ev3⟩ := cst_of nw3 (hw _ (List.mem_of_getElem? (i := 32) rfl)) (hw _ (List.mem_of_getElem? (i := 50) rfl))
  have m3 := fld_of_eq ev3 evf1 nw5
  obtain ⟨w4', c4, ev4⟩ := cst_of nw12 (hw _ (List.mem_of_getElem? (i := 32) rfl)) (hw _ (List.mem_of_getElem? (i := 56) rfl))
  have m4 := fld_of_eq ev4 evf1 nw13
  obtain ⟨w5', c5, ev5⟩ := cst_of nw22 (hw _ (List.mem_of_getElem? (i := 32) rfl)) (hw _ (List.mem_of_getElem? (i := 66) rfl))
  have m5 := fld_of_eq ev5 evf1 nw23
  obtain ⟨w6', c6, ev6⟩ := cst_of nw14 (hw _ (List.mem_of_getElem? (i := 32) rfl)) (hw _ (List.mem_of_getElem? (i := 58) rfl))
  have m6 := fld_of_eq ev6 evf2 nw15
  obtain ⟨w7', c7, ev7⟩ := cst_of nw16 (hw _ (List.mem_of_getElem? (i := 32) rfl)) (hw _ (List.mem_of_getElem? (i := 60) rfl))
  have m7 := fld_of_eq ev7 evf2 nw17
  obtain ⟨w8', c8, ev8⟩ := cst_of nw8 (hw _ (List.mem_of_getElem? (i := 32) rfl)) (hw _ (List.mem_of_getElem? (i := 53) rfl))
  have m8 := fld_of_eq ev8 evf2 nw10
  obtain ⟨n, o, h1, h2, h3, _, L, rfl, ⟨rfl, N⟩, hq⟩ := rm_law l s _ hw tables_1 i0 i1 i2 i3 i4 w0' w1' w2' w3' w4' w5' w6' w7' w8' y0' y1' y2' s.heap s.heap.size (Old.start s) c0 c1 c2 c3 c4 c5 c6 c7 c8 m0 m1 m2 m3 m4 m5 m6 m7 m8 f0 f1 f2 p e ha hc hk s m _ below hf ((Spec.applies_iff_loose hf).mp happ).1 ⟨rfl, State.Warmed39.refl s, rfl⟩ trivial
  refine ⟨n, _, h1, h2, h3, hpost _ _ _ _ _ _ ⟨Cond.after_iff.mpr rfl, Cond.after_iff.mpr (eq_i res_at (Term.int_eval (1)) rfl), trivial⟩ ⟨hq.1, hq.2.1, (hq.2.2.sift fun y hy => Or.inr (N y hy)).mono (by decide) (by decide)⟩⟩
theorem main_1_1 : Claimed_1_1 := comes_1 fun _ _ _ _ _ _ h hF => ⟨h.1, hF⟩
theorem main_1_2 : Claimed_1_2 := comes_1 fun _ _ _ _ _ _ h hF => ⟨h.2.1, hF⟩
end Jvm.Pilot.@@N@@
namespace Jvm.Pilot.@@N@@
open Jvm Jvm.ClassFile Sem Op Lib Jvm.Free Jvm.Stand Jvm.Pilot.@@N@@.Jvm.D
/-! MADE BY PROGRAM (witnessworld.py) out of the Statement's table words and the real class files: 15 classes; the members and pool entries that the words name. The judged class is class 1, her method 2. -/
namespace start1
open Jvm.ClassFile
def u (s : String) : CpInfo := .utf8 (stringToUtf16 s)
/-- a pool by its gaps: so many unusable entries, then the entry; so many at the end -/
def gap : Nat → List CpInfo → List CpInfo
  | 0, r => r
  | n + 1, r => .unusable :: gap n r
def poolList (es : List (Nat × CpInfo)) (last : Nat) : List CpInfo := es.foldr (fun e r => gap e.1 (e.2 :: r)) (gap last [])
def pool (es : List (Nat × CpInfo)) (last : Nat) : Array CpInfo := ⟨poolList es last⟩
def fileOf (pool : Array CpInfo) (this : Nat) (attrs : Array Attribute := #[]) (ms : Array MethodInfo := #[]) (fl : Nat := 33) (sup : Nat := 0) (ifs : Array Nat := #[]) (fds : Array FieldInfo := #[]) : ClassFile where
  minorVersion := 0
  majorVersion := 65
  constantPool := pool
  accessFlags := fl
  thisClass := this
  superClass := sup
  interfaces := ifs
  fields := fds
  methods := ms
  attributes := attrs
def plain (name : String) (sup : Option ClassId) : Class where
  name := name
  kind := .ordinary
  loader := none
  accessFlags := 33
  super := sup
  interfaces := #[]
  cf := none
  fields := #[]
  methods := #[]
  instanceTypes := #[]
  staticTypes := #[]
  resolved := #[]
  callSites := []
  init := .initialized
  statics := none
  mirror := none

def pool0 : Array CpInfo := pool [(5, u "<init>"), (0, u "()V"), (1, .class_ 10), (1, u "java/lang/Object"), (85, u "clone"), (0, u "()Ljava/lang/Object;")] 26

def k0c0 : Code := { maxStack := 0, maxLocals := 1, code := object_method_1_code, exceptionTable := #[], attributes := #[] }
def k0m0 : Method := { name := "<init>", desc := "()V", sig := { parameters := [], returnType := none }, accessFlags := 1, code := some k0c0 }
def k0m1 : Method := { name := "clone", desc := "()Ljava/lang/Object;", sig := { parameters := [], returnType := some (.object "java/lang/Object") }, accessFlags := 260, code := none }
/-- java/lang/Object -/
def k0 : Class := { plain "java/lang/Object" none with
  accessFlags := 33
  interfaces := #[]
  cf := some (fileOf pool0 8 #[] #[{ accessFlags := 1, nameIndex := 5, descriptorIndex := 6, attributes := #[] }, { accessFlags := 260, nameIndex := 96, descriptorIndex := 97, attributes := #[] }] 33 0 #[] #[])
  fields := #[]
  methods := #[k0m0, k0m1]
  instanceTypes := #[]
  staticTypes := #[]
  resolved := Array.replicate 124 none
  statics := none }

def pool1 : Array CpInfo := pool [(2, .class_ 4), (1, u "java/lang/Object"), (0, u "<init>"), (0, u "()V"), (0, .fieldref 8 9), (0, .class_ 10), (0, .nameAndType 11 12), (0, u "com/example/claimgate/claimgate/token/Algorithm"), (0, u "HS256"), (0, u "Lcom/example/claimgate/claimgate/token/Algorithm;"), (0, .fieldref 8 14), (0, .nameAndType 15 12), (0, u "HS384"), (0, .fieldref 8 17), (0, .nameAndType 18 12), (0, u "HS512"), (0, .fieldref 8 20), (0, .nameAndType 21 12), (0, u "RS256"), (0, .fieldref 8 23), (0, .nameAndType 24 12), (0, u "RS384"), (0, .fieldref 8 26), (0, .nameAndType 27 12), (0, u "RS512"), (0, .fieldref 8 29), (0, .nameAndType 30 12), (0, u "ES256"), (0, .fieldref 8 32), (0, .nameAndType 33 12), (0, u "ES384"), (0, .fieldref 8 35), (0, .nameAndType 36 12), (0, u "ES512"), (0, .integer 2147483647), (0, .class_ 39), (0, u "com/example/claimgate/claimgate/token/HmacKey"), (0, .methodref 38 41), (0, .nameAndType 5 42), (0, u "([B)V"), (0, .methodref 44 45), (0, .class_ 46), (0, .nameAndType 47 48), (0, u "com/example/claimgate/claimgate/token/HmacKeyChecksPinLaw"), (0, u "pick"), (0, u "(I)Lcom/example/claimgate/claimgate/token/Algorithm;"), (0, .methodref 38 50), (0, .nameAndType 51 52), (0, u "checks"), (0, u "(Lcom/example/claimgate/claimgate/token/Algorithm;)Z"), (3, u "law"), (0, u "(IIIII)Z")] 4

def k1m0 : Method := { name := "<init>", desc := "()V", sig := { parameters := [], returnType := none }, accessFlags := 1, code := none }
def k1c1 : Code := { maxStack := 2, maxLocals := 1, code := method_2_code, exceptionTable := #[], attributes := #[] }
def k1m1 : Method := { name := "pick", desc := "(I)Lcom/example/claimgate/claimgate/token/Algorithm;", sig := { parameters := [.int], returnType := some (.object "com/example/claimgate/claimgate/token/Algorithm") }, accessFlags := 10, code := some k1c1 }
def k1c2 : Code := { maxStack := 4, maxLocals := 10, code := code, exceptionTable := #[], attributes := #[] }
def k1m2 : Method := { name := "law", desc := "(IIIII)Z", sig := { parameters := [.int, .int, .int, .int, .int], returnType := some .boolean }, accessFlags := 9, code := some k1c2 }
/-- com/example/claimgate/claimgate/token/HmacKeyChecksPinLaw -/
def k1 : Class := { plain "com/example/claimgate/claimgate/token/HmacKeyChecksPinLaw" (some 0) with
  accessFlags := 49
  interfaces := #[]
  cf := some (fileOf pool1 44 #[] #[{ accessFlags := 1, nameIndex := 5, descriptorIndex := 6, attributes := #[] }, { accessFlags := 10, nameIndex := 47, descriptorIndex := 48, attributes := #[] }, { accessFlags := 9, nameIndex := 56, descriptorIndex := 57, attributes := #[] }] 49 2 #[] #[])
  fields := #[]
  methods := #[k1m0, k1m1, k1m2]
  instanceTypes := #[]
  staticTypes := #[]
  resolved := Array.replicate 62 none
  statics := none }

def pool2 : Array CpInfo := pool [(1, .methodref 2 3), (0, .class_ 4), (0, .nameAndType 5 6), (0, u "java/lang/Object"), (0, u "<init>"), (0, u "()V"), (5, .class_ 13), (0, u "com/example/claimgate/claimgate/token/VerificationKey")] 12

def k2c0 : Code := { maxStack := 1, maxLocals := 1, code := prog_48_method_1_code, exceptionTable := #[], attributes := #[] }
def k2m0 : Method := { name := "<init>", desc := "()V", sig := { parameters := [], returnType := none }, accessFlags := 0, code := some k2c0 }
/-- com/example/claimgate/claimgate/token/VerificationKey -/
def k2 : Class := { plain "com/example/claimgate/claimgate/token/VerificationKey" (some 0) with
  accessFlags := 1057
  interfaces := #[]
  cf := some (fileOf pool2 12 #[] #[{ accessFlags := 0, nameIndex := 5, descriptorIndex := 6, attributes := #[] }] 1057 2 #[] #[])
  fields := #[]
  methods := #[k2m0]
  instanceTypes := #[]
  staticTypes := #[]
  resolved := Array.replicate 26 none
  statics := none }

def pool3 : Array CpInfo := pool [(1, .methodref 2 3), (0, .class_ 4), (0, .nameAndType 5 6), (0, u "com/example/claimgate/claimgate/token/VerificationKey"), (0, u "<init>"), (0, u "()V"), (7, .methodref 15 16), (0, .class_ 17), (0, .nameAndType 18 19), (0, u "[B"), (0, u "clone"), (0, u "()Ljava/lang/Object;"), (0, .fieldref 21 22), (0, .class_ 23), (0, .nameAndType 24 17), (0, u "com/example/claimgate/claimgate/token/HmacKey"), (0, u "secret"), (0, .methodref 26 27), (0, .class_ 28), (0, .nameAndType 29 30), (0, u "com/example/claimgate/claimgate/token/Algorithm"), (0, u "family"), (0, u "()Lcom/example/claimgate/claimgate/token/Algorithm$Family;"), (0, .fieldref 32 33), (0, .class_ 34), (0, .nameAndType 35 36), (0, u "com/example/claimgate/claimgate/token/Algorithm$Family"), (0, u "HMAC"), (0, u "Lcom/example/claimgate/claimgate/token/Algorithm$Family;"), (35, u "([B)V"), (3, u "checks"), (0, u "(Lcom/example/claimgate/claimgate/token/Algorithm;)Z")] 6

def k3c0 : Code := { maxStack := 3, maxLocals := 2, code := prog_41_method_1_code, exceptionTable := #[], attributes := #[] }
def k3m0 : Method := { name := "<init>", desc := "([B)V", sig := { parameters := [(.array .byte)], returnType := none }, accessFlags := 0, code := some k3c0 }
def k3c1 : Code := { maxStack := 2, maxLocals := 2, code := prog_41_method_2_code, exceptionTable := #[], attributes := #[] }
def k3m1 : Method := { name := "checks", desc := "(Lcom/example/claimgate/claimgate/token/Algorithm;)Z", sig := { parameters := [(.object "com/example/claimgate/claimgate/token/Algorithm")], returnType := some .boolean }, accessFlags := 0, code := some k3c1 }
/-- com/example/claimgate/claimgate/token/HmacKey -/
def k3 : Class := { plain "com/example/claimgate/claimgate/token/HmacKey" (some 2) with
  accessFlags := 48
  interfaces := #[]
  cf := some (fileOf pool3 21 #[] #[{ accessFlags := 0, nameIndex := 5, descriptorIndex := 72, attributes := #[] }, { accessFlags := 0, nameIndex := 76, descriptorIndex := 77, attributes := #[] }] 48 2 #[] #[{ accessFlags := 18, nameIndex := 24, descriptorIndex := 17, attributes := #[] }])
  fields := #[{ name := "secret", type := (.array .byte), accessFlags := 18, slot := 0, constantValue := 0 }]
  methods := #[k3m0, k3m1]
  instanceTypes := #[(.array .byte)]
  staticTypes := #[]
  resolved := Array.replicate 84 none
  statics := none }

def pool4 : Array CpInfo := pool [(1, .class_ 2), (0, u "java/lang/Cloneable"), (0, .class_ 4), (0, u "java/lang/Object")] 2

/-- java/lang/Cloneable -/
def k4 : Class := { plain "java/lang/Cloneable" (some 0) with
  accessFlags := 1537
  interfaces := #[]
  cf := some (fileOf pool4 1 #[] #[] 1537 3 #[] #[])
  fields := #[]
  methods := #[]
  instanceTypes := #[]
  staticTypes := #[]
  resolved := Array.replicate 7 none
  statics := none }

def pool5 : Array CpInfo := pool [(1, .class_ 2), (0, u "java/lang/constant/Constable"), (0, .class_ 4), (0, u "java/lang/Object")] 6

/-- java/lang/constant/Constable -/
def k5 : Class := { plain "java/lang/constant/Constable" (some 0) with
  accessFlags := 1537
  interfaces := #[]
  cf := some (fileOf pool5 1 #[] #[] 1537 3 #[] #[])
  fields := #[]
  methods := #[]
  instanceTypes := #[]
  staticTypes := #[]
  resolved := Array.replicate 11 none
  statics := none }

def pool6 : Array CpInfo := pool [(1, .class_ 2), (0, u "java/lang/Comparable"), (0, .class_ 4), (0, u "java/lang/Object")] 7

/-- java/lang/Comparable -/
def k6 : Class := { plain "java/lang/Comparable" (some 0) with
  accessFlags := 1537
  interfaces := #[]
  cf := some (fileOf pool6 1 #[] #[] 1537 3 #[] #[])
  fields := #[]
  methods := #[]
  instanceTypes := #[]
  staticTypes := #[]
  resolved := Array.replicate 12 none
  statics := none }

def pool7 : Array CpInfo := pool [(1, .class_ 2), (0, u "java/io/Serializable"), (0, .class_ 4), (0, u "java/lang/Object")] 2

/-- java/io/Serializable -/
def k7 : Class := { plain "java/io/Serializable" (some 0) with
  accessFlags := 1537
  interfaces := #[]
  cf := some (fileOf pool7 1 #[] #[] 1537 3 #[] #[])
  fields := #[]
  methods := #[]
  instanceTypes := #[]
  staticTypes := #[]
  resolved := Array.replicate 7 none
  statics := none }

def pool8 : Array CpInfo := pool [(2, .class_ 4), (1, u "java/lang/Enum"), (0, u "name"), (0, u "Ljava/lang/String;"), (2, u "ordinal"), (0, u "I"), (1, .class_ 14), (1, u "java/lang/Object"), (4, u "hash"), (86, .class_ 108), (1, u "java/lang/Enum$EnumDesc"), (2, .class_ 112), (0, u "java/lang/constant/Constable"), (0, .class_ 114), (0, u "java/lang/Comparable"), (0, .class_ 116), (0, u "java/io/Serializable")] 87

/-- java/lang/Enum -/
def k8 : Class := { plain "java/lang/Enum" (some 0) with
  accessFlags := 1057
  interfaces := #[5, 6, 7]
  cf := some (fileOf pool8 2 #[.nestMembers #[106]] #[] 1057 12 #[111, 113, 115] #[{ accessFlags := 18, nameIndex := 5, descriptorIndex := 6, attributes := #[] }, { accessFlags := 18, nameIndex := 9, descriptorIndex := 10, attributes := #[] }, { accessFlags := 2, nameIndex := 19, descriptorIndex := 10, attributes := #[] }])
  fields := #[{ name := "name", type := (.object "java/lang/String"), accessFlags := 18, slot := 0, constantValue := 0 }, { name := "ordinal", type := .int, accessFlags := 18, slot := 1, constantValue := 0 }, { name := "hash", type := .int, accessFlags := 2, slot := 2, constantValue := 0 }]
  methods := #[]
  instanceTypes := #[(.object "java/lang/String"), .int, .int]
  staticTypes := #[]
  resolved := Array.replicate 204 none
  statics := none }

def pool9 : Array CpInfo := pool [(1, .class_ 2), (0, u "com/example/claimgate/claimgate/token/Algorithm"), (2, u "HS256"), (0, u "Lcom/example/claimgate/claimgate/token/Algorithm;"), (2, u "HS384"), (2, u "HS512"), (2, u "RS256"), (2, u "RS384"), (2, u "RS512"), (2, u "ES256"), (2, u "ES384"), (2, u "ES512"), (2, u "$VALUES"), (0, u "[Lcom/example/claimgate/claimgate/token/Algorithm;"), (6, .class_ 43), (1, u "java/lang/Enum"), (6, .fieldref 1 51), (0, .nameAndType 52 53), (0, u "family"), (0, u "Lcom/example/claimgate/claimgate/token/Algorithm$Family;"), (2, u "jcaName"), (0, u "Ljava/lang/String;"), (25, .class_ 85), (1, u "com/example/claimgate/claimgate/token/Algorithm$Family"), (47, u "()Lcom/example/claimgate/claimgate/token/Algorithm$Family;")] 24

def k9c0 : Code := { maxStack := 1, maxLocals := 1, code := prog_37_method_5_code, exceptionTable := #[], attributes := #[] }
def k9m0 : Method := { name := "family", desc := "()Lcom/example/claimgate/claimgate/token/Algorithm$Family;", sig := { parameters := [], returnType := some (.object "com/example/claimgate/claimgate/token/Algorithm$Family") }, accessFlags := 0, code := some k9c0 }
/-- com/example/claimgate/claimgate/token/Algorithm -/
def k9 : Class := { plain "com/example/claimgate/claimgate/token/Algorithm" (some 8) with
  accessFlags := 16432
  interfaces := #[]
  cf := some (fileOf pool9 1 #[.nestMembers #[83]] #[{ accessFlags := 0, nameIndex := 52, descriptorIndex := 133, attributes := #[] }] 16432 41 #[] #[{ accessFlags := 16409, nameIndex := 5, descriptorIndex := 6, attributes := #[] }, { accessFlags := 16409, nameIndex := 9, descriptorIndex := 6, attributes := #[] }, { accessFlags := 16409, nameIndex := 12, descriptorIndex := 6, attributes := #[] }, { accessFlags := 16409, nameIndex := 15, descriptorIndex := 6, attributes := #[] }, { accessFlags := 16409, nameIndex := 18, descriptorIndex := 6, attributes := #[] }, { accessFlags := 16409, nameIndex := 21, descriptorIndex := 6, attributes := #[] }, { accessFlags := 16409, nameIndex := 24, descriptorIndex := 6, attributes := #[] }, { accessFlags := 16409, nameIndex := 27, descriptorIndex := 6, attributes := #[] }, { accessFlags := 16409, nameIndex := 30, descriptorIndex := 6, attributes := #[] }, { accessFlags := 18, nameIndex := 52, descriptorIndex := 53, attributes := #[] }, { accessFlags := 18, nameIndex := 56, descriptorIndex := 57, attributes := #[] }, { accessFlags := 4122, nameIndex := 33, descriptorIndex := 34, attributes := #[] }])
  fields := #[{ name := "HS256", type := (.object "com/example/claimgate/claimgate/token/Algorithm"), accessFlags := 16409, slot := 0, constantValue := 0 }, { name := "HS384", type := (.object "com/example/claimgate/claimgate/token/Algorithm"), accessFlags := 16409, slot := 1, constantValue := 0 }, { name := "HS512", type := (.object "com/example/claimgate/claimgate/token/Algorithm"), accessFlags := 16409, slot := 2, constantValue := 0 }, { name := "RS256", type := (.object "com/example/claimgate/claimgate/token/Algorithm"), accessFlags := 16409, slot := 3, constantValue := 0 }, { name := "RS384", type := (.object "com/example/claimgate/claimgate/token/Algorithm"), accessFlags := 16409, slot := 4, constantValue := 0 }, { name := "RS512", type := (.object "com/example/claimgate/claimgate/token/Algorithm"), accessFlags := 16409, slot := 5, constantValue := 0 }, { name := "ES256", type := (.object "com/example/claimgate/claimgate/token/Algorithm"), accessFlags := 16409, slot := 6, constantValue := 0 }, { name := "ES384", type := (.object "com/example/claimgate/claimgate/token/Algorithm"), accessFlags := 16409, slot := 7, constantValue := 0 }, { name := "ES512", type := (.object "com/example/claimgate/claimgate/token/Algorithm"), accessFlags := 16409, slot := 8, constantValue := 0 }, { name := "family", type := (.object "com/example/claimgate/claimgate/token/Algorithm$Family"), accessFlags := 18, slot := 3, constantValue := 0 }, { name := "jcaName", type := (.object "java/lang/String"), accessFlags := 18, slot := 4, constantValue := 0 }, { name := "$VALUES", type := (.array (.object "com/example/claimgate/claimgate/token/Algorithm")), accessFlags := 4122, slot := 9, constantValue := 0 }]
  methods := #[k9m0]
  instanceTypes := #[(.object "java/lang/String"), .int, .int, (.object "com/example/claimgate/claimgate/token/Algorithm$Family"), (.object "java/lang/String")]
  staticTypes := #[(.object "com/example/claimgate/claimgate/token/Algorithm"), (.object "com/example/claimgate/claimgate/token/Algorithm"), (.object "com/example/claimgate/claimgate/token/Algorithm"), (.object "com/example/claimgate/claimgate/token/Algorithm"), (.object "com/example/claimgate/claimgate/token/Algorithm"), (.object "com/example/claimgate/claimgate/token/Algorithm"), (.object "com/example/claimgate/claimgate/token/Algorithm"), (.object "com/example/claimgate/claimgate/token/Algorithm"), (.object "com/example/claimgate/claimgate/token/Algorithm"), (.array (.object "com/example/claimgate/claimgate/token/Algorithm"))]
  resolved := Array.replicate 158 none
  statics := some 0 }

def pool10 : Array CpInfo := pool [(1, .class_ 2), (0, u "com/example/claimgate/claimgate/token/Algorithm$Family"), (2, u "HMAC"), (0, u "Lcom/example/claimgate/claimgate/token/Algorithm$Family;"), (2, u "RSA"), (2, u "ECDSA"), (2, u "$VALUES"), (0, u "[Lcom/example/claimgate/claimgate/token/Algorithm$Family;"), (6, .class_ 25), (1, u "java/lang/Enum"), (26, .class_ 53), (0, u "com/example/claimgate/claimgate/token/Algorithm")] 2

/-- com/example/claimgate/claimgate/token/Algorithm$Family -/
def k10 : Class := { plain "com/example/claimgate/claimgate/token/Algorithm$Family" (some 8) with
  accessFlags := 16432
  interfaces := #[]
  cf := some (fileOf pool10 1 #[.nestHost 52] #[] 16432 23 #[] #[{ accessFlags := 16409, nameIndex := 5, descriptorIndex := 6, attributes := #[] }, { accessFlags := 16409, nameIndex := 9, descriptorIndex := 6, attributes := #[] }, { accessFlags := 16409, nameIndex := 12, descriptorIndex := 6, attributes := #[] }, { accessFlags := 4122, nameIndex := 15, descriptorIndex := 16, attributes := #[] }])
  fields := #[{ name := "HMAC", type := (.object "com/example/claimgate/claimgate/token/Algorithm$Family"), accessFlags := 16409, slot := 0, constantValue := 0 }, { name := "RSA", type := (.object "com/example/claimgate/claimgate/token/Algorithm$Family"), accessFlags := 16409, slot := 1, constantValue := 0 }, { name := "ECDSA", type := (.object "com/example/claimgate/claimgate/token/Algorithm$Family"), accessFlags := 16409, slot := 2, constantValue := 0 }, { name := "$VALUES", type := (.array (.object "com/example/claimgate/claimgate/token/Algorithm$Family")), accessFlags := 4122, slot := 3, constantValue := 0 }]
  methods := #[]
  instanceTypes := #[(.object "java/lang/String"), .int, .int]
  staticTypes := #[(.object "com/example/claimgate/claimgate/token/Algorithm$Family"), (.object "com/example/claimgate/claimgate/token/Algorithm$Family"), (.object "com/example/claimgate/claimgate/token/Algorithm$Family"), (.array (.object "com/example/claimgate/claimgate/token/Algorithm$Family"))]
  resolved := Array.replicate 56 none
  statics := some 1 }

/-- the primitive byte -/
def k11 : Class := { plain "byte" none with kind := .primitive 'B', accessFlags := 0x411 }
/-- [B -/
def k12 : Class := { plain "[B" (some 0) with kind := .array 11 .byte, interfaces := #[4, 7], accessFlags := 1041 }

/-- the primitive int -/
def k13 : Class := { plain "int" none with kind := .primitive 'I', accessFlags := 0x411 }
/-- [I -/
def k14 : Class := { plain "[I" (some 0) with kind := .array 13 .int, interfaces := #[4, 7], accessFlags := 1041 }

def heap : Heap := #[{ cls := 9, slots := #[.ref 2, .ref 11, .ref 12, .ref 4, .ref 8, .ref 13, .ref 9, .ref 10, .ref 6, .null], vm := .statics 9 },
  { cls := 10, slots := #[.ref 3, .ref 5, .ref 7, .null], vm := .statics 10 },
  { cls := 9, slots := #[.null, .int 0, .int 0, .ref 3, .null], vm := .none },
  { cls := 10, slots := #[.null, .int 0, .int 0], vm := .none },
  { cls := 9, slots := #[.null, .int 0, .int 0, .ref 5, .null], vm := .none },
  { cls := 10, slots := #[.null, .int 1, .int 0], vm := .none },
  { cls := 9, slots := #[.null, .int 0, .int 0, .ref 7, .null], vm := .none },
  { cls := 10, slots := #[.null, .int 2, .int 0], vm := .none },
  { cls := 9, slots := #[.null, .int 0, .int 0, .ref 5, .null], vm := .none },
  { cls := 9, slots := #[.null, .int 0, .int 0, .ref 7, .null], vm := .none },
  { cls := 9, slots := #[.null, .int 0, .int 0, .ref 7, .null], vm := .none },
  { cls := 9, slots := #[.null, .int 0, .int 0, .ref 3, .null], vm := .none },
  { cls := 9, slots := #[.null, .int 0, .int 0, .ref 3, .null], vm := .none },
  { cls := 9, slots := #[.null, .int 0, .int 0, .ref 5, .null], vm := .none }]
def classes : Array Class := #[k0, k1, k2, k3, k4, k5, k6, k7, k8, k9, k10, k11, k12, k13, k14]
def interned : List (Array UInt16 × Addr) := []
def slotsUsed : Nat := 68
def theMethod : MethodId := ⟨1, 2⟩
def args0 : Array Value := #[.int 5, .int 1, .int 3, .int 4, .int 5]
def aboutOver (below : List Frame) : State where
  vm := { classes := classes, interned := interned.toArray }
  heap := heap
  slotsUsed := slotsUsed
  threads := #[{ frames := .invoking theMethod args0 :: below }]
def below0 : List Frame := [.native { method := ⟨0, 0⟩, args := #[] }]
def about1 : State := aboutOver below0
def p0 : Program := .bare "" "" ""
def e0 : Env := launch0.env 0 0 0
theorem w_frames : about1.frames = Frame.invoking theMethod args0 :: below0 := rfl
set_option maxRecDepth 65536 in
theorem w_args : argsFit about1.vm theMethod args0 = true := by decide +kernel
set_option maxRecDepth 65536 in
theorem w_heap : heapFits about1 = true := by decide +kernel
set_option maxRecDepth 65536 in
theorem w_runnable : about1.curStatus? = some .runnable := by decide +kernel
set_option maxRecDepth 65536 in
theorem w_alone : about1.alone = true := by decide +kernel
set_option maxRecDepth 65536 in
theorem w_named : about1.methodNamed? x = some theMethod := by decide +kernel
set_option maxRecDepth 65536 in
theorem w_hears : about1.hears theMethod below0 = true := by decide +kernel
set_option maxRecDepth 65536 in
theorem w_ripe : about1.ripe theMethod args0 below0 = true := by decide +kernel
theorem w_running : about1.status = .running := rfl
set_option maxRecDepth 65536 in
theorem w_room : about1.hasRoom e0.platform room_1 = true :=
  launch0.hasRoom_least _ room_1 (by decide +kernel) (by decide +kernel) (by decide +kernel) (by decide +kernel) (by decide +kernel) (by decide +kernel)
theorem allAtoms_all (ts : List Jvm.Cond) (a : Array Jvm.Value) (st : Jvm.State) : (allAtoms ts).before a st = ts.all (fun c => c.before a st) := by
  induction ts with
  | nil => rfl
  | cons c t ih =>
    show (Jvm.Cond.and c (allAtoms t)).before a st = _
    rw [Jvm.Cond.before_and, ih, List.all_cons]
def words1 : List Jvm.Cond := Jvm.Cond.code x code maxLocals ret :: tables_1
/-- a 'code' word, met by the world's own term for the bytes: nothing is compared byte by byte -/
theorem code_word {y : MethodName} {bytes : ByteArray} {mx : Nat} {rt : Option FieldType} {a : Array Value} {s : State} {m : MethodId} {meth : Method} {c : Code} (h1 : s.methodNamed? y = some m) (h2 : s.vm.method? m = some meth) (h3 : meth.code = some c) (h4 : c.code = bytes)
    (h5 : (c.maxLocals == mx && c.exceptionTable.isEmpty && decide (c.maxStack ≤ mostOperands) && decide (meth.sig.returnType = rt) && !meth.locks && decide (parseMethodDescriptor y.desc = some meth.sig)) = true) : (Jvm.Cond.code y bytes mx rt).before a s = true := by
  simp only [Bool.and_eq_true, beq_iff_eq, Bool.not_eq_true', decide_eq_true_eq] at h5
  obtain ⟨⟨⟨⟨⟨g1, g2⟩, g3⟩, g4⟩, g5⟩, g6⟩ := h5
  simp [Cond.before, Cond.holds, Cond.value, h1, h2, h3, h4, g1, g2, g3, g4, g5, g6]
def isCode : Jvm.Cond → Bool
  | .code _ _ _ _ => true
  | _ => false
theorem all_split {L : List Jvm.Cond} {P : Jvm.Cond → Bool} (h1 : L.all (fun c => isCode c || P c) = true) (h2 : ∀ c ∈ L.filter isCode, P c = true) : L.all P = true := by
  refine List.all_eq_true.mpr fun c hc => ?_
  have h := List.all_eq_true.mp h1 c hc
  rcases Bool.eq_false_or_eq_true (isCode c) with hi | hi
  · exact h2 c (List.mem_filter.mpr ⟨hc, hi⟩)
  · simpa [hi] using h
set_option maxRecDepth 65536 in
theorem w_c0 : (Jvm.Cond.code x code maxLocals ret).before args0 about1 = true := code_word (m := ⟨1, 2⟩) (meth := k1m2) (c := k1c2) (by decide +kernel) rfl rfl rfl (by decide +kernel)
set_option maxRecDepth 65536 in
theorem w_c1 : (Jvm.Cond.code ({ cls := "com/example/claimgate/claimgate/token/HmacKey", name := "<init>", desc := "([B)V" } : Jvm.MethodName) prog_41_method_1_code (2 : Nat) (Option.none : Option Jvm.ClassFile.FieldType)).before args0 about1 = true := code_word (m := ⟨3, 0⟩) (meth := k3m0) (c := k3c0) (by decide +kernel) rfl rfl rfl (by decide +kernel)
set_option maxRecDepth 65536 in
theorem w_c2 : (Jvm.Cond.code ({ cls := "com/example/claimgate/claimgate/token/VerificationKey", name := "<init>", desc := "()V" } : Jvm.MethodName) prog_48_method_1_code (1 : Nat) (Option.none : Option Jvm.ClassFile.FieldType)).before args0 about1 = true := code_word (m := ⟨2, 0⟩) (meth := k2m0) (c := k2c0) (by decide +kernel) rfl rfl rfl (by decide +kernel)
set_option maxRecDepth 65536 in
theorem w_c3 : (Jvm.Cond.code ({ cls := "java/lang/Object", name := "<init>", desc := "()V" } : Jvm.MethodName) object_method_1_code (1 : Nat) (Option.none : Option Jvm.ClassFile.FieldType)).before args0 about1 = true := code_word (m := ⟨0, 0⟩) (meth := k0m0) (c := k0c0) (by decide +kernel) rfl rfl rfl (by decide +kernel)
set_option maxRecDepth 65536 in
theorem w_c4 : (Jvm.Cond.code ({ cls := "com/example/claimgate/claimgate/token/HmacKeyChecksPinLaw", name := "pick", desc := "(I)Lcom/example/claimgate/claimgate/token/Algorithm;" } : Jvm.MethodName) method_2_code (1 : Nat) (Option.some (Jvm.ClassFile.FieldType.object "com/example/claimgate/claimgate/token/Algorithm"))).before args0 about1 = true := code_word (m := ⟨1, 1⟩) (meth := k1m1) (c := k1c1) (by decide +kernel) rfl rfl rfl (by decide +kernel)
set_option maxRecDepth 65536 in
theorem w_c5 : (Jvm.Cond.code ({ cls := "com/example/claimgate/claimgate/token/HmacKey", name := "checks", desc := "(Lcom/example/claimgate/claimgate/token/Algorithm;)Z" } : Jvm.MethodName) prog_41_method_2_code (2 : Nat) (Option.some Jvm.ClassFile.FieldType.boolean)).before args0 about1 = true := code_word (m := ⟨3, 1⟩) (meth := k3m1) (c := k3c1) (by decide +kernel) rfl rfl rfl (by decide +kernel)
set_option maxRecDepth 65536 in
theorem w_c6 : (Jvm.Cond.code ({ cls := "com/example/claimgate/claimgate/token/Algorithm", name := "family", desc := "()Lcom/example/claimgate/claimgate/token/Algorithm$Family;" } : Jvm.MethodName) prog_37_method_5_code (1 : Nat) (Option.some (Jvm.ClassFile.FieldType.object "com/example/claimgate/claimgate/token/Algorithm$Family"))).before args0 about1 = true := code_word (m := ⟨9, 0⟩) (meth := k9m0) (c := k9c0) (by decide +kernel) rfl rfl rfl (by decide +kernel)
def codes1 : List Jvm.Cond := [Jvm.Cond.code x code maxLocals ret, Jvm.Cond.code ({ cls := "com/example/claimgate/claimgate/token/HmacKey", name := "<init>", desc := "([B)V" } : Jvm.MethodName) prog_41_method_1_code (2 : Nat) (Option.none : Option Jvm.ClassFile.FieldType), Jvm.Cond.code ({ cls := "com/example/claimgate/claimgate/token/VerificationKey", name := "<init>", desc := "()V" } : Jvm.MethodName) prog_48_method_1_code (1 : Nat) (Option.none : Option Jvm.ClassFile.FieldType), Jvm.Cond.code ({ cls := "java/lang/Object", name := "<init>", desc := "()V" } : Jvm.MethodName) object_method_1_code (1 : Nat) (Option.none : Option Jvm.ClassFile.FieldType), Jvm.Cond.code ({ cls := "com/example/claimgate/claimgate/token/HmacKeyChecksPinLaw", name := "pick", desc := "(I)Lcom/example/claimgate/claimgate/token/Algorithm;" } : Jvm.MethodName) method_2_code (1 : Nat) (Option.some (Jvm.ClassFile.FieldType.object "com/example/claimgate/claimgate/token/Algorithm")), Jvm.Cond.code ({ cls := "com/example/claimgate/claimgate/token/HmacKey", name := "checks", desc := "(Lcom/example/claimgate/claimgate/token/Algorithm;)Z" } : Jvm.MethodName) prog_41_method_2_code (2 : Nat) (Option.some Jvm.ClassFile.FieldType.boolean), Jvm.Cond.code ({ cls := "com/example/claimgate/claimgate/token/Algorithm", name := "family", desc := "()Lcom/example/claimgate/claimgate/token/Algorithm$Family;" } : Jvm.MethodName) prog_37_method_5_code (1 : Nat) (Option.some (Jvm.ClassFile.FieldType.object "com/example/claimgate/claimgate/token/Algorithm$Family"))]
set_option maxRecDepth 65536 in
theorem codes_eq : words1.filter isCode = codes1 := rfl
theorem w_codes : ∀ c ∈ words1.filter isCode, c.before args0 about1 = true := by
  rw [codes_eq]
  intro c hc
  simp only [codes1, List.mem_cons, List.not_mem_nil, or_false] at hc
  rcases hc with rfl | rfl | rfl | rfl | rfl | rfl | rfl
  · exact w_c0
  · exact w_c1
  · exact w_c2
  · exact w_c3
  · exact w_c4
  · exact w_c5
  · exact w_c6
set_option maxRecDepth 65536 in
theorem w_t1 : (words1.take 24).all (fun c => isCode c || c.before args0 about1) = true := by decide +kernel
set_option maxRecDepth 65536 in
theorem w_t2 : ((words1.drop 24).take 24).all (fun c => isCode c || c.before args0 about1) = true := by decide +kernel
set_option maxRecDepth 65536 in
theorem w_t3 : ((words1.drop 24).drop 24).all (fun c => isCode c || c.before args0 about1) = true := by decide +kernel
theorem w_tables : (allAtoms (Jvm.Cond.code x code maxLocals ret :: tables_1)).before args0 about1 = true := by
  rw [allAtoms_all]
  show words1.all (fun c => c.before args0 about1) = true
  refine all_split ?_ w_codes
  rw [← List.take_append_drop 24 words1, List.all_append, w_t1, ← List.take_append_drop 24 (words1.drop 24), List.all_append, w_t2, w_t3]
  rfl
set_option maxRecDepth 65536 in
theorem w_case : (Jvm.Cond.and given_1 narrow_1).before args0 about1 = true := by decide +kernel
theorem w_applies : (headSpec (Jvm.Cond.code x code maxLocals ret :: tables_1) room_1).applies x e0.platform about1 = true :=
  (Spec.applies_iff w_frames).mpr ⟨w_running, w_runnable, w_alone, w_named, w_hears, w_ripe, w_room, w_tables⟩
theorem atStart : AtStart classFile x code maxLocals ret World_1 tables_1 room_1 Calls_1 rest_1 Pre_1 launch0 p0 e0 about1 theMethod args0 below0 :=
  ⟨lists_1, trivial, launch0.admits_env _ _ _, launch0.least_env, fairChoices_fair.cas, fairChoices_fair.clock, w_frames, w_args, w_heap, w_applies, trivial, trivial, w_case⟩
end start1
theorem witness_1 : WitnessClaimed_1 := ⟨start1.p0, start1.e0, start1.about1, start1.theMethod, start1.args0, start1.below0, start1.atStart⟩
end Jvm.Pilot.@@N@@
