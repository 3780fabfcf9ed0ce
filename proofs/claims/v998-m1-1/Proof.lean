import JvmDerived
import JvmDerived.Pilot.@@N@@Statement
import JvmDerived.Pilot.@@N@@Code
set_option linter.unusedVariables false
set_option linter.unusedSimpArgs false
namespace Jvm.Own
open Jvm Sem ClassFile Op Lib Jvm.Stand Jvm.Free Jvm.LawKit Jvm.RoadKit
/-- from this state and frame the run comes to an end that E says -/
def Goes (p : Program) (e : Env) (below : List Frame) (E : Outcome → State → Prop) (T : State) (f : JFrame) : Prop :=
  ∃ s₂ o, Steps p.tables e below (T.setTop f) s₂ ∧ s₂.status = .running ∧ Ended s₂ below o ∧ E o s₂
/-- the end of a walk that interns nothing -/
def EndN (s : State) (Q : Option Value → Heap → List Loc → Prop) (K N : Nat) (o : Outcome) (U : State) : Prop :=
  ∃ v L, o = .returned v ∧ Q v U.heap L ∧ FrameEnd s o U L K N
/-- a body's contract -/
def Rm (l : Launch) (y : MethodName) (bytes : ByteArray) (maxL : Nat) (ret : Option FieldType) (rm : Room) (ws : List Jvm.Cond) (Z : State) (as' : Array Value) (h : Heap) (Q : Option Value → Heap → List Loc → Prop) : Prop :=
  MetFree l y (head1 (Jvm.Cond.code y bytes maxL ret :: ws) rm) (fun a U => a = as' ∧ Z.Warmed39 U.vm ∧ U.heap = h) (fun _ _ _ _ _ => True) (fun _ U o U' => ∃ v L, o = .returned v ∧ Q v U'.heap L ∧ FrameEnd U o U' L rm.cells rm.slots)
section Own1
variable {p : Program} {l : Launch} {e : Env} {R : Room} {s : State} {m : MethodId} {args : Array Value} {below : List Frame} {meth : Method} {c : Code} {T : State} {locs : List Loc} {cells slots : Nat} {Z : State} {a0 : Array Value} {h : Heap} {E : Outcome → State → Prop}
theorem Goes.of {T T' : State} {f f' : JFrame} (st : ∀ t, Steps p.tables e below (T'.setTop f') t → Steps p.tables e below (T.setTop f) t) (k : Goes p e below E T' f') : Goes p e below E T f := by
  obtain ⟨s₂, o, h1, h2⟩ := k
  exact ⟨s₂, o, st _ h1, h2⟩
theorem Goes.cast {T : State} {f f' : JFrame} (q : f = f') (k : Goes p e below E T f') : Goes p e below E T f := q ▸ k
theorem oldLe {n0 : Nat} (O : Old Z n0 h) : n0 ≤ h.size := O.1 ▸ O.2.1
theorem goRet {Q : Option Value → Heap → List Loc → Prop} {K N : Nat} {g : JFrame} {v : Option Value} (X : Stand p l e R s m args below meth c T locs cells slots) (hv : meth.sig.returnType = none → v = none) (hlocks : meth.locks = false) (eT : T.heap = h) (hQ : Q v h locs) (hK : cells ≤ K) (hN : slots ≤ N)
    (st : ∀ fs, (∀ (f : JFrame) (acts : List Action), f.method = m → f.locked = none → f.entered = [] → (doReturn e (T.setTop f) acts v).1 = T.setFrames fs) → Steps p.tables e below (T.setTop g) (T.setFrames fs)) : Goes p e below (EndN s Q K N) T g := by
  obtain ⟨fs, hr, hrun, hended, hW, hsame⟩ := X.leave (v := v) hv hlocks
  subst eT
  exact ⟨_, _, st fs hr, hrun, hended, _, _, rfl, hQ, ⟨_, rfl⟩, hW, hsame.mono hK hN⟩
theorem retZ {Q : Option Value → Heap → List Loc → Prop} {K N pc : Nat} {Ls : Array Slot} {z : Int32} {t : FieldType} {rest : List Value} (X : Stand p l e R s m args below meth c T locs cells slots) (hx : p.tables.exec = Jvm.exec) (hret : meth.sig.returnType = some t) (hlocks : meth.locks = false) (ht : t = .boolean ∨ t = .byte ∨ t = .char ∨ t = .short)
    (hd : decode c.code pc = .ok (.ireturn, 1)) (eT : T.heap = h) (hK : cells ≤ K) (hN : slots ≤ N) (hQ : Q (some (.int (nar t z))) h locs) : Goes p e below (EndN s Q K N) T (mkF m pc Ls (.int z :: rest)) :=
  goRet X (fun q => by rw [hret] at q; cases q) hlocks eT hQ hK hN fun fs hr => retN X hx hret ht hd hr
theorem retInt {Q : Option Value → Heap → List Loc → Prop} {K N pc : Nat} {Ls : Array Slot} {z : Int32} {rest : List Value} (X : Stand p l e R s m args below meth c T locs cells slots) (hx : p.tables.exec = Jvm.exec) (hret : meth.sig.returnType = some .int) (hlocks : meth.locks = false)
    (hd : decode c.code pc = .ok (.ireturn, 1)) (eT : T.heap = h) (hK : cells ≤ K) (hN : slots ≤ N) (hQ : Q (some (.int z)) h locs) : Goes p e below (EndN s Q K N) T (mkF m pc Ls (.int z :: rest)) :=
  goRet X (fun q => by rw [hret] at q; cases q) hlocks eT hQ hK hN fun fs hr => by
    have hm' : T.vm.method? m = some meth := X.method'
    have hn : narrow .int (.int z) = .int z := rfl
    show Steps p.tables e below (T.setTop { method := m, pc := pc, locals := Ls, stack := _ :: rest, locked := none }) _
    jvm_step X.here [X.here.top, hx, hd, hm', hret, hn]
    first | (intro acts; rw [hr _ acts rfl rfl rfl]) | rw [hr _ _ rfl rfl rfl]
    exact Steps.refl _
theorem retLong {Q : Option Value → Heap → List Loc → Prop} {K N pc : Nat} {Ls : Array Slot} {z : Int64} {rest : List Value} (X : Stand p l e R s m args below meth c T locs cells slots) (hx : p.tables.exec = Jvm.exec) (hret : meth.sig.returnType = some .long) (hlocks : meth.locks = false)
    (hd : decode c.code pc = .ok (.lreturn, 1)) (eT : T.heap = h) (hK : cells ≤ K) (hN : slots ≤ N) (hQ : Q (some (.long z)) h locs) : Goes p e below (EndN s Q K N) T (mkF m pc Ls (.long z :: rest)) :=
  goRet X (fun q => by rw [hret] at q; cases q) hlocks eT hQ hK hN fun fs hr => by
    have hm' : T.vm.method? m = some meth := X.method'
    show Steps p.tables e below (T.setTop { method := m, pc := pc, locals := Ls, stack := _ :: rest, locked := none }) _
    jvm_step X.here [X.here.top, hx, hd, hm', hret, narrow]
    first | (intro acts; rw [hr _ acts rfl rfl rfl]) | rw [hr _ _ rfl rfl rfl]
    exact Steps.refl _
theorem retRef {Q : Option Value → Heap → List Loc → Prop} {K N pc : Nat} {Ls : Array Slot} {z : Value} {t : FieldType} {rest : List Value} (X : Stand p l e R s m args below meth c T locs cells slots) (hx : p.tables.exec = Jvm.exec) (hret : meth.sig.returnType = some t) (hlocks : meth.locks = false) (ht : t.isReference = true) (hz : z.isRef = true)
    (hd : decode c.code pc = .ok (.areturn, 1)) (eT : T.heap = h) (hK : cells ≤ K) (hN : slots ≤ N) (hQ : Q (some z) h locs) : Goes p e below (EndN s Q K N) T (mkF m pc Ls (z :: rest)) :=
  goRet X (fun q => by rw [hret] at q; cases q) hlocks eT hQ hK hN fun fs hr => by
    have hm' : T.vm.method? m = some meth := X.method'
    show Steps p.tables e below (T.setTop { method := m, pc := pc, locals := Ls, stack := _ :: rest, locked := none }) _
    rcases ref_cases hz with rfl | ⟨_, rfl⟩
    all_goals
      jvm_step X.here [X.here.top, hx, hd, hm', hret, ht, Value.isRef]
      first | (intro acts; rw [hr _ acts rfl rfl rfl]) | rw [hr _ _ rfl rfl rfl]
      exact Steps.refl _
theorem retVoid {Q : Option Value → Heap → List Loc → Prop} {K N pc : Nat} {Ls : Array Slot} {rest : List Value} (X : Stand p l e R s m args below meth c T locs cells slots) (hx : p.tables.exec = Jvm.exec) (hret : meth.sig.returnType = none) (hlocks : meth.locks = false)
    (hd : decode c.code pc = .ok (.return_, 1)) (eT : T.heap = h) (hK : cells ≤ K) (hN : slots ≤ N) (hQ : Q none h locs) : Goes p e below (EndN s Q K N) T (mkF m pc Ls rest) :=
  goRet X (fun _ => rfl) hlocks eT hQ hK hN fun fs hr => by
    have hm' : T.vm.method? m = some meth := X.method'
    show Steps p.tables e below (T.setTop { method := m, pc := pc, locals := Ls, stack := rest, locked := none }) _
    jvm_step X.here [X.here.top, hx, hd, hm', hret]
    first | (intro acts; rw [hr _ acts rfl rfl rfl]) | rw [hr _ _ rfl rfl rfl]
    exact Steps.refl _
/-- a body's contract out of its walk -/
theorem Rm.of {ws : List Jvm.Cond} {y : MethodName} {bytes : ByteArray} {maxL : Nat} {ret : Option FieldType} {rm : Room} {as' : Array Value} {h : Heap} {Q : Option Value → Heap → List Loc → Prop} (hp : plainFor y = true)
    (body : ∀ (p : Program) (e : Env) (s : State) (m : MethodId) (below : List Frame) (meth : Method) (c : Code) (T : State), Stand p l e rm s m as' below meth c T [] 0 0 → p.tables.exec = Jvm.exec → Z.Warmed39 s.vm → c.code = bytes → c.maxLocals = maxL → s.vm.findClass y.cls = some m.cls → meth.name = y.name → meth.sig.returnType = ret → meth.locks = false → T.heap = h →
      Goes p e below (EndN s Q rm.cells rm.slots) T (entryFrame m as' maxL)) : Rm l y bytes maxL ret rm ws Z as' h Q := by
  refine MetFree.of_bodySF hp hisR ?_
  intro p e s m args below meth c s₁ Bd hml0 hP hK
  obtain ⟨rfl, hZ, hh⟩ := hP
  exact body p e s m below meth c s₁ (Stand.of_body Bd) Bd.exec hZ Bd.bytes hml0 (findClass_of_methodNamed Bd.named) (name_of_methodNamed Bd.named Bd.method).1 Bd.returns Bd.notSynchronized (by rw [← hh, Bd.state]; rfl)
theorem goStatic {own : String} {index : Nat} {y : MethodName} {bytes : ByteArray} {maxL : Nat} {ret : Option FieldType} {rm : Room} {as' : Array Value} {Q : Option Value → Heap → List Loc → Prop} (W : Nat)
    (X : Stand p l e R s m args below meth c T locs cells slots) (hx : p.tables.exec = Jvm.exec) (hZ : Z.Warmed39 s.vm) (hown : s.vm.findClass own = some m.cls) (w1 : (Jvm.Cond.methodLink own index y).before a0 Z = true) (w2 : (Jvm.Cond.static y).before a0 Z = true) (w3 : (Jvm.Cond.initialized y.cls).before a0 Z = true) (w4 : (Jvm.Cond.code y bytes maxL ret).before a0 Z = true)
    (hy : y.cls ≠ "java/lang/invoke/MethodHandle" ∧ y.cls ≠ "java/lang/invoke/VarHandle") (r : Rm l y bytes maxL ret rm [] Z as' h Q) (eT : T.heap = h) {g : JFrame} (hg : g.method = m) (hsize : g.locals.size = c.maxLocals) (argsL rest : List Value) (hlen : ∀ sig, parseMethodDescriptor y.desc = some sig → argsL.length = sig.parameters.length)
    (hstack : g.stack = argsL.reverse ++ rest) (has : argsL.toArray = as') (hW : 2 * g.monitorRoom + (rest.map fun v => v.category).sum ≤ W) (hd : decode c.code g.pc = .ok (.invokestatic index, 3)) (hf : rm.frames + 1 ≤ R.frames) (hl : W + (maxL + 11) + rm.locals ≤ R.locals) (hc : cells + rm.cells ≤ R.cells) (hs : slots + rm.slots ≤ R.slots)
    (k : ∀ v T' L, Stand p l e R s m args below meth c T' (locs ++ L) (cells + rm.cells) (slots + rm.slots) → Q v T'.heap L → Goes p e below E T' { g with pc := g.pc + 3, stack := v.toList ++ rest }) : Goes p e below E T g := by
  obtain ⟨v, vm₁, ⟨T', L', k', n'⟩, -, X', ⟨L, hQ, q1, q2, q3⟩, st⟩ := Jvm.LawKit.callS X hx (y := y) hown (mvT hZ w1) (mvT hZ w2) (mvT hZ w3) (mvT hZ w4) hy (backOf (W := W) r hZ w4 w3 hf hl) hg hsize hlen hstack hW hd (fun _ _ => ⟨has, eT, hc, hs⟩)
  dsimp only [Pt.U, Pt.locs, Pt.cells, Pt.slots] at X' q1 q2 q3 st hQ
  subst q1 q2 q3
  exact Goes.of st (k v T' L X' hQ)
theorem goSpecial {own : String} {index : Nat} {y : MethodName} {bytes : ByteArray} {maxL : Nat} {rm : Room} {as' : Array Value} {Q : Option Value → Heap → List Loc → Prop} (W : Nat)
    (X : Stand p l e R s m args below meth c T locs cells slots) (hx : p.tables.exec = Jvm.exec) (hZ : Z.Warmed39 s.vm) (hy1 : y.name = "<init>") (hown : s.vm.findClass own = some m.cls) (w1 : (Jvm.Cond.methodLink own index y).before a0 Z = true) (w2 : (Jvm.Cond.instanceMethod y).before a0 Z = true) (w3 : (Jvm.Cond.initialized y.cls).before a0 Z = true) (w4 : (Jvm.Cond.code y bytes maxL none).before a0 Z = true)
    (hy : y.cls ≠ "java/lang/invoke/MethodHandle" ∧ y.cls ≠ "java/lang/invoke/VarHandle") (r : Rm l y bytes maxL none rm [] Z as' h Q) (eT : T.heap = h) {g : JFrame} (hg : g.method = m) (hsize : g.locals.size = c.maxLocals) (a : Addr) (argsL rest : List Value) (hlen : ∀ sig, parseMethodDescriptor y.desc = some sig → argsL.length = sig.parameters.length)
    (hstack : g.stack = argsL.reverse ++ .ref a :: rest) (has : (.ref a :: argsL).toArray = as') (hW : 2 * g.monitorRoom + (rest.map fun v => v.category).sum ≤ W) (hd : decode c.code g.pc = .ok (.invokespecial index, 3)) (hf : rm.frames + 1 ≤ R.frames) (hl : W + (maxL + 11) + rm.locals ≤ R.locals) (hc : cells + rm.cells ≤ R.cells) (hs : slots + rm.slots ≤ R.slots)
    (k : ∀ v T' L, Stand p l e R s m args below meth c T' (locs ++ L) (cells + rm.cells) (slots + rm.slots) → Q v T'.heap L → Goes p e below E T' { g with pc := g.pc + 3, stack := v.toList ++ rest }) : Goes p e below E T g := by
  obtain ⟨v, vm₁, ⟨T', L', k', n'⟩, -, X', ⟨L, hQ, q1, q2, q3⟩, st⟩ := X.specialBack hx (y := y) hy1 hown (mvT hZ w1) (mvT hZ w2) (mvT hZ w4) hy (backOf (W := W) r hZ w4 w3 hf hl) hg hsize (Steps.refl _) (a := a) hlen hstack hW hd (fun _ _ => ⟨has, eT, hc, hs⟩)
  dsimp only [Pt.U, Pt.locs, Pt.cells, Pt.slots] at X' q1 q2 q3 st hQ
  subst q1 q2 q3
  exact Goes.of (fun _ => st.trans) (k v T' L X' hQ)
theorem goVirtual {own C : String} {index : Nat} {y z : MethodName} {bytes : ByteArray} {maxL : Nat} {ret : Option FieldType} {rm : Room} {as' : Array Value} {Q : Option Value → Heap → List Loc → Prop} (W : Nat)
    (X : Stand p l e R s m args below meth c T locs cells slots) (hx : p.tables.exec = Jvm.exec) (hZ : Z.Warmed39 s.vm) (hown : s.vm.findClass own = some m.cls) (w1 : (Jvm.Cond.methodLink own index y).before a0 Z = true) (w2 : (Jvm.Cond.declares y).before a0 Z = true) (hnf : NotFace s y) (w3 : (Jvm.Cond.selects C y z).before a0 Z = true) (w4 : (Jvm.Cond.instanceMethod z).before a0 Z = true) (w5 : (Jvm.Cond.initialized z.cls).before a0 Z = true) (w6 : (Jvm.Cond.code z bytes maxL ret).before a0 Z = true)
    (hy : y.cls ≠ "java/lang/invoke/MethodHandle" ∧ y.cls ≠ "java/lang/invoke/VarHandle") (r : Rm l z bytes maxL ret rm [] Z as' h Q) (eT : T.heap = h) {a : Addr} (F : Exa Z h a C) {g : JFrame} (hg : g.method = m) (hsize : g.locals.size = c.maxLocals) (argsL rest : List Value) (hlen : ∀ sig, parseMethodDescriptor y.desc = some sig → argsL.length = sig.parameters.length)
    (hstack : g.stack = argsL.reverse ++ .ref a :: rest) (has : (.ref a :: argsL).toArray = as') (hW : 2 * g.monitorRoom + (rest.map fun v => v.category).sum ≤ W) (hd : decode c.code g.pc = .ok (.invokevirtual index, 3)) (hf : rm.frames + 1 ≤ R.frames) (hl : W + (maxL + 11) + rm.locals ≤ R.locals) (hc : cells + rm.cells ≤ R.cells) (hs : slots + rm.slots ≤ R.slots)
    (k : ∀ v T' L, Stand p l e R s m args below meth c T' (locs ++ L) (cells + rm.cells) (slots + rm.slots) → Q v T'.heap L → Goes p e below E T' { g with pc := g.pc + 3, stack := v.toList ++ rest }) : Goes p e below E T g := by
  obtain ⟨cq, kq, qa, qb, qc⟩ := isOf hZ eT F
  obtain ⟨v, vm₁, ⟨T', L', k', n'⟩, -, X', ⟨L, hQ, q1, q2, q3⟩, st⟩ := X.virtualBack hx (y := y) (z := z) hown (mvT hZ w1) (mvT hZ w2) hnf (mvT hZ w3) (mvT hZ w4) hy (backOf (W := W) r hZ w6 w5 hf hl) qa qc hg hsize (Steps.refl _) hlen hstack hW hd (fun _ _ => ⟨has, eT, hc, hs⟩)
  dsimp only [Pt.U, Pt.locs, Pt.cells, Pt.slots] at X' q1 q2 q3 st hQ
  subst q1 q2 q3
  exact Goes.of (fun _ => st.trans) (k v T' L X' hQ)
theorem goNew {own C : String} {index n : Nat} (X : Stand p l e R s m args below meth c T locs cells slots) (hx : p.tables.exec = Jvm.exec) (hZ : Z.Warmed39 s.vm) (hown : s.vm.findClass own = some m.cls) (w : (Jvm.Cond.classLink own index C).before a0 Z = true) (wi : (Jvm.Cond.instantiable C n).before a0 Z = true) (wz : (Jvm.Cond.initialized C).before a0 Z = true) (eT : T.heap = h)
    {g : JFrame} (hg : g.method = m) (hd : decode c.code g.pc = .ok (.new index, 3)) (hc : cells + 1 ≤ R.cells) (hl : slots + n ≤ R.slots)
    (k : ∀ T' h' b, Stand p l e R s m args below meth c T' locs (cells + 1) (slots + n) → T'.heap = h' → Ext h h' → h.size ≤ b → Exa Z h' b C → (∀ {O nm d : String} {ty : FieldType}, Laid Z a0 C O nm d → parseFieldDescriptor d = some ty → Fld Z h' b O nm d (defaultValue ty)) → Goes p e below E T' { g with pc := g.pc + 3, stack := .ref b :: g.stack }) : Goes p e below E T g := by
  obtain ⟨T', h', X', e', E', A', D', -, st⟩ := newO X hx hZ hown w wi wz eT hg hd hc hl
  exact Goes.of st (k T' h' _ X' e' E' (Nat.le_refl _) A' D')
theorem goInitO {own : String} {idx : Nat} (W : Nat) (X : Stand p l e R s m args below meth c T locs cells slots) (hx : p.tables.exec = Jvm.exec) (hZ : Z.Warmed39 s.vm) (hown : s.vm.findClass own = some m.cls) (w1 : (Jvm.Cond.methodLink own idx Lib.objectInit).before a0 Z = true) (w2 : (Jvm.Cond.instanceMethod Lib.objectInit).before a0 Z = true)
    (w3 : (Jvm.Cond.code Lib.objectInit ⟨#[0xb1]⟩ 1 none).before a0 Z = true) (eT : T.heap = h) {g : JFrame} (hg : g.method = m) (hsize : g.locals.size = c.maxLocals) {a : Addr} {rest : List Value} (hs : g.stack = .ref a :: rest) (hd : decode c.code g.pc = .ok (.invokespecial idx, 3))
    (hf : 1 ≤ R.frames) (hW : 2 * g.monitorRoom + (rest.map fun v => v.category).sum ≤ W) (hl : W + 12 ≤ R.locals) (k : ∀ T', Stand p l e R s m args below meth c T' locs cells slots → T'.heap = h → Goes p e below E T' { g with pc := g.pc + 3, stack := rest }) : Goes p e below E T g := by
  obtain ⟨T', X', e', st⟩ := initO X hx hZ hown w1 w2 w3 eT hg hsize hs hd hf hW hl
  exact Goes.of st (k T' X' e')
theorem goGet {own R0 O n d host : String} {index : Nat} (X : Stand p l e R s m args below meth c T locs cells slots) (hx : p.tables.exec = Jvm.exec) (hZ : Z.Warmed39 s.vm) (hown : s.vm.findClass own = some m.cls) (w : (Jvm.Cond.fieldLink own index R0 n d).before a0 Z = true ∨ (Jvm.Cond.fieldLinkNest own index R0 n d host).before a0 Z = true) (via : Via Z R0 O n d)
    (eT : T.heap = h) {a : Addr} {v : Value} (F : Fld Z h a O n d v) {g : JFrame} (hg : g.method = m) {rest : List Value} (hs : g.stack = .ref a :: rest) (hd : decode c.code g.pc = .ok (.getfield index, 3))
    (k : ∀ T', Stand p l e R s m args below meth c T' locs cells slots → T'.heap = h → Goes p e below E T' { g with pc := g.pc + 3, stack := v :: rest }) : Goes p e below E T g := by
  obtain ⟨T', X', e', st⟩ := getF X hx hZ hown w via eT F hg hs hd
  exact Goes.of st (k T' X' e')
theorem goGetS {own R0 O n d host : String} {index : Nat} (X : Stand p l e R s m args below meth c T locs cells slots) (hx : p.tables.exec = Jvm.exec) (hZ : Z.Warmed39 s.vm) (hown : s.vm.findClass own = some m.cls) (w : (Jvm.Cond.fieldLink own index R0 n d).before a0 Z = true ∨ (Jvm.Cond.fieldLinkNest own index R0 n d host).before a0 Z = true) (via : Via Z R0 O n d)
    (eT : T.heap = h) {v : Value} (F : Sta Z h O n d v) {g : JFrame} (hg : g.method = m) (hd : decode c.code g.pc = .ok (.getstatic index, 3))
    (k : ∀ T', Stand p l e R s m args below meth c T' locs cells slots → T'.heap = h → Goes p e below E T' { g with pc := g.pc + 3, stack := v :: g.stack }) : Goes p e below E T g := by
  obtain ⟨T', X', e', st⟩ := getS2 X hx hZ hown w via eT F hg hd
  exact Goes.of st (k T' X' e')
theorem goPut {own R0 O n d host C : String} {index kk : Nat} {ty : FieldType} (X : Stand p l e R s m args below meth c T locs cells slots) (hx : p.tables.exec = Jvm.exec) (hZ : Z.Warmed39 s.vm) (hown : s.vm.findClass own = some m.cls) (w : (Jvm.Cond.fieldLink own index R0 n d).before a0 Z = true ∨ (Jvm.Cond.fieldLinkNest own index R0 n d host).before a0 Z = true) (via : Via Z R0 O n d)
    (eT : T.heap = h) {a : Addr} {v old : Value} (F : Fld Z h a O n d old) (Ex : Exa Z h a C) (L : (Jvm.Cond.lays C O n d).before a0 Z = true ∨ ((Jvm.Cond.laysFinal C O n d).before a0 Z = true ∧ own = O ∧ meth.name = "<init>")) (wi : (Jvm.Cond.instantiable C kk).before a0 Z = true)
    (hty : parseFieldDescriptor d = some ty) (hn : narrow ty v = v) (hf : fits ty v = true) {g : JFrame} (hg : g.method = m) {rest : List Value} (hs : g.stack = v :: .ref a :: rest) (hd : decode c.code g.pc = .ok (.putfield index, 3))
    (k : ∀ T' h', Stand p l e R s m args below meth c T' (locs ++ [⟨a, Jvm.RoadKit.slotOf Z O n d⟩]) cells slots → T'.heap = h' → Wr h h' a (Jvm.RoadKit.slotOf Z O n d) v → Goes p e below E T' { g with pc := g.pc + 3, stack := rest }) : Goes p e below E T g := by
  obtain ⟨T', h', X', e', W', st⟩ := putF X hx hZ hown w via eT F Ex L wi hty hn hf hg hs hd
  exact Goes.of st (k T' h' X' e' W')
theorem goCast {own K : String} {index : Nat} (X : Stand p l e R s m args below meth c T locs cells slots) (hx : p.tables.exec = Jvm.exec) (hZ : Z.Warmed39 s.vm) (hown : s.vm.findClass own = some m.cls) (w : (Jvm.Cond.classLink own index K).before a0 Z = true) (eT : T.heap = h) {a : Addr} (F : Ins Z h a K true)
    {g : JFrame} (hg : g.method = m) {rest : List Value} (hs : g.stack = .ref a :: rest) (hd : decode c.code g.pc = .ok (.checkcast index, 3))
    (k : ∀ T', Stand p l e R s m args below meth c T' locs cells slots → T'.heap = h → Goes p e below E T' { g with pc := g.pc + 3 }) : Goes p e below E T g := by
  obtain ⟨T', X', e', st⟩ := castY X hx hZ hown w eT F hg hs hd
  exact Goes.of st (k T' X' e')
theorem goInstY {own K : String} {index : Nat} (X : Stand p l e R s m args below meth c T locs cells slots) (hx : p.tables.exec = Jvm.exec) (hZ : Z.Warmed39 s.vm) (hown : s.vm.findClass own = some m.cls) (w : (Jvm.Cond.classLink own index K).before a0 Z = true) (eT : T.heap = h) {a : Addr} (F : Ins Z h a K true)
    {g : JFrame} (hg : g.method = m) {rest : List Value} (hs : g.stack = .ref a :: rest) (hd : decode c.code g.pc = .ok (.instanceof index, 3))
    (k : ∀ T', Stand p l e R s m args below meth c T' locs cells slots → T'.heap = h → Goes p e below E T' { g with pc := g.pc + 3, stack := .int 1 :: rest }) : Goes p e below E T g := by
  obtain ⟨T', X', e', st⟩ := instY X hx hZ hown w eT F hg hs hd
  exact Goes.of st (k T' X' e')
theorem goInstN {own K C : String} {index : Nat} (X : Stand p l e R s m args below meth c T locs cells slots) (hx : p.tables.exec = Jvm.exec) (hZ : Z.Warmed39 s.vm) (hown : s.vm.findClass own = some m.cls) (w : (Jvm.Cond.classLink own index K).before a0 Z = true) (eT : T.heap = h) {a : Addr} (Ex : Exa Z h a C) (F : ∃ c t, Z.vm.findClass C = some c ∧ Z.vm.findClass K = some t ∧ Z.vm.assignable c t = false)
    {g : JFrame} (hg : g.method = m) {rest : List Value} (hs : g.stack = .ref a :: rest) (hd : decode c.code g.pc = .ok (.instanceof index, 3))
    (k : ∀ T', Stand p l e R s m args below meth c T' locs cells slots → T'.heap = h → Goes p e below E T' { g with pc := g.pc + 3, stack := .int 0 :: rest }) : Goes p e below E T g := by
  obtain ⟨T', X', e', st⟩ := Jvm.RoadKit.instNo X hx hZ hown w eT Ex F hg hs hd
  exact Goes.of st (k T' X' e')
theorem goNewP {aty : ArrayType} (cap : Nat) (X : Stand p l e R s m args below meth c T locs cells slots) (hx : p.tables.exec = Jvm.exec) (hZ : Z.Warmed39 s.vm) (w : (Jvm.Cond.arrayClass (newarray.typeOf aty)).before a0 Z = true) (eT : T.heap = h) {g : JFrame} (hg : g.method = m) (hd : decode c.code g.pc = .ok (.newarray aty, 2)) {n : Int32} {rest : List Value} (hs : g.stack = .int n :: rest)
    (hn : ¬ n < 0) (hcap : n.toNatClampNeg ≤ cap) (hb : cap * 8 ≤ 536870912) (hc : cells + 1 ≤ R.cells) (hl : slots + cap ≤ R.slots) {ad : String} (had : "[" ++ (newarray.typeOf aty).toString = ad) 
    (k : ∀ T' h' b cA, Stand p l e R s m args below meth c T' locs (cells + 1) (slots + cap) → T'.heap = h' → Ext h h' → h.size ≤ b → Arv Z h' b cA (newarray.typeOf aty) n (List.replicate cap (defaultValue (newarray.typeOf aty))) (defaultValue (newarray.typeOf aty)) → Exa Z h' b ad → Goes p e below E T' { g with pc := g.pc + 2, stack := .ref b :: rest }) : Goes p e below E T g := by
  obtain ⟨T', h', cA, X', e', E', A', Ex', st⟩ := newPE X hx hZ w eT hg hd hs hn hcap hb hc hl had
  exact Goes.of st (k T' h' _ cA X' e' E' (Nat.le_refl _) ((Arv.new A' hn).pad (pad_rep [] _ cap)) Ex')
theorem goNewR {own C : String} {index : Nat} (cap : Nat) (X : Stand p l e R s m args below meth c T locs cells slots) (hx : p.tables.exec = Jvm.exec) (hZ : Z.Warmed39 s.vm) (hown : s.vm.findClass own = some m.cls) (w1 : (Jvm.Cond.classLink own index C).before a0 Z = true) (w2 : (Jvm.Cond.arrayOver (.object C)).before a0 Z = true) (eT : T.heap = h) {g : JFrame} (hg : g.method = m) (hd : decode c.code g.pc = .ok (.anewarray index, 3)) {n : Int32} {rest : List Value} (hs : g.stack = .int n :: rest)
    (hn : ¬ n < 0) (hcap : n.toNatClampNeg ≤ cap) (hb : cap * 8 ≤ 536870912) (hc : cells + 1 ≤ R.cells) (hl : slots + cap ≤ R.slots)
    (k : ∀ T' h' b cA, Stand p l e R s m args below meth c T' locs (cells + 1) (slots + cap) → T'.heap = h' → Ext h h' → h.size ≤ b → Arv Z h' b cA (.object C) n (List.replicate cap .null) .null → Ovr Z cA C → Goes p e below E T' { g with pc := g.pc + 3, stack := .ref b :: rest }) : Goes p e below E T g := by
  obtain ⟨T', h', cA, X', e', E', A', O', st⟩ := newR X hx hZ hown w1 w2 eT hg hd hs hn hcap hb hc hl
  exact Goes.of st (k T' h' _ cA X' e' E' (Nat.le_refl _) ((Arv.new A' hn).pad (pad_rep [] _ cap)) O')
theorem inbV {cl : Cell} {z j : Int32} (S : cl.slots.size = z.toNatClampNeg) (hj : ¬ j < 0) (hj' : j < z) : ¬ (j < 0 ∨ cl.slots.size ≤ j.toNatClampNeg) := inb_of S ⟨hj, hj'⟩
theorem goStI {a : Addr} {kc : ClassId} {z j x : Int32} {vs : List Value} {dv : Value} (i : Nat) (X : Stand p l e R s m args below meth c T locs cells slots) (hx : p.tables.exec = Jvm.exec) (hZ : Z.Warmed39 s.vm) (eT : T.heap = h) (V : Arv Z h a kc .int z vs dv) (hj : ¬ j < 0) (hj' : j < z) (hi : j.toNatClampNeg = i) (hl : i < vs.length)
    {g : JFrame} (hg : g.method = m) {rest : List Value} (hs : g.stack = .int x :: .int j :: .ref a :: rest) (hd : decode c.code g.pc = .ok (.iastore, 1))
    (k : ∀ T' h', Stand p l e R s m args below meth c T' (locs ++ [⟨a, j.toNatClampNeg⟩]) cells slots → T'.heap = h' → Wr h h' a j.toNatClampNeg (.int x) → Arv Z h' a kc .int z (vs.set i (.int x)) dv → Goes p e below E T' { g with pc := g.pc + 1, stack := rest }) : Goes p e below E T g := by
  obtain ⟨cl, A, q1, S, q3, H, G⟩ := V
  obtain ⟨T', h', X', e', W', st⟩ := stI X hx hZ eT A (inbV S hj hj') hg hs hd
  exact Goes.of st (k T' h' X' e' W' (Arv.set A q1 S q3 H G rfl W' i hi hl))
theorem goStJ {a : Addr} {kc : ClassId} {z j : Int32} {x : Int64} {vs : List Value} {dv : Value} (i : Nat) (X : Stand p l e R s m args below meth c T locs cells slots) (hx : p.tables.exec = Jvm.exec) (hZ : Z.Warmed39 s.vm) (eT : T.heap = h) (V : Arv Z h a kc .long z vs dv) (hj : ¬ j < 0) (hj' : j < z) (hi : j.toNatClampNeg = i) (hl : i < vs.length)
    {g : JFrame} (hg : g.method = m) {rest : List Value} (hs : g.stack = .long x :: .int j :: .ref a :: rest) (hd : decode c.code g.pc = .ok (.lastore, 1))
    (k : ∀ T' h', Stand p l e R s m args below meth c T' (locs ++ [⟨a, j.toNatClampNeg⟩]) cells slots → T'.heap = h' → Wr h h' a j.toNatClampNeg (.long x) → Arv Z h' a kc .long z (vs.set i (.long x)) dv → Goes p e below E T' { g with pc := g.pc + 1, stack := rest }) : Goes p e below E T g := by
  obtain ⟨cl, A, q1, S, q3, H, G⟩ := V
  obtain ⟨T', h', X', e', W', st⟩ := stJ X hx hZ eT A (inbV S hj hj') hg hs hd
  exact Goes.of st (k T' h' X' e' W' (Arv.set A q1 S q3 H G rfl W' i hi hl))
theorem goStC {a : Addr} {kc : ClassId} {z j x : Int32} {vs : List Value} {dv : Value} (i : Nat) (X : Stand p l e R s m args below meth c T locs cells slots) (hx : p.tables.exec = Jvm.exec) (hZ : Z.Warmed39 s.vm) (eT : T.heap = h) (V : Arv Z h a kc .char z vs dv) (hj : ¬ j < 0) (hj' : j < z) (hi : j.toNatClampNeg = i) (hl : i < vs.length)
    {g : JFrame} (hg : g.method = m) {rest : List Value} (hs : g.stack = .int x :: .int j :: .ref a :: rest) (hd : decode c.code g.pc = .ok (.castore, 1))
    (k : ∀ T' h', Stand p l e R s m args below meth c T' (locs ++ [⟨a, j.toNatClampNeg⟩]) cells slots → T'.heap = h' → Wr h h' a j.toNatClampNeg (.int (nar .char x)) → Arv Z h' a kc .char z (vs.set i (.int (nar .char x))) dv → Goes p e below E T' { g with pc := g.pc + 1, stack := rest }) : Goes p e below E T g := by
  obtain ⟨cl, A, q1, S, q3, H, G⟩ := V
  obtain ⟨T', h', X', e', W', st⟩ := stC X hx hZ eT A (inbV S hj hj') hg hs hd
  exact Goes.of st (k T' h' X' e' W' (Arv.set A q1 S q3 H G (fits_nar_char _) W' i hi hl))
theorem goStB {a : Addr} {kc : ClassId} {z j x : Int32} {vs : List Value} {dv : Value} (i : Nat) (X : Stand p l e R s m args below meth c T locs cells slots) (hx : p.tables.exec = Jvm.exec) (hZ : Z.Warmed39 s.vm) (eT : T.heap = h) (V : Arv Z h a kc .byte z vs dv) (hj : ¬ j < 0) (hj' : j < z) (hi : j.toNatClampNeg = i) (hl : i < vs.length)
    {g : JFrame} (hg : g.method = m) {rest : List Value} (hs : g.stack = .int x :: .int j :: .ref a :: rest) (hd : decode c.code g.pc = .ok (.bastore, 1))
    (k : ∀ T' h', Stand p l e R s m args below meth c T' (locs ++ [⟨a, j.toNatClampNeg⟩]) cells slots → T'.heap = h' → Wr h h' a j.toNatClampNeg (.int (nar .byte x)) → Arv Z h' a kc .byte z (vs.set i (.int (nar .byte x))) dv → Goes p e below E T' { g with pc := g.pc + 1, stack := rest }) : Goes p e below E T g := by
  obtain ⟨cl, A, q1, S, q3, H, G⟩ := V
  obtain ⟨T', h', X', e', W', st⟩ := stB X hx hZ eT A (inbV S hj hj') hg hs hd
  exact Goes.of st (k T' h' X' e' W' (Arv.set A q1 S q3 H G (fits_nar_byte _) W' i hi hl))
theorem goStZ {a : Addr} {kc : ClassId} {z j x : Int32} {vs : List Value} {dv : Value} (i : Nat) (X : Stand p l e R s m args below meth c T locs cells slots) (hx : p.tables.exec = Jvm.exec) (hZ : Z.Warmed39 s.vm) (eT : T.heap = h) (V : Arv Z h a kc .boolean z vs dv) (hj : ¬ j < 0) (hj' : j < z) (hi : j.toNatClampNeg = i) (hl : i < vs.length)
    {g : JFrame} (hg : g.method = m) {rest : List Value} (hs : g.stack = .int x :: .int j :: .ref a :: rest) (hd : decode c.code g.pc = .ok (.bastore, 1))
    (k : ∀ T' h', Stand p l e R s m args below meth c T' (locs ++ [⟨a, j.toNatClampNeg⟩]) cells slots → T'.heap = h' → Wr h h' a j.toNatClampNeg (.int (nar .boolean x)) → Arv Z h' a kc .boolean z (vs.set i (.int (nar .boolean x))) dv → Goes p e below E T' { g with pc := g.pc + 1, stack := rest }) : Goes p e below E T g := by
  obtain ⟨cl, A, q1, S, q3, H, G⟩ := V
  obtain ⟨T', h', X', e', W', st⟩ := stZ X hx hZ eT A (inbV S hj hj') hg hs hd
  exact Goes.of st (k T' h' X' e' W' (Arv.set A q1 S q3 H G (fits_nar_bool _) W' i hi hl))
theorem goStR {a y : Addr} {C : String} {kc : ClassId} {z j : Int32} {vs : List Value} {dv : Value} (i : Nat) (X : Stand p l e R s m args below meth c T locs cells slots) (hx : p.tables.exec = Jvm.exec) (hZ : Z.Warmed39 s.vm) (eT : T.heap = h) (V : Arv Z h a kc (.object C) z vs dv) (O : Ovr Z kc C) (I : Ins Z h y C true) (hj : ¬ j < 0) (hj' : j < z) (hi : j.toNatClampNeg = i) (hl : i < vs.length)
    {g : JFrame} (hg : g.method = m) {rest : List Value} (hs : g.stack = .ref y :: .int j :: .ref a :: rest) (hd : decode c.code g.pc = .ok (.aastore, 1))
    (k : ∀ T' h', Stand p l e R s m args below meth c T' (locs ++ [⟨a, j.toNatClampNeg⟩]) cells slots → T'.heap = h' → Wr h h' a j.toNatClampNeg (.ref y) → Arv Z h' a kc (.object C) z (vs.set i (.ref y)) dv → Goes p e below E T' { g with pc := g.pc + 1, stack := rest }) : Goes p e below E T g := by
  obtain ⟨cl, A, q1, S, q3, H, G⟩ := V
  obtain ⟨T', h', X', e', W', st⟩ := stR X hx hZ eT A (inbV S hj hj') rfl (Sto.ofV A q1 O I) hg hs hd
  exact Goes.of st (k T' h' X' e' W' (Arv.set A q1 S q3 H G rfl W' i hi hl))
theorem goLdI {a : Addr} {kc : ClassId} {z j : Int32} {vs : List Value} {dv : Value} (v : Value) (X : Stand p l e R s m args below meth c T locs cells slots) (hx : p.tables.exec = Jvm.exec) (hZ : Z.Warmed39 s.vm) (eT : T.heap = h) (V : Arv Z h a kc .int z vs dv) (hj : ¬ j < 0) (hj' : j < z) (hv : vs.getD j.toNatClampNeg dv = v)
    {g : JFrame} (hg : g.method = m) {rest : List Value} (hs : g.stack = .int j :: .ref a :: rest) (hd : decode c.code g.pc = .ok (.iaload, 1)) (k : Goes p e below E T { g with pc := g.pc + 1, stack := v :: rest }) : Goes p e below E T g := by
  obtain ⟨cl, A, q1, S, q3, H, G⟩ := V
  exact Goes.of (fun t q => X.iaload hx (by rw [eT]; exact A.1) (State.isArrayOf_alike hZ.alike A.2.1) A.2.2 (inbV S hj hj') (H.at (inbV S hj hj') hv) hg hs hd t q) k
theorem goLdJ {a : Addr} {kc : ClassId} {z j : Int32} {vs : List Value} {dv : Value} (v : Value) (X : Stand p l e R s m args below meth c T locs cells slots) (hx : p.tables.exec = Jvm.exec) (hZ : Z.Warmed39 s.vm) (eT : T.heap = h) (V : Arv Z h a kc .long z vs dv) (hj : ¬ j < 0) (hj' : j < z) (hv : vs.getD j.toNatClampNeg dv = v)
    {g : JFrame} (hg : g.method = m) {rest : List Value} (hs : g.stack = .int j :: .ref a :: rest) (hd : decode c.code g.pc = .ok (.laload, 1)) (k : Goes p e below E T { g with pc := g.pc + 1, stack := v :: rest }) : Goes p e below E T g := by
  obtain ⟨cl, A, q1, S, q3, H, G⟩ := V
  exact Goes.of (fun t q => X.laload hx (by rw [eT]; exact A.1) (State.isArrayOf_alike hZ.alike A.2.1) A.2.2 (inbV S hj hj') (H.at (inbV S hj hj') hv) hg hs hd t q) k
theorem goLdC {a : Addr} {kc : ClassId} {z j : Int32} {vs : List Value} {dv : Value} (v : Value) (X : Stand p l e R s m args below meth c T locs cells slots) (hx : p.tables.exec = Jvm.exec) (hZ : Z.Warmed39 s.vm) (eT : T.heap = h) (V : Arv Z h a kc .char z vs dv) (hj : ¬ j < 0) (hj' : j < z) (hv : vs.getD j.toNatClampNeg dv = v)
    {g : JFrame} (hg : g.method = m) {rest : List Value} (hs : g.stack = .int j :: .ref a :: rest) (hd : decode c.code g.pc = .ok (.caload, 1)) (k : Goes p e below E T { g with pc := g.pc + 1, stack := v :: rest }) : Goes p e below E T g := by
  obtain ⟨cl, A, q1, S, q3, H, G⟩ := V
  exact Goes.of (fun t q => X.caload hx (by rw [eT]; exact A.1) (State.isArrayOf_alike hZ.alike A.2.1) A.2.2 (inbV S hj hj') (H.at (inbV S hj hj') hv) hg hs hd t q) k
theorem goLdB {a : Addr} {kc : ClassId} {z j : Int32} {vs : List Value} {dv : Value} (v : Value) (X : Stand p l e R s m args below meth c T locs cells slots) (hx : p.tables.exec = Jvm.exec) (hZ : Z.Warmed39 s.vm) (eT : T.heap = h) (V : Arv Z h a kc .byte z vs dv) (hj : ¬ j < 0) (hj' : j < z) (hv : vs.getD j.toNatClampNeg dv = v)
    {g : JFrame} (hg : g.method = m) {rest : List Value} (hs : g.stack = .int j :: .ref a :: rest) (hd : decode c.code g.pc = .ok (.baload, 1)) (k : Goes p e below E T { g with pc := g.pc + 1, stack := v :: rest }) : Goes p e below E T g := by
  obtain ⟨cl, A, q1, S, q3, H, G⟩ := V
  exact Goes.of (fun t q => X.baloadBytes hx (by rw [eT]; exact A.1) (State.isArrayOf_alike hZ.alike A.2.1) A.2.2 (inbV S hj hj') (H.at (inbV S hj hj') hv) hg hs hd t q) k
theorem goLdZ {a : Addr} {kc : ClassId} {z j : Int32} {vs : List Value} {dv : Value} (v : Value) (X : Stand p l e R s m args below meth c T locs cells slots) (hx : p.tables.exec = Jvm.exec) (hZ : Z.Warmed39 s.vm) (eT : T.heap = h) (V : Arv Z h a kc .boolean z vs dv) (hj : ¬ j < 0) (hj' : j < z) (hv : vs.getD j.toNatClampNeg dv = v)
    {g : JFrame} (hg : g.method = m) {rest : List Value} (hs : g.stack = .int j :: .ref a :: rest) (hd : decode c.code g.pc = .ok (.baload, 1)) (k : Goes p e below E T { g with pc := g.pc + 1, stack := v :: rest }) : Goes p e below E T g := by
  obtain ⟨cl, A, q1, S, q3, H, G⟩ := V
  exact Goes.of (fun t q => X.baloadBooleans hx (by rw [eT]; exact A.1) (State.isArrayOf_alike hZ.alike A.2.1) A.2.2 (inbV S hj hj') (H.at (inbV S hj hj') hv) hg hs hd t q) k
theorem goLdR {a : Addr} {C : String} {kc : ClassId} {z j : Int32} {vs : List Value} {dv : Value} (v : Value) (X : Stand p l e R s m args below meth c T locs cells slots) (hx : p.tables.exec = Jvm.exec) (hZ : Z.Warmed39 s.vm) (eT : T.heap = h) (V : Arv Z h a kc (.object C) z vs dv) (hj : ¬ j < 0) (hj' : j < z) (hv : vs.getD j.toNatClampNeg dv = v)
    {g : JFrame} (hg : g.method = m) {rest : List Value} (hs : g.stack = .int j :: .ref a :: rest) (hd : decode c.code g.pc = .ok (.aaload, 1)) (k : Goes p e below E T { g with pc := g.pc + 1, stack := v :: rest }) : Goes p e below E T g := by
  obtain ⟨cl, A, q1, S, q3, H, G⟩ := V
  exact Goes.of (fun t q => X.aaload hx (by rw [eT]; exact A.1) (State.isArrayOf_alike hZ.alike A.2.1) rfl A.2.2 (inbV S hj hj') (H.at (inbV S hj hj') hv) hg hs hd t q) k
theorem goLen {a : Addr} {kc : ClassId} {ty : FieldType} {z : Int32} {vs : List Value} {dv : Value} (X : Stand p l e R s m args below meth c T locs cells slots) (hx : p.tables.exec = Jvm.exec) (hZ : Z.Warmed39 s.vm) (eT : T.heap = h) (V : Arv Z h a kc ty z vs dv)
    {g : JFrame} (hg : g.method = m) {rest : List Value} (hs : g.stack = .ref a :: rest) (hd : decode c.code g.pc = .ok (.arraylength, 1)) (k : Goes p e below E T { g with pc := g.pc + 1, stack := .int z :: rest }) : Goes p e below E T g := by
  obtain ⟨cl, A, q1, S, q3, H, G⟩ := V
  exact Goes.of (fun t q => X.arraylength hx (by rw [eT]; exact A.1) (State.isArrayOf_alike hZ.alike A.2.1) hg hs hd t (by rw [len_of S q3]; exact q)) k
/-- a start fact out of a case's word -/
theorem fld_of_eq {args : Array Value} {t u : Term} {C n d : String} {a : Addr} {v : Value} (ev : t.eval args s none [] s = some (.ref a)) (hu : u.eval args s none [] s = some v) (h : (Jvm.Cond.eq (.field t C n d) u).value args s none s [] = some true) : Fld s s.heap a C n d v := by
  refine Fld.start ?_
  simp only [Jvm.Cond.value, fld_at ev, hu] at h
  cases hf : s.fieldOf? a C n d with
  | none => simp [hf] at h
  | some x => cases x <;> cases v <;> simp [hf] at h ⊢ <;> exact h
theorem sta_at {args : Array Value} {C n d : String} {v : Value} (ev : (Term.static C n d).eval args s none [] s = some v) (w1 : (Jvm.Cond.initialized C).before args s = true) (w2 : (Jvm.Cond.laysStatic C n d).before args s = true) : Sta s s.heap C n d v := Sta.start ev (Or.inr ⟨w1, w2⟩)
/-- an enum constant: the static, the object's class, its ordinal -/
def Con (Z : State) (C f : String) (d : String) (k : Int32) (a : Addr) : Prop := Sta Z Z.heap C f d (.ref a) ∧ Exa Z Z.heap a C ∧ Fld Z Z.heap a "java/lang/Enum" "ordinal" "I" (.int k)
theorem con_of {args : Array Value} {C f d : String} {k : Int32} (h1 : (Jvm.Cond.exactly (.static C f d) C).value args s none s [] = some true) (h2 : (Jvm.Cond.eq (.field (.static C f d) "java/lang/Enum" "ordinal" "I") (.int k)).value args s none s [] = some true)
    (w1 : (Jvm.Cond.initialized C).before args s = true) (w2 : (Jvm.Cond.laysStatic C f d).before args s = true) : ∃ a, Con s C f d k a ∧ (Term.static C f d).eval args s none [] s = some (.ref a) := by
  obtain ⟨a, ev⟩ := exa_v h1
  exact ⟨a, ⟨sta_at ev w1 w2, Exa.start ev h1, fld_of_eq ev (Term.int_eval k) h2⟩, ev⟩
theorem Con.ne {C f d C' f' d' : String} {k k' : Int32} {a b : Addr} (F : Con Z C f d k a) (G : Con Z C' f' d' k' b) (q : k ≠ k') : a ≠ b := Fld.ne F.2.2 G.2.2 (fun h => q (Value.int.inj h))
theorem mask31 (x : Int32) : (x &&& (2147483647 : Int32)).toInt = x.toInt % 2147483648 := c_mask x _ 31 (by decide) (by decide)
theorem div_pos (x y : Int32) {k : Int} (hx : ¬ x < 0) (hy : y.toInt = k) (h1 : y ≠ -1) : (x / y).toInt = x.toInt / k := (c_idiv x y k hy h1).1 (by rw [Int32.lt_iff_toInt_lt] at hx; have : (0 : Int32).toInt = 0 := rfl; omega)
theorem rem_pos {x y : Int32} {k : Int} (h : 0 ≤ x.toInt) (hy : y.toInt = k) : (x - (x / y) * y).toInt = x.toInt % k := by
  rw [irem_eq_mod]; exact (c_irem x y k hy).1 h
theorem rem31 (x y : Int32) {k : Int} (hy : y.toInt = k) : ((x &&& (2147483647 : Int32)) - ((x &&& (2147483647 : Int32)) / y) * y).toInt = (x.toInt % 2147483648) % k := by
  have e := mask31 x
  rw [rem_pos (by omega) hy, e]
def Cst (Z : State) (C f : String) (d : String) (a : Addr) : Prop := Sta Z Z.heap C f d (.ref a) ∧ Exa Z Z.heap a C
theorem cst_of {args : Array Value} {C f d : String} (h1 : (Jvm.Cond.exactly (.static C f d) C).value args s none s [] = some true)
    (w1 : (Jvm.Cond.initialized C).before args s = true) (w2 : (Jvm.Cond.laysStatic C f d).before args s = true) : ∃ a, Cst s C f d a ∧ (Term.static C f d).eval args s none [] s = some (.ref a) := by
  obtain ⟨a, ev⟩ := exa_v h1
  exact ⟨a, ⟨sta_at ev w1 w2, Exa.start ev h1⟩, ev⟩
theorem goClone {own ad : String} {index : Nat} {ty : FieldType} {a : Addr} {kc : ClassId} {z : Int32} {vs : List Value} {dv : Value} (W cap : Nat) (X : Stand p l e R s m args below meth c T locs cells slots) (hx : p.tables.exec = Jvm.exec) (hZ : Z.Warmed39 s.vm) (hown : s.vm.findClass own = some m.cls)
    (w1 : (Jvm.Cond.methodLink own index ⟨ad, "clone", "()Ljava/lang/Object;"⟩).before a0 Z = true) (w2 : (Jvm.Cond.sameMethod ad "java/lang/Object" "clone" "()Ljava/lang/Object;").before a0 Z = true) (w3 : (Jvm.Cond.native ⟨"java/lang/Object", "clone", "()Ljava/lang/Object;"⟩).before a0 Z = true)
    (w4 : (Jvm.Cond.instanceMethod ⟨"java/lang/Object", "clone", "()Ljava/lang/Object;"⟩).before a0 Z = true) (w5 : (Jvm.Cond.selects ad ⟨ad, "clone", "()Ljava/lang/Object;"⟩ ⟨"java/lang/Object", "clone", "()Ljava/lang/Object;"⟩).before a0 Z = true) (w6 : (Jvm.Cond.castable ad "java/lang/Cloneable").before a0 Z = true)
    (eT : T.heap = h) (V : Arv Z h a kc ty z vs dv) (Ex : Exa Z h a ad) {g : JFrame} (hg : g.method = m) (hsize : g.locals.size = c.maxLocals) {rest : List Value} (hst : g.stack = .ref a :: rest) (hd : decode c.code g.pc = .ok (.invokevirtual index, 3))
    (hf : 1 ≤ R.frames) (hW : 2 * g.monitorRoom + (rest.map fun v => v.category).sum ≤ W) (hl : W + 14 ≤ R.locals) (hcap : z.toNatClampNeg ≤ cap) (hc : cells + 1 ≤ R.cells) (hsl : slots + cap ≤ R.slots)
    (k : ∀ T' h' b, Stand p l e R s m args below meth c T' locs (cells + 1) (slots + cap) → T'.heap = h' → Ext h h' → h.size ≤ b → Arv Z h' b kc ty z vs dv → Exa Z h' b ad → Goes p e below E T' { g with pc := g.pc + 3, stack := .ref b :: rest }) : Goes p e below E T g := by
  obtain ⟨T', h', X', e', E', A', Ex', st⟩ := cloneH X hx hZ hown w1 w2 w3 w4 w5 w6 eT V.arh Ex hg hsize hst hd hf hW hl hcap hc hsl
  exact Goes.of st (k T' h' _ X' e' E' (Nat.le_refl _) A' Ex')
theorem nsRoot {O K : String} {n : Nat} (w : (Jvm.Cond.noSuperclass O).before a0 Z = true) (wk : (Jvm.Cond.instantiable K n).before a0 Z = true) (hn : O ≠ K) : NS Z O K := by
  obtain ⟨c, k, h1, h2, h3, -, -⟩ := Cond.noSuperclass_spec w
  obtain ⟨t, kt, g1, -⟩ := Cond.instantiable_spec wk
  have ne := ids_ne h1 g1 hn
  refine ⟨c, t, h1, g1, fun fuel => ?_⟩
  cases fuel with
  | zero => rfl
  | succ f => simp [Vm.isSubclassAux, ne, h2, h3]
theorem nsNo {C S K : String} {n : Nat} (w : (Jvm.Cond.superclass C S).before a0 Z = true) (wk : (Jvm.Cond.instantiable K n).before a0 Z = true) (q : NS Z C K) (hn : C ≠ K) : ∃ c t, Z.vm.findClass C = some c ∧ Z.vm.findClass K = some t ∧ Z.vm.assignable c t = false := by
  obtain ⟨c, t, h0, g0, n3⟩ := q
  obtain ⟨p, k, kp, h1, h2, h3, h4, h5, -, h7⟩ := Cond.superclass_spec h0 w
  obtain ⟨t', kt, g1, g2, g5, g7, -⟩ := Cond.instantiable_spec wk
  cases g0.symm.trans g1
  have g8 : kt.isInterface = false := by simp only [Bool.or_eq_false_iff] at g7; exact g7.1
  have ne := ids_ne h0 g0 hn
  refine ⟨c, t, h0, g0, ?_⟩
  show Z.vm.assignableAux (255 + 1) c t = false
  simp [Vm.assignableAux, ne, h2, g2, h5, g5, g8, Vm.isSubclass, n3]
/-- what is known of Integer's cache at the start -/
def IntC (Z : State) (ca : Addr) (cl : Cell) : Prop := Sta Z Z.heap "java/lang/Integer$IntegerCache" "high" "I" (.int 127) ∧ Sta Z Z.heap "java/lang/Integer$IntegerCache" "cache" "[Ljava/lang/Integer;" (.ref ca) ∧ Arr Z Z.heap ca cl (.object "java/lang/Integer") ∧ cl.slots.size = 256 ∧ ∀ j, j < 256 → ∃ b, cl.slots[j]? = some (.ref b) ∧ Exa Z Z.heap b "java/lang/Integer"
theorem ne_of_not {args : Array Value} {t : Term} {x : Int32} (ev : t.eval args s none [] s = some (.int x)) (h : (Jvm.Cond.not (.eq t (.int 0))).before args s = true) : ¬ x = 0 := by
  intro q
  subst q
  have e := Cond.before_iff.mp h
  simp [Jvm.Cond.value, ev, Term.eval] at e
end Own1
end Jvm.Own
namespace Jvm.Own
open Jvm Sem ClassFile Op Lib Jvm.Stand Jvm.Free Jvm.LawKit Jvm.RoadKit
/-- the end of a walk that may have interned -/
def EndW (Z s : State) (EL : List (String × Nat)) (Q : Option Value → Heap → List Loc → Prop) (K N : Nat) (o : Outcome) (U : State) : Prop :=
  ∃ v L, o = .returned v ∧ Q v U.heap L ∧ CHr Z EL s.vm s.heap U.vm U.heap ∧ ReturnedEndW s o U L K N
/-- the contract of a body that may intern, the read constants held -/
def RmH (l : Launch) (y : MethodName) (bytes : ByteArray) (maxL : Nat) (ret : Option FieldType) (rm : Room) (ws : List Jvm.Cond) (Z : State) (EL : List (String × Nat)) (as' : Array Value) (h : Heap) (Q : Option Value → Heap → List Loc → Prop) : Prop :=
  MetFree l y (head1 (Jvm.Cond.code y bytes maxL ret :: ws) rm) (fun a U => a = as' ∧ Z.Warmed39 U.vm ∧ U.heap = h ∧ CHv Z EL U.vm h) (fun _ _ _ _ _ => True) (fun _ U o U' => ∃ v L, o = .returned v ∧ Q v U'.heap L ∧ CHr Z EL U.vm U.heap U'.vm U'.heap ∧ ReturnedEndW U o U' L rm.cells rm.slots)
section Own2
variable {p : Program} {l : Launch} {e : Env} {R : Room} {s : State} {m : MethodId} {args : Array Value} {below : List Frame} {meth : Method} {c : Code} {T : State} {locs : List Loc} {cells slots : Nat} {Z : State} {a0 : Array Value} {h : Heap} {E : Outcome → State → Prop} {vm0 : Vm} {k0 : Nat} {EL : List (String × Nat)} {v00 : Vm} {h00 : Heap}
theorem RmH.of {ws : List Jvm.Cond} {y : MethodName} {bytes : ByteArray} {maxL : Nat} {ret : Option FieldType} {rm : Room} {as' : Array Value} {h : Heap} {Q : Option Value → Heap → List Loc → Prop} (hp : plainFor y = true)
    (body : ∀ (p : Program) (e : Env) (s : State) (m : MethodId) (below : List Frame) (meth : Method) (c : Code) (T : State), Stand p l e rm (s.setVm s.vm) m as' below meth c T [] 0 0 → p.tables.exec = Jvm.exec → Z.Warmed39 s.vm → c.code = bytes → c.maxLocals = maxL → s.vm.findClass y.cls = some m.cls → meth.name = y.name → meth.sig.returnType = ret → meth.locks = false → T.heap = h → s.Since s.vm 0 → 0 ≤ h.size → CHr Z EL s.vm s.heap s.vm h →
      Goes p e below (EndW Z s EL Q rm.cells rm.slots) T (entryFrame m as' maxL)) : RmH l y bytes maxL ret rm ws Z EL as' h Q := by
  refine MetFree.of_bodySF hp hisR ?_
  intro p e s m args below meth c s₁ Bd hml0 hP hK
  obtain ⟨rfl, hZ, hh, hC⟩ := hP
  exact body p e s m below meth c s₁ (Stand.of_body Bd) Bd.exec hZ Bd.bytes hml0 (findClass_of_methodNamed Bd.named) (name_of_methodNamed Bd.named Bd.method).1 Bd.returns Bd.notSynchronized (by rw [← hh, Bd.state]; rfl) ((State.WarmedH.refl s).since 0) (Nat.zero_le _) (by rw [hh]; exact CHr.refl hC)
theorem goRetW {Q : Option Value → Heap → List Loc → Prop} {K N : Nat} {g : JFrame} {v : Option Value} (X : Stand p l e R (s.setVm vm0) m args below meth c T locs cells slots) (hS : s.Since vm0 k0) (hk : k0 ≤ h.size) (hZ : Z.Warmed39 vm0) (hEL : EW Z a0 EL) (H : CHr Z EL s.vm s.heap vm0 h) (hv : meth.sig.returnType = none → v = none) (hlocks : meth.locks = false) (eT : T.heap = h) (hQ : Q v h locs) (hK : cells ≤ K) (hN : slots ≤ N)
    (st : ∀ fs, (∀ (f : JFrame) (acts : List Action), f.method = m → f.locked = none → f.entered = [] → (doReturn e (T.setTop f) acts v).1 = T.setFrames fs) → Steps p.tables e below (T.setTop g) (T.setFrames fs)) : Goes p e below (EndW Z s EL Q K N) T g := by
  obtain ⟨fs, hr, hrun, hended, hW⟩ := X.leaveW hS (by rw [eT]; exact hk) (v := v) hv hlocks
  subst eT
  have hH := H.trans (CHv.at X hZ hEL H.1)
  exact ⟨_, _, st fs hr, hrun, hended, _, _, rfl, hQ, hH, hW.1, hW.2.1, hW.2.2.1, hW.2.2.2.mono hK hN⟩
theorem retZW {Q : Option Value → Heap → List Loc → Prop} {K N pc : Nat} {Ls : Array Slot} {z : Int32} {t : FieldType} {rest : List Value} (X : Stand p l e R (s.setVm vm0) m args below meth c T locs cells slots) (hS : s.Since vm0 k0) (hk : k0 ≤ h.size) (hZ : Z.Warmed39 vm0) (hEL : EW Z a0 EL) (H : CHr Z EL s.vm s.heap vm0 h) (hx : p.tables.exec = Jvm.exec) (hret : meth.sig.returnType = some t) (hlocks : meth.locks = false) (ht : t = .boolean ∨ t = .byte ∨ t = .char ∨ t = .short)
    (hd : decode c.code pc = .ok (.ireturn, 1)) (eT : T.heap = h) (hK : cells ≤ K) (hN : slots ≤ N) (hQ : Q (some (.int (nar t z))) h locs) : Goes p e below (EndW Z s EL Q K N) T (mkF m pc Ls (.int z :: rest)) :=
  goRetW X hS hk hZ hEL H (fun q => by rw [hret] at q; cases q) hlocks eT hQ hK hN fun fs hr => retN X hx hret ht hd hr
theorem retRefW {Q : Option Value → Heap → List Loc → Prop} {K N pc : Nat} {Ls : Array Slot} {z : Value} {t : FieldType} {rest : List Value} (X : Stand p l e R (s.setVm vm0) m args below meth c T locs cells slots) (hS : s.Since vm0 k0) (hk : k0 ≤ h.size) (hZ : Z.Warmed39 vm0) (hEL : EW Z a0 EL) (H : CHr Z EL s.vm s.heap vm0 h) (hx : p.tables.exec = Jvm.exec) (hret : meth.sig.returnType = some t) (hlocks : meth.locks = false) (ht : t.isReference = true) (hz : z.isRef = true)
    (hd : decode c.code pc = .ok (.areturn, 1)) (eT : T.heap = h) (hK : cells ≤ K) (hN : slots ≤ N) (hQ : Q (some z) h locs) : Goes p e below (EndW Z s EL Q K N) T (mkF m pc Ls (z :: rest)) :=
  goRetW X hS hk hZ hEL H (fun q => by rw [hret] at q; cases q) hlocks eT hQ hK hN fun fs hr => by
    have hm' : T.vm.method? m = some meth := X.method'
    show Steps p.tables e below (T.setTop { method := m, pc := pc, locals := Ls, stack := _ :: rest, locked := none }) _
    rcases ref_cases hz with rfl | ⟨_, rfl⟩
    all_goals
      jvm_step X.here [X.here.top, hx, hd, hm', hret, ht, Value.isRef]
      first | (intro acts; rw [hr _ acts rfl rfl rfl]) | rw [hr _ _ rfl rfl rfl]
      exact Steps.refl _
theorem retIntW {Q : Option Value → Heap → List Loc → Prop} {K N pc : Nat} {Ls : Array Slot} {z : Int32} {rest : List Value} (X : Stand p l e R (s.setVm vm0) m args below meth c T locs cells slots) (hS : s.Since vm0 k0) (hk : k0 ≤ h.size) (hZ : Z.Warmed39 vm0) (hEL : EW Z a0 EL) (H : CHr Z EL s.vm s.heap vm0 h) (hx : p.tables.exec = Jvm.exec) (hret : meth.sig.returnType = some .int) (hlocks : meth.locks = false)
    (hd : decode c.code pc = .ok (.ireturn, 1)) (eT : T.heap = h) (hK : cells ≤ K) (hN : slots ≤ N) (hQ : Q (some (.int z)) h locs) : Goes p e below (EndW Z s EL Q K N) T (mkF m pc Ls (.int z :: rest)) :=
  goRetW X hS hk hZ hEL H (fun q => by rw [hret] at q; cases q) hlocks eT hQ hK hN fun fs hr => by
    have hm' : T.vm.method? m = some meth := X.method'
    have hn : narrow .int (.int z) = .int z := rfl
    show Steps p.tables e below (T.setTop { method := m, pc := pc, locals := Ls, stack := _ :: rest, locked := none }) _
    jvm_step X.here [X.here.top, hx, hd, hm', hret, hn]
    first | (intro acts; rw [hr _ acts rfl rfl rfl]) | rw [hr _ _ rfl rfl rfl]
    exact Steps.refl _
theorem retVoidW {Q : Option Value → Heap → List Loc → Prop} {K N pc : Nat} {Ls : Array Slot} {rest : List Value} (X : Stand p l e R (s.setVm vm0) m args below meth c T locs cells slots) (hS : s.Since vm0 k0) (hk : k0 ≤ h.size) (hZ : Z.Warmed39 vm0) (hEL : EW Z a0 EL) (H : CHr Z EL s.vm s.heap vm0 h) (hx : p.tables.exec = Jvm.exec) (hret : meth.sig.returnType = none) (hlocks : meth.locks = false)
    (hd : decode c.code pc = .ok (.return_, 1)) (eT : T.heap = h) (hK : cells ≤ K) (hN : slots ≤ N) (hQ : Q none h locs) : Goes p e below (EndW Z s EL Q K N) T (mkF m pc Ls rest) :=
  goRetW X hS hk hZ hEL H (fun _ => rfl) hlocks eT hQ hK hN fun fs hr => by
    have hm' : T.vm.method? m = some meth := X.method'
    show Steps p.tables e below (T.setTop { method := m, pc := pc, locals := Ls, stack := rest, locked := none }) _
    jvm_step X.here [X.here.top, hx, hd, hm', hret]
    first | (intro acts; rw [hr _ acts rfl rfl rfl]) | rw [hr _ _ rfl rfl rfl]
    exact Steps.refl _
theorem goStaticW {own : String} {index : Nat} {y : MethodName} {bytes : ByteArray} {maxL : Nat} {ret : Option FieldType} {rm : Room} {as' : Array Value} {Q : Option Value → Heap → List Loc → Prop} (W : Nat)
    (X : Stand p l e R (s.setVm vm0) m args below meth c T locs cells slots) (hS : s.Since vm0 k0) (hk : k0 ≤ h.size) (hEL : EW Z a0 EL) (H : CHr Z EL v00 h00 vm0 h) (hx : p.tables.exec = Jvm.exec) (hZ : Z.Warmed39 vm0) (hown : vm0.findClass own = some m.cls) (w1 : (Jvm.Cond.methodLink own index y).before a0 Z = true) (w2 : (Jvm.Cond.static y).before a0 Z = true) (w3 : (Jvm.Cond.initialized y.cls).before a0 Z = true) (w4 : (Jvm.Cond.code y bytes maxL ret).before a0 Z = true)
    (hy : y.cls ≠ "java/lang/invoke/MethodHandle" ∧ y.cls ≠ "java/lang/invoke/VarHandle") (r : RmH l y bytes maxL ret rm [] Z EL as' h Q) (eT : T.heap = h) {g : JFrame} (hg : g.method = m) (hsize : g.locals.size = c.maxLocals) (argsL rest : List Value) (hlen : ∀ sig, parseMethodDescriptor y.desc = some sig → argsL.length = sig.parameters.length)
    (hstack : g.stack = argsL.reverse ++ rest) (has : argsL.toArray = as') (hW : 2 * g.monitorRoom + (rest.map fun v => v.category).sum ≤ W) (hd : decode c.code g.pc = .ok (.invokestatic index, 3)) (hf : rm.frames + 1 ≤ R.frames) (hl : W + (maxL + 11) + rm.locals ≤ R.locals) (hc : cells + rm.cells ≤ R.cells) (hs : slots + rm.slots ≤ R.slots)
    (k : ∀ v T' L k1, Stand p l e R (s.setVm T'.vm) m args below meth c T' (locs ++ L) (cells + rm.cells) (slots + rm.slots) → s.Since T'.vm k1 → k1 ≤ T'.heap.size → Z.Warmed39 T'.vm → T'.vm.findClass own = some m.cls → CHr Z EL v00 h00 T'.vm T'.heap → Q v T'.heap L → Goes p e below E T' { g with pc := g.pc + 3, stack := v.toList ++ rest }) : Goes p e below E T g := by
  obtain ⟨v, vm₁, ⟨T', L', k', n'⟩, -, X', hS', hgr, ⟨L, hQ, q1, q2, q3, hC⟩, st⟩ := callSS X hx (y := y) hown (mvT (s := s.setVm vm0) hZ w1) (mvT (s := s.setVm vm0) hZ w2) (mvT (s := s.setVm vm0) hZ w3) (mvT (s := s.setVm vm0) hZ w4) hy (backOfSH (W := W) r hZ w4 w3 hf hl hEL H.1) hg hsize hlen hstack hW hd (fun _ _ => ⟨has, eT, hc, hs⟩)
  dsimp only [Pt.U, Pt.locs, Pt.cells, Pt.slots] at X' q1 q2 q3 st hQ hS' hgr hC
  subst q1 q2 q3
  exact Goes.of (fun _ => st.trans) (k v T' L _ X' (hS.trans hS' (Nat.le_trans hk (eT ▸ hgr))) (Nat.le_refl _) (State.Warmed39.trans (t := s.setVm vm0) hZ hS'.1) (by rw [hS'.1.alike.findClass]; exact hown) (H.trans hC) hQ)
theorem goSpecialW {own : String} {index : Nat} {y : MethodName} {bytes : ByteArray} {maxL : Nat} {rm : Room} {as' : Array Value} {Q : Option Value → Heap → List Loc → Prop} (W : Nat)
    (X : Stand p l e R (s.setVm vm0) m args below meth c T locs cells slots) (hS : s.Since vm0 k0) (hk : k0 ≤ h.size) (hEL : EW Z a0 EL) (H : CHr Z EL v00 h00 vm0 h) (hx : p.tables.exec = Jvm.exec) (hZ : Z.Warmed39 vm0) (hy1 : y.name = "<init>") (hown : vm0.findClass own = some m.cls) (w1 : (Jvm.Cond.methodLink own index y).before a0 Z = true) (w2 : (Jvm.Cond.instanceMethod y).before a0 Z = true) (w3 : (Jvm.Cond.initialized y.cls).before a0 Z = true) (w4 : (Jvm.Cond.code y bytes maxL none).before a0 Z = true)
    (hy : y.cls ≠ "java/lang/invoke/MethodHandle" ∧ y.cls ≠ "java/lang/invoke/VarHandle") (r : RmH l y bytes maxL none rm [] Z EL as' h Q) (eT : T.heap = h) {g : JFrame} (hg : g.method = m) (hsize : g.locals.size = c.maxLocals) (a : Addr) (argsL rest : List Value) (hlen : ∀ sig, parseMethodDescriptor y.desc = some sig → argsL.length = sig.parameters.length)
    (hstack : g.stack = argsL.reverse ++ .ref a :: rest) (has : (.ref a :: argsL).toArray = as') (hW : 2 * g.monitorRoom + (rest.map fun v => v.category).sum ≤ W) (hd : decode c.code g.pc = .ok (.invokespecial index, 3)) (hf : rm.frames + 1 ≤ R.frames) (hl : W + (maxL + 11) + rm.locals ≤ R.locals) (hc : cells + rm.cells ≤ R.cells) (hs : slots + rm.slots ≤ R.slots)
    (k : ∀ v T' L k1, Stand p l e R (s.setVm T'.vm) m args below meth c T' (locs ++ L) (cells + rm.cells) (slots + rm.slots) → s.Since T'.vm k1 → k1 ≤ T'.heap.size → Z.Warmed39 T'.vm → T'.vm.findClass own = some m.cls → CHr Z EL v00 h00 T'.vm T'.heap → Q v T'.heap L → Goes p e below E T' { g with pc := g.pc + 3, stack := v.toList ++ rest }) : Goes p e below E T g := by
  obtain ⟨v, vm₁, ⟨T', L', k', n'⟩, -, X', hS', hgr, ⟨L, hQ, q1, q2, q3, hC⟩, st⟩ := X.specialBackS hx (y := y) hy1 hown (mvT (s := s.setVm vm0) hZ w1) (mvT (s := s.setVm vm0) hZ w2) (mvT (s := s.setVm vm0) hZ w4) hy (backOfSH (W := W) r hZ w4 w3 hf hl hEL H.1) hg hsize (Steps.refl _) (a := a) hlen hstack hW hd (fun _ _ => ⟨has, eT, hc, hs⟩)
  dsimp only [Pt.U, Pt.locs, Pt.cells, Pt.slots] at X' q1 q2 q3 st hQ hS' hgr hC
  subst q1 q2 q3
  exact Goes.of (fun _ => st.trans) (k v T' L _ X' (hS.trans hS' (Nat.le_trans hk (eT ▸ hgr))) (Nat.le_refl _) (State.Warmed39.trans (t := s.setVm vm0) hZ hS'.1) (by rw [hS'.1.alike.findClass]; exact hown) (H.trans hC) hQ)
theorem goVirtualW {own C : String} {index : Nat} {y z : MethodName} {bytes : ByteArray} {maxL : Nat} {ret : Option FieldType} {rm : Room} {as' : Array Value} {Q : Option Value → Heap → List Loc → Prop} (W : Nat)
    (X : Stand p l e R (s.setVm vm0) m args below meth c T locs cells slots) (hS : s.Since vm0 k0) (hk : k0 ≤ h.size) (hEL : EW Z a0 EL) (H : CHr Z EL v00 h00 vm0 h) (hx : p.tables.exec = Jvm.exec) (hZ : Z.Warmed39 vm0) (hown : vm0.findClass own = some m.cls) (w1 : (Jvm.Cond.methodLink own index y).before a0 Z = true) (w2 : (Jvm.Cond.declares y).before a0 Z = true) (hnf : NotFace (s.setVm vm0) y) (w3 : (Jvm.Cond.selects C y z).before a0 Z = true) (w4 : (Jvm.Cond.instanceMethod z).before a0 Z = true) (w5 : (Jvm.Cond.initialized z.cls).before a0 Z = true) (w6 : (Jvm.Cond.code z bytes maxL ret).before a0 Z = true)
    (hy : y.cls ≠ "java/lang/invoke/MethodHandle" ∧ y.cls ≠ "java/lang/invoke/VarHandle") (r : RmH l z bytes maxL ret rm [] Z EL as' h Q) (eT : T.heap = h) {a : Addr} (F : Exa Z h a C) {g : JFrame} (hg : g.method = m) (hsize : g.locals.size = c.maxLocals) (argsL rest : List Value) (hlen : ∀ sig, parseMethodDescriptor y.desc = some sig → argsL.length = sig.parameters.length)
    (hstack : g.stack = argsL.reverse ++ .ref a :: rest) (has : (.ref a :: argsL).toArray = as') (hW : 2 * g.monitorRoom + (rest.map fun v => v.category).sum ≤ W) (hd : decode c.code g.pc = .ok (.invokevirtual index, 3)) (hf : rm.frames + 1 ≤ R.frames) (hl : W + (maxL + 11) + rm.locals ≤ R.locals) (hc : cells + rm.cells ≤ R.cells) (hs : slots + rm.slots ≤ R.slots)
    (k : ∀ v T' L k1, Stand p l e R (s.setVm T'.vm) m args below meth c T' (locs ++ L) (cells + rm.cells) (slots + rm.slots) → s.Since T'.vm k1 → k1 ≤ T'.heap.size → Z.Warmed39 T'.vm → T'.vm.findClass own = some m.cls → CHr Z EL v00 h00 T'.vm T'.heap → Q v T'.heap L → Goes p e below E T' { g with pc := g.pc + 3, stack := v.toList ++ rest }) : Goes p e below E T g := by
  obtain ⟨cq, kq, qa, qb, qc⟩ := isOf (s := s.setVm vm0) hZ eT F
  obtain ⟨v, vm₁, ⟨T', L', k', n'⟩, -, X', hS', hgr, ⟨L, hQ, q1, q2, q3, hC⟩, st⟩ := X.virtualBackS hx (y := y) (z := z) hown (mvT (s := s.setVm vm0) hZ w1) (mvT (s := s.setVm vm0) hZ w2) hnf (mvT (s := s.setVm vm0) hZ w3) (mvT (s := s.setVm vm0) hZ w4) hy (backOfSH (W := W) r hZ w6 w5 hf hl hEL H.1) qa qc hg hsize (Steps.refl _) hlen hstack hW hd (fun _ _ => ⟨has, eT, hc, hs⟩)
  dsimp only [Pt.U, Pt.locs, Pt.cells, Pt.slots] at X' q1 q2 q3 st hQ hS' hgr hC
  subst q1 q2 q3
  exact Goes.of (fun _ => st.trans) (k v T' L _ X' (hS.trans hS' (Nat.le_trans hk (eT ▸ hgr))) (Nat.le_refl _) (State.Warmed39.trans (t := s.setVm vm0) hZ hS'.1) (by rw [hS'.1.alike.findClass]; exact hown) (H.trans hC) hQ)
/-- a literal, its text not read -/
theorem goLdcO {own text : String} {index : Nat} (n : Nat) (X : Stand p l e R (s.setVm vm0) m args below meth c T locs cells slots) (hS : s.Since vm0 k0) (hk : k0 ≤ h.size) (hEL : EW Z a0 EL) (H : CHr Z EL v00 h00 vm0 h) (hx : p.tables.exec = Jvm.exec) (hZ : Z.Warmed39 vm0) (hown : vm0.findClass own = some m.cls) (w : (Jvm.Cond.stringLink own index text).before a0 Z = true) (wS : ∀ a ∈ Bundle.stringAtoms, a.before a0 Z = true) (eT : T.heap = h)
    {g : JFrame} (hg : g.method = m) (hd : decode c.code g.pc = .ok (.ldc index, 2)) (hn : 4 * text.toList.length ≤ n) (hbig : n ≤ 536870912) (hc : cells + 2 ≤ R.cells) (hl : slots + (n + 4) ≤ R.slots)
    (k : ∀ a T' h' k1, Stand p l e R (s.setVm T'.vm) m args below meth c T' locs (cells + 2) (slots + (n + 4)) → T'.heap = h' → Ext h h' → s.Since T'.vm k1 → k1 ≤ h'.size → Z.Warmed39 T'.vm → T'.vm.findClass own = some m.cls → CHr Z EL v00 h00 T'.vm h' → Goes p e below E T' { g with pc := g.pc + 2, stack := .ref a :: g.stack }) : Goes p e below E T g := by
  obtain ⟨a, T', h', k1, X', e', E', hS', hk', hZ', hown', hC, -, st⟩ := ldcOH X hx hZ hown w wS eT hS hk hEL H.1 hg hd hn hbig hc hl
  exact Goes.of st (k a T' h' k1 X' e' E' hS' hk' hZ' hown' (H.trans hC))
/-- a literal whose text is read -/
theorem goLdcC {own text : String} {index : Nat} {vs : List Value} {z : Int32} (n : Nat) (X : Stand p l e R (s.setVm vm0) m args below meth c T locs cells slots) (hS : s.Since vm0 k0) (hk : k0 ≤ h.size) (hEL : EW Z a0 EL) (hmem : (own, index) ∈ EL) (H : CHr Z EL v00 h00 vm0 h) (hx : p.tables.exec = Jvm.exec) (hZ : Z.Warmed39 vm0) (hown : vm0.findClass own = some m.cls) (w : (Jvm.Cond.stringLink own index text).before a0 Z = true) (wS : ∀ a ∈ Bundle.stringAtoms, a.before a0 Z = true) (eT : T.heap = h)
    (ht : (∀ c ∈ text.toList, c.toNat < 256) ∧ text.toList.map (fun c => Value.int (Jvm.Lit.byteI c.toNat.toUInt16)) = vs) (hz : ¬ z < 0) (hzl : z.toNatClampNeg = vs.length)
    {g : JFrame} (hg : g.method = m) (hd : decode c.code g.pc = .ok (.ldc index, 2)) (hn : 4 * text.toList.length ≤ n) (hbig : n ≤ 536870912) (hc : cells + 2 ≤ R.cells) (hl : slots + (n + 4) ≤ R.slots)
    (k : ∀ a T' h' k1 b kb, Stand p l e R (s.setVm T'.vm) m args below meth c T' locs (cells + 2) (slots + (n + 4)) → T'.heap = h' → Ext h h' → s.Since T'.vm k1 → k1 ≤ h'.size → Z.Warmed39 T'.vm → T'.vm.findClass own = some m.cls → CHr Z EL v00 h00 T'.vm h' → CHr Z EL vm0 h T'.vm h' → Exa Z h' a "java/lang/String" → Fld Z h' a "java/lang/String" "coder" "B" (.int 0) → Fld Z h' a "java/lang/String" "value" "[B" (.ref b) → Arv Z h' b kb .byte z vs (.int 0) → (∀ x, Safe Z EL T'.vm h' x → x ≠ a ∧ x ≠ b) → Goes p e below E T' { g with pc := g.pc + 2, stack := .ref a :: g.stack }) : Goes p e below E T g := by
  obtain ⟨a, T', h', k1, b, kb, X', e', E', hS', hk', hZ', hown', F1, F2, F3, F4, -, -, hC, -, hs, st⟩ := ldcCH X hx hZ hown w wS eT hS hk hEL hmem H.1 ht hz hzl hg hd hn hbig hc hl
  exact Goes.of st (k a T' h' k1 b kb X' e' E' hS' hk' hZ' hown' (H.trans hC) hC F1 F2 F3 F4 hs)
/-- a String whose value is null is no constant's -/
theorem safeNull {vm : Vm} {x : Addr} (hal : Z.vm.Alike vm) (Ex : Exa Z h x "java/lang/String") (F : Fld Z h x "java/lang/String" "value" "[B" .null) : Safe Z EL vm h x := fun B => by
  obtain ⟨q0, -, u, b, -, q, -, G, rfl | rfl⟩ := B
  · obtain ⟨cell, cf, k, i, f, h1, h2, -, -, -, -, h7⟩ := F
    cases (show h[q.sa]? = some q.sC from G.ha).symm.trans h1
    obtain ⟨cS, ⟨⟨-, -, -, ⟨c1, k1, i1, f1, -⟩, -, -, -, v1, -⟩, -⟩, -⟩ := G
    obtain ⟨k3, e3, -⟩ := State.fieldFound?_setVm (s := ({ Z with heap := h } : State)) hal h2
    have e4 := e3.symm.trans f1
    simp only [Option.some.injEq, Prod.mk.injEq] at e4
    rw [e4.2.2.2, v1] at h7
    cases h7
  · obtain ⟨cell, k, e1, e2, e3, -, -⟩ := Ex
    cases (show h[q.sd]? = some q.SA from G.hd).symm.trans e1
    obtain ⟨cS, -, -, f, -⟩ := G
    rw [show (Wst Z vm h).vm.findClass "[B" = vm.findClass "[B" from rfl, hal.findClass] at f
    obtain ⟨k1, q1, q2⟩ := Vm.findClass_spec f
    obtain ⟨k2, q3, q4⟩ := Vm.findClass_spec e2
    cases q1.symm.trans q3
    exact absurd (q2.symm.trans q4) (by decide)
end Own2
end Jvm.Own
/- laws to paste: Road.backV, Road.eqW, Road.codOf (cut by pick.py; bodies as the Statement names them) -/
namespace Jvm.Pilot.@@N@@
namespace StrChars
open Jvm Sem ClassFile Op Lib Jvm.Stand Jvm.Free.XT Jvm.Free.ALB Jvm.Free.JM Jvm.Free
open Jvm.Lib.Cold (StaticIs)
/-- a char array whose places are chars -/
def Ch (a : Addr) (A : Cell) (U : State) : Prop := Arr .char a A U ∧ Typed .char A
theorem Ch.mv {a : Addr} {A : Cell} {U U' : State} (h : Ch a A U) (hal : U.vm.Alike U'.vm) (hh : U'.heap = U.heap) : Ch a A U' := ⟨h.1.mv hal hh, h.2⟩
theorem Ch.keep {a : Addr} {A : Cell} {U U' : State} (h : Ch a A U) (hal : U.vm.Alike U'.vm) (hk : U'.heap[a]? = some A) : Ch a A U' := ⟨h.1.keep hal hk, h.2⟩
/-- what place i of a char[]'s cell holds -/
def cv (A : Cell) (i : Nat) : Int32 := match A.slots[i]? with | some (.int x) => x | _ => 0
theorem Ch.get {a : Addr} {A : Cell} {U : State} (h : Ch a A U) {i : Nat} (hi : i < A.slots.size) : A.slots[i]? = some (.int (cv A i)) := by
  have e := Array.getElem?_eq_getElem hi
  have f := h.2 i _ e
  unfold cv; rw [e]
  generalize A.slots[i] = v at f
  cases v <;> simp [fits] at f ⊢
/-- the byte that i2b leaves of a char -/
def lo8 (x : Int32) : Int32 := x.toInt8.toInt32
theorem fits_lo8 (y : Int32) : fits .byte (.int (lo8 y)) = true := by
  have h1 := y.toInt8.le_toInt
  have h2 := y.toInt8.toInt_lt
  simp only [lo8, fits, Bool.and_eq_true, decide_eq_true_eq, Int32.le_iff_toInt_le, Int8.toInt_toInt32, show (-128 : Int32).toInt = -128 from by decide, show (127 : Int32).toInt = 127 from by decide]
  omega
/-- A' is A but that each place j of lo .. hi - 1 holds f j -/
def Laid (A A' : Cell) (lo hi : Nat) (f : Nat → Value) : Prop := A'.cls = A.cls ∧ A'.vm = A.vm ∧ A'.slots.size = A.slots.size ∧ ∀ i, A'.slots[i]? = if lo ≤ i ∧ i < hi then some (f i) else A.slots[i]?
theorem Laid.zero (A : Cell) (lo : Nat) (f : Nat → Value) : Laid A A lo (lo + 0) f := ⟨rfl, rfl, rfl, fun i => by rw [if_neg (by omega)]⟩
theorem Laid.step {A Ak : Cell} {lo k : Nat} {f : Nat → Value} {v : Value} (h : Laid A Ak lo k f) (hlo : lo ≤ k) (hk : k < Ak.slots.size) (hv : v = f k) : Laid A (Ak.setSlot k v) lo (k + 1) f := by
  refine ⟨h.1, h.2.1, by simpa [Cell.setSlot] using h.2.2.1, fun i => ?_⟩
  by_cases e : k = i
  · subst e; rw [Cell.slots_setSlot_self v hk, if_pos (by omega), hv]
  · rw [Cell.slots_setSlot_ne v e, h.2.2.2 i]
    by_cases q : lo ≤ i ∧ i < k
    · rw [if_pos q, if_pos (by omega)]
    · rw [if_neg q, if_neg (by omega)]
def U16 : String := "java/lang/StringUTF16"
namespace Cmp5
def yN : MethodName := ⟨"java/lang/StringUTF16", "compress", "([CI[BII)I"⟩
abbrev yB : ByteArray := jdk_52_method_21_code
theorem d0 : decode yB 0 = .ok (.iconst 0, 1) := by decide +kernel
theorem d1 : decode yB 1 = .ok (.istore 5, 2) := by decide +kernel
theorem d3 : decode yB 3 = .ok (.iload 5, 2) := by decide +kernel
theorem d5 : decode yB 5 = .ok (.iload 4, 2) := by decide +kernel
theorem d7 : decode yB 7 = .ok (.if_icmp (.ge) 37, 3) := by decide +kernel
theorem d10 : decode yB 10 = .ok (.aload_n 0, 1) := by decide +kernel
theorem d11 : decode yB 11 = .ok (.iload_n 1, 1) := by decide +kernel
theorem d12 : decode yB 12 = .ok (.caload, 1) := by decide +kernel
theorem d13 : decode yB 13 = .ok (.istore 6, 2) := by decide +kernel
theorem d15 : decode yB 15 = .ok (.iload 6, 2) := by decide +kernel
theorem d17 : decode yB 17 = .ok (.sipush 255, 3) := by decide +kernel
theorem d20 : decode yB 20 = .ok (.if_icmp (.le) 6, 3) := by decide +kernel
theorem d26 : decode yB 26 = .ok (.aload_n 2, 1) := by decide +kernel
theorem d27 : decode yB 27 = .ok (.iload_n 3, 1) := by decide +kernel
theorem d28 : decode yB 28 = .ok (.iload 6, 2) := by decide +kernel
theorem d30 : decode yB 30 = .ok (.i2b, 1) := by decide +kernel
theorem d31 : decode yB 31 = .ok (.bastore, 1) := by decide +kernel
theorem d32 : decode yB 32 = .ok (.iinc 1 1, 3) := by decide +kernel
theorem d35 : decode yB 35 = .ok (.iinc 3 1, 3) := by decide +kernel
theorem d38 : decode yB 38 = .ok (.iinc 5 1, 3) := by decide +kernel
theorem d41 : decode yB 41 = .ok (.goto (-38), 3) := by decide +kernel
theorem d44 : decode yB 44 = .ok (.iload 4, 2) := by decide +kernel
theorem d46 : decode yB 46 = .ok (.ireturn, 1) := by decide +kernel
def site : List Cond := []
def tab : Cond := tabOf yN yB 7 (some .int) site
def P (b : Addr) (A : Cell) (d : Addr) (B : Cell) (o q len : Nat) (args : Array Value) (s : State) : Prop := args = #[.ref b, .int (Int32.ofNat o), .ref d, .int (Int32.ofNat q), .int (Int32.ofNat len)] ∧ Ch b A s ∧ Arr .byte d B s ∧ b ≠ d ∧ o + len ≤ A.slots.size ∧ q + len ≤ B.slots.size ∧ ∀ i, i < len → ¬ 255 < cv A (o + i)
def E (b : Addr) (A : Cell) (d : Addr) (B : Cell) (o q len : Nat) (r : Option Value) (s u : State) : Prop := r = some (.int (Int32.ofNat len)) ∧ ∃ B', Put d B' s u ∧ Laid B B' q (q + len) (fun j => Value.int (lo8 (cv A (o + (j - q)))))
/-- no char of the range above 255: len; the places written hold each char's low byte -/
theorem law (l : Launch) (b : Addr) (A : Cell) (d : Addr) (B : Cell) (o q len : Nat) : Law l yN 5 5 0 0 yB 7 (some .int) site (P b A d B o q len) (E b A d B o q len) (copyLocs d q len) 0 0 := by
  refine Law.of_walk (plainFor_of_name (by decide +kernel)) (by decide +kernel) (by decide +kernel) (by decide) (fun _ _ h => by rw [h.1]; rfl) (fun _ U U' hal hh h => ⟨h.1, h.2.1.mv hal hh, h.2.2.1.mv hal hh, h.2.2.2⟩) (fun r U U' V V' h1 hal h2 h => ⟨h.1, h.2.elim fun B' q => ⟨B', q.1.mv h1 h2, q.2⟩⟩) ?_
  intro p e s m args below meth c s₁ X0 hexec hbytes hml hret hlk hnm hown hh0 W hP
  obtain ⟨rfl, hA, hB, hne, l1, l2, hp⟩ := hP
  have c1 : Steps p.tables e below (s₁.setTop (entryFrame m #[.ref b, .int (Int32.ofNat o), .ref d, .int (Int32.ofNat q), .int (Int32.ofNat len)] 7)) (s₁.setTop (mkF m 0 #[.val (.ref b), .val (.int (Int32.ofNat o)), .val (.ref d), .val (.int (Int32.ofNat q)), .val (.int (Int32.ofNat len)), .unset, .unset] [])) := entry rfl
  have hA0 := hA.1.mv X0.warmed.alike hh0
  have hB0 := hB.mv X0.warmed.alike hh0
  have a31 := hA.1.2.2.2
  have c2 : Steps p.tables e below (s₁.setTop (entryFrame m #[.ref b, .int (Int32.ofNat o), .ref d, .int (Int32.ofNat q), .int (Int32.ofNat len)] 7)) (s₁.setTop (mkF m 3 #[.val (.ref b), .val (.int (Int32.ofNat o)), .val (.ref d), .val (.int (Int32.ofNat q)), .val (.int (Int32.ofNat len)), .val (.int 0), .unset] [])) := c1.trans (by
    refine iconstV X0.here hexec rfl 0 (hb hbytes d0) (by decide) ?_
    refine XS.istore X0.here hexec rfl (hb hbytes d1) rfl rfl ?_
    exact Steps.refl _)
  have loop : ∀ (r i : Nat), i + r = len → ∀ (z : Slot), (z = .unset ∨ ∃ w, z = .val w ∧ w.category = 1) → ∀ (Tl : State) (Bk : Cell), Stand p l e { frames := 0, locals := 0, cells := 0, slots := 0 } s m #[.ref b, .int (Int32.ofNat o), .ref d, .int (Int32.ofNat q), .int (Int32.ofNat len)] below meth c Tl ([] ++ copyLocs d q i) 0 0 → Put d Bk s₁ Tl → Laid B Bk q (q + i) (fun j => Value.int (lo8 (cv A (o + (j - q))))) →
      Steps p.tables e below (s₁.setTop (entryFrame m #[.ref b, .int (Int32.ofNat o), .ref d, .int (Int32.ofNat q), .int (Int32.ofNat len)] 7)) (Tl.setTop (mkF m 3 #[.val (.ref b), .val (.int (Int32.ofNat (o + i))), .val (.ref d), .val (.int (Int32.ofNat (q + i))), .val (.int (Int32.ofNat len)), .val (.int (Int32.ofNat i)), z] [])) → ∃ (T' : State) (B' : Cell) (z' : Slot), Stand p l e { frames := 0, locals := 0, cells := 0, slots := 0 } s m #[.ref b, .int (Int32.ofNat o), .ref d, .int (Int32.ofNat q), .int (Int32.ofNat len)] below meth c T' ([] ++ copyLocs d q len) 0 0 ∧ Put d B' s₁ T' ∧ Laid B B' q (q + len) (fun j => Value.int (lo8 (cv A (o + (j - q))))) ∧
      Steps p.tables e below (s₁.setTop (entryFrame m #[.ref b, .int (Int32.ofNat o), .ref d, .int (Int32.ofNat q), .int (Int32.ofNat len)] 7)) (T'.setTop (mkF m 3 #[.val (.ref b), .val (.int (Int32.ofNat (o + len))), .val (.ref d), .val (.int (Int32.ofNat (q + len))), .val (.int (Int32.ofNat len)), .val (.int (Int32.ofNat len)), z'] [])) := by
    intro r
    induction r with
    | zero =>
      intro i hi z hz Tl Bk Xl pl fl cl
      have hil : i = len := by omega
      rw [hil] at Xl fl cl
      exact ⟨Tl, Bk, z, Xl, pl, fl, cl⟩
    | succ r ih =>
      intro i hi z hz Tl Bk Xl pl fl cl
      have all := X0.warmed.alike.symm.trans Xl.warmed.alike
      have hAl := hA0.keep all (pl.other hne hA0.1)
      have hBk := hB0.like all pl.1 fl.1 fl.2.1 fl.2.2.1
      have hlt : q + i < Bk.slots.size := by rw [fl.2.2.1]; omega
      have c3 : Steps p.tables e below (s₁.setTop (entryFrame m #[.ref b, .int (Int32.ofNat o), .ref d, .int (Int32.ofNat q), .int (Int32.ofNat len)] 7)) (Tl.setTop (mkF m 12 #[.val (.ref b), .val (.int (Int32.ofNat (o + i))), .val (.ref d), .val (.int (Int32.ofNat (q + i))), .val (.int (Int32.ofNat len)), .val (.int (Int32.ofNat i)), z] [.int (Int32.ofNat (o + i)), .ref b])) := cl.trans (by
        refine XS.iload Xl.here hexec rfl (hb hbytes d3) rfl ?_
        refine XS.iload Xl.here hexec rfl (hb hbytes d5) rfl ?_
        refine XS.icmpNo Xl.here hexec rfl (hb hbytes d7) rfl (ii_ge_f (lt32 (by omega) (by omega))) ?_
        refine XS.aloadN Xl.here hexec rfl (hb hbytes d10) rfl rfl ?_
        refine XS.iloadN Xl.here hexec rfl (hb hbytes d11) rfl ?_
        exact Steps.refl _)
      have c4 : Steps p.tables e below (s₁.setTop (entryFrame m #[.ref b, .int (Int32.ofNat o), .ref d, .int (Int32.ofNat q), .int (Int32.ofNat len)] 7)) (Tl.setTop (mkF m 13 #[.val (.ref b), .val (.int (Int32.ofNat (o + i))), .val (.ref d), .val (.int (Int32.ofNat (q + i))), .val (.int (Int32.ofNat len)), .val (.int (Int32.ofNat i)), z] [.int (cv A (o + i))])) := c3.trans (by
        refine Xl.aget hexec hAl rfl (hA.get (i := o + i) (by omega)) rfl rfl (hb hbytes d12) ?_
        exact Steps.refl _)
      have c5 : Steps p.tables e below (s₁.setTop (entryFrame m #[.ref b, .int (Int32.ofNat o), .ref d, .int (Int32.ofNat q), .int (Int32.ofNat len)] 7)) (Tl.setTop (mkF m 15 #[.val (.ref b), .val (.int (Int32.ofNat (o + i))), .val (.ref d), .val (.int (Int32.ofNat (q + i))), .val (.int (Int32.ofNat len)), .val (.int (Int32.ofNat i)), .val (.int (cv A (o + i)))] [])) := c4.trans (by
        refine XS.istoreS Xl.here hexec rfl (hb hbytes d13) rfl rfl hz ?_
        exact Steps.refl _)
      have c6 : Steps p.tables e below (s₁.setTop (entryFrame m #[.ref b, .int (Int32.ofNat o), .ref d, .int (Int32.ofNat q), .int (Int32.ofNat len)] 7)) (Tl.setTop (mkF m 31 #[.val (.ref b), .val (.int (Int32.ofNat (o + i))), .val (.ref d), .val (.int (Int32.ofNat (q + i))), .val (.int (Int32.ofNat len)), .val (.int (Int32.ofNat i)), .val (.int (cv A (o + i)))] [.int (lo8 (cv A (o + i))), .int (Int32.ofNat (q + i)), .ref d])) := c5.trans (by
        refine XS.iload Xl.here hexec rfl (hb hbytes d15) rfl ?_
        refine sipushV Xl.here hexec rfl 255 (hb hbytes d17) (by decide) ?_
        refine XS.icmpYes Xl.here hexec rfl (pc0 := 20) rfl (hb hbytes d20) rfl (ii_le_t (hp i (by omega))) (by decide) rfl ?_
        refine XS.aloadN Xl.here hexec rfl (hb hbytes d26) rfl rfl ?_
        refine XS.iloadN Xl.here hexec rfl (hb hbytes d27) rfl ?_
        refine XS.iload Xl.here hexec rfl (hb hbytes d28) rfl ?_
        refine i2b Xl.here hexec rfl (hb hbytes d30) rfl ?_
        exact Steps.refl _)
      obtain ⟨T7, X7, p7, st7⟩ := Xl.aput hexec hBk rfl hlt rfl (fits_lo8 (cv A (o + i))) (g := (mkF m 31 #[.val (.ref b), .val (.int (Int32.ofNat (o + i))), .val (.ref d), .val (.int (Int32.ofNat (q + i))), .val (.int (Int32.ofNat len)), .val (.int (Int32.ofNat i)), .val (.int (cv A (o + i)))] [.int (lo8 (cv A (o + i))), .int (Int32.ofNat (q + i)), .ref d])) rfl (rest := []) rfl (hb hbytes d31)
      have c8 : Steps p.tables e below (s₁.setTop (entryFrame m #[.ref b, .int (Int32.ofNat o), .ref d, .int (Int32.ofNat q), .int (Int32.ofNat len)] 7)) (T7.setTop (mkF m 32 #[.val (.ref b), .val (.int (Int32.ofNat (o + i))), .val (.ref d), .val (.int (Int32.ofNat (q + i))), .val (.int (Int32.ofNat len)), .val (.int (Int32.ofNat i)), .val (.int (cv A (o + i)))] [])) := c6.trans (st7 _ (Steps.refl _))
      have c9 : Steps p.tables e below (s₁.setTop (entryFrame m #[.ref b, .int (Int32.ofNat o), .ref d, .int (Int32.ofNat q), .int (Int32.ofNat len)] 7)) (T7.setTop (mkF m 3 #[.val (.ref b), .val (.int (Int32.ofNat (o + i) + 1)), .val (.ref d), .val (.int (Int32.ofNat (q + i) + 1)), .val (.int (Int32.ofNat len)), .val (.int (Int32.ofNat i + 1)), .val (.int (cv A (o + i)))] [])) := c8.trans (by
        refine iincV X7.here hexec rfl 1 (hb hbytes d32) (by decide) rfl rfl ?_
        refine iincV X7.here hexec rfl 1 (hb hbytes d35) (by decide) rfl rfl ?_
        refine iincV X7.here hexec rfl 1 (hb hbytes d38) (by decide) rfl rfl ?_
        refine XS.goto X7.here hexec rfl (pc0 := 41) rfl (hb hbytes d41) (by decide) rfl ?_
        exact Steps.refl _)
      have c10 : Steps p.tables e below (s₁.setTop (entryFrame m #[.ref b, .int (Int32.ofNat o), .ref d, .int (Int32.ofNat q), .int (Int32.ofNat len)] 7)) (T7.setTop (mkF m 3 #[.val (.ref b), .val (.int (Int32.ofNat (o + (i + 1)))), .val (.ref d), .val (.int (Int32.ofNat (q + (i + 1)))), .val (.int (Int32.ofNat len)), .val (.int (Int32.ofNat (i + 1))), .val (.int (cv A (o + i)))] [])) := by
        have := c9
        rw [succ32, succ32, succ32] at this
        exact this
      exact ih (i + 1) (by omega) _ (Or.inr ⟨_, rfl, rfl⟩) T7 _ (by rw [copyLocs_step, ← List.append_assoc]; exact X7) (pl.trans p7) (fl.step (by omega) hlt (by simp)) c10
  obtain ⟨T9, B9, z9, X9, p9, f9, g9⟩ := loop len 0 (by omega) .unset (Or.inl rfl) s₁ B (by simpa [copyLocs] using X0) ⟨hB0.1, fun _ _ => rfl, rfl⟩ (Laid.zero _ _ _) c2
  have c11 : Steps p.tables e below (s₁.setTop (entryFrame m #[.ref b, .int (Int32.ofNat o), .ref d, .int (Int32.ofNat q), .int (Int32.ofNat len)] 7)) (T9.setTop (mkF m 46 #[.val (.ref b), .val (.int (Int32.ofNat (o + len))), .val (.ref d), .val (.int (Int32.ofNat (q + len))), .val (.int (Int32.ofNat len)), .val (.int (Int32.ofNat len)), z9] [.int (Int32.ofNat len)])) := g9.trans (by
    refine XS.iload X9.here hexec rfl (hb hbytes d3) rfl ?_
    refine XS.iload X9.here hexec rfl (hb hbytes d5) rfl ?_
    refine XS.icmpYes X9.here hexec rfl (pc0 := 7) rfl (hb hbytes d7) rfl (ii_ge_t (nlt32 (by omega) (Nat.le_refl _))) (by decide) rfl ?_
    refine XS.iload X9.here hexec rfl (hb hbytes d44) rfl ?_
    exact Steps.refl _)
  exact ⟨T9, some (.int (Int32.ofNat len)), _, _, _, X9, by simp, rfl, rfl, (fun h => by cases h), ⟨rfl, B9, p9.from hh0, f9⟩, fun fs hl => c11.trans (X9.ireturnOut hexec hret rfl (Or.inl rfl) (hb hbytes d46) hl)⟩
end Cmp5
namespace Cmp3
def yN : MethodName := ⟨"java/lang/StringUTF16", "compress", "([CII)[B"⟩
abbrev yB : ByteArray := jdk_52_method_16_code
theorem d0 : decode yB 0 = .ok (.iload_n 2, 1) := by decide +kernel
theorem d1 : decode yB 1 = .ok (.newarray .byte, 2) := by decide +kernel
theorem d3 : decode yB 3 = .ok (.astore_n 3, 1) := by decide +kernel
theorem d4 : decode yB 4 = .ok (.aload_n 0, 1) := by decide +kernel
theorem d5 : decode yB 5 = .ok (.iload_n 1, 1) := by decide +kernel
theorem d6 : decode yB 6 = .ok (.aload_n 3, 1) := by decide +kernel
theorem d7 : decode yB 7 = .ok (.iconst 0, 1) := by decide +kernel
theorem d8 : decode yB 8 = .ok (.iload_n 2, 1) := by decide +kernel
theorem d9 : decode yB 9 = .ok (.invokestatic 115, 3) := by decide +kernel
theorem d12 : decode yB 12 = .ok (.istore 4, 2) := by decide +kernel
theorem d14 : decode yB 14 = .ok (.iload 4, 2) := by decide +kernel
theorem d16 : decode yB 16 = .ok (.iload_n 2, 1) := by decide +kernel
theorem d17 : decode yB 17 = .ok (.if_icmp (.eq) 40, 3) := by decide +kernel
theorem d57 : decode yB 57 = .ok (.aload_n 3, 1) := by decide +kernel
theorem d58 : decode yB 58 = .ok (.areturn, 1) := by decide +kernel
def site : List Cond := [.arrayClass .byte, Cmp5.tab] ++ staticW U16 115 Cmp5.yN
def tab : Cond := tabOf yN yB 6 (some (.array .byte)) site
def P (b : Addr) (A : Cell) (o len : Nat) (args : Array Value) (s : State) : Prop := args = #[.ref b, .int (Int32.ofNat o), .int (Int32.ofNat len)] ∧ Ch b A s ∧ o + len ≤ A.slots.size ∧ len ≤ 536870912 ∧ ∀ i, i < len → ¬ 255 < cv A (o + i)
def E (b : Addr) (A : Cell) (o len : Nat) (r : Option Value) (s u : State) : Prop := NewArr .byte "[B" len (fun j => .int (lo8 (cv A (o + j)))) r s u ∧ u.heap.size = s.heap.size + 1
/-- no char of the range above 255: a new byte[] of their low bytes -/
theorem law (l : Launch) (b : Addr) (A : Cell) (o len : Nat) : Law l yN 3 3 1 18 yB 6 (some (.array .byte)) site (P b A o len) (E b A o len) [] 1 len := by
  refine Law.of_walk (plainFor_of_name (by decide +kernel)) (by decide +kernel) (by decide +kernel) (by decide) (fun _ _ h => by rw [h.1]; rfl) (fun _ U U' hal hh h => ⟨h.1, h.2.1.mv hal hh, h.2.2⟩) (fun r U U' V V' h1 hal h2 h => ⟨NewArr.mv r U U' V V' h1 hal h2 h.1, by rw [h1, h2]; exact h.2⟩) ?_
  intro p e s m args below meth c s₁ X0 hexec hbytes hml hret hlk hnm hown hh0 W hP
  obtain ⟨rfl, hA, l1, l2, hp⟩ := hP
  have a31 := hA.1.2.2.2
  have c1 : Steps p.tables e below (s₁.setTop (entryFrame m #[.ref b, .int (Int32.ofNat o), .int (Int32.ofNat len)] 6)) (s₁.setTop (mkF m 0 #[.val (.ref b), .val (.int (Int32.ofNat o)), .val (.int (Int32.ofNat len)), .unset, .unset, .unset] [])) := entry rfl
  have c2 : Steps p.tables e below (s₁.setTop (entryFrame m #[.ref b, .int (Int32.ofNat o), .int (Int32.ofNat len)] 6)) (s₁.setTop (mkF m 1 #[.val (.ref b), .val (.int (Int32.ofNat o)), .val (.int (Int32.ofNat len)), .unset, .unset, .unset] [.int (Int32.ofNat len)])) := c1.trans (by
    refine XS.iloadN X0.here hexec rfl (hb hbytes d0) rfl ?_
    exact Steps.refl _)
  obtain ⟨T3, B3, X3, ba3, bs3, bv3, bh3, bf3, st3⟩ := X0.anew hexec (atype := .byte) (wk W (.arrayClass .byte)) rfl (by show len * 1 ≤ _; omega) (by omega) (g := (mkF m 1 #[.val (.ref b), .val (.int (Int32.ofNat o)), .val (.int (Int32.ofNat len)), .unset, .unset, .unset] [.int (Int32.ofNat len)])) rfl (hb hbytes d1) (rest := []) rfl (Nat.le_refl _) (by show 0 + len ≤ len; omega)
  rw [hh0] at ba3 st3
  have kp3 : XT.Kept s T3 := (XT.Kept.of_eq hh0).push bh3
  have hA3 := hA.keep X3.warmed.alike (kp3 _ _ hA.1.1)
  have hne : b ≠ s.heap.size := hA.1.ne
  have c4 : Steps p.tables e below (s₁.setTop (entryFrame m #[.ref b, .int (Int32.ofNat o), .int (Int32.ofNat len)] 6)) (T3.setTop (mkF m 3 #[.val (.ref b), .val (.int (Int32.ofNat o)), .val (.int (Int32.ofNat len)), .unset, .unset, .unset] [.ref s.heap.size])) := c2.trans (st3 _ (Steps.refl _))
  have c5 : Steps p.tables e below (s₁.setTop (entryFrame m #[.ref b, .int (Int32.ofNat o), .int (Int32.ofNat len)] 6)) (T3.setTop (mkF m 9 #[.val (.ref b), .val (.int (Int32.ofNat o)), .val (.int (Int32.ofNat len)), .val (.ref s.heap.size), .unset, .unset] [.int (Int32.ofNat len), .int 0, .ref s.heap.size, .int (Int32.ofNat o), .ref b])) := c4.trans (by
    refine XS.astoreN X3.here hexec rfl (hb hbytes d3) rfl rfl rfl ?_
    refine XS.aloadN X3.here hexec rfl (hb hbytes d4) rfl rfl ?_
    refine XS.iloadN X3.here hexec rfl (hb hbytes d5) rfl ?_
    refine XS.aloadN X3.here hexec rfl (hb hbytes d6) rfl rfl ?_
    refine iconstV X3.here hexec rfl 0 (hb hbytes d7) (by decide) ?_
    refine XS.iloadN X3.here hexec rfl (hb hbytes d8) rfl ?_
    exact Steps.refl _)
  obtain ⟨v6, T6, X6, E6, g6⟩ := X3.callS hexec (Cmp5.law l b A s.heap.size B3 o 0 len) hown (wks W (staticW U16 115 Cmp5.yN)) (wk W Cmp5.tab) (W := 0) (Nat.le_of_ble_eq_true rfl) (Nat.le_of_ble_eq_true rfl) (Nat.le_refl _) (by show 0 + len + 0 ≤ len; omega) (g := (mkF m 9 #[.val (.ref b), .val (.int (Int32.ofNat o)), .val (.int (Int32.ofNat len)), .val (.ref s.heap.size), .unset, .unset] [.int (Int32.ofNat len), .int (Int32.ofNat 0), .ref s.heap.size, .int (Int32.ofNat o), .ref b])) rfl (by rw [hml]; rfl) c5 (argsL := [.ref b, .int (Int32.ofNat o), .ref s.heap.size, .int (Int32.ofNat 0), .int (Int32.ofNat len)]) (rest := []) rfl rfl (by show 2 * 0 + 0 ≤ _; decide) (hb hbytes d9) (⟨rfl, hA3, ba3, hne, l1, by rw [bs3]; simp, hp⟩)
  obtain ⟨rfl, B6, p6, f6⟩ := E6
  have c7 : Steps p.tables e below (s₁.setTop (entryFrame m #[.ref b, .int (Int32.ofNat o), .int (Int32.ofNat len)] 6)) (T6.setTop (mkF m 12 #[.val (.ref b), .val (.int (Int32.ofNat o)), .val (.int (Int32.ofNat len)), .val (.ref s.heap.size), .unset, .unset] [.int (Int32.ofNat len)])) := g6
  have c8 : Steps p.tables e below (s₁.setTop (entryFrame m #[.ref b, .int (Int32.ofNat o), .int (Int32.ofNat len)] 6)) (T6.setTop (mkF m 58 #[.val (.ref b), .val (.int (Int32.ofNat o)), .val (.int (Int32.ofNat len)), .val (.ref s.heap.size), .val (.int (Int32.ofNat len)), .unset] [.ref s.heap.size])) := c7.trans (by
    refine XS.istore X6.here hexec rfl (hb hbytes d12) rfl rfl ?_
    refine XS.iload X6.here hexec rfl (hb hbytes d14) rfl ?_
    refine XS.iloadN X6.here hexec rfl (hb hbytes d16) rfl ?_
    refine XS.icmpYes X6.here hexec rfl (pc0 := 17) rfl (hb hbytes d17) rfl (ii_eq_t rfl) (by decide) rfl ?_
    refine XS.aloadN X6.here hexec rfl (hb hbytes d57) rfl rfl ?_
    exact Steps.refl _)
  have X8 := X6.wide (L' := []) (cells' := 1) (slots' := len) (fun x hx hlt => by
    simp only [List.nil_append, copyLocs, List.mem_map, List.mem_range] at hx
    obtain ⟨i, -, rfl⟩ := hx
    exact absurd hlt (Nat.lt_irrefl _)) (Nat.le_refl _) (by omega)
  exact ⟨T6, some (.ref s.heap.size), _, _, _, X8, rfl, rfl, rfl, (fun h => by cases h), ⟨⟨rfl, B6, ba3.like (X3.warmed.alike.symm.trans X6.warmed.alike) p6.1 f6.1 f6.2.1 f6.2.2.1, f6.2.1.trans bv3, by rw [X6.warmed.alike.findClass, f6.1]; exact bf3, by rw [f6.2.2.1, bs3]; simp, fun j hj => by rw [f6.2.2.2 j, if_pos (by omega)]; rfl, kp3.put p6 (Nat.le_refl _)⟩, by rw [p6.2.2, bh3, hh0]; simp⟩, fun fs hl => c8.trans (X8.areturnOut hexec rfl hret rfl (hb hbytes d58) hl)⟩
end Cmp3
namespace CodL
def yN : MethodName := ⟨"java/lang/StringUTF16", "coderFromArrayLen", "([BI)B"⟩
abbrev yB : ByteArray := jdk_52_method_15_code
theorem d0 : decode yB 0 = .ok (.iload_n 1, 1) := by decide +kernel
theorem d1 : decode yB 1 = .ok (.aload_n 0, 1) := by decide +kernel
theorem d2 : decode yB 2 = .ok (.arraylength, 1) := by decide +kernel
theorem d3 : decode yB 3 = .ok (.isub, 1) := by decide +kernel
theorem d4 : decode yB 4 = .ok (.bipush 31, 2) := by decide +kernel
theorem d6 : decode yB 6 = .ok (.iushr, 1) := by decide +kernel
theorem d7 : decode yB 7 = .ok (.i2b, 1) := by decide +kernel
theorem d8 : decode yB 8 = .ok (.ireturn, 1) := by decide +kernel
def site : List Cond := []
def tab : Cond := tabOf yN yB 2 (some .byte) site
def P (d : Addr) (B : Cell) (args : Array Value) (s : State) : Prop := args = #[.ref d, .int (Int32.ofNat B.slots.size)] ∧ Arr .byte d B s
def E (r : Option Value) (s u : State) : Prop := XT.PureE (some (.int 0)) r s u
/-- an array as long as the number of chars: LATIN1 -/
theorem law (l : Launch) (d : Addr) (B : Cell) : Law l yN 2 2 0 0 yB 2 (some .byte) site (P d B) E [] 0 0 := by
  refine Law.of_walk (plainFor_of_name (by decide +kernel)) (by decide +kernel) (by decide +kernel) (by decide) (fun _ _ h => by rw [h.1]; rfl) (fun _ U U' hal hh h => ⟨h.1, h.2.mv hal hh⟩) (fun r U U' V V' h1 hal h2 h => XT.PureE.mv r U U' V V' h1 hal h2 h) ?_
  intro p e s m args below meth c s₁ X0 hexec hbytes hml hret hlk hnm hown hh0 W hP
  obtain ⟨rfl, hB⟩ := hP
  have hB0 := hB.mv X0.warmed.alike hh0
  have c1 : Steps p.tables e below (s₁.setTop (entryFrame m #[.ref d, .int (Int32.ofNat B.slots.size)] 2)) (s₁.setTop (mkF m 0 #[.val (.ref d), .val (.int (Int32.ofNat B.slots.size))] [])) := entry rfl
  have c2 : Steps p.tables e below (s₁.setTop (entryFrame m #[.ref d, .int (Int32.ofNat B.slots.size)] 2)) (s₁.setTop (mkF m 2 #[.val (.ref d), .val (.int (Int32.ofNat B.slots.size))] [.ref d, .int (Int32.ofNat B.slots.size)])) := c1.trans (by
    refine XS.iloadN X0.here hexec rfl (hb hbytes d0) rfl ?_
    refine XS.aloadN X0.here hexec rfl (hb hbytes d1) rfl rfl ?_
    exact Steps.refl _)
  have c3 : Steps p.tables e below (s₁.setTop (entryFrame m #[.ref d, .int (Int32.ofNat B.slots.size)] 2)) (s₁.setTop (mkF m 8 #[.val (.ref d), .val (.int (Int32.ofNat B.slots.size))] [.int (lo8 (ushr (Int32.ofNat B.slots.size - Int32.ofNat B.slots.size) 31))])) := c2.trans (by
    refine X0.alen hexec hB0 rfl rfl (hb hbytes d2) ?_
    refine XS.isub X0.here hexec rfl (hb hbytes d3) rfl ?_
    refine bipushV X0.here hexec rfl 31 (hb hbytes d4) (by decide) ?_
    refine iushr X0.here hexec rfl (hb hbytes d6) rfl ?_
    refine i2b X0.here hexec rfl (hb hbytes d7) rfl ?_
    exact Steps.refl _)
  have e0 : lo8 (ushr (Int32.ofNat B.slots.size - Int32.ofNat B.slots.size) 31) = 0 := by rw [Int32.sub_self]; decide
  rw [e0] at c3
  exact ⟨s₁, some (.int 0), _, _, _, X0, rfl, rfl, rfl, (fun h => by cases h), ⟨rfl, hh0⟩, fun fs hl => c3.trans (X0.ireturnOut hexec hret rfl (Or.inr (Or.inr (Or.inl rfl))) (hb hbytes d8) hl)⟩
end CodL
/-- the String at a is Latin-1 over a new byte[] (the heap's one new cell): the low bytes of the len chars of A from o on; every cell but a is kept -/
def Got (a : Addr) (D : Cell) (fV fC : Field) (A : Cell) (o len : Nat) (r : Option Value) (s u : State) : Prop := r = none ∧ ∃ D' V : Cell, Blank "java/lang/String" a D' u ∧ Same D D' [fV.slot, fC.slot] ∧ D'.slots[fV.slot]? = some (.ref s.heap.size) ∧ D'.slots[fC.slot]? = some (.int 0) ∧ Arr .byte s.heap.size V u ∧ V.vm = .none ∧ u.vm.findClass "[B" = some V.cls ∧ V.slots.size = len ∧ (∀ j, j < len → V.slots[j]? = some (.int (lo8 (cv A (o + j))))) ∧ (∀ (y : Addr) (c : Cell), y ≠ a → s.heap[y]? = some c → u.heap[y]? = some c) ∧ u.heap.size = s.heap.size + 1
theorem Got.mv {a : Addr} {D A : Cell} {fV fC : Field} {o len : Nat} : ∀ r (U U' V V' : State), U'.heap = U.heap → V.vm.Alike V'.vm → V'.heap = V.heap → Got a D fV fC A o len r U V → Got a D fV fC A o len r U' V' :=
  fun r U U' V V' h1 hal h2 ⟨e0, D', X, a1, a2, a3, a4, a5, a6, a7, a8, a9, a10, a11⟩ => ⟨e0, D', X, a1.mv hal h2, a2, by rw [h1]; exact a3, a4, by rw [h1]; exact a5.mv hal h2, a6, by rw [hal.findClass]; exact a7, a8, a9, by rw [h1, h2]; exact a10, by rw [h1, h2]; exact a11⟩
namespace New4
def yN : MethodName := ⟨"java/lang/String", "<init>", "([CIILjava/lang/Void;)V"⟩
abbrev yB : ByteArray := jdk_42_method_149_code
theorem d0 : decode yB 0 = .ok (.aload_n 0, 1) := by decide +kernel
theorem d1 : decode yB 1 = .ok (.invokespecial 1, 3) := by decide +kernel
theorem d4 : decode yB 4 = .ok (.iload_n 3, 1) := by decide +kernel
theorem d5 : decode yB 5 = .ok (.ifCond (.ne) 22, 3) := by decide +kernel
theorem d27 : decode yB 27 = .ok (.getstatic 38, 3) := by decide +kernel
theorem d30 : decode yB 30 = .ok (.ifCond (.eq) 28, 3) := by decide +kernel
theorem d33 : decode yB 33 = .ok (.aload_n 1, 1) := by decide +kernel
theorem d34 : decode yB 34 = .ok (.iload_n 2, 1) := by decide +kernel
theorem d35 : decode yB 35 = .ok (.iload_n 3, 1) := by decide +kernel
theorem d36 : decode yB 36 = .ok (.invokestatic 177, 3) := by decide +kernel
theorem d39 : decode yB 39 = .ok (.astore 5, 2) := by decide +kernel
theorem d41 : decode yB 41 = .ok (.aload_n 0, 1) := by decide +kernel
theorem d42 : decode yB 42 = .ok (.aload 5, 2) := by decide +kernel
theorem d44 : decode yB 44 = .ok (.iload_n 3, 1) := by decide +kernel
theorem d45 : decode yB 45 = .ok (.invokestatic 47, 3) := by decide +kernel
theorem d48 : decode yB 48 = .ok (.putfield 15, 3) := by decide +kernel
theorem d51 : decode yB 51 = .ok (.aload_n 0, 1) := by decide +kernel
theorem d52 : decode yB 52 = .ok (.aload 5, 2) := by decide +kernel
theorem d54 : decode yB 54 = .ok (.putfield 9, 3) := by decide +kernel
theorem d57 : decode yB 57 = .ok (.return_, 1) := by decide +kernel
def site : List Cond := [.fieldLink "java/lang/String" 38 "java/lang/String" "COMPACT_STRINGS" "Z", Cmp3.tab, CodL.tab, .laysFinal "java/lang/String" "java/lang/String" "value" "[B", .fieldLink "java/lang/String" 9 "java/lang/String" "value" "[B", .laysFinal "java/lang/String" "java/lang/String" "coder" "B", .fieldLink "java/lang/String" 15 "java/lang/String" "coder" "B"] ++ objW "java/lang/String" 1 ++ staticW "java/lang/String" 177 Cmp3.yN ++ staticW "java/lang/String" 47 CodL.yN
def tab : Cond := tabOf yN yB 6 none site
def P (a : Addr) (D : Cell) (fV fC : Field) (b : Addr) (A : Cell) (z : Int32) (o len : Nat) (args : Array Value) (s : State) : Prop := args = #[.ref a, .ref b, .int (Int32.ofNat o), .int (Int32.ofNat len), .null] ∧ Blank "java/lang/String" a D s ∧ Found "java/lang/String" "value" "[B" fV s ∧ Found "java/lang/String" "coder" "B" fC s ∧ Ch b A s ∧ StaticIs s "java/lang/String" "COMPACT_STRINGS" "Z" (.int z) ∧ ¬ z = 0 ∧ 0 < len ∧ o + len ≤ A.slots.size ∧ len ≤ 536870912 ∧ ∀ i, i < len → ¬ 255 < cv A (o + i)
def E (a : Addr) (D : Cell) (fV fC : Field) (A : Cell) (o len : Nat) (r : Option Value) (s u : State) : Prop := Got a D fV fC A o len r s u
/-- len > 0, no char of the range above 255: a Latin-1 String of their low bytes -/
theorem law (l : Launch) (a : Addr) (D : Cell) (fV fC : Field) (b : Addr) (A : Cell) (z : Int32) (o len : Nat) : Law l yN 5 4 2 35 yB 6 none site (P a D fV fC b A z o len) (E a D fV fC A o len) [⟨a, fC.slot⟩, ⟨a, fV.slot⟩] 1 len := by
  refine Law.of_walk (plainFor_of_name (by decide +kernel)) (by decide +kernel) (by decide +kernel) (by decide) (fun _ _ h => by rw [h.1]; rfl) (fun _ U U' hal hh h => ⟨h.1, h.2.1.mv hal hh, h.2.2.1.al hal, h.2.2.2.1.al hal, h.2.2.2.2.1.mv hal hh, h.2.2.2.2.2.1.there hal hh, h.2.2.2.2.2.2⟩) (fun r U U' V V' h1 hal h2 h => Got.mv r U U' V V' h1 hal h2 h) ?_
  intro p e s m args below meth c s₁ X0 hexec hbytes hml hret hlk hnm hown hh0 W hP
  obtain ⟨rfl, hB, f1, f2, hA, s1, hz, l0, l1, l2, hp⟩ := hP
  have a31 := hA.1.2.2.2
  have c1 : Steps p.tables e below (s₁.setTop (entryFrame m #[.ref a, .ref b, .int (Int32.ofNat o), .int (Int32.ofNat len), .null] 6)) (s₁.setTop (mkF m 0 #[.val (.ref a), .val (.ref b), .val (.int (Int32.ofNat o)), .val (.int (Int32.ofNat len)), .val .null, .unset] [])) := entry rfl
  have c2 : Steps p.tables e below (s₁.setTop (entryFrame m #[.ref a, .ref b, .int (Int32.ofNat o), .int (Int32.ofNat len), .null] 6)) (s₁.setTop (mkF m 1 #[.val (.ref a), .val (.ref b), .val (.int (Int32.ofNat o)), .val (.int (Int32.ofNat len)), .val .null, .unset] [.ref a])) := c1.trans (by
    refine XS.aloadN X0.here hexec rfl (hb hbytes d0) rfl rfl ?_
    exact Steps.refl _)
  obtain ⟨T3, X3, q3, st3⟩ := X0.oinit hexec hown (wks W (objW "java/lang/String" 1)) (g := (mkF m 1 #[.val (.ref a), .val (.ref b), .val (.int (Int32.ofNat o)), .val (.int (Int32.ofNat len)), .val .null, .unset] [.ref a])) rfl (by rw [hml]; rfl) (rest := []) rfl (hb hbytes d1) (W := 0) (by show 2 * 0 + 0 ≤ _; decide) (Nat.le_of_ble_eq_true rfl) (Nat.le_of_ble_eq_true rfl)
  have hh3 := q3.trans hh0
  have c4 : Steps p.tables e below (s₁.setTop (entryFrame m #[.ref a, .ref b, .int (Int32.ofNat o), .int (Int32.ofNat len), .null] 6)) (T3.setTop (mkF m 27 #[.val (.ref a), .val (.ref b), .val (.int (Int32.ofNat o)), .val (.int (Int32.ofNat len)), .val .null, .unset] [])) := (c2.trans (st3 _ (Steps.refl _))).trans (by
    refine XS.iloadN X3.here hexec rfl (hb hbytes d4) rfl ?_
    refine XS.ifYes X3.here hexec rfl (pc0 := 5) rfl (hb hbytes d5) rfl (i0_ne_t (nz32 (by omega) l0)) (by decide) rfl ?_
    exact Steps.refl _)
  obtain ⟨T5, X5, q5, st5⟩ := X3.sget hexec hown (wk W (.fieldLink "java/lang/String" 38 "java/lang/String" "COMPACT_STRINGS" "Z")) s1 (fun _ _ h => by rw [hh3]; exact h) (g := (mkF m 27 #[.val (.ref a), .val (.ref b), .val (.int (Int32.ofNat o)), .val (.int (Int32.ofNat len)), .val .null, .unset] [])) rfl (hb hbytes d27)
  have hh5 := q5.trans hh3
  have c6 : Steps p.tables e below (s₁.setTop (entryFrame m #[.ref a, .ref b, .int (Int32.ofNat o), .int (Int32.ofNat len), .null] 6)) (T5.setTop (mkF m 30 #[.val (.ref a), .val (.ref b), .val (.int (Int32.ofNat o)), .val (.int (Int32.ofNat len)), .val .null, .unset] [.int z])) := c4.trans (st5 _ (Steps.refl _))
  have c7 : Steps p.tables e below (s₁.setTop (entryFrame m #[.ref a, .ref b, .int (Int32.ofNat o), .int (Int32.ofNat len), .null] 6)) (T5.setTop (mkF m 36 #[.val (.ref a), .val (.ref b), .val (.int (Int32.ofNat o)), .val (.int (Int32.ofNat len)), .val .null, .unset] [.int (Int32.ofNat len), .int (Int32.ofNat o), .ref b])) := c6.trans (by
    refine XS.ifNo X5.here hexec rfl (hb hbytes d30) rfl (i0_eq_f hz) ?_
    refine XS.aloadN X5.here hexec rfl (hb hbytes d33) rfl rfl ?_
    refine XS.iloadN X5.here hexec rfl (hb hbytes d34) rfl ?_
    refine XS.iloadN X5.here hexec rfl (hb hbytes d35) rfl ?_
    exact Steps.refl _)
  obtain ⟨v8, T8, X8, E8, g8⟩ := X5.callS hexec (Cmp3.law l b A o len) hown (wks W (staticW "java/lang/String" 177 Cmp3.yN)) (wk W Cmp3.tab) (W := 0) (Nat.le_of_ble_eq_true rfl) (Nat.le_of_ble_eq_true rfl) (Nat.le_refl _) (by show 0 + len ≤ len; omega) (g := (mkF m 36 #[.val (.ref a), .val (.ref b), .val (.int (Int32.ofNat o)), .val (.int (Int32.ofNat len)), .val .null, .unset] [.int (Int32.ofNat len), .int (Int32.ofNat o), .ref b])) rfl (by rw [hml]; rfl) c7 (argsL := [.ref b, .int (Int32.ofNat o), .int (Int32.ofNat len)]) (rest := []) rfl rfl (by show 2 * 0 + 0 ≤ _; decide) (hb hbytes d36) (⟨rfl, hA.mv X5.warmed.alike hh5, l1, l2, hp⟩)
  obtain ⟨e8, z8⟩ := E8
  obtain ⟨rfl, N, n1, n2, n3, n4, n5, n6⟩ := NewArr.mv _ T5 s _ _ hh5.symm (Vm.Alike.refl _) rfl e8
  rw [hh5] at z8
  have hB1 := hB.keep X8.warmed.alike (n6 _ _ hB.1)
  have hne : s.heap.size ≠ a := (Nat.ne_of_lt (Array.getElem?_eq_some_iff.mp hB.1).1).symm
  have c9 : Steps p.tables e below (s₁.setTop (entryFrame m #[.ref a, .ref b, .int (Int32.ofNat o), .int (Int32.ofNat len), .null] 6)) (T8.setTop (mkF m 39 #[.val (.ref a), .val (.ref b), .val (.int (Int32.ofNat o)), .val (.int (Int32.ofNat len)), .val .null, .unset] [.ref s.heap.size])) := g8
  have c10 : Steps p.tables e below (s₁.setTop (entryFrame m #[.ref a, .ref b, .int (Int32.ofNat o), .int (Int32.ofNat len), .null] 6)) (T8.setTop (mkF m 45 #[.val (.ref a), .val (.ref b), .val (.int (Int32.ofNat o)), .val (.int (Int32.ofNat len)), .val .null, .val (.ref s.heap.size)] [.int (Int32.ofNat N.slots.size), .ref s.heap.size, .ref a])) := by
    have hc : Steps p.tables e below (s₁.setTop (entryFrame m #[.ref a, .ref b, .int (Int32.ofNat o), .int (Int32.ofNat len), .null] 6)) (T8.setTop (mkF m 45 #[.val (.ref a), .val (.ref b), .val (.int (Int32.ofNat o)), .val (.int (Int32.ofNat len)), .val .null, .val (.ref s.heap.size)] [.int (Int32.ofNat len), .ref s.heap.size, .ref a])) := c9.trans (by
      refine XS.astore X8.here hexec rfl (hb hbytes d39) rfl rfl rfl ?_
      refine XS.aloadN X8.here hexec rfl (hb hbytes d41) rfl rfl ?_
      refine XS.aload X8.here hexec rfl (hb hbytes d42) rfl rfl ?_
      refine XS.iloadN X8.here hexec rfl (hb hbytes d44) rfl ?_
      exact Steps.refl _)
    rw [n4]; exact hc
  obtain ⟨v11, T11, X11, E11, g11⟩ := X8.callS hexec (CodL.law l s.heap.size N) hown (wks W (staticW "java/lang/String" 47 CodL.yN)) (wk W CodL.tab) (W := 1) (Nat.le_of_ble_eq_true rfl) (Nat.le_of_ble_eq_true rfl) (Nat.le_refl _) (by show 0 + len + 0 ≤ len; omega) (g := (mkF m 45 #[.val (.ref a), .val (.ref b), .val (.int (Int32.ofNat o)), .val (.int (Int32.ofNat len)), .val .null, .val (.ref s.heap.size)] [.int (Int32.ofNat N.slots.size), .ref s.heap.size, .ref a])) rfl (by rw [hml]; rfl) c10 (argsL := [.ref s.heap.size, .int (Int32.ofNat N.slots.size)]) (rest := [.ref a]) rfl rfl (by show 2 * 0 + (1 + 0) ≤ _; decide) (hb hbytes d45) (⟨rfl, n1⟩)
  obtain ⟨rfl, q11⟩ := E11
  have hB11 := hB1.mv (X8.warmed.alike.symm.trans X11.warmed.alike) q11
  have c12 : Steps p.tables e below (s₁.setTop (entryFrame m #[.ref a, .ref b, .int (Int32.ofNat o), .int (Int32.ofNat len), .null] 6)) (T11.setTop (mkF m 48 #[.val (.ref a), .val (.ref b), .val (.int (Int32.ofNat o)), .val (.int (Int32.ofNat len)), .val .null, .val (.ref s.heap.size)] [.int 0, .ref a])) := g11
  obtain ⟨T13, X13, p13, bl13, sl13, st13⟩ := X11.finit hexec hown (wk W (.fieldLink "java/lang/String" 15 "java/lang/String" "coder" "B")) (Or.inr ⟨_, (wk W (.laysFinal "java/lang/String" "java/lang/String" "coder" "B"))⟩) (Or.inl ⟨rfl, hnm⟩) f2 (Or.inl rfl) hB11 (t := .byte) (by decide +kernel) rfl (g := (mkF m 48 #[.val (.ref a), .val (.ref b), .val (.int (Int32.ofNat o)), .val (.int (Int32.ofNat len)), .val .null, .val (.ref s.heap.size)] [.int 0, .ref a])) rfl (rest := []) rfl (hb hbytes d48)
  have c14 : Steps p.tables e below (s₁.setTop (entryFrame m #[.ref a, .ref b, .int (Int32.ofNat o), .int (Int32.ofNat len), .null] 6)) (T13.setTop (mkF m 54 #[.val (.ref a), .val (.ref b), .val (.int (Int32.ofNat o)), .val (.int (Int32.ofNat len)), .val .null, .val (.ref s.heap.size)] [.ref s.heap.size, .ref a])) := (c12.trans (st13 _ (Steps.refl _))).trans (by
    refine XS.aloadN X13.here hexec rfl (hb hbytes d51) rfl rfl ?_
    refine XS.aload X13.here hexec rfl (hb hbytes d52) rfl rfl ?_
    exact Steps.refl _)
  obtain ⟨T15, X15, p15, bl15, sl15, st15⟩ := X13.finit hexec hown (wk W (.fieldLink "java/lang/String" 9 "java/lang/String" "value" "[B")) (Or.inr ⟨_, (wk W (.laysFinal "java/lang/String" "java/lang/String" "value" "[B"))⟩) (Or.inl ⟨rfl, hnm⟩) f1 (Or.inl rfl) bl13 (t := (.array .byte)) (by decide +kernel) rfl (g := (mkF m 54 #[.val (.ref a), .val (.ref b), .val (.int (Int32.ofNat o)), .val (.int (Int32.ofNat len)), .val .null, .val (.ref s.heap.size)] [.ref s.heap.size, .ref a])) rfl (rest := []) rfl (hb hbytes d54)
  have c16 : Steps p.tables e below (s₁.setTop (entryFrame m #[.ref a, .ref b, .int (Int32.ofNat o), .int (Int32.ofNat len), .null] 6)) (T15.setTop (mkF m 57 #[.val (.ref a), .val (.ref b), .val (.int (Int32.ofNat o)), .val (.int (Int32.ofNat len)), .val .null, .val (.ref s.heap.size)] [])) := c14.trans (st15 _ (Steps.refl _))
  have ap := apart (Or.inr ⟨_, (wk W (.laysFinal "java/lang/String" "java/lang/String" "value" "[B"))⟩) (Or.inr ⟨_, (wk W (.laysFinal "java/lang/String" "java/lang/String" "coder" "B"))⟩) f1 f2 (t₁ := .array .byte) (t₂ := .byte) (by decide +kernel) (by decide +kernel) (by decide)
  have al := X8.warmed.alike.symm.trans X15.warmed.alike
  have n7 : T11.heap[s.heap.size]? = some N := by rw [q11]; exact n1.1
  exact ⟨T15, none, _, _, _, X15, by simp, rfl, by omega, (fun _ => rfl), ⟨rfl, _, N, bl15, ((Same.refl D _).set _ (by simp)).set _ (by simp), sl15, (Cell.slots_setSlot_ne _ ap).trans sl13, n1.keep al (p15.other hne (p13.other hne n7)), n2, by rw [al.findClass]; exact n3, n4, n5, fun y c h1 h2 => p15.other h1 (p13.other h1 (by rw [q11]; exact n6 y c h2)), by rw [p15.2.2, p13.2.2, q11]; exact z8⟩, fun fs hl => c16.trans (X15.returnOut hexec hret (hb hbytes d57) hl)⟩
end New4
namespace New1
def yN : MethodName := ⟨"java/lang/String", "<init>", "([C)V"⟩
abbrev yB : ByteArray := jdk_42_method_3_code
theorem d0 : decode yB 0 = .ok (.aload_n 0, 1) := by decide +kernel
theorem d1 : decode yB 1 = .ok (.aload_n 1, 1) := by decide +kernel
theorem d2 : decode yB 2 = .ok (.iconst 0, 1) := by decide +kernel
theorem d3 : decode yB 3 = .ok (.aload_n 1, 1) := by decide +kernel
theorem d4 : decode yB 4 = .ok (.arraylength, 1) := by decide +kernel
theorem d5 : decode yB 5 = .ok (.aconst_null, 1) := by decide +kernel
theorem d6 : decode yB 6 = .ok (.invokespecial 27, 3) := by decide +kernel
theorem d9 : decode yB 9 = .ok (.return_, 1) := by decide +kernel
def site : List Cond := [New4.tab] ++ initW "java/lang/String" 27 New4.yN
def tab : Cond := tabOf yN yB 2 none site
def P (a : Addr) (D : Cell) (fV fC : Field) (b : Addr) (A : Cell) (z : Int32) (args : Array Value) (s : State) : Prop := args = #[.ref a, .ref b] ∧ Blank "java/lang/String" a D s ∧ Found "java/lang/String" "value" "[B" fV s ∧ Found "java/lang/String" "coder" "B" fC s ∧ Ch b A s ∧ StaticIs s "java/lang/String" "COMPACT_STRINGS" "Z" (.int z) ∧ ¬ z = 0 ∧ 0 < A.slots.size ∧ A.slots.size ≤ 536870912 ∧ ∀ i, i < A.slots.size → ¬ 255 < cv A i
def E (a : Addr) (D : Cell) (fV fC : Field) (A : Cell) (r : Option Value) (s u : State) : Prop := Got a D fV fC A 0 A.slots.size r s u
/-- new String(chars), not empty, no char above 255: a Latin-1 String of their low bytes -/
theorem law (l : Launch) (a : Addr) (D : Cell) (fV fC : Field) (b : Addr) (A : Cell) (z : Int32) : Law l yN 2 1 3 52 yB 2 none site (P a D fV fC b A z) (E a D fV fC A) [⟨a, fC.slot⟩, ⟨a, fV.slot⟩] 1 A.slots.size := by
  refine Law.of_walk (plainFor_of_name (by decide +kernel)) (by decide +kernel) (by decide +kernel) (by decide) (fun _ _ h => by rw [h.1]; rfl) (fun _ U U' hal hh h => ⟨h.1, h.2.1.mv hal hh, h.2.2.1.al hal, h.2.2.2.1.al hal, h.2.2.2.2.1.mv hal hh, h.2.2.2.2.2.1.there hal hh, h.2.2.2.2.2.2⟩) (fun r U U' V V' h1 hal h2 h => Got.mv r U U' V V' h1 hal h2 h) ?_
  intro p e s m args below meth c s₁ X0 hexec hbytes hml hret hlk hnm hown hh0 W hP
  obtain ⟨rfl, hB, f1, f2, hA, s1, hz, l0, l2, hp⟩ := hP
  have c1 : Steps p.tables e below (s₁.setTop (entryFrame m #[.ref a, .ref b] 2)) (s₁.setTop (mkF m 0 #[.val (.ref a), .val (.ref b)] [])) := entry rfl
  have c2 : Steps p.tables e below (s₁.setTop (entryFrame m #[.ref a, .ref b] 2)) (s₁.setTop (mkF m 6 #[.val (.ref a), .val (.ref b)] [.null, .int (Int32.ofNat A.slots.size), .int 0, .ref b, .ref a])) := c1.trans (by
    refine XS.aloadN X0.here hexec rfl (hb hbytes d0) rfl rfl ?_
    refine XS.aloadN X0.here hexec rfl (hb hbytes d1) rfl rfl ?_
    refine iconstV X0.here hexec rfl 0 (hb hbytes d2) (by decide) ?_
    refine XS.aloadN X0.here hexec rfl (hb hbytes d3) rfl rfl ?_
    refine X0.alen hexec (hA.1.mv X0.warmed.alike hh0) rfl rfl (hb hbytes d4) ?_
    refine XS.aconstNull X0.here hexec rfl (hb hbytes d5) ?_
    exact Steps.refl _)
  obtain ⟨v3, T3, X3, E3, g3⟩ := X0.callN hexec (New4.law l a D fV fC b A z 0 A.slots.size) rfl hown (wks W (initW "java/lang/String" 27 New4.yN)) (W New4.tab (by simp only [site, List.mem_cons, List.mem_append, true_or, or_true])) (W := 0) (Nat.le_of_ble_eq_true rfl) (Nat.le_of_ble_eq_true rfl) (Nat.le_refl _) (by show 0 + A.slots.size ≤ A.slots.size; omega) (g := (mkF m 6 #[.val (.ref a), .val (.ref b)] [.null, .int (Int32.ofNat A.slots.size), .int (Int32.ofNat 0), .ref b, .ref a])) rfl (by rw [hml]; rfl) c2 (argsL := [.ref b, .int (Int32.ofNat 0), .int (Int32.ofNat A.slots.size), .null]) (rest := []) rfl rfl (by show 2 * 0 + 0 ≤ _; decide) (hb hbytes d6) (⟨rfl, hB.mv X0.warmed.alike hh0, f1.al X0.warmed.alike, f2.al X0.warmed.alike, hA.mv X0.warmed.alike hh0, s1.there X0.warmed.alike hh0, hz, l0, by omega, l2, fun i hi => by rw [Nat.zero_add]; exact hp i hi⟩)
  have e0 := Got.mv _ s₁ s _ _ hh0.symm (Vm.Alike.refl _) rfl E3
  obtain rfl := e0.1
  have c4 : Steps p.tables e below (s₁.setTop (entryFrame m #[.ref a, .ref b] 2)) (T3.setTop (mkF m 9 #[.val (.ref a), .val (.ref b)] [])) := g3
  exact ⟨T3, none, _, _, _, X3, by simp, rfl, by omega, (fun _ => rfl), e0, fun fs hl => c4.trans (X3.returnOut hexec hret (hb hbytes d9) hl)⟩
theorem pays {l : Launch} {R : Room} {p : Program} {e : Env} {below : List Frame} {s : State} {sargs : Array Value} {len W : Nat} (a : Addr) (D : Cell) (fV fC : Field) (b : Addr) (A : Cell) (z : Int32) (htab : tab.before sargs s = true) (hfr : 4 ≤ R.frames) (hlo : W + 65 ≤ R.locals) :
    Back l R p e below s sargs yN len W (fun A₁ a₁ => A₁.cells + 1 ≤ R.cells ∧ A₁.slots + A.slots.size ≤ R.slots ∧ P a D fV fC b A z a₁ A₁.U) (fun A₁ _ v₁ B₁ => E a D fV fC A v₁ A₁.U B₁.U ∧ B₁.locs = A₁.locs ++ [⟨a, fC.slot⟩, ⟨a, fV.slot⟩] ∧ B₁.cells = A₁.cells + 1 ∧ B₁.slots = A₁.slots + A.slots.size) :=
  (law l a D fV fC b A z).pays htab hfr (by omega)
end New1
/-- the byte, read back as charAt reads it, is the char -/
theorem lo8_mask {x : Int32} (h0 : ¬ x < 0) (h1 : ¬ 255 < x) : lo8 x &&& 255 = x := by
  have t : ∀ k : Fin 256, lo8 (Int32.ofNat k.val) &&& 255 = Int32.ofNat k.val := by decide +kernel
  rw [Int32.lt_iff_toInt_lt] at h0 h1
  have e0 : (0 : Int32).toInt = 0 := rfl
  have e1 : (255 : Int32).toInt = 255 := rfl
  obtain ⟨k, hk⟩ : ∃ k : Nat, x.toInt = k := ⟨x.toInt.toNat, by omega⟩
  have hx : x = Int32.ofNat k := Int32.toInt_inj.mp (by rw [hk, Int32.toInt_ofNat_small (by omega)])
  rw [hx]
  exact t ⟨k, by omega⟩
end StrChars
namespace StrChars.Road
open Jvm Sem ClassFile Op Lib Jvm.Stand Jvm.Free Jvm.Free.XT
open Jvm.Lib.Cold (StaticIs)
abbrev ST : String := "java/lang/String"
/-- every table word that New1's law asks, flat -/
abbrev words : List Jvm.Cond := [.code New1.yN New1.yB 2 none, .initialized ST, .methodLink ST 27 New4.yN, .instanceMethod New4.yN,
  .code New4.yN New4.yB 6 none, .fieldLink ST 38 ST "COMPACT_STRINGS" "Z", .laysFinal ST ST "value" "[B", .fieldLink ST 9 ST "value" "[B", .laysFinal ST ST "coder" "B", .fieldLink ST 15 ST "coder" "B",
  .methodLink ST 1 Lib.objectInit, .instanceMethod Lib.objectInit, .code Lib.objectInit ⟨#[0xb1]⟩ 1 none, .methodLink ST 177 Cmp3.yN, .static Cmp3.yN, .methodLink ST 47 CodL.yN, .static CodL.yN,
  .code Cmp3.yN Cmp3.yB 6 (some (.array .byte)), .initialized U16, .arrayClass .byte, .methodLink U16 115 Cmp5.yN, .static Cmp5.yN, .code Cmp5.yN Cmp5.yB 7 (some .int), .code CodL.yN CodL.yB 2 (some .byte)]
theorem tab_of {a : Array Value} {s : State} (h : ∀ w ∈ words, w.before a s = true) : New1.tab.before a s = true := by
  have h5 : Cmp5.tab.before a s = true := unparts (wk h (.code Cmp5.yN Cmp5.yB 7 (some .int))) (wks h (.initialized Cmp5.yN.cls :: Cmp5.site))
  have hc : CodL.tab.before a s = true := unparts (wk h (.code CodL.yN CodL.yB 2 (some .byte))) (wks h (.initialized CodL.yN.cls :: CodL.site))
  have q5 : ∀ w ∈ Cmp5.tab :: words, w.before a s = true := fun w hw => (List.mem_cons.mp hw).elim (fun e => e ▸ h5) (h w)
  have h3 : Cmp3.tab.before a s = true := unparts (wk q5 (.code Cmp3.yN Cmp3.yB 6 (some (.array .byte)))) (wks q5 (.initialized Cmp3.yN.cls :: Cmp3.site))
  have q3 : ∀ w ∈ Cmp3.tab :: CodL.tab :: words, w.before a s = true := fun w hw => (List.mem_cons.mp hw).elim (fun e => e ▸ h3) fun hw => (List.mem_cons.mp hw).elim (fun e => e ▸ hc) (h w)
  have h4 : New4.tab.before a s = true := unparts (wk q3 (.code New4.yN New4.yB 6 none)) (wks q3 (.initialized New4.yN.cls :: New4.site))
  have q4 : ∀ w ∈ New4.tab :: words, w.before a s = true := fun w hw => (List.mem_cons.mp hw).elim (fun e => e ▸ h4) (h w)
  exact unparts (wk q4 (.code New1.yN New1.yB 2 none)) (wks q4 (.initialized New1.yN.cls :: New1.site))
/-- the words ride from the start Z to the walk's own state -/
theorem moved {Z s : State} {a0 args : Array Value} (hZ : Z.Warmed39 s.vm) (hw : ∀ d ∈ words, d.before a0 Z = true) : ∀ d ∈ words, d.before args s = true := fun d hd => by
  have q := hw d hd
  have t : ∀ d ∈ words, d = .arrayClass .byte ∨ (d.onTables && d.keepsFace) = true := by decide +kernel
  rcases t d hd with rfl | t
  · exact RoadKit.mvA hZ q
  · exact RoadKit.mv hZ q t
/-- WHAT COMES BACK, over the tables of the start Z: h the heap at the call, h' behind it -/
def Q (Z : State) (x : Addr) (A : Cell) (h : Heap) (v : Option Value) (h' : Heap) (L : List Loc) : Prop := v = none ∧ (∀ y ∈ L, y.base = x) ∧ RoadKit.Keep h h' [x] ∧ h'.size = h.size + 1 ∧ RoadKit.Exa Z h' x ST ∧ RoadKit.Fld Z h' x ST "value" "[B" (.ref h.size) ∧ RoadKit.Fld Z h' x ST "coder" "B" (.int 0) ∧
  (∃ V : Cell, RoadKit.Arr Z h' h.size V .byte ∧ V.vm = .none ∧ Z.vm.findClass "[B" = some V.cls ∧ V.slots.size = A.slots.size ∧ ∀ j, j < A.slots.size → V.slots[j]? = some (.int (lo8 (cv A j)))) ∧
  ∀ (O n d : String) (w : Value), RoadKit.Fld Z h x O n d w → RoadKit.slotOf Z O n d ≠ RoadKit.slotOf Z ST "value" "[B" → RoadKit.slotOf Z O n d ≠ RoadKit.slotOf Z ST "coder" "B" → RoadKit.Fld Z h' x O n d w
/-- **new String(chars) AT A CALL, IN THE ROAD'S FORM**: for specialBack behind newO: x the fresh String, b the char[] with the cell A -/
theorem back {p : Program} {l : Launch} {e : Env} {R : Room} {s : State} {args : Array Value} {below : List Frame} {len W : Nat} {Z : State} {a0 : Array Value} {h : Heap} (hZ : Z.Warmed39 s.vm) (hw : ∀ d ∈ words, d.before a0 Z = true) {kI : Nat} (wi : (Jvm.Cond.instantiable ST kI).before a0 Z = true)
    {x b : Addr} {A : Cell} {z : Int32} {v0 c0 : Value} (E : RoadKit.Exa Z h x ST) (V : RoadKit.Fld Z h x ST "value" "[B" v0) (C : RoadKit.Fld Z h x ST "coder" "B" c0) (K : RoadKit.Arr Z h b A .char) (hty : Typed .char A) (S : RoadKit.Sta Z h ST "COMPACT_STRINGS" "Z" (.int z)) (hz : ¬ z = 0)
    (l0 : 0 < A.slots.size) (l2 : A.slots.size ≤ 536870912) (hp : ∀ i, i < A.slots.size → ¬ 255 < cv A i) (hfr : 4 ≤ R.frames) (hlo : W + 65 ≤ R.locals) :
    Back l R p e below s args New1.yN len W (fun P a => a = #[.ref x, .ref b] ∧ P.U.heap = h ∧ P.cells + 1 ≤ R.cells ∧ P.slots + A.slots.size ≤ R.slots)
      (fun P _ v B => ∃ L, Q Z x A h v B.U.heap L ∧ B.locs = P.locs ++ L ∧ B.cells = P.cells + 1 ∧ B.slots = P.slots + A.slots.size) := by
  intro m meth c P g ig mk a X hg hsize hdg hW hn hp'
  obtain ⟨rfl, rfl, r1, r2⟩ := hp'
  have al : Z.vm.Alike P.U.vm := hZ.alike.trans X.warmed.alike
  obtain ⟨D, cfV, kV, iV, fV, hD, gV, stV, knV, obV, asV, slV⟩ := id V
  obtain ⟨D', cfC, kC, iC, fC, hD', gC, stC, -, -, asC, slC⟩ := id C
  cases hD.symm.trans hD'
  obtain ⟨D2, kD, e1, e2, e3, e4, e5⟩ := id E
  cases hD.symm.trans e1
  obtain ⟨c2, k2, i1, i2, i3, -⟩ := Cond.instantiable_spec wi
  cases e2.symm.trans i1
  cases e3.symm.trans i2
  obtain ⟨kU, u1, u2⟩ := al.2.2 _ _ e3
  have hB : Blank ST x D P.U := ⟨hD, ⟨knV, fun q hq => by rw [hq] at obV; cases obV⟩, by rw [al.findClass]; exact e2, kU, u1, by rw [u2]; exact i3, by rw [u2]; exact e5 i3⟩
  have F1 : Found ST "value" "[B" fV P.U := ⟨SBG.found_only al ⟨cfV, kV, iV, gV⟩, stV⟩
  have F2 : Found ST "coder" "B" fC P.U := ⟨SBG.found_only al ⟨cfC, kC, iC, gC⟩, stC⟩
  have hA : Ch b A P.U := ⟨⟨K.1, State.isArrayOf_alike al K.2.1, K.2.2, by omega⟩, hty⟩
  have hS : StaticIs P.U ST "COMPACT_STRINGS" "Z" (.int z) := by
    obtain ⟨cfS, iS, kS, fS, st, cS, t1, t2, t3, t4, t5, t6, t7⟩ := S
    exact StaticIs.there (s := { Z with heap := P.U.heap }) ⟨cfS, iS, kS, fS, st, cS, t1, t2, t3, t4, t5, (fun q => by rw [q] at t6; cases t6), t7⟩ al rfl
  obtain ⟨v, B, X', ⟨⟨hv, E', V', q1, q2, q3, q4, q5, q6, q7, q8, q9, q10, q11⟩, hl, hc, hs⟩, st⟩ := New1.pays x D fV fC b A z (tab_of (moved hZ hw)) hfr hlo m meth c P g ig mk _ X hg hsize hdg hW hn ⟨r1, r2, rfl, hB, F1, F2, hA, hS, hz, l0, l2, hp⟩
  have al' : Z.vm.Alike B.U.vm := hZ.alike.trans X'.warmed.alike
  have hsz : E'.slots.size = D.slots.size := by
    obtain ⟨-, -, -, kB, w1, w2, w3⟩ := q1
    obtain ⟨kB', y1, y2⟩ := al'.2.2 _ _ e3
    rw [q2.2.1] at w1
    cases w1.symm.trans y1
    rw [w3, e5 i3, y2]
  refine ⟨v, B, X', ⟨_, ⟨hv, ?_, ⟨by omega, fun y cy hy hn' => q10 y cy (by simpa using hn') hy, fun y cy hy => ?_⟩, q11, ⟨E', _, q1.1, by rw [q2.2.1]; exact e2, by rw [q2.2.1]; exact e3, by rw [q2.1]; exact obV, fun _ => by rw [hsz]; exact e5 i3⟩,
    ⟨E', cfV, kV, iV, fV, q1.1, gV, stV, by rw [q2.1]; exact knV, by rw [q2.1]; exact obV, by rw [q2.2.1]; exact asV, q3⟩, ⟨E', cfC, kC, iC, fC, q1.1, gC, stC, by rw [q2.1]; exact knV, by rw [q2.1]; exact obV, by rw [q2.2.1]; exact asC, q4⟩,
    ⟨V', ⟨q5.1, State.isArrayOf_alike al'.symm q5.2.1, q5.2.2.1⟩, q6, by rw [← al'.findClass]; exact q7, q8, fun j hj => by have := q9 j hj; rwa [Nat.zero_add] at this⟩, fun O n d w F n1 n2 => ?_⟩, hl, hc, hs⟩, st⟩
  · intro y hy
    simp only [List.mem_cons, List.not_mem_nil, or_false] at hy
    rcases hy with rfl | rfl <;> rfl
  · by_cases q : y = x
    · subst q
      cases hD.symm.trans hy
      exact ⟨E', q1.1, q2.2.1, q2.1, hsz⟩
    · exact ⟨cy, q10 y cy q hy, rfl, rfl, rfl⟩
  · obtain ⟨D3, cf, k, i, f, g1, g2, g3, g4, g5, g6, g7⟩ := F
    cases hD.symm.trans g1
    simp only [RoadKit.slotOf, g2, gV, gC, Option.map_some, Option.getD_some] at n1 n2
    exact ⟨E', cf, k, i, f, q1.1, g2, g3, by rw [q2.1]; exact g4, by rw [q2.1]; exact g5, by rw [q2.2.1]; exact g6, by rw [q2.2.2 f.slot (by simp [n1, n2])]; exact g7⟩
end StrChars.Road
namespace StrChars.Road
open Jvm Sem ClassFile Op Lib Jvm.Stand Jvm.Free Jvm.Free.XT
/-- WHAT COMES BACK, the byte[] as a list of values -/
def QA (Z : State) (x : Addr) (zn : Int32) (cs : List Int32) (h : Heap) (v : Option Value) (h' : Heap) (L : List Loc) : Prop := v = none ∧ (∀ y ∈ L, y.base = x) ∧ RoadKit.Keep h h' [x] ∧ h'.size = h.size + 1 ∧ RoadKit.Exa Z h' x ST ∧ RoadKit.Fld Z h' x ST "value" "[B" (.ref h.size) ∧ RoadKit.Fld Z h' x ST "coder" "B" (.int 0) ∧
  (∃ kb, Z.vm.findClass "[B" = some kb ∧ RoadKit.Arv Z h' h.size kb .byte zn (cs.map fun c => .int (lo8 c)) (.int 0)) ∧
  ∀ (O n d : String) (w : Value), RoadKit.Fld Z h x O n d w → RoadKit.slotOf Z O n d ≠ RoadKit.slotOf Z ST "value" "[B" → RoadKit.slotOf Z O n d ≠ RoadKit.slotOf Z ST "coder" "B" → RoadKit.Fld Z h' x O n d w
/-- **new String(chars) AT A CALL, THE ARRAYS AS LISTS**: the char[] at b holds cs, not empty, no char above 255 -/
theorem backArv {p : Program} {l : Launch} {e : Env} {R : Room} {s : State} {args : Array Value} {below : List Frame} {len W : Nat} {Z : State} {a0 : Array Value} {h : Heap} (hZ : Z.Warmed39 s.vm) (hw : ∀ d ∈ words, d.before a0 Z = true) {kI : Nat} (wi : (Jvm.Cond.instantiable ST kI).before a0 Z = true)
    {x b : Addr} {k : ClassId} {zn z : Int32} {cs : List Int32} {dv v0 c0 : Value} (E : RoadKit.Exa Z h x ST) (V : RoadKit.Fld Z h x ST "value" "[B" v0) (C : RoadKit.Fld Z h x ST "coder" "B" c0) (K : RoadKit.Arv Z h b k .char zn (cs.map Value.int) dv) (S : RoadKit.Sta Z h ST "COMPACT_STRINGS" "Z" (.int z)) (hz : ¬ z = 0)
    (hlen : zn.toNatClampNeg = cs.length) (h0 : 0 < cs.length) (hbig : cs.length ≤ 536870912) (hall : ∀ c ∈ cs, ¬ 255 < c) (hfr : 4 ≤ R.frames) (hlo : W + 65 ≤ R.locals) :
    Back l R p e below s args New1.yN len W (fun P a => a = #[.ref x, .ref b] ∧ P.U.heap = h ∧ P.cells + 1 ≤ R.cells ∧ P.slots + cs.length ≤ R.slots)
      (fun P _ v B => ∃ L, QA Z x zn cs h v B.U.heap L ∧ B.locs = P.locs ++ L ∧ B.cells = P.cells + 1 ∧ B.slots = P.slots + cs.length) := by
  obtain ⟨A, K1, K2, K3, K4, K5, K6⟩ := K
  have e : A.slots.size = cs.length := K3.trans hlen
  have hat : ∀ (i : Nat) (hi : i < cs.length), A.slots[i]? = some (.int cs[i]) := fun i hi => by rw [K5 i (by omega)]; simp [List.getD_eq_getElem?_getD, hi]
  have hcv : ∀ (i : Nat) (hi : i < cs.length), cv A i = cs[i] := fun i hi => by unfold cv; rw [hat i hi]
  have hty : Typed .char A := fun i v hv => by
    have hi : i < A.slots.size := (Array.getElem?_eq_some_iff.mp hv).1
    have q := K5 i hi
    rw [hv] at q
    rw [Option.some.inj q]
    exact K6 i hi
  refine Back.mono (back hZ hw wi E V C K1 hty S hz (by omega) (by omega) (fun i hi => by rw [hcv i (by omega)]; exact hall _ (List.getElem_mem _)) hfr hlo) (fun P a hp => ⟨hp.1, hp.2.1, hp.2.2.1, by rw [e]; exact hp.2.2.2⟩) (fun P a v B hp hq => ?_)
  obtain ⟨L, ⟨q1, q2, q3, q4, q5, q6, q7, ⟨V', v1, v2, v3, v4, v5⟩, q9⟩, hl, hc, hs⟩ := hq
  refine ⟨L, ⟨q1, q2, q3, q4, q5, q6, q7, ⟨V'.cls, v3, V', v1, rfl, by rw [v4, e, hlen], K4, fun i hi => ?_, fun i hi => ?_⟩, q9⟩, hl, hc, by rw [hs, e]⟩
  · have hi' : i < cs.length := by omega
    rw [v5 i (by omega), hcv i hi']; simp [List.getD_eq_getElem?_getD, hi']
  · have hi' : i < cs.length := by omega
    simp only [List.getD_eq_getElem?_getD, List.getElem?_map, List.getElem?_eq_getElem hi', Option.map_some, Option.getD_some]
    exact fits_lo8 _
end StrChars.Road
namespace StrChars.Road
open Jvm Sem ClassFile Op Lib Jvm.Stand Jvm.Free Jvm.Free.XT
/-- WHAT COMES BACK, in the writer's own shape -/
def QV (Z : State) (x : Addr) (N : Int32) (bs : List Int32) (h : Heap) (n0 : Nat) (v : Option Value) (h' : Heap) (L : List Loc) : Prop := v = none ∧ RoadKit.Fr n0 L ∧ RoadKit.Keep h h' [x] ∧ RoadKit.Exa Z h' x ST ∧ RoadKit.Fld Z h' x ST "coder" "B" (.int 0) ∧
  ∃ (t : Addr) (kb : ClassId), n0 ≤ t ∧ h.size ≤ t ∧ ¬ t = x ∧ RoadKit.Fld Z h' x ST "value" "[B" (.ref t) ∧ RoadKit.Arv Z h' t kb .byte N (bs.map Value.int) (.int 0)
/-- **new String(chars) AT A CALL, FOR THE WRITER**: a char[] of n known ints, each 0 to 255 -/
theorem backV {p : Program} {l : Launch} {e : Env} {R : Room} {s : State} {args : Array Value} {below : List Frame} {len W : Nat} {Z : State} {a0 : Array Value} {h : Heap} (hZ : Z.Warmed39 s.vm) (hw : ∀ d ∈ words, d.before a0 Z = true) {kI : Nat} (wi : (Jvm.Cond.instantiable ST kI).before a0 Z = true)
    {x b : Addr} {kC : ClassId} {cs bs : List Int32} {d v0 c0 : Value} {z N : Int32} {n n0 : Nat} (hx0 : n0 ≤ x) (hh0 : n0 ≤ h.size) (E : RoadKit.Exa Z h x ST) (V : RoadKit.Fld Z h x ST "value" "[B" v0) (C : RoadKit.Fld Z h x ST "coder" "B" c0) (K : RoadKit.Arv Z h b kC .char N (cs.map Value.int) d) (S : RoadKit.Sta Z h ST "COMPACT_STRINGS" "Z" (.int z)) (hz : ¬ z = 0)
    (hn : cs.length = n) (hN : N = Int32.ofNat n) (l0 : 0 < n) (l2 : n ≤ 4000) (hp : ∀ c ∈ cs, ¬ c < 0 ∧ ¬ (255 : Int32) < c) (hb : bs = cs.map (fun c => c.toInt8.toInt32)) (hfr : 4 ≤ R.frames) (hlo : W + 65 ≤ R.locals) :
    Back l R p e below s args (⟨"java/lang/String", "<init>", "([C)V"⟩ : MethodName) len W (fun P a => a = #[.ref x, .ref b] ∧ P.U.heap = h ∧ P.cells + 1 ≤ R.cells ∧ P.slots + n ≤ R.slots)
      (fun P _ v B => ∃ L, QV Z x N bs h n0 v B.U.heap L ∧ B.locs = P.locs ++ L ∧ B.cells = P.cells + 1 ∧ B.slots = P.slots + n) := by
  subst hn hN hb
  refine Back.mono (backArv hZ hw wi E V C K S hz (n32 (by omega)) l0 (by omega) (fun c hc => (hp c hc).2) hfr hlo) (fun P a hp => hp) (fun P a v B hp hq => ?_)
  obtain ⟨L, ⟨q1, q2, q3, q4, q5, q6, q7, ⟨kb, v1, v2⟩, q9⟩, hl, hc, hs⟩ := hq
  exact ⟨L, ⟨q1, fun y hy => by rw [q2 y hy]; exact hx0, q3, q5, q7, h.size, kb, hh0, Nat.le_refl _, Nat.ne_of_gt E.lt, q6, by rw [List.map_map]; exact v2⟩, hl, hc, hs⟩
end StrChars.Road
namespace StrChars
open Jvm Sem ClassFile Op Lib Jvm.Stand Jvm.Free.XT Jvm.Free.ALB Jvm.Free.JM Jvm.Free
open Jvm.Lib.Cold (StaticIs)
def hi8 (x : Int32) : Int32 := lo8 (x >>> ((8 : Int32) &&& 31))
/-- what StringUTF16.getChar makes of two bytes -/
def pairCh (u v : Int32) : Int32 := (((u &&& 255) <<< ((0 : Int32) &&& 31)) ||| ((v &&& 255) <<< ((8 : Int32) &&& 31))).toUInt32.toUInt16.toUInt32.toInt32
theorem lo8_and (x : Int32) : (lo8 x &&& 255).toBitVec.toNat = x.toBitVec.toNat % 256 := by
  have h : (lo8 x).toBitVec = (x.toBitVec.signExtend 8).signExtend 32 := by rw [lo8, Int8.toBitVec_toInt32, Int32.toBitVec_toInt8]
  rw [Int32.toBitVec_and, BitVec.toNat_and, h]
  have e : ((x.toBitVec.signExtend 8).signExtend 32).toNat % 256 = x.toBitVec.toNat % 256 := by
    rw [BitVec.toNat_signExtend]
    have hlt := x.toBitVec.isLt
    simp only [BitVec.toNat_setWidth, BitVec.toNat_signExtend]
    split <;> split <;> omega
  rw [← e]
  exact Nat.and_two_pow_sub_one_eq_mod _ 8
theorem pair_says {c : Int32} (h0 : ¬ c < 0) (h1 : ¬ 65535 < c) : pairCh (lo8 c) (hi8 c) = c := by
  rw [Int32.lt_iff_toInt_lt] at h0 h1
  have e0 : (0 : Int32).toInt = 0 := rfl
  have e1 : (65535 : Int32).toInt = 65535 := rfl
  have hc : c.toInt = c.toBitVec.toNat := by
    have := c.toBitVec.isLt
    have e : c.toInt = c.toBitVec.toInt := rfl
    rw [e] at h0 h1
    rw [e]
    rw [BitVec.toInt_eq_toNat_cond] at h0 h1 ⊢
    split at h0 <;> split <;> omega
  have hn : c.toBitVec.toNat < 65536 := by omega
  have a1 := lo8_and c
  have a2 : (hi8 c &&& 255).toBitVec.toNat = c.toBitVec.toNat / 256 := by
    rw [hi8, lo8_and]
    have e : ((8 : Int32) &&& 31) = 8 := by decide
    rw [e, Int32.toBitVec_shiftRight]
    have e2 : ((8 : Int32).toBitVec.smod 32) = 8#32 := by decide
    rw [e2, BitVec.sshiftRight_eq', BitVec.toNat_sshiftRight_of_msb_false (by rw [BitVec.msb_eq_false_iff_two_mul_lt]; omega)]
    show c.toBitVec.toNat >>> 8 % 256 = _
    rw [Nat.shiftRight_eq_div_pow]
    omega
  unfold pairCh
  apply Int32.toBitVec_inj.mp
  apply BitVec.eq_of_toNat_eq
  have f0 : ((0 : Int32) &&& 31) = 0 := by decide
  have f8 : ((8 : Int32) &&& 31) = 8 := by decide
  rw [f0, f8]
  have g : (((lo8 c &&& 255) <<< (0 : Int32)) ||| ((hi8 c &&& 255) <<< (8 : Int32))).toBitVec.toNat = c.toBitVec.toNat := by
    rw [Int32.toBitVec_or, Int32.toBitVec_shiftLeft, Int32.toBitVec_shiftLeft]
    have s0 : ((0 : Int32).toBitVec.smod 32) = 0#32 := by decide
    have s8 : ((8 : Int32).toBitVec.smod 32) = 8#32 := by decide
    rw [s0, s8, BitVec.toNat_or]
    simp only [BitVec.shiftLeft_eq', BitVec.toNat_shiftLeft, a1, a2]
    show (c.toBitVec.toNat % 256) <<< 0 % 2 ^ 32 ||| (c.toBitVec.toNat / 256) <<< 8 % 2 ^ 32 = _
    rw [Nat.shiftLeft_zero, Nat.mod_eq_of_lt (show c.toBitVec.toNat % 256 < 2 ^ 32 by omega), Nat.mod_eq_of_lt (show (c.toBitVec.toNat / 256) <<< 8 < 2 ^ 32 by rw [Nat.shiftLeft_eq]; omega), Nat.or_comm, ← Nat.shiftLeft_add_eq_or_of_lt (by omega), Nat.shiftLeft_eq]
    omega
  show BitVec.toNat (((((lo8 c &&& 255) <<< (0 : Int32)) ||| ((hi8 c &&& 255) <<< (8 : Int32))).toBitVec.setWidth 16).setWidth 32) = _
  rw [BitVec.toNat_setWidth, BitVec.toNat_setWidth, g]
  omega
end StrChars
namespace StrChars
open Jvm Sem ClassFile Op Lib Jvm.Stand Jvm.Free.XT Jvm.Free.ALB Jvm.Free.JM Jvm.Free
open Jvm.Lib.Cold (StaticIs)
/-- the array's cell V codes the n chars f 0 .. f (n - 1) by the coder cd, as the JDK does: coder 1 just where some char is above 255 -/
def Cod (cd : Int32) (n : Nat) (f : Nat → Int32) (V : Cell) : Prop := (cd = 0 ∧ V.slots.size = n ∧ ∀ j, j < n → V.slots[j]? = some (.int (lo8 (f j))) ∧ ¬ 255 < f j) ∨ (cd = 1 ∧ V.slots.size = 2 * n ∧ (∀ j, j < n → V.slots[2 * j]? = some (.int (lo8 (f j))) ∧ V.slots[2 * j + 1]? = some (.int (hi8 (f j)))) ∧ ∃ j, j < n ∧ 255 < f j)
/-- **x is a String of the n chars f 0 .. f (n - 1)**, Latin-1 or UTF-16; its array at t has the cell V -/
def Txt (x t : Addr) (V : Cell) (cd : Int32) (n : Nat) (f : Nat → Int32) (U : State) : Prop := Exact "java/lang/String" x U ∧ Has x "java/lang/String" "value" "[B" (.ref t) U ∧ Has x "java/lang/String" "coder" "B" (.int cd) U ∧ XT.Arr .byte t V U ∧ Cod cd n f V ∧ ∀ j, j < n → ¬ f j < 0 ∧ ¬ 65535 < f j
theorem Txt.mv {x t : Addr} {V : Cell} {cd : Int32} {n : Nat} {f : Nat → Int32} {U U' : State} (h : Txt x t V cd n f U) (hal : U.vm.Alike U'.vm) (hh : U'.heap = U.heap) : Txt x t V cd n f U' := ⟨h.1.mv hal hh, h.2.1.mv hal hh, h.2.2.1.mv hal hh, h.2.2.2.1.mv hal hh, h.2.2.2.2⟩
end StrChars
namespace StrChars.Road
open Jvm Sem ClassFile Op Lib Jvm.Stand Jvm.Free Jvm.Free.XT
open Jvm.Lib.Cold (StaticIs)
theorem consq {a : Array Value} {s : State} {c : Jvm.Cond} {L : List Jvm.Cond} (h0 : c.before a s = true) (h : ∀ w ∈ L, w.before a s = true) : ∀ w ∈ c :: L, w.before a s = true := fun w hw => (List.mem_cons.mp hw).elim (fun e => e ▸ h0) (h w)
/-- the bytes of the chars cs, low before high -/
def wideBytes : List Int32 → List Value
  | [] => []
  | c :: cs => .int (lo8 c) :: .int (hi8 c) :: wideBytes cs
theorem wide_lo (d : Value) : ∀ (cs : List Int32) (j : Nat), j < cs.length → (wideBytes cs).getD (2 * j) d = .int (lo8 (cs.getD j 0))
  | [], j, h => absurd h (Nat.not_lt_zero j)
  | c :: cs, 0, _ => rfl
  | c :: cs, j + 1, h => by
    have q := wide_lo d cs j (by simpa using h)
    rw [show 2 * (j + 1) = 2 * j + 1 + 1 from by omega]
    simpa [wideBytes] using q
theorem wide_hi (d : Value) : ∀ (cs : List Int32) (j : Nat), j < cs.length → (wideBytes cs).getD (2 * j + 1) d = .int (hi8 (cs.getD j 0))
  | [], j, h => absurd h (Nat.not_lt_zero j)
  | c :: cs, 0, _ => rfl
  | c :: cs, j + 1, h => by
    have q := wide_hi d cs j (by simpa using h)
    rw [show 2 * (j + 1) + 1 = 2 * j + 1 + 1 + 1 from by omega]
    simpa [wideBytes] using q
theorem low_at (d : Value) (cs : List Int32) (j : Nat) (h : j < cs.length) : (cs.map fun c => Value.int (lo8 c)).getD j d = .int (lo8 (cs.getD j 0)) := by
  simp [List.getD_eq_getElem?_getD, h]
/-- an array of N2 bytes vs codes the chars cs by the coder cd -/
def CodA (cs : List Int32) (cd N2 : Int32) (vs : List Value) : Prop := (cd = 0 ∧ N2 = Int32.ofNat cs.length ∧ vs = (cs.map fun c => Value.int (lo8 c)) ∧ ∀ c ∈ cs, ¬ 255 < c) ∨ (cd = 1 ∧ N2 = Int32.ofNat (2 * cs.length) ∧ vs = wideBytes cs ∧ ∃ c ∈ cs, 255 < c)
theorem CodA.cod {cs : List Int32} {cd N2 : Int32} {vs : List Value} {V : Cell} (h : CodA cs cd N2 vs) (hn : 2 * cs.length < 2 ^ 31) (hs : V.slots.size = N2.toNatClampNeg) (hv : RoadKit.Has V vs (.int 0)) : Cod cd cs.length (fun j => cs.getD j 0) V := by
  rcases h with ⟨rfl, rfl, rfl, h⟩ | ⟨rfl, rfl, rfl, c, hc, hw⟩
  · rw [n32 (by omega)] at hs
    exact Or.inl ⟨rfl, hs, fun j hj => ⟨by rw [hv j (by omega), low_at _ _ _ hj], by
      have e : cs.getD j 0 = cs[j] := by simp [List.getD_eq_getElem?_getD, hj]
      show ¬ 255 < cs.getD j 0
      rw [e]; exact h _ (List.getElem_mem _)⟩⟩
  · rw [n32 (by omega)] at hs
    obtain ⟨j, hj, rfl⟩ := List.getElem_of_mem hc
    exact Or.inr ⟨rfl, hs, fun j hj => ⟨by rw [hv _ (by omega), wide_lo _ _ _ hj], by rw [hv _ (by omega), wide_hi _ _ _ hj]⟩, j, hj, by
      have e : cs.getD j 0 = cs[j] := by simp [List.getD_eq_getElem?_getD, hj]
      show 255 < cs.getD j 0
      rw [e]; exact hw⟩
/-- an object of exactly java/lang/String, its two fields found: as the laws ask it -/
theorem strObj {Z U : State} {a0 : Array Value} {kI : Nat} (wi : (Jvm.Cond.instantiable ST kI).before a0 Z = true) (al : Z.vm.Alike U.vm) {x : Addr} {v0 c0 : Value} (E : RoadKit.Exa Z U.heap x ST) (V : RoadKit.Fld Z U.heap x ST "value" "[B" v0) (C : RoadKit.Fld Z U.heap x ST "coder" "B" c0) :
    ∃ (D : Cell) (fV fC : Field), Blank ST x D U ∧ Found ST "value" "[B" fV U ∧ Found ST "coder" "B" fC U ∧ D.slots[fV.slot]? = some v0 ∧ D.slots[fC.slot]? = some c0 ∧ RoadKit.slotOf Z ST "value" "[B" = fV.slot ∧ RoadKit.slotOf Z ST "coder" "B" = fC.slot := by
  obtain ⟨D, cfV, kV, iV, fV, hD, gV, stV, knV, obV, asV, slV⟩ := V
  obtain ⟨D', cfC, kC, iC, fC, hD', gC, stC, -, -, asC, slC⟩ := C
  cases hD.symm.trans hD'
  obtain ⟨D2, kD, e1, e2, e3, e4, e5⟩ := E
  cases hD.symm.trans e1
  obtain ⟨c2, k2, i1, i2, i3, -⟩ := Cond.instantiable_spec wi
  cases e2.symm.trans i1
  cases e3.symm.trans i2
  obtain ⟨kU, u1, u2⟩ := al.2.2 _ _ e3
  exact ⟨D, fV, fC, ⟨hD, ⟨knV, fun q hq => by rw [hq] at obV; cases obV⟩, by rw [al.findClass]; exact e2, kU, u1, by rw [u2]; exact i3, by rw [u2]; exact e5 i3⟩, ⟨SBG.found_only al ⟨cfV, kV, iV, gV⟩, stV⟩, ⟨SBG.found_only al ⟨cfC, kC, iC, gC⟩, stC⟩, slV, slC, by simp [RoadKit.slotOf, gV], by simp [RoadKit.slotOf, gC]⟩
theorem sta_is {Z U : State} (al : Z.vm.Alike U.vm) {C n d : String} {v : Value} (S : RoadKit.Sta Z U.heap C n d v) : StaticIs U C n d v := by
  obtain ⟨cfS, iS, kS, fS, st, cS, t1, t2, t3, t4, t5, t6, t7⟩ := S
  exact StaticIs.there (s := { Z with heap := U.heap }) ⟨cfS, iS, kS, fS, st, cS, t1, t2, t3, t4, t5, (fun q => by rw [q] at t6; cases t6), t7⟩ al rfl
end StrChars.Road
namespace StrChars
open Jvm Sem ClassFile Op Lib Jvm.Stand Jvm.Free.XT Jvm.Free.ALB Jvm.Free.JM Jvm.Free
open Jvm.Lib.Cold (StaticIs)
/-- what place i of a byte[]'s cell holds -/
def yv (A : Cell) (i : Nat) : Int32 := match A.slots[i]? with | some (.int x) => x | _ => 0
theorem yv_get {a : Addr} {A : Cell} {U : State} (h : XT.Arr .byte a A U) (ht : Typed .byte A) {i : Nat} (hi : i < A.slots.size) : A.slots[i]? = some (.int (yv A i)) := by
  have e := Array.getElem?_eq_getElem hi
  have f := ht i _ e
  unfold yv; rw [e]
  generalize A.slots[i] = v at f
  cases v <;> simp [fits] at f ⊢
/-- the two arrays are equal, place for place -/
def EqC (A B : Cell) : Prop := A.slots.size = B.slots.size ∧ ∀ i, i < A.slots.size → yv A i = yv B i
/-- a boolean that says whether p -/
def Says01 (q : Prop) (r : Option Value) (s u : State) : Prop := ∃ v : Int32, r = some (.int v) ∧ u.heap = s.heap ∧ ((v = 1 ∧ q) ∨ (v = 0 ∧ ¬ q))
theorem Says01.mv {q : Prop} : ∀ r (U U' V V' : State), U'.heap = U.heap → V.vm.Alike V'.vm → V'.heap = V.heap → Says01 q r U V → Says01 q r U' V' :=
  fun r U U' V V' h1 _ h2 ⟨v, a, b, c⟩ => ⟨v, a, by rw [h1, h2]; exact b, c⟩
namespace LEq
def yN : MethodName := ⟨"java/lang/StringLatin1", "equals", "([B[B)Z"⟩
abbrev yB : ByteArray := jdk_43_method_13_code
theorem d0 : decode yB 0 = .ok (.aload_n 0, 1) := by decide +kernel
theorem d1 : decode yB 1 = .ok (.arraylength, 1) := by decide +kernel
theorem d2 : decode yB 2 = .ok (.aload_n 1, 1) := by decide +kernel
theorem d3 : decode yB 3 = .ok (.arraylength, 1) := by decide +kernel
theorem d4 : decode yB 4 = .ok (.if_icmp (.ne) 30, 3) := by decide +kernel
theorem d7 : decode yB 7 = .ok (.iconst 0, 1) := by decide +kernel
theorem d8 : decode yB 8 = .ok (.istore_n 2, 1) := by decide +kernel
theorem d9 : decode yB 9 = .ok (.iload_n 2, 1) := by decide +kernel
theorem d10 : decode yB 10 = .ok (.aload_n 0, 1) := by decide +kernel
theorem d11 : decode yB 11 = .ok (.arraylength, 1) := by decide +kernel
theorem d12 : decode yB 12 = .ok (.if_icmp (.ge) 20, 3) := by decide +kernel
theorem d15 : decode yB 15 = .ok (.aload_n 0, 1) := by decide +kernel
theorem d16 : decode yB 16 = .ok (.iload_n 2, 1) := by decide +kernel
theorem d17 : decode yB 17 = .ok (.baload, 1) := by decide +kernel
theorem d18 : decode yB 18 = .ok (.aload_n 1, 1) := by decide +kernel
theorem d19 : decode yB 19 = .ok (.iload_n 2, 1) := by decide +kernel
theorem d20 : decode yB 20 = .ok (.baload, 1) := by decide +kernel
theorem d21 : decode yB 21 = .ok (.if_icmp (.eq) 5, 3) := by decide +kernel
theorem d24 : decode yB 24 = .ok (.iconst 0, 1) := by decide +kernel
theorem d25 : decode yB 25 = .ok (.ireturn, 1) := by decide +kernel
theorem d26 : decode yB 26 = .ok (.iinc 2 1, 3) := by decide +kernel
theorem d29 : decode yB 29 = .ok (.goto (-20), 3) := by decide +kernel
theorem d32 : decode yB 32 = .ok (.iconst 1, 1) := by decide +kernel
theorem d33 : decode yB 33 = .ok (.ireturn, 1) := by decide +kernel
theorem d34 : decode yB 34 = .ok (.iconst 0, 1) := by decide +kernel
theorem d35 : decode yB 35 = .ok (.ireturn, 1) := by decide +kernel
def site : List Cond := []
def tab : Cond := tabOf yN yB 3 (some .boolean) site
def P (a : Addr) (A : Cell) (b : Addr) (B : Cell) (args : Array Value) (s : State) : Prop := args = #[.ref a, .ref b] ∧ XT.Arr .byte a A s ∧ Typed .byte A ∧ XT.Arr .byte b B s ∧ Typed .byte B
/-- whether two byte[] are equal, place for place -/
theorem law (l : Launch) (a : Addr) (A : Cell) (b : Addr) (B : Cell) : Law l yN 2 2 0 0 yB 3 (some .boolean) site (P a A b B) (Says01 (EqC A B)) [] 0 0 := by
  refine Law.of_walk (plainFor_of_name (by decide +kernel)) (by decide +kernel) (by decide +kernel) (by decide) (fun _ _ h => by rw [h.1]; rfl) (fun _ U U' hal hh h => ⟨h.1, h.2.1.mv hal hh, h.2.2.1, h.2.2.2.1.mv hal hh, h.2.2.2.2⟩) (fun r U U' V V' h1 hal h2 h => Says01.mv r U U' V V' h1 hal h2 h) ?_
  intro p e s m args below meth c s₁ X0 hexec hbytes hml hret hlk hnm hown hh0 W hP
  obtain ⟨rfl, hA, tA, hB, tB⟩ := hP
  have a31 := hA.2.2.2
  have b31 := hB.2.2.2
  have hA0 := hA.mv X0.warmed.alike hh0
  have hB0 := hB.mv X0.warmed.alike hh0
  have c1 : Steps p.tables e below (s₁.setTop (entryFrame m #[.ref a, .ref b] 3)) (s₁.setTop (mkF m 0 #[.val (.ref a), .val (.ref b), .unset] [])) := entry rfl
  have c2 : Steps p.tables e below (s₁.setTop (entryFrame m #[.ref a, .ref b] 3)) (s₁.setTop (mkF m 4 #[.val (.ref a), .val (.ref b), .unset] [.int (Int32.ofNat B.slots.size), .int (Int32.ofNat A.slots.size)])) := c1.trans (by
    refine XS.aloadN X0.here hexec rfl (hb hbytes d0) rfl rfl ?_
    refine X0.alen hexec hA0 rfl rfl (hb hbytes d1) ?_
    refine XS.aloadN X0.here hexec rfl (hb hbytes d2) rfl rfl ?_
    refine X0.alen hexec hB0 rfl rfl (hb hbytes d3) ?_
    exact Steps.refl _)
  by_cases hs : A.slots.size = B.slots.size
  · have c3 : Steps p.tables e below (s₁.setTop (entryFrame m #[.ref a, .ref b] 3)) (s₁.setTop (mkF m 9 #[.val (.ref a), .val (.ref b), .val (.int 0)] [])) := c2.trans (by
      refine XS.icmpNo X0.here hexec rfl (hb hbytes d4) rfl (ii_ne_f (by rw [hs])) ?_
      refine iconstV X0.here hexec rfl 0 (hb hbytes d7) (by decide) ?_
      refine XS.istoreN X0.here hexec rfl (hb hbytes d8) rfl rfl ?_
      exact Steps.refl _)
    have loop : ∀ (r i : Nat), i + r = A.slots.size → (∀ j, j < i → yv A j = yv B j) → Steps p.tables e below (s₁.setTop (entryFrame m #[.ref a, .ref b] 3)) (s₁.setTop (mkF m 9 #[.val (.ref a), .val (.ref b), .val (.int (Int32.ofNat i))] [])) → ∃ (pc : Nat) (Ls : Array Slot) (v : Int32), (pc = 25 ∨ pc = 33) ∧ ((v = 1 ∧ EqC A B) ∨ (v = 0 ∧ ¬ EqC A B)) ∧ Steps p.tables e below (s₁.setTop (entryFrame m #[.ref a, .ref b] 3)) (s₁.setTop (mkF m pc Ls [.int v])) := by
      intro r
      induction r with
      | zero =>
        intro i hi he cl
        exact ⟨33, _, 1, Or.inr rfl, Or.inl ⟨rfl, hs, fun j hj => he j (by omega)⟩, cl.trans (by
          refine XS.iloadN X0.here hexec rfl (hb hbytes d9) rfl ?_
          refine XS.aloadN X0.here hexec rfl (hb hbytes d10) rfl rfl ?_
          refine X0.alen hexec hA0 rfl rfl (hb hbytes d11) ?_
          refine XS.icmpYes X0.here hexec rfl (pc0 := 12) rfl (hb hbytes d12) rfl (ii_ge_t (nlt32 (by omega) (by omega))) (by decide) rfl ?_
          refine iconstV X0.here hexec rfl 1 (hb hbytes d32) (by decide) ?_
          exact Steps.refl _)⟩
      | succ r ih =>
        intro i hi he cl
        have c4 : Steps p.tables e below (s₁.setTop (entryFrame m #[.ref a, .ref b] 3)) (s₁.setTop (mkF m 21 #[.val (.ref a), .val (.ref b), .val (.int (Int32.ofNat i))] [.int (yv B i), .int (yv A i)])) := cl.trans (by
          refine XS.iloadN X0.here hexec rfl (hb hbytes d9) rfl ?_
          refine XS.aloadN X0.here hexec rfl (hb hbytes d10) rfl rfl ?_
          refine X0.alen hexec hA0 rfl rfl (hb hbytes d11) ?_
          refine XS.icmpNo X0.here hexec rfl (hb hbytes d12) rfl (ii_ge_f (lt32 (by omega) (by omega))) ?_
          refine XS.aloadN X0.here hexec rfl (hb hbytes d15) rfl rfl ?_
          refine XS.iloadN X0.here hexec rfl (hb hbytes d16) rfl ?_
          refine X0.aget hexec hA0 rfl (yv_get hA tA (i := i) (by omega)) rfl rfl (hb hbytes d17) ?_
          refine XS.aloadN X0.here hexec rfl (hb hbytes d18) rfl rfl ?_
          refine XS.iloadN X0.here hexec rfl (hb hbytes d19) rfl ?_
          refine X0.aget hexec hB0 rfl (yv_get hB tB (i := i) (by omega)) rfl rfl (hb hbytes d20) ?_
          exact Steps.refl _)
        by_cases hv : yv A i = yv B i
        · have c5 : Steps p.tables e below (s₁.setTop (entryFrame m #[.ref a, .ref b] 3)) (s₁.setTop (mkF m 9 #[.val (.ref a), .val (.ref b), .val (.int (Int32.ofNat i + 1))] [])) := c4.trans (by
            refine XS.icmpYes X0.here hexec rfl (pc0 := 21) rfl (hb hbytes d21) rfl (ii_eq_t hv) (by decide) rfl ?_
            refine iincV X0.here hexec rfl 1 (hb hbytes d26) (by decide) rfl rfl ?_
            refine XS.goto X0.here hexec rfl (pc0 := 29) rfl (hb hbytes d29) (by decide) rfl ?_
            exact Steps.refl _)
          rw [succ32] at c5
          exact ih (i + 1) (by omega) (fun j hj => by
            by_cases e : j = i
            · rw [e]; exact hv
            · exact he j (by omega)) c5
        · exact ⟨25, _, 0, Or.inl rfl, Or.inr ⟨rfl, fun q => hv (q.2 i (by omega))⟩, c4.trans (by
            refine XS.icmpNo X0.here hexec rfl (hb hbytes d21) rfl (ii_eq_f hv) ?_
            refine iconstV X0.here hexec rfl 0 (hb hbytes d24) (by decide) ?_
            exact Steps.refl _)⟩
    obtain ⟨pc, Ls, v, hpc, hv, cz⟩ := loop A.slots.size 0 (by omega) (fun j hj => absurd hj (Nat.not_lt_zero j)) c3
    have nv : narrow .boolean (.int v) = .int v := by rcases hv with ⟨rfl, -⟩ | ⟨rfl, -⟩ <;> rfl
    rcases hpc with rfl | rfl
    · exact ⟨s₁, some (.int v), _, _, _, X0, rfl, rfl, rfl, (fun h => by cases h), ⟨v, rfl, hh0, hv⟩, fun fs hl => cz.trans (X0.ireturnOut hexec hret nv (Or.inr (Or.inl rfl)) (hb hbytes d25) hl)⟩
    · exact ⟨s₁, some (.int v), _, _, _, X0, rfl, rfl, rfl, (fun h => by cases h), ⟨v, rfl, hh0, hv⟩, fun fs hl => cz.trans (X0.ireturnOut hexec hret nv (Or.inr (Or.inl rfl)) (hb hbytes d33) hl)⟩
  · have c3 : Steps p.tables e below (s₁.setTop (entryFrame m #[.ref a, .ref b] 3)) (s₁.setTop (mkF m 35 #[.val (.ref a), .val (.ref b), .unset] [.int 0])) := c2.trans (by
      refine XS.icmpYes X0.here hexec rfl (pc0 := 4) rfl (hb hbytes d4) rfl (ii_ne_t (ne32 a31 b31 hs)) (by decide) rfl ?_
      refine iconstV X0.here hexec rfl 0 (hb hbytes d34) (by decide) ?_
      exact Steps.refl _)
    exact ⟨s₁, some (.int 0), _, _, _, X0, rfl, rfl, rfl, (fun h => by cases h), ⟨0, rfl, hh0, Or.inr ⟨rfl, fun q => hs q.1⟩⟩, fun fs hl => c3.trans (X0.ireturnOut hexec hret rfl (Or.inr (Or.inl rfl)) (hb hbytes d35) hl)⟩
end LEq
theorem Cod.ty {cd : Int32} {n : Nat} {f : Nat → Int32} {V : Cell} (h : Cod cd n f V) : Typed .byte V := fun i v hv => by
  have hi : i < V.slots.size := (Array.getElem?_eq_some_iff.mp hv).1
  rcases h with ⟨-, k1, k2⟩ | ⟨-, k1, k2, -⟩
  · rw [(k2 i (by omega)).1] at hv; cases hv; exact fits_lo8 _
  · rcases Nat.mod_two_eq_zero_or_one i with e | e
    · obtain ⟨j, rfl⟩ : ∃ j, i = 2 * j := ⟨i / 2, by omega⟩
      rw [(k2 j (by omega)).1] at hv; cases hv; exact fits_lo8 _
    · obtain ⟨j, rfl⟩ : ∃ j, i = 2 * j + 1 := ⟨i / 2, by omega⟩
      rw [(k2 j (by omega)).2] at hv; cases hv; exact fits_lo8 _
/-- the same text -/
def SameT (n : Nat) (f : Nat → Int32) (k : Nat) (g : Nat → Int32) : Prop := n = k ∧ ∀ j, j < n → f j = g j
theorem lo8_inj {x y : Int32} (h0 : ¬ x < 0) (h1 : ¬ 255 < x) (k0 : ¬ y < 0) (k1 : ¬ 255 < y) (h : lo8 x = lo8 y) : x = y := by
  rw [← lo8_mask h0 h1, ← lo8_mask k0 k1, h]
/-- arrays coded by one coder are equal just where the texts are -/
theorem Cod.eqv {cd : Int32} {n k : Nat} {f g : Nat → Int32} {V V' : Cell} (h : Cod cd n f V) (h' : Cod cd k g V') (hf : ∀ j, j < n → ¬ f j < 0 ∧ ¬ 65535 < f j) (hg : ∀ j, j < k → ¬ g j < 0 ∧ ¬ 65535 < g j) : EqC V V' ↔ SameT n f k g := by
  have yvv : ∀ {W : Cell} {i : Nat} {x : Int32}, W.slots[i]? = some (.int x) → yv W i = x := fun q => by unfold yv; rw [q]
  rcases h with ⟨rfl, k1, k2⟩ | ⟨rfl, k1, k2, -⟩
  · rcases h' with ⟨-, m1, m2⟩ | ⟨e, -⟩
    · constructor
      · rintro ⟨e1, e2⟩
        refine ⟨by omega, fun j hj => ?_⟩
        have q := e2 j (by omega)
        rw [yvv (k2 j hj).1, yvv (m2 j (by omega)).1] at q
        exact lo8_inj (hf j hj).1 (k2 j hj).2 (hg j (by omega)).1 (m2 j (by omega)).2 q
      · rintro ⟨rfl, e2⟩
        refine ⟨by omega, fun j hj => ?_⟩
        rw [yvv (k2 j (by omega)).1, yvv (m2 j (by omega)).1, e2 j (by omega)]
    · exact absurd e (by decide)
  · rcases h' with ⟨e, -⟩ | ⟨-, m1, m2, -⟩
    · exact absurd e (by decide)
    · constructor
      · rintro ⟨e1, e2⟩
        refine ⟨by omega, fun j hj => ?_⟩
        have q1 := e2 (2 * j) (by omega)
        have q2 := e2 (2 * j + 1) (by omega)
        rw [yvv (k2 j hj).1, yvv (m2 j (by omega)).1] at q1
        rw [yvv (k2 j hj).2, yvv (m2 j (by omega)).2] at q2
        rw [← pair_says (hf j hj).1 (hf j hj).2, ← pair_says (hg j (by omega)).1 (hg j (by omega)).2, q1, q2]
      · rintro ⟨rfl, e2⟩
        refine ⟨by omega, fun i hi => ?_⟩
        rcases Nat.mod_two_eq_zero_or_one i with e | e
        · obtain ⟨j, rfl⟩ : ∃ j, i = 2 * j := ⟨i / 2, by omega⟩
          rw [yvv (k2 j (by omega)).1, yvv (m2 j (by omega)).1, e2 j (by omega)]
        · obtain ⟨j, rfl⟩ : ∃ j, i = 2 * j + 1 := ⟨i / 2, by omega⟩
          rw [yvv (k2 j (by omega)).2, yvv (m2 j (by omega)).2, e2 j (by omega)]
/-- two codings differ: so do the texts -/
theorem Cod.dif {cd cd' : Int32} {n k : Nat} {f g : Nat → Int32} {V V' : Cell} (h : Cod cd n f V) (h' : Cod cd' k g V') (hne : ¬ cd = cd') : ¬ SameT n f k g := by
  rintro ⟨rfl, e⟩
  rcases h with ⟨rfl, -, k2⟩ | ⟨rfl, -, -, j, hj, hw⟩
  · rcases h' with ⟨rfl, -⟩ | ⟨-, -, -, j, hj, hw⟩
    · exact hne rfl
    · exact (k2 j hj).2 (by rw [e j hj]; exact hw)
  · rcases h' with ⟨-, -, m2⟩ | ⟨rfl, -⟩
    · exact (m2 j hj).2 (by rw [← e j hj]; exact hw)
    · exact hne rfl
/-- an object of exactly C is an instance of C -/
theorem cinst {p : Program} {l : Launch} {e : Env} {R : Room} {s : State} {m : MethodId} {args : Array Value} {below : List Frame} {meth : Method} {c : Code} {T : State} {locs : List Loc} {cells slots : Nat} (X : Stand p l e R s m args below meth c T locs cells slots) (hexec : p.tables.exec = Jvm.exec) {own C : String} {index : Nat} (hown : s.vm.findClass own = some m.cls) (hlink : (Cond.classLink own index C).before args s = true) {a : Addr} (hE : Exact C a T)
    {g : JFrame} (hg : g.method = m) {rest : List Value} (hstack : g.stack = .ref a :: rest) (hdg : decode c.code g.pc = .ok (.instanceof index, 3)) :
    ∃ T', Stand p l e R s m args below meth c T' locs cells slots ∧ T'.heap = T.heap ∧ ∀ target, Steps p.tables e below (T'.setTop { g with pc := g.pc + 3, stack := .int 1 :: rest }) target → Steps p.tables e below (T.setTop g) target := by
  obtain ⟨cB, h1, D, h2, h3, h4⟩ := hE
  have h1' : s.vm.findClass C = some cB := by rw [← X.warmed.alike.findClass]; exact h1
  obtain ⟨vm', X', st⟩ := X.instanceofYes hexec hown hlink h2 h4 h1' (by rw [h3]; exact Jvm.Free.SB.assignable_self _ _) hg hstack hdg
  exact ⟨_, X', rfl, st⟩
theorem cself {p : Program} {l : Launch} {e : Env} {R : Room} {s : State} {m : MethodId} {args : Array Value} {below : List Frame} {meth : Method} {c : Code} {T : State} {locs : List Loc} {cells slots : Nat} (X : Stand p l e R s m args below meth c T locs cells slots) (hexec : p.tables.exec = Jvm.exec) {own C : String} {index : Nat} (hown : s.vm.findClass own = some m.cls) (hlink : (Cond.classLink own index C).before args s = true) {a : Addr} (hE : Exact C a T)
    {g : JFrame} (hg : g.method = m) {rest : List Value} (hstack : g.stack = .ref a :: rest) (hdg : decode c.code g.pc = .ok (.checkcast index, 3)) :
    ∃ T', Stand p l e R s m args below meth c T' locs cells slots ∧ T'.heap = T.heap ∧ ∀ target, Steps p.tables e below (T'.setTop { g with pc := g.pc + 3, stack := .ref a :: rest }) target → Steps p.tables e below (T.setTop g) target := by
  obtain ⟨cB, h1, D, h2, h3, h4⟩ := hE
  have h1' : s.vm.findClass C = some cB := by rw [← X.warmed.alike.findClass]; exact h1
  obtain ⟨vm', X', st⟩ := X.checkcastYes hexec hown hlink h2 h4 h1' (by rw [h3]; exact Jvm.Free.SB.assignable_self _ _) hg hstack hdg
  exact ⟨_, X', rfl, fun t h => st t (by rw [← hstack] at h; exact h)⟩
namespace SEq
def yN : MethodName := ⟨"java/lang/String", "equals", "(Ljava/lang/Object;)Z"⟩
abbrev yB : ByteArray := jdk_42_method_66_code
theorem d0 : decode yB 0 = .ok (.aload_n 0, 1) := by decide +kernel
theorem d1 : decode yB 1 = .ok (.aload_n 1, 1) := by decide +kernel
theorem d2 : decode yB 2 = .ok (.if_acmp (.ne) 5, 3) := by decide +kernel
theorem d5 : decode yB 5 = .ok (.iconst 1, 1) := by decide +kernel
theorem d6 : decode yB 6 = .ok (.ireturn, 1) := by decide +kernel
theorem d7 : decode yB 7 = .ok (.aload_n 1, 1) := by decide +kernel
theorem d8 : decode yB 8 = .ok (.instanceof 10, 3) := by decide +kernel
theorem d11 : decode yB 11 = .ok (.ifCond (.eq) 43, 3) := by decide +kernel
theorem d14 : decode yB 14 = .ok (.aload_n 1, 1) := by decide +kernel
theorem d15 : decode yB 15 = .ok (.checkcast 10, 3) := by decide +kernel
theorem d18 : decode yB 18 = .ok (.astore_n 2, 1) := by decide +kernel
theorem d19 : decode yB 19 = .ok (.getstatic 38, 3) := by decide +kernel
theorem d22 : decode yB 22 = .ok (.ifCond (.eq) 14, 3) := by decide +kernel
theorem d25 : decode yB 25 = .ok (.aload_n 0, 1) := by decide +kernel
theorem d26 : decode yB 26 = .ok (.getfield 15, 3) := by decide +kernel
theorem d29 : decode yB 29 = .ok (.aload_n 2, 1) := by decide +kernel
theorem d30 : decode yB 30 = .ok (.getfield 15, 3) := by decide +kernel
theorem d33 : decode yB 33 = .ok (.if_icmp (.ne) 21, 3) := by decide +kernel
theorem d36 : decode yB 36 = .ok (.aload_n 0, 1) := by decide +kernel
theorem d37 : decode yB 37 = .ok (.getfield 9, 3) := by decide +kernel
theorem d40 : decode yB 40 = .ok (.aload_n 2, 1) := by decide +kernel
theorem d41 : decode yB 41 = .ok (.getfield 9, 3) := by decide +kernel
theorem d44 : decode yB 44 = .ok (.invokestatic 541, 3) := by decide +kernel
theorem d47 : decode yB 47 = .ok (.ifCond (.eq) 7, 3) := by decide +kernel
theorem d50 : decode yB 50 = .ok (.iconst 1, 1) := by decide +kernel
theorem d51 : decode yB 51 = .ok (.goto 4, 3) := by decide +kernel
theorem d54 : decode yB 54 = .ok (.iconst 0, 1) := by decide +kernel
theorem d55 : decode yB 55 = .ok (.ireturn, 1) := by decide +kernel
def site : List Cond := [.classLink "java/lang/String" 10 "java/lang/String", .fieldLink "java/lang/String" 38 "java/lang/String" "COMPACT_STRINGS" "Z", .fieldLink "java/lang/String" 15 "java/lang/String" "coder" "B", .fieldLink "java/lang/String" 9 "java/lang/String" "value" "[B", LEq.tab] ++ staticW "java/lang/String" 541 LEq.yN
def tab : Cond := tabOf yN yB 3 (some .boolean) site
def P (x t : Addr) (V : Cell) (cd : Int32) (n : Nat) (f : Nat → Int32) (y t' : Addr) (V' : Cell) (cd' : Int32) (k : Nat) (g : Nat → Int32) (z : Int32) (args : Array Value) (s : State) : Prop := args = #[.ref x, .ref y] ∧ Txt x t V cd n f s ∧ Txt y t' V' cd' k g s ∧ StaticIs s "java/lang/String" "COMPACT_STRINGS" "Z" (.int z) ∧ ¬ z = 0
/-- equals(Object) of two Strings: whether the texts are the same -/
theorem law (l : Launch) (x t : Addr) (V : Cell) (cd : Int32) (n : Nat) (f : Nat → Int32) (y t' : Addr) (V' : Cell) (cd' : Int32) (k : Nat) (g : Nat → Int32) (z : Int32) : Law l yN 2 1 1 14 yB 3 (some .boolean) site (P x t V cd n f y t' V' cd' k g z) (Says01 (SameT n f k g)) [] 0 0 := by
  refine Law.of_walk (plainFor_of_name (by decide +kernel)) (by decide +kernel) (by decide +kernel) (by decide) (fun _ _ h => by rw [h.1]; rfl) (fun _ U U' hal hh h => ⟨h.1, h.2.1.mv hal hh, h.2.2.1.mv hal hh, h.2.2.2.1.there hal hh, h.2.2.2.2⟩) (fun r U U' V V' h1 hal h2 h => Says01.mv r U U' V V' h1 hal h2 h) ?_
  intro p e s m args below meth c s₁ X0 hexec hbytes hml hret hlk hnm hown hh0 W hP
  obtain ⟨rfl, hx, hy, s1, hz⟩ := hP
  have c1 : Steps p.tables e below (s₁.setTop (entryFrame m #[.ref x, .ref y] 3)) (s₁.setTop (mkF m 2 #[.val (.ref x), .val (.ref y), .unset] [.ref y, .ref x])) := Steps.trans (entry rfl) (by
    show Steps p.tables e below (s₁.setTop (mkF m 0 #[.val (.ref x), .val (.ref y), .unset] [])) _
    refine XS.aloadN X0.here hexec rfl (hb hbytes d0) rfl rfl ?_
    refine XS.aloadN X0.here hexec rfl (hb hbytes d1) rfl rfl ?_
    exact Steps.refl _)
  by_cases hxy : x = y
  · have c2 : Steps p.tables e below (s₁.setTop (entryFrame m #[.ref x, .ref y] 3)) (s₁.setTop (mkF m 6 #[.val (.ref x), .val (.ref y), .unset] [.int 1])) := c1.trans (by
      refine acmpNo X0.here hexec rfl (hb hbytes d2) rfl rfl rfl (by simp [acmp, hxy]) ?_
      refine iconstV X0.here hexec rfl 1 (hb hbytes d5) (by decide) ?_
      exact Steps.refl _)
    subst hxy
    have ec : cd = cd' := by
      obtain ⟨D, fd, a1, a2, a3⟩ := hx.2.2.1
      obtain ⟨D', fd', b1, b2, b3⟩ := hy.2.2.1
      cases a1.symm.trans b1
      obtain ⟨q1, q2, q3, q4⟩ := a2.1
      obtain ⟨r1, r2, r3, r4⟩ := b2.1
      cases q4.symm.trans r4
      cases a3.symm.trans b3; rfl
    have et : t = t' := by
      obtain ⟨D, fd, a1, a2, a3⟩ := hx.2.1
      obtain ⟨D', fd', b1, b2, b3⟩ := hy.2.1
      cases a1.symm.trans b1
      obtain ⟨q1, q2, q3, q4⟩ := a2.1
      obtain ⟨r1, r2, r3, r4⟩ := b2.1
      cases q4.symm.trans r4
      cases a3.symm.trans b3; rfl
    subst ec et
    have ev : V = V' := by cases hx.2.2.2.1.1.symm.trans hy.2.2.2.1.1; rfl
    subst ev
    have hs : SameT n f k g := (Cod.eqv hx.2.2.2.2.1 hy.2.2.2.2.1 hx.2.2.2.2.2 hy.2.2.2.2.2).mp ⟨rfl, fun _ _ => rfl⟩
    exact ⟨s₁, some (.int 1), _, _, _, X0, rfl, rfl, rfl, (fun h => by cases h), ⟨1, rfl, hh0, Or.inl ⟨rfl, hs⟩⟩, fun fs hl => c2.trans (X0.ireturnOut hexec hret rfl (Or.inr (Or.inl rfl)) (hb hbytes d6) hl)⟩
  · have c2 : Steps p.tables e below (s₁.setTop (entryFrame m #[.ref x, .ref y] 3)) (s₁.setTop (mkF m 8 #[.val (.ref x), .val (.ref y), .unset] [.ref y])) := c1.trans (by
      refine acmpYes X0.here hexec rfl (pc0 := 2) rfl (hb hbytes d2) rfl rfl rfl (by simp [acmp, hxy]) (by decide) rfl ?_
      refine XS.aloadN X0.here hexec rfl (hb hbytes d7) rfl rfl ?_
      exact Steps.refl _)
    obtain ⟨T3, X3, q3, st3⟩ := cinst X0 hexec hown (wk W (.classLink "java/lang/String" 10 "java/lang/String")) (hy.mv X0.warmed.alike hh0).1 (g := (mkF m 8 #[.val (.ref x), .val (.ref y), .unset] [.ref y])) rfl (rest := []) rfl (hb hbytes d8)
    have hh3 := q3.trans hh0
    have c4 : Steps p.tables e below (s₁.setTop (entryFrame m #[.ref x, .ref y] 3)) (T3.setTop (mkF m 15 #[.val (.ref x), .val (.ref y), .unset] [.ref y])) := (c2.trans (st3 _ (Steps.refl _))).trans (by
      refine XS.ifNo X3.here hexec rfl (hb hbytes d11) rfl (i0_eq_f (by decide)) ?_
      refine XS.aloadN X3.here hexec rfl (hb hbytes d14) rfl rfl ?_
      exact Steps.refl _)
    obtain ⟨T5, X5, q5, st5⟩ := cself X3 hexec hown (wk W (.classLink "java/lang/String" 10 "java/lang/String")) (hy.mv X3.warmed.alike hh3).1 (g := (mkF m 15 #[.val (.ref x), .val (.ref y), .unset] [.ref y])) rfl (rest := []) rfl (hb hbytes d15)
    have hh5 := q5.trans hh3
    have c6 : Steps p.tables e below (s₁.setTop (entryFrame m #[.ref x, .ref y] 3)) (T5.setTop (mkF m 19 #[.val (.ref x), .val (.ref y), .val (.ref y)] [])) := (c4.trans (st5 _ (Steps.refl _))).trans (by
      refine XS.astoreN X5.here hexec rfl (hb hbytes d18) rfl rfl rfl ?_
      exact Steps.refl _)
    obtain ⟨T7, X7, q7, st7⟩ := X5.sget hexec hown (wk W (.fieldLink "java/lang/String" 38 "java/lang/String" "COMPACT_STRINGS" "Z")) s1 (fun _ _ h => by rw [hh5]; exact h) (g := (mkF m 19 #[.val (.ref x), .val (.ref y), .val (.ref y)] [])) rfl (hb hbytes d19)
    have hh7 := q7.trans hh5
    have c8 : Steps p.tables e below (s₁.setTop (entryFrame m #[.ref x, .ref y] 3)) (T7.setTop (mkF m 26 #[.val (.ref x), .val (.ref y), .val (.ref y)] [.ref x])) := (c6.trans (st7 _ (Steps.refl _))).trans (by
      refine XS.ifNo X7.here hexec rfl (hb hbytes d22) rfl (i0_eq_f hz) ?_
      refine XS.aloadN X7.here hexec rfl (hb hbytes d25) rfl rfl ?_
      exact Steps.refl _)
    obtain ⟨T9, X9, q9, st9⟩ := X7.hget hexec hown (wk W (.fieldLink "java/lang/String" 15 "java/lang/String" "coder" "B")) (hx.mv X7.warmed.alike hh7).2.2.1 (g := (mkF m 26 #[.val (.ref x), .val (.ref y), .val (.ref y)] [.ref x])) rfl (rest := []) rfl (hb hbytes d26)
    have hh9 := q9.trans hh7
    have c10 : Steps p.tables e below (s₁.setTop (entryFrame m #[.ref x, .ref y] 3)) (T9.setTop (mkF m 30 #[.val (.ref x), .val (.ref y), .val (.ref y)] [.ref y, .int cd])) := (c8.trans (st9 _ (Steps.refl _))).trans (by
      refine XS.aloadN X9.here hexec rfl (hb hbytes d29) rfl rfl ?_
      exact Steps.refl _)
    obtain ⟨T11, X11, q11, st11⟩ := X9.hget hexec hown (wk W (.fieldLink "java/lang/String" 15 "java/lang/String" "coder" "B")) (hy.mv X9.warmed.alike hh9).2.2.1 (g := (mkF m 30 #[.val (.ref x), .val (.ref y), .val (.ref y)] [.ref y, .int cd])) rfl (rest := [.int cd]) rfl (hb hbytes d30)
    have hh11 := q11.trans hh9
    have c12 : Steps p.tables e below (s₁.setTop (entryFrame m #[.ref x, .ref y] 3)) (T11.setTop (mkF m 33 #[.val (.ref x), .val (.ref y), .val (.ref y)] [.int cd', .int cd])) := c10.trans (st11 _ (Steps.refl _))
    by_cases hcd : cd = cd'
    · subst hcd
      have c13 : Steps p.tables e below (s₁.setTop (entryFrame m #[.ref x, .ref y] 3)) (T11.setTop (mkF m 37 #[.val (.ref x), .val (.ref y), .val (.ref y)] [.ref x])) := c12.trans (by
        refine XS.icmpNo X11.here hexec rfl (hb hbytes d33) rfl (ii_ne_f rfl) ?_
        refine XS.aloadN X11.here hexec rfl (hb hbytes d36) rfl rfl ?_
        exact Steps.refl _)
      obtain ⟨T14, X14, q14, st14⟩ := X11.hget hexec hown (wk W (.fieldLink "java/lang/String" 9 "java/lang/String" "value" "[B")) (hx.mv X11.warmed.alike hh11).2.1 (g := (mkF m 37 #[.val (.ref x), .val (.ref y), .val (.ref y)] [.ref x])) rfl (rest := []) rfl (hb hbytes d37)
      have hh14 := q14.trans hh11
      have c15 : Steps p.tables e below (s₁.setTop (entryFrame m #[.ref x, .ref y] 3)) (T14.setTop (mkF m 41 #[.val (.ref x), .val (.ref y), .val (.ref y)] [.ref y, .ref t])) := (c13.trans (st14 _ (Steps.refl _))).trans (by
        refine XS.aloadN X14.here hexec rfl (hb hbytes d40) rfl rfl ?_
        exact Steps.refl _)
      obtain ⟨T16, X16, q16, st16⟩ := X14.hget hexec hown (wk W (.fieldLink "java/lang/String" 9 "java/lang/String" "value" "[B")) (hy.mv X14.warmed.alike hh14).2.1 (g := (mkF m 41 #[.val (.ref x), .val (.ref y), .val (.ref y)] [.ref y, .ref t])) rfl (rest := [.ref t]) rfl (hb hbytes d41)
      have hh16 := q16.trans hh14
      have c17 : Steps p.tables e below (s₁.setTop (entryFrame m #[.ref x, .ref y] 3)) (T16.setTop (mkF m 44 #[.val (.ref x), .val (.ref y), .val (.ref y)] [.ref t', .ref t])) := c15.trans (st16 _ (Steps.refl _))
      obtain ⟨v18, T18, X18, E18, g18⟩ := X16.callS hexec (LEq.law l t V t' V') hown (wks W (staticW "java/lang/String" 541 LEq.yN)) (wk W LEq.tab) (W := 0) (Nat.le_of_ble_eq_true rfl) (Nat.le_of_ble_eq_true rfl) (Nat.le_refl _) (Nat.le_refl _) (g := (mkF m 44 #[.val (.ref x), .val (.ref y), .val (.ref y)] [.ref t', .ref t])) rfl (by rw [hml]; rfl) c17 (argsL := [.ref t, .ref t']) (rest := []) rfl rfl (by show 2 * 0 + 0 ≤ _; decide) (hb hbytes d44) (⟨rfl, hx.2.2.2.1.mv X16.warmed.alike hh16, hx.2.2.2.2.1.ty, hy.2.2.2.1.mv X16.warmed.alike hh16, hy.2.2.2.2.1.ty⟩)
      obtain ⟨v, rfl, q18, hv⟩ := E18
      have iff := Cod.eqv hx.2.2.2.2.1 hy.2.2.2.2.1 hx.2.2.2.2.2 hy.2.2.2.2.2
      rcases hv with ⟨rfl, he⟩ | ⟨rfl, he⟩
      · have c19 : Steps p.tables e below (s₁.setTop (entryFrame m #[.ref x, .ref y] 3)) (T18.setTop (mkF m 55 #[.val (.ref x), .val (.ref y), .val (.ref y)] [.int 1])) := Steps.trans g18 (by
          refine XS.ifNo X18.here hexec rfl (hb hbytes d47) rfl (i0_eq_f (by decide)) ?_
          refine iconstV X18.here hexec rfl 1 (hb hbytes d50) (by decide) ?_
          refine XS.goto X18.here hexec rfl (pc0 := 51) rfl (hb hbytes d51) (by decide) rfl ?_
          exact Steps.refl _)
        exact ⟨T18, some (.int 1), _, _, _, X18, rfl, rfl, rfl, (fun h => by cases h), ⟨1, rfl, q18.trans hh16, Or.inl ⟨rfl, iff.mp he⟩⟩, fun fs hl => c19.trans (X18.ireturnOut hexec hret rfl (Or.inr (Or.inl rfl)) (hb hbytes d55) hl)⟩
      · have c19 : Steps p.tables e below (s₁.setTop (entryFrame m #[.ref x, .ref y] 3)) (T18.setTop (mkF m 55 #[.val (.ref x), .val (.ref y), .val (.ref y)] [.int 0])) := Steps.trans g18 (by
          refine XS.ifYes X18.here hexec rfl (pc0 := 47) rfl (hb hbytes d47) rfl (i0_eq_t rfl) (by decide) rfl ?_
          refine iconstV X18.here hexec rfl 0 (hb hbytes d54) (by decide) ?_
          exact Steps.refl _)
        exact ⟨T18, some (.int 0), _, _, _, X18, rfl, rfl, rfl, (fun h => by cases h), ⟨0, rfl, q18.trans hh16, Or.inr ⟨rfl, fun q => he (iff.mpr q)⟩⟩, fun fs hl => c19.trans (X18.ireturnOut hexec hret rfl (Or.inr (Or.inl rfl)) (hb hbytes d55) hl)⟩
    · have c13 : Steps p.tables e below (s₁.setTop (entryFrame m #[.ref x, .ref y] 3)) (T11.setTop (mkF m 55 #[.val (.ref x), .val (.ref y), .val (.ref y)] [.int 0])) := c12.trans (by
        refine XS.icmpYes X11.here hexec rfl (pc0 := 33) rfl (hb hbytes d33) rfl (ii_ne_t hcd) (by decide) rfl ?_
        refine iconstV X11.here hexec rfl 0 (hb hbytes d54) (by decide) ?_
        exact Steps.refl _)
      exact ⟨T11, some (.int 0), _, _, _, X11, rfl, rfl, rfl, (fun h => by cases h), ⟨0, rfl, hh11, Or.inr ⟨rfl, Cod.dif hx.2.2.2.2.1 hy.2.2.2.2.1 hcd⟩⟩, fun fs hl => c13.trans (X11.ireturnOut hexec hret rfl (Or.inr (Or.inl rfl)) (hb hbytes d55) hl)⟩
theorem pays {l : Launch} {R : Room} {p : Program} {e : Env} {below : List Frame} {s : State} {sargs : Array Value} {len W : Nat} (x t : Addr) (V : Cell) (cd : Int32) (n : Nat) (f : Nat → Int32) (y t' : Addr) (V' : Cell) (cd' : Int32) (k : Nat) (g : Nat → Int32) (z : Int32) (htab : tab.before sargs s = true) (hfr : 2 ≤ R.frames) (hlo : W + 28 ≤ R.locals) :
    Back l R p e below s sargs yN len W (fun A₁ a₁ => A₁.cells + 0 ≤ R.cells ∧ A₁.slots + 0 ≤ R.slots ∧ P x t V cd n f y t' V' cd' k g z a₁ A₁.U) (fun A₁ _ v₁ B₁ => Says01 (SameT n f k g) v₁ A₁.U B₁.U ∧ B₁.locs = A₁.locs ++ [] ∧ B₁.cells = A₁.cells + 0 ∧ B₁.slots = A₁.slots + 0) :=
  (law l x t V cd n f y t' V' cd' k g z).pays htab hfr (by omega)
end SEq
end StrChars
namespace StrChars.Road
open Jvm Sem ClassFile Op Lib Jvm.Stand Jvm.Free Jvm.Free.XT
open Jvm.Lib.Cold (StaticIs)
/-- the words of String.equals(Object) -/
abbrev wordsEq : List Jvm.Cond := [.code SEq.yN SEq.yB 3 (some .boolean), .initialized ST, .classLink ST 10 ST, .fieldLink ST 38 ST "COMPACT_STRINGS" "Z", .fieldLink ST 15 ST "coder" "B", .fieldLink ST 9 ST "value" "[B", .methodLink ST 541 LEq.yN, .static LEq.yN, .code LEq.yN LEq.yB 3 (some .boolean), .initialized "java/lang/StringLatin1"]
theorem tabEq_of {a : Array Value} {s : State} (h : ∀ w ∈ wordsEq, w.before a s = true) : SEq.tab.before a s = true := by
  have hl : LEq.tab.before a s = true := unparts (wk h (.code LEq.yN LEq.yB 3 (some .boolean))) (wks h (.initialized LEq.yN.cls :: LEq.site))
  have q := consq hl h
  exact unparts (wk q (.code SEq.yN SEq.yB 3 (some .boolean))) (wks q (.initialized SEq.yN.cls :: SEq.site))
theorem movedEq {Z s : State} {a0 args : Array Value} (hZ : Z.Warmed39 s.vm) (hw : ∀ d ∈ wordsEq, d.before a0 Z = true) : ∀ d ∈ wordsEq, d.before args s = true := fun d hd => by
  have t : ∀ d ∈ wordsEq, (d.onTables && d.keepsFace) = true := by decide +kernel
  exact RoadKit.mv hZ (hw d hd) (t d hd)
/-- the road's facts of a String, as the laws ask it -/
theorem txt_of {Z U : State} {a0 : Array Value} {kI : Nat} (wi : (Jvm.Cond.instantiable ST kI).before a0 Z = true) (al : Z.vm.Alike U.vm) {x t : Addr} {kb : ClassId} {cs : List Int32} {cd N2 : Int32} {vs : List Value} (E : RoadKit.Exa Z U.heap x ST) (V : RoadKit.Fld Z U.heap x ST "value" "[B" (.ref t)) (C : RoadKit.Fld Z U.heap x ST "coder" "B" (.int cd)) (K : RoadKit.Arv Z U.heap t kb .byte N2 vs (.int 0)) (hc : CodA cs cd N2 vs) (hb : ∀ c ∈ cs, ¬ c < 0 ∧ ¬ (65535 : Int32) < c) (l2 : cs.length ≤ 4000) :
    ∃ A, Txt x t A cd cs.length (fun j => cs.getD j 0) U := by
  obtain ⟨A, K1, K2, K3, K4, K5, K6⟩ := K
  have hcod := hc.cod (by omega) K3 K5
  obtain ⟨D, fV, fC, hB, F1, F2, g1, g2, -, -⟩ := strObj wi al E V C
  exact ⟨A, ⟨_, hB.2.2.1, D, hB.1, rfl, by cases q : D.vm <;> first | rfl | exact absurd q (hB.2.1.2 _)⟩, Has.of hB F1 g1, Has.of hB F2 g2, ⟨K1.1, State.isArrayOf_alike al K1.2.1, K1.2.2, by rcases hcod with ⟨-, q, -⟩ | ⟨-, q, -⟩ <;> omega⟩, hcod, fun j hj => by
    have e : cs.getD j 0 = cs[j] := by simp [List.getD_eq_getElem?_getD, hj]
    show ¬ cs.getD j 0 < 0 ∧ ¬ 65535 < cs.getD j 0
    rw [e]; exact hb _ (List.getElem_mem _)⟩
theorem same_list (cs ds : List Int32) : SameT cs.length (fun j => cs.getD j 0) ds.length (fun j => ds.getD j 0) ↔ cs = ds := by
  constructor
  · rintro ⟨e, q⟩
    refine List.ext_getElem e fun j h1 h2 => ?_
    have := q j h1
    simpa [List.getD_eq_getElem?_getD, h1, h2] using this
  · rintro rfl
    exact ⟨rfl, fun _ _ => rfl⟩
/-- **equals(Object) OF TWO SUCH STRINGS**: 1 just where the chars are the same -/
theorem eqW {p : Program} {l : Launch} {e : Env} {R : Room} {s : State} {args : Array Value} {below : List Frame} {len W : Nat} {Z : State} {a0 : Array Value} {h : Heap} (hZ : Z.Warmed39 s.vm) (hw : ∀ d ∈ wordsEq, d.before a0 Z = true) {kI : Nat} (wi : (Jvm.Cond.instantiable ST kI).before a0 Z = true)
    {x t : Addr} {kb : ClassId} {cs : List Int32} {cd N2 : Int32} {vs : List Value} (E : RoadKit.Exa Z h x ST) (V : RoadKit.Fld Z h x ST "value" "[B" (.ref t)) (C : RoadKit.Fld Z h x ST "coder" "B" (.int cd)) (K : RoadKit.Arv Z h t kb .byte N2 vs (.int 0)) (hc : CodA cs cd N2 vs) (hb : ∀ c ∈ cs, ¬ c < 0 ∧ ¬ (65535 : Int32) < c) (l2 : cs.length ≤ 4000)
    {y t' : Addr} {kb' : ClassId} {ds : List Int32} {cd' N2' : Int32} {vs' : List Value} (E' : RoadKit.Exa Z h y ST) (V' : RoadKit.Fld Z h y ST "value" "[B" (.ref t')) (C' : RoadKit.Fld Z h y ST "coder" "B" (.int cd')) (K' : RoadKit.Arv Z h t' kb' .byte N2' vs' (.int 0)) (hc' : CodA ds cd' N2' vs') (hb' : ∀ c ∈ ds, ¬ c < 0 ∧ ¬ (65535 : Int32) < c) (l2' : ds.length ≤ 4000)
    {z : Int32} (S : RoadKit.Sta Z h ST "COMPACT_STRINGS" "Z" (.int z)) (hz : ¬ z = 0) (hfr : 2 ≤ R.frames) (hlo : W + 28 ≤ R.locals) :
    Back l R p e below s args (⟨"java/lang/String", "equals", "(Ljava/lang/Object;)Z"⟩ : MethodName) len W (fun P a => a = #[.ref x, .ref y] ∧ P.U.heap = h ∧ P.cells + 0 ≤ R.cells ∧ P.slots + 0 ≤ R.slots)
      (fun P _ v B => ∃ L, (((v = some (.int 1) ∧ cs = ds) ∨ (v = some (.int 0) ∧ ¬ cs = ds)) ∧ L = [] ∧ B.U.heap = h) ∧ B.locs = P.locs ++ L ∧ B.cells = P.cells + 0 ∧ B.slots = P.slots + 0) := by
  intro m meth c P g ig mk a X hg hsize hdg hW hn hp'
  obtain ⟨rfl, rfl, r1, r2⟩ := hp'
  have al : Z.vm.Alike P.U.vm := hZ.alike.trans X.warmed.alike
  obtain ⟨A, hx⟩ := txt_of wi al E V C K hc hb l2
  obtain ⟨A', hy⟩ := txt_of wi al E' V' C' K' hc' hb' l2'
  obtain ⟨v, B, X', ⟨⟨w, hv, hh, hq⟩, hl, hk, hs⟩, st⟩ := SEq.pays x t A cd cs.length (fun j => cs.getD j 0) y t' A' cd' ds.length (fun j => ds.getD j 0) z (tabEq_of (movedEq hZ hw)) hfr hlo m meth c P g ig mk _ X hg hsize hdg hW hn ⟨r1, r2, rfl, hx, hy, sta_is al S, hz⟩
  refine ⟨v, B, X', ⟨[], ⟨?_, rfl, hh⟩, hl, hk, hs⟩, st⟩
  rcases hq with ⟨rfl, q⟩ | ⟨rfl, q⟩
  · exact Or.inl ⟨hv, (same_list cs ds).mp q⟩
  · exact Or.inr ⟨hv, fun e => q ((same_list cs ds).mpr e)⟩
end StrChars.Road
namespace StrChars.Road
open Jvm Sem ClassFile Op Lib Jvm.Stand Jvm.Free Jvm.Free.XT
open Jvm.Lib.Cold (StaticIs)
/-- what backV says of its String, as the contracts of this text ask it: cs's low bytes, coder 0 -/
theorem codOf {cs : List Int32} {n : Nat} (hn : cs.length = n) (hb : ∀ c ∈ cs, ¬ 255 < c) : CodA cs 0 (Int32.ofNat n) ((cs.map lo8).map Value.int) := Or.inl ⟨rfl, by rw [hn], by simp [List.map_map, Function.comp_def], hb⟩
end StrChars.Road
end Jvm.Pilot.@@N@@
namespace Jvm.Pilot.@@N@@
open Jvm Jvm.ClassFile Sem Op Lib Jvm.Free Jvm.Stand Jvm.LawKit Jvm.RoadKit Jvm.Own Bundle Jvm.Pilot.@@N@@.Jvm.D
/-- at a there stands a String that spells cs -/
def Str (Z : State) (h : Heap) (a : Addr) (cs : List Int32) : Prop := Exa Z h a "java/lang/String" ∧ (∀ c ∈ cs, ¬ c < 0 ∧ ¬ (65535 : Int32) < c) ∧ cs.length ≤ 4000 ∧ ∃ (t : Addr) (kb : ClassId) (cd N2 : Int32) (vs : List Value), Fld Z h a "java/lang/String" "value" "[B" (.ref t) ∧ Fld Z h a "java/lang/String" "coder" "B" (.int cd) ∧ Arv Z h t kb .byte N2 vs (.int 0) ∧ StrChars.Road.CodA cs cd N2 vs
section OwnS
variable {p : Program} {l : Launch} {e : Env} {R : Room} {s : State} {m : MethodId} {args : Array Value} {below : List Frame} {meth : Method} {c : Code} {T : State} {locs : List Loc} {cells slots : Nat} {Z : State} {a0 : Array Value} {h h' : Heap} {E : Outcome → State → Prop} {a : Addr} {cs : List Int32}
theorem Str.exa (A : Str Z h a cs) : Exa Z h a "java/lang/String" := A.1
theorem Str.lt (A : Str Z h a cs) : a < h.size := A.1.lt
theorem Str.ext (A : Str Z h a cs) (X : Ext h h') : Str Z h' a cs := by
  obtain ⟨h1, h2, h3, t, kb, cd, N2, vs, h4, h5, h6, h7⟩ := A
  exact ⟨h1.ext X, h2, h3, t, kb, cd, N2, vs, h4.ext X, h5.ext X, h6.ext X, h7⟩
theorem Str.keep0 (A : Str Z h a cs) (K : Keep h h' []) : Str Z h' a cs := by
  obtain ⟨h1, h2, h3, t, kb, cd, N2, vs, h4, h5, h6, h7⟩ := A
  exact ⟨h1.keep K, h2, h3, t, kb, cd, N2, vs, h4.keep K nin0, h5.keep K nin0, h6.keep K nin0, h7⟩
theorem Str.keep1 {w : Addr} {C : String} {n : Nat} (A : Str Z h a cs) (K : Keep h h' [w]) (hne : a ≠ w) (Ew : Exa Z h w C) (wi : (Jvm.Cond.instantiable C n).before a0 Z = true) : Str Z h' a cs := by
  obtain ⟨h1, h2, h3, t, kb, cd, N2, vs, h4, h5, h6, h7⟩ := A
  have ht : t ≠ w := by
    obtain ⟨cl, A', -⟩ := h6
    exact Ne.symm (ne_arr Ew wi A')
  exact ⟨h1.keep K, h2, h3, t, kb, cd, N2, vs, h4.keep K (ninS hne nin0), h5.keep K (ninS hne nin0), h6.keep K (ninS ht nin0), h7⟩
theorem Str.of {cs' : List Int32} (A : Str Z h a cs) (q : cs = cs') : Str Z h a cs' := q ▸ A
theorem narC {c : Int32} (h1 : ¬ c < 0) (h2 : ¬ (65535 : Int32) < c) : nar .char c = c := by
  have e := c_i2c c
  have e0 : (0 : Int32).toInt = 0 := rfl
  have e1 : (65535 : Int32).toInt = 65535 := rfl
  rw [Int32.lt_iff_toInt_lt] at h1 h2
  show c.toUInt32.toUInt16.toUInt32.toInt32 = c
  apply Int32.toInt_inj.mp
  omega
theorem le255 {c : Int32} (h : ¬ (255 : Int32) < c) : ¬ (65535 : Int32) < c := by
  have e0 : (255 : Int32).toInt = 255 := rfl
  have e1 : (65535 : Int32).toInt = 65535 := rfl
  rw [Int32.lt_iff_toInt_lt] at h ⊢
  omega
/-- new String(char[]) over known chars, each 0 to 255 -/
theorem goNewS {own : String} {idx : Nat} {x b : Addr} {kC : ClassId} {vs : List Value} {d v0 c0 : Value} {z N : Int32} {n0 : Nat} (n W : Nat) (X : Stand p l e R s m args below meth c T locs cells slots) (hx : p.tables.exec = Jvm.exec) (hZ : Z.Warmed39 s.vm) (hown : s.vm.findClass own = some m.cls) (hws : ∀ d ∈ StrChars.Road.words, d.before a0 Z = true)
    (w1 : (Jvm.Cond.methodLink own idx (⟨"java/lang/String", "<init>", "([C)V"⟩ : MethodName)).before a0 Z = true) (w2 : (Jvm.Cond.instanceMethod (⟨"java/lang/String", "<init>", "([C)V"⟩ : MethodName)).before a0 Z = true) (w4 : (Jvm.Cond.code (⟨"java/lang/String", "<init>", "([C)V"⟩ : MethodName) StrChars.New1.yB 2 none).before a0 Z = true) (wi : (Jvm.Cond.instantiable "java/lang/String" 4).before a0 Z = true)
    (hx0 : n0 ≤ x) (hh0 : n0 ≤ h.size) (Ex : Exa Z h x "java/lang/String") (V : Fld Z h x "java/lang/String" "value" "[B" v0) (C : Fld Z h x "java/lang/String" "coder" "B" c0) (K : Arv Z h b kC .char N vs d) (hvs : vs = cs.map Value.int) (S : Sta Z h "java/lang/String" "COMPACT_STRINGS" "Z" (.int z)) (hz : ¬ z = 0)
    (hn : cs.length = n) (hN : N = Int32.ofNat n) (l0 : 0 < n) (l2 : n ≤ 4000) (hp : ∀ c ∈ cs, ¬ c < 0 ∧ ¬ (255 : Int32) < c) (eT : T.heap = h) {g : JFrame} (hg : g.method = m) (hsize : g.locals.size = c.maxLocals) (rest : List Value) (hlen : ∀ sig, parseMethodDescriptor "([C)V" = some sig → [Value.ref b].length = sig.parameters.length) (hstack : g.stack = .ref b :: .ref x :: rest)
    (hW : 2 * g.monitorRoom + (rest.map fun v => v.category).sum ≤ W) (hd : decode c.code g.pc = .ok (.invokespecial idx, 3)) (hfr : 4 ≤ R.frames) (hlo : W + 65 ≤ R.locals) (hc : cells + 1 ≤ R.cells) (hs : slots + n ≤ R.slots)
    (k : ∀ T' L, Stand p l e R s m args below meth c T' (locs ++ L) (cells + 1) (slots + n) → Fr n0 L → Keep h T'.heap [x] → Str Z T'.heap x cs → Goes p e below E T' { g with pc := g.pc + 3, stack := rest }) : Goes p e below E T g := by
  subst hvs
  obtain ⟨v, vm₁, ⟨T', L', k', n'⟩, -, X', ⟨L, ⟨q0, q1, q2, q3, q4, t, kb, -, -, -, q5, q6⟩, r1, r2, r3⟩, st⟩ := X.specialBack hx (y := (⟨"java/lang/String", "<init>", "([C)V"⟩ : MethodName)) rfl hown (mvT hZ w1) (mvT hZ w2) (mvT hZ w4) (by decide) (StrChars.Road.backV (W := W) (n := n) hZ hws (kI := 4) wi (bs := cs.map (fun c => c.toInt8.toInt32)) hx0 hh0 Ex V C K S hz hn hN l0 l2 hp rfl hfr hlo) hg hsize (Steps.refl _) (a := x) (argsL := [.ref b]) (rest := rest) hlen hstack hW hd (fun _ _ => ⟨rfl, eT, hc, hs⟩)
  dsimp only [Pt.U, Pt.locs, Pt.cells, Pt.slots] at X' r1 r2 r3 st q2 q3 q4 q5 q6
  subst r1 r2 r3 q0
  refine Goes.of (fun _ => st.trans) (k T' L X' q1 q2 ⟨q3, fun c hc => ⟨(hp c hc).1, le255 (hp c hc).2⟩, by omega, t, kb, 0, N, _, q5, q4, q6, ?_⟩)
  rw [hN]
  exact StrChars.Road.codOf hn (fun c hc => (hp c hc).2)
/-- equals of two such Strings -/
theorem goEqS {own : String} {idx : Nat} {x y : Addr} {ds : List Int32} {z : Int32} (W : Nat) (X : Stand p l e R s m args below meth c T locs cells slots) (hx : p.tables.exec = Jvm.exec) (hZ : Z.Warmed39 s.vm) (hown : s.vm.findClass own = some m.cls) (heq : ∀ d ∈ StrChars.Road.wordsEq, d.before a0 Z = true)
    (w1 : (Jvm.Cond.methodLink own idx (⟨"java/lang/String", "equals", "(Ljava/lang/Object;)Z"⟩ : MethodName)).before a0 Z = true) (w2 : (Jvm.Cond.declares (⟨"java/lang/String", "equals", "(Ljava/lang/Object;)Z"⟩ : MethodName)).before a0 Z = true) (w3 : (Jvm.Cond.selects "java/lang/String" (⟨"java/lang/String", "equals", "(Ljava/lang/Object;)Z"⟩ : MethodName) (⟨"java/lang/String", "equals", "(Ljava/lang/Object;)Z"⟩ : MethodName)).before a0 Z = true) (w4 : (Jvm.Cond.instanceMethod (⟨"java/lang/String", "equals", "(Ljava/lang/Object;)Z"⟩ : MethodName)).before a0 Z = true) (wi : (Jvm.Cond.instantiable "java/lang/String" 4).before a0 Z = true)
    (A : Str Z h x cs) (B : Str Z h y ds) (S : Sta Z h "java/lang/String" "COMPACT_STRINGS" "Z" (.int z)) (hz : ¬ z = 0) (eT : T.heap = h) {g : JFrame} (hg : g.method = m) (hsize : g.locals.size = c.maxLocals) (rest : List Value) (hlen : ∀ sig, parseMethodDescriptor "(Ljava/lang/Object;)Z" = some sig → [Value.ref y].length = sig.parameters.length) (hstack : g.stack = .ref y :: .ref x :: rest)
    (hW : 2 * g.monitorRoom + (rest.map fun v => v.category).sum ≤ W) (hd : decode c.code g.pc = .ok (.invokevirtual idx, 3)) (hfr : 2 ≤ R.frames) (hlo : W + 28 ≤ R.locals) (hc : cells ≤ R.cells) (hs : slots ≤ R.slots)
    (k : ∀ T', Stand p l e R s m args below meth c T' locs cells slots → T'.heap = h → Goes p e below E T' { g with pc := g.pc + 3, stack := .int (if cs = ds then (1 : Int32) else (0 : Int32)) :: rest }) : Goes p e below E T g := by
  obtain ⟨cq, kq, qa, qb, qc⟩ := isOf hZ eT A.1
  obtain ⟨E1, b1, l1, t1, kb1, cd1, n1, vs1, V1, C1, K1, D1⟩ := A
  obtain ⟨E2, b2, l2, t2, kb2, cd2, n2, vs2, V2, C2, K2, D2⟩ := B
  obtain ⟨v, vm₁, ⟨T', L', k', n'⟩, -, X', ⟨L, ⟨q0, q1, q2⟩, r1, r2, r3⟩, st⟩ := X.virtualBack hx (y := (⟨"java/lang/String", "equals", "(Ljava/lang/Object;)Z"⟩ : MethodName)) (z := (⟨"java/lang/String", "equals", "(Ljava/lang/Object;)Z"⟩ : MethodName)) hown (mvT hZ w1) (mvT hZ w2) (notFace_of_selects (args := #[]) (mvT hZ w3)) (mvT hZ w3) (mvT hZ w4) (by decide) (StrChars.Road.eqW (W := W) hZ heq (kI := 4) wi E1 V1 C1 K1 D1 b1 l1 E2 V2 C2 K2 D2 b2 l2 S hz hfr hlo) qa qc hg hsize (Steps.refl _) (argsL := [.ref y]) (rest := rest) hlen hstack hW hd (fun _ _ => ⟨rfl, eT, hc, hs⟩)
  dsimp only [Pt.U, Pt.locs, Pt.cells, Pt.slots] at X' r1 r2 r3 st q2
  subst r1 r2 r3 q1
  rw [List.append_nil] at X'
  have hv : v = some (.int (if cs = ds then (1 : Int32) else (0 : Int32))) := by
    rcases q0 with ⟨q, r⟩ | ⟨q, r⟩
    · rw [q, if_pos r]
    · rw [q, if_neg r]
  subst hv
  exact Goes.of (fun _ => st.trans) (k T' X' q2)
end OwnS
end Jvm.Pilot.@@N@@
namespace Jvm.Pilot.@@N@@
open Jvm Jvm.ClassFile Sem Op Lib Jvm.Free Jvm.Stand Jvm.LawKit Jvm.RoadKit Jvm.Own Bundle Jvm.Pilot.@@N@@.Jvm.D
theorem ef_3n4 (m : MethodId) (x0 : Addr) (x1 : Addr) (x2 : Int32) (x3 : Int32) : entryFrame m #[(.ref x0), (.ref x1), (.int x2), (.int x3), .null] 6 = mkF m 0 #[.val (.ref x0), .val (.ref x1), .val (.int x2), .val (.int x3), .val .null, .unset] [] := by first | (simp [entryFrame, mkF, argsToLocals, Value.category]; done) | rfl
theorem d3_0 : decode jdk_42_method_149_code 0 = .ok (.aload_n 0, 1) := by decide +kernel
theorem d3_1 : decode jdk_42_method_149_code 1 = .ok (.invokespecial 1, 3) := by decide +kernel
theorem d3_4 : decode jdk_42_method_149_code 4 = .ok (.iload_n 3, 1) := by decide +kernel
theorem d3_5 : decode jdk_42_method_149_code 5 = .ok (.ifCond .ne 22, 3) := by decide +kernel
theorem d3_8 : decode jdk_42_method_149_code 8 = .ok (.aload_n 0, 1) := by decide +kernel
theorem d3_9 : decode jdk_42_method_149_code 9 = .ok (.ldc 7, 2) := by decide +kernel
theorem d3_11 : decode jdk_42_method_149_code 11 = .ok (.getfield 9, 3) := by decide +kernel
theorem d3_14 : decode jdk_42_method_149_code 14 = .ok (.putfield 9, 3) := by decide +kernel
theorem d3_17 : decode jdk_42_method_149_code 17 = .ok (.aload_n 0, 1) := by decide +kernel
theorem d3_18 : decode jdk_42_method_149_code 18 = .ok (.ldc 7, 2) := by decide +kernel
theorem d3_20 : decode jdk_42_method_149_code 20 = .ok (.getfield 15, 3) := by decide +kernel
theorem d3_23 : decode jdk_42_method_149_code 23 = .ok (.putfield 15, 3) := by decide +kernel
theorem d3_26 : decode jdk_42_method_149_code 26 = .ok (.return_, 1) := by decide +kernel
theorem pn_java_lang_String : plainName "java/lang/String" = true := by first | (simp [plainName, overriddenIn]; done) | decide +kernel
theorem ef_2 (m : MethodId) (x0 : Addr) (x1 : Addr) : entryFrame m #[(.ref x0), (.ref x1)] 2 = mkF m 0 #[.val (.ref x0), .val (.ref x1)] [] := by first | (simp [entryFrame, mkF, argsToLocals, Value.category]; done) | rfl
theorem d2_0 : decode jdk_42_method_3_code 0 = .ok (.aload_n 0, 1) := by decide +kernel
theorem d2_1 : decode jdk_42_method_3_code 1 = .ok (.aload_n 1, 1) := by decide +kernel
theorem d2_2 : decode jdk_42_method_3_code 2 = .ok (.iconst 0, 1) := by decide +kernel
theorem d2_3 : decode jdk_42_method_3_code 3 = .ok (.aload_n 1, 1) := by decide +kernel
theorem d2_4 : decode jdk_42_method_3_code 4 = .ok (.arraylength, 1) := by decide +kernel
theorem d2_5 : decode jdk_42_method_3_code 5 = .ok (.aconst_null, 1) := by decide +kernel
theorem d2_6 : decode jdk_42_method_3_code 6 = .ok (.invokespecial 27, 3) := by decide +kernel
theorem pd___CIILjava_lang_Void__V : parseMethodDescriptor "([CIILjava/lang/Void;)V" = some ⟨[(.array .char), .int, .int, (.object "java/lang/Void")], none⟩ := by decide +kernel
theorem d2_9 : decode jdk_42_method_3_code 9 = .ok (.return_, 1) := by decide +kernel
theorem ef_1 (m : MethodId) (x0 : Int32) (x1 : Int32) (x2 : Int32) : entryFrame m #[(.int x0), (.int x1), (.int x2)] 3 = mkF m 0 #[.val (.int x0), .val (.int x1), .val (.int x2)] [] := by first | (simp [entryFrame, mkF, argsToLocals, Value.category]; done) | rfl
theorem d1_0 : decode method_2_code 0 = .ok (.iload_n 0, 1) := by decide +kernel
theorem d1_1 : decode method_2_code 1 = .ok (.ifCond .ne 14, 3) := by decide +kernel
theorem d1_4 : decode method_2_code 4 = .ok (.new 7, 3) := by decide +kernel
theorem d1_7 : decode method_2_code 7 = .ok (.dup, 1) := by decide +kernel
theorem d1_8 : decode method_2_code 8 = .ok (.iconst 0, 1) := by decide +kernel
theorem d1_9 : decode method_2_code 9 = .ok (.newarray .char, 2) := by decide +kernel
theorem d1_11 : decode method_2_code 11 = .ok (.invokespecial 9, 3) := by decide +kernel
theorem pd___C_V : parseMethodDescriptor "([C)V" = some ⟨[(.array .char)], none⟩ := by decide +kernel
theorem d1_14 : decode method_2_code 14 = .ok (.areturn, 1) := by decide +kernel
theorem d1_15 : decode method_2_code 15 = .ok (.iload_n 0, 1) := by decide +kernel
theorem d1_16 : decode method_2_code 16 = .ok (.iconst 1, 1) := by decide +kernel
theorem d1_17 : decode method_2_code 17 = .ok (.if_icmp .ne 18, 3) := by decide +kernel
theorem d1_20 : decode method_2_code 20 = .ok (.new 7, 3) := by decide +kernel
theorem d1_23 : decode method_2_code 23 = .ok (.dup, 1) := by decide +kernel
theorem d1_24 : decode method_2_code 24 = .ok (.iconst 1, 1) := by decide +kernel
theorem d1_25 : decode method_2_code 25 = .ok (.newarray .char, 2) := by decide +kernel
theorem d1_27 : decode method_2_code 27 = .ok (.dup, 1) := by decide +kernel
theorem d1_28 : decode method_2_code 28 = .ok (.iconst 0, 1) := by decide +kernel
theorem d1_29 : decode method_2_code 29 = .ok (.iload_n 1, 1) := by decide +kernel
theorem d1_30 : decode method_2_code 30 = .ok (.castore, 1) := by decide +kernel
theorem d1_31 : decode method_2_code 31 = .ok (.invokespecial 9, 3) := by decide +kernel
theorem d1_34 : decode method_2_code 34 = .ok (.areturn, 1) := by decide +kernel
theorem d1_35 : decode method_2_code 35 = .ok (.new 7, 3) := by decide +kernel
theorem d1_38 : decode method_2_code 38 = .ok (.dup, 1) := by decide +kernel
theorem d1_39 : decode method_2_code 39 = .ok (.iconst 2, 1) := by decide +kernel
theorem d1_40 : decode method_2_code 40 = .ok (.newarray .char, 2) := by decide +kernel
theorem d1_42 : decode method_2_code 42 = .ok (.dup, 1) := by decide +kernel
theorem d1_43 : decode method_2_code 43 = .ok (.iconst 0, 1) := by decide +kernel
theorem d1_44 : decode method_2_code 44 = .ok (.iload_n 1, 1) := by decide +kernel
theorem d1_45 : decode method_2_code 45 = .ok (.castore, 1) := by decide +kernel
theorem d1_46 : decode method_2_code 46 = .ok (.dup, 1) := by decide +kernel
theorem d1_47 : decode method_2_code 47 = .ok (.iconst 1, 1) := by decide +kernel
theorem d1_48 : decode method_2_code 48 = .ok (.iload_n 2, 1) := by decide +kernel
theorem d1_49 : decode method_2_code 49 = .ok (.castore, 1) := by decide +kernel
theorem d1_50 : decode method_2_code 50 = .ok (.invokespecial 9, 3) := by decide +kernel
theorem d1_53 : decode method_2_code 53 = .ok (.areturn, 1) := by decide +kernel
theorem pn_com_example_latchwork_latchwork_store_RedisRunKeptAllPinLaw : plainName "com/example/latchwork/latchwork/store/RedisRunKeptAllPinLaw" = true := by first | (simp [plainName, overriddenIn]; done) | decide +kernel
theorem ef_6 (m : MethodId) (x0 : Addr) : entryFrame m #[(.ref x0)] 1 = mkF m 0 #[.val (.ref x0)] [] := by first | (simp [entryFrame, mkF, argsToLocals, Value.category]; done) | rfl
theorem d6_0 : decode jdk_30_method_1_code 0 = .ok (.aload_n 0, 1) := by decide +kernel
theorem d6_1 : decode jdk_30_method_1_code 1 = .ok (.invokespecial 1, 3) := by decide +kernel
theorem d6_4 : decode jdk_30_method_1_code 4 = .ok (.return_, 1) := by decide +kernel
theorem pn_java_lang_Record : plainName "java/lang/Record" = true := by first | (simp [plainName, overriddenIn]; done) | decide +kernel
theorem ef_8 (m : MethodId) (x0 : Addr) : entryFrame m #[(.ref x0)] 1 = mkF m 0 #[.val (.ref x0)] [] := by first | (simp [entryFrame, mkF, argsToLocals, Value.category]; done) | rfl
theorem d8_0 : decode prog_17_method_7_code 0 = .ok (.aload_n 0, 1) := by decide +kernel
theorem d8_1 : decode prog_17_method_7_code 1 = .ok (.getfield 13, 3) := by decide +kernel
theorem d8_4 : decode prog_17_method_7_code 4 = .ok (.ireturn, 1) := by decide +kernel
theorem pn_com_example_latchwork_latchwork_store_RedisRun_Origin : plainName "com/example/latchwork/latchwork/store/RedisRun$Origin" = true := by first | (simp [plainName, overriddenIn]; done) | decide +kernel
theorem ef_5 (m : MethodId) (x0 : Addr) (x1 : Addr) (x2 : Int32) : entryFrame m #[(.ref x0), (.ref x1), (.int x2)] 3 = mkF m 0 #[.val (.ref x0), .val (.ref x1), .val (.int x2)] [] := by first | (simp [entryFrame, mkF, argsToLocals, Value.category]; done) | rfl
theorem d5_0 : decode prog_17_method_1_code 0 = .ok (.aload_n 0, 1) := by decide +kernel
theorem d5_1 : decode prog_17_method_1_code 1 = .ok (.invokespecial 1, 3) := by decide +kernel
theorem pd___V : parseMethodDescriptor "()V" = some ⟨[], none⟩ := by decide +kernel
theorem d5_4 : decode prog_17_method_1_code 4 = .ok (.aload_n 0, 1) := by decide +kernel
theorem d5_5 : decode prog_17_method_1_code 5 = .ok (.aload_n 1, 1) := by decide +kernel
theorem d5_6 : decode prog_17_method_1_code 6 = .ok (.putfield 7, 3) := by decide +kernel
theorem d5_9 : decode prog_17_method_1_code 9 = .ok (.aload_n 0, 1) := by decide +kernel
theorem d5_10 : decode prog_17_method_1_code 10 = .ok (.iload_n 2, 1) := by decide +kernel
theorem d5_11 : decode prog_17_method_1_code 11 = .ok (.putfield 13, 3) := by decide +kernel
theorem d5_14 : decode prog_17_method_1_code 14 = .ok (.return_, 1) := by decide +kernel
theorem ef_5n1 (m : MethodId) (x0 : Addr) (x2 : Int32) : entryFrame m #[(.ref x0), .null, (.int x2)] 3 = mkF m 0 #[.val (.ref x0), .val .null, .val (.int x2)] [] := by first | (simp [entryFrame, mkF, argsToLocals, Value.category]; done) | rfl
theorem ef_9 (m : MethodId) (x0 : Addr) : entryFrame m #[(.ref x0)] 1 = mkF m 0 #[.val (.ref x0)] [] := by first | (simp [entryFrame, mkF, argsToLocals, Value.category]; done) | rfl
theorem d9_0 : decode prog_17_method_6_code 0 = .ok (.aload_n 0, 1) := by decide +kernel
theorem d9_1 : decode prog_17_method_6_code 1 = .ok (.getfield 7, 3) := by decide +kernel
theorem d9_4 : decode prog_17_method_6_code 4 = .ok (.areturn, 1) := by decide +kernel
theorem ef_10n1 (m : MethodId) (x0 : Addr) : entryFrame m #[(.ref x0), .null] 3 = mkF m 0 #[.val (.ref x0), .val .null, .unset] [] := by first | (simp [entryFrame, mkF, argsToLocals, Value.category]; done) | rfl
theorem d10_0 : decode jdk_42_method_66_code 0 = .ok (.aload_n 0, 1) := by decide +kernel
theorem d10_1 : decode jdk_42_method_66_code 1 = .ok (.aload_n 1, 1) := by decide +kernel
theorem d10_2 : decode jdk_42_method_66_code 2 = .ok (.if_acmp .ne 5, 3) := by decide +kernel
theorem d10_7 : decode jdk_42_method_66_code 7 = .ok (.aload_n 1, 1) := by decide +kernel
theorem d10_8 : decode jdk_42_method_66_code 8 = .ok (.instanceof 10, 3) := by decide +kernel
theorem d10_11 : decode jdk_42_method_66_code 11 = .ok (.ifCond .eq 43, 3) := by decide +kernel
theorem d10_54 : decode jdk_42_method_66_code 54 = .ok (.iconst 0, 1) := by decide +kernel
theorem d10_55 : decode jdk_42_method_66_code 55 = .ok (.ireturn, 1) := by decide +kernel
theorem ef_7 (m : MethodId) (x0 : Addr) (x1 : Addr) (x2 : Int32) : entryFrame m #[(.ref x0), (.ref x1), (.int x2)] 4 = mkF m 0 #[.val (.ref x0), .val (.ref x1), .val (.int x2), .unset] [] := by first | (simp [entryFrame, mkF, argsToLocals, Value.category]; done) | rfl
theorem d7_0 : decode prog_16_method_4_code 0 = .ok (.iload_n 2, 1) := by decide +kernel
theorem d7_1 : decode prog_16_method_4_code 1 = .ok (.ifCond .ne 8, 3) := by decide +kernel
theorem d7_4 : decode prog_16_method_4_code 4 = .ok (.iconst 0, 1) := by decide +kernel
theorem d7_5 : decode prog_16_method_4_code 5 = .ok (.istore_n 3, 1) := by decide +kernel
theorem d7_6 : decode prog_16_method_4_code 6 = .ok (.goto 54, 3) := by decide +kernel
theorem d7_60 : decode prog_16_method_4_code 60 = .ok (.iload_n 3, 1) := by decide +kernel
theorem d7_61 : decode prog_16_method_4_code 61 = .ok (.ireturn, 1) := by decide +kernel
theorem d7_9 : decode prog_16_method_4_code 9 = .ok (.aload_n 0, 1) := by decide +kernel
theorem d7_10 : decode prog_16_method_4_code 10 = .ok (.ifnull 30, 3) := by decide +kernel
theorem d7_13 : decode prog_16_method_4_code 13 = .ok (.aload_n 1, 1) := by decide +kernel
theorem d7_14 : decode prog_16_method_4_code 14 = .ok (.invokevirtual 113, 3) := by decide +kernel
theorem pd___Z : parseMethodDescriptor "()Z" = some ⟨[], some .boolean⟩ := by decide +kernel
theorem d7_17 : decode prog_16_method_4_code 17 = .ok (.ifCond .eq 18, 3) := by decide +kernel
theorem d7_35 : decode prog_16_method_4_code 35 = .ok (.iconst 0, 1) := by decide +kernel
theorem d7_36 : decode prog_16_method_4_code 36 = .ok (.istore_n 3, 1) := by decide +kernel
theorem d7_37 : decode prog_16_method_4_code 37 = .ok (.goto 23, 3) := by decide +kernel
theorem pn_com_example_latchwork_latchwork_store_RedisRun : plainName "com/example/latchwork/latchwork/store/RedisRun" = true := by first | (simp [plainName, overriddenIn]; done) | decide +kernel
theorem d7_20 : decode prog_16_method_4_code 20 = .ok (.aload_n 0, 1) := by decide +kernel
theorem d7_21 : decode prog_16_method_4_code 21 = .ok (.aload_n 1, 1) := by decide +kernel
theorem d7_22 : decode prog_16_method_4_code 22 = .ok (.invokevirtual 118, 3) := by decide +kernel
theorem pd___Ljava_lang_String_ : parseMethodDescriptor "()Ljava/lang/String;" = some ⟨[], some (.object "java/lang/String")⟩ := by decide +kernel
theorem d7_25 : decode prog_16_method_4_code 25 = .ok (.invokevirtual 105, 3) := by decide +kernel
theorem pd__Ljava_lang_Object__Z : parseMethodDescriptor "(Ljava/lang/Object;)Z" = some ⟨[(.object "java/lang/Object")], some .boolean⟩ := by decide +kernel
theorem d7_28 : decode prog_16_method_4_code 28 = .ok (.ifCond .eq 7, 3) := by decide +kernel
theorem d7_31 : decode prog_16_method_4_code 31 = .ok (.iconst 1, 1) := by decide +kernel
theorem d7_32 : decode prog_16_method_4_code 32 = .ok (.goto 4, 3) := by decide +kernel
theorem ef_7n0 (m : MethodId) (x1 : Addr) (x2 : Int32) : entryFrame m #[.null, (.ref x1), (.int x2)] 4 = mkF m 0 #[.val .null, .val (.ref x1), .val (.int x2), .unset] [] := by first | (simp [entryFrame, mkF, argsToLocals, Value.category]; done) | rfl
theorem d7_40 : decode prog_16_method_4_code 40 = .ok (.aload_n 1, 1) := by decide +kernel
theorem d7_41 : decode prog_16_method_4_code 41 = .ok (.invokevirtual 118, 3) := by decide +kernel
theorem d7_44 : decode prog_16_method_4_code 44 = .ok (.ifnull 10, 3) := by decide +kernel
theorem d7_47 : decode prog_16_method_4_code 47 = .ok (.aload_n 1, 1) := by decide +kernel
theorem d7_48 : decode prog_16_method_4_code 48 = .ok (.invokevirtual 113, 3) := by decide +kernel
theorem d7_51 : decode prog_16_method_4_code 51 = .ok (.ifCond .eq 7, 3) := by decide +kernel
theorem d7_58 : decode prog_16_method_4_code 58 = .ok (.iconst 0, 1) := by decide +kernel
theorem d7_59 : decode prog_16_method_4_code 59 = .ok (.istore_n 3, 1) := by decide +kernel
theorem d7_54 : decode prog_16_method_4_code 54 = .ok (.iconst 1, 1) := by decide +kernel
theorem d7_55 : decode prog_16_method_4_code 55 = .ok (.goto 4, 3) := by decide +kernel
theorem ef_0 (m : MethodId) (x0 : Int32) (x1 : Int32) (x2 : Int32) : entryFrame m #[(.int x0), (.int x1), (.int x2)] maxLocals = mkF m 0 #[.val (.int x0), .val (.int x1), .val (.int x2), .unset, .unset, .unset, .unset, .unset, .unset, .unset, .unset, .unset, .unset, .unset, .unset, .unset, .unset, .unset, .unset, .unset] [] := by first | (simp [entryFrame, mkF, argsToLocals, Value.category, maxLocals]; done) | rfl
theorem pd__ICC_Ljava_lang_String_ : parseMethodDescriptor "(ICC)Ljava/lang/String;" = some ⟨[.int, .char, .char], some (.object "java/lang/String")⟩ := by decide +kernel
theorem pd__Ljava_lang_String_Z_V : parseMethodDescriptor "(Ljava/lang/String;Z)V" = some ⟨[(.object "java/lang/String"), .boolean], none⟩ := by decide +kernel
theorem pd__Ljava_lang_String_Lcom_example_latchwork_latchwork_store_RedisRun_Origin_Z_Z : parseMethodDescriptor "(Ljava/lang/String;Lcom/example/latchwork/latchwork/store/RedisRun$Origin;Z)Z" = some ⟨[(.object "java/lang/String"), (.object "com/example/latchwork/latchwork/store/RedisRun$Origin"), .boolean], some .boolean⟩ := by decide +kernel
def EL : List (String × Nat) := [("java/lang/String", 7)]
theorem hELof {Z : State} {a0 : Array Value} (hw : ∀ d ∈ tables_1, d.before a0 Z = true) : EW Z a0 EL := EW.cons (hw _ (List.mem_of_getElem? (i := 18) rfl)) (by decide) (EW.nil)
theorem wSof {Z : State} {a0 : Array Value} (hw : ∀ d ∈ tables_1, d.before a0 Z = true) : ∀ a ∈ Bundle.stringAtoms, a.before a0 Z = true := by
  intro a ha
  simp only [Bundle.stringAtoms, Bundle.sN, List.mem_cons, List.not_mem_nil, or_false] at ha
  rcases ha with rfl | rfl | rfl | rfl | rfl | rfl | rfl
  · exact (hw _ (List.mem_of_getElem? (i := 6) rfl))
  · exact (hw _ (List.mem_of_getElem? (i := 5) rfl))
  · exact (hw _ (List.mem_of_getElem? (i := 19) rfl))
  · exact (hw _ (List.mem_of_getElem? (i := 20) rfl))
  · exact (hw _ (List.mem_of_getElem? (i := 21) rfl))
  · exact (hw _ (List.mem_of_getElem? (i := 22) rfl))
  · exact (hw _ (List.mem_of_getElem? (i := 23) rfl))
theorem hwsOf {Z : State} {a0 : Array Value} (hw : ∀ d ∈ tables_1, d.before a0 Z = true) : ∀ d ∈ StrChars.Road.words, d.before a0 Z = true := fun d hd => hw d ((by decide +kernel : ∀ d ∈ StrChars.Road.words, d ∈ tables_1) d hd)
theorem heqOf {Z : State} {a0 : Array Value} (hw : ∀ d ∈ tables_1, d.before a0 Z = true) : ∀ d ∈ StrChars.Road.wordsEq, d.before a0 Z = true := fun d hd => hw d ((by decide +kernel : ∀ d ∈ StrChars.Road.wordsEq, d ∈ tables_1) d hd)
theorem chr8 (x : Int32) : ¬ (x &&& (255 : Int32)).toUInt32.toUInt16.toUInt32.toInt32 < 0 ∧ ¬ (255 : Int32) < (x &&& (255 : Int32)).toUInt32.toUInt16.toUInt32.toInt32 := by
  rw [i2c_mask]
  have e := c_mask x 255 8 (by decide) (by decide)
  have e0 : (0 : Int32).toInt = 0 := rfl
  have e1 : (255 : Int32).toInt = 255 := rfl
  rw [Int32.lt_iff_toInt_lt, Int32.lt_iff_toInt_lt]
  omega
theorem c3 (i : Int32) (h0 : 0 ≤ i.toInt) (h1 : i.toInt < 3) : i = (0 : Int32) ∨ i = (1 : Int32) ∨ i = (2 : Int32) := by
  have e0 : (0 : Int32).toInt = 0 := rfl
  have e1 : (1 : Int32).toInt = 1 := rfl
  have e2 : (2 : Int32).toInt = 2 := rfl
  simp only [← Int32.toInt_inj]
  omega
def strL (n a b : Int32) : List Int32 := if n = 0 then [] else if n = 1 then [a] else [a, b]
theorem len3 (x : Int32) : 0 ≤ ((x &&& (3 : Int32)) - ((x &&& (3 : Int32)) / (3 : Int32)) * (3 : Int32)).toInt ∧ ((x &&& (3 : Int32)) - ((x &&& (3 : Int32)) / (3 : Int32)) * (3 : Int32)).toInt < 3 := by
  have e := c_mask x 3 2 (by decide) (by decide)
  rw [rem_pos (k := 3) (by omega) rfl]
  omega
theorem b01 {P : Prop} [Decidable P] {x : Int32} (h : (if P then (0 : Int32) else (1 : Int32)) = x) : x = 0 ∨ x = 1 := by
  rw [← h]; split
  · exact Or.inl rfl
  · exact Or.inr rfl
theorem eq_fin (n1 n2 x0 x1 y0 y1 : Int32) (h1 : 0 ≤ n1.toInt ∧ n1.toInt < 3) (h2 : 0 ≤ n2.toInt ∧ n2.toInt < 3) : (if strL n1 x0 x1 = strL n2 y0 y1 then (1 : Int32) else (0 : Int32)) = (if n1 = n2 then (if n1 < (1 : Int32) then (if n1 < (2 : Int32) then (1 : Int32) else (if x1 = y1 then (1 : Int32) else (0 : Int32))) else (if x0 = y0 then (if n1 < (2 : Int32) then (1 : Int32) else (if x1 = y1 then (1 : Int32) else (0 : Int32))) else (0 : Int32))) else (0 : Int32)) := by
  rcases c3 n1 h1.1 h1.2 with rfl | rfl | rfl <;> rcases c3 n2 h2.1 h2.2 with rfl | rfl | rfl <;> by_cases a0 : x0 = y0 <;> by_cases a1 : x1 = y1 <;> simp +decide [strL, a0, a1]
set_option maxRecDepth 65536 in
set_option maxHeartbeats 40000000 in
theorem rm_sinit40 (l : Launch) (Z : State) (a0 : Array Value) (hw : ∀ d ∈ tables_1, d.before a0 Z = true) (a b : Addr) (h0 : Heap) (n0 : Nat) (O0 : Old Z n0 h0) (g_a : n0 ≤ a) (Ex : Exa Z h0 a "java/lang/String") (Fv : Fld Z h0 a "java/lang/String" "value" "[B" .null) (Fc : Fld Z h0 a "java/lang/String" "coder" "B" (.int (0 : Int32))) :
    RmH l (⟨"java/lang/String", "<init>", "([CIILjava/lang/Void;)V"⟩ : MethodName) jdk_42_method_149_code 6 none ({ frames := 1, cells := 4, slots := 8, locals := 12 } : Room) [] Z EL #[(.ref a), (.ref b), (.int (0 : Int32)), (.int (0 : Int32)), .null] h0 (fun v h L => v = none ∧ Fr n0 L ∧ Keep h0 h [a] ∧ Str Z h a []) := by
  refine RmH.of (plainFor_of_name pn_java_lang_String) ?_
  intro p e s m below meth cod T X hx hZ hby hml hown hnm hret hlk eT0 hS hk HC
  have hEL := hELof hw
  have wS := wSof hw
  have hown : s.vm.findClass "java/lang/String" = some m.cls := hown
  have hnm : meth.name = "<init>" := hnm
  have N0 := Fr.nil n0
  have Kp := Keep.refl h0 [a]
  have Sf0 : Safe Z EL s.vm h0 a := safeNull hZ.alike Ex Fv
  refine Goes.cast (ef_3n4 m a b (0 : Int32) (0 : Int32)) ?_
  show Goes p e below _ T (mkF m 0 #[.val (.ref a), .val (.ref b), .val (.int (0 : Int32)), .val (.int (0 : Int32)), .val .null, .unset] [])
  refine Goes.of (fun _ => XS.aloadN X.here hx rfl (hb hby d3_0) rfl rfl) ?_
  show Goes p e below _ T (mkF m 1 #[.val (.ref a), .val (.ref b), .val (.int (0 : Int32)), .val (.int (0 : Int32)), .val .null, .unset] [(.ref a)])
  refine goInitO 0 X hx hZ hown (hw _ (List.mem_of_getElem? (i := 15) rfl)) (hw _ (List.mem_of_getElem? (i := 16) rfl)) (hw _ (List.mem_of_getElem? (i := 17) rfl)) eT0 (g := (mkF m 1 #[.val (.ref a), .val (.ref b), .val (.int (0 : Int32)), .val (.int (0 : Int32)), .val .null, .unset] [(.ref a)])) rfl (by rw [hml]; rfl) rfl (hb hby d3_1) (by decide) (by show 2 * 0 + _ ≤ _; exact Nat.le_of_eq rfl) (by decide) ?_
  intro T1 X1 eT1
  show Goes p e below _ T1 (mkF m 4 #[.val (.ref a), .val (.ref b), .val (.int (0 : Int32)), .val (.int (0 : Int32)), .val .null, .unset] [])
  refine Goes.of (fun _ => XS.iloadN X1.here hx rfl (hb hby d3_4) rfl) ?_
  show Goes p e below _ T1 (mkF m 5 #[.val (.ref a), .val (.ref b), .val (.int (0 : Int32)), .val (.int (0 : Int32)), .val .null, .unset] [(.int (0 : Int32))])
  refine Goes.of (fun _ => XS.ifNo X1.here hx rfl (hb hby d3_5) rfl ((if0 _ _).trans (teq (by decide)).2)) ?_
  show Goes p e below _ T1 (mkF m 8 #[.val (.ref a), .val (.ref b), .val (.int (0 : Int32)), .val (.int (0 : Int32)), .val .null, .unset] [])
  refine Goes.of (fun _ => XS.aloadN X1.here hx rfl (hb hby d3_8) rfl rfl) ?_
  show Goes p e below _ T1 (mkF m 9 #[.val (.ref a), .val (.ref b), .val (.int (0 : Int32)), .val (.int (0 : Int32)), .val .null, .unset] [(.ref a)])
  refine goLdcC (z := (0 : Int32)) (vs := []) 0 X1 hS hk hEL (by decide) HC hx hZ hown (hw _ (List.mem_of_getElem? (i := 18) rfl)) wS eT1 (by decide) (by decide) (by decide) (g := (mkF m 9 #[.val (.ref a), .val (.ref b), .val (.int (0 : Int32)), .val (.int (0 : Int32)), .val .null, .unset] [(.ref a)])) rfl (hb hby d3_9) (by decide) (by decide) (by decide) (by decide) ?_
  intro s2 T2 h2 kk2 d2 kd2 X2 eT2 E2 hS hk hZ hown HC CH2 Es2 Fc2 Fv2 Vd2 hs2
  have Sg_a := CH2.safe Ex.lt Sf0
  have Ex := Ex.ext E2
  have Fv := Fv.ext E2
  have Fc := Fc.ext E2
  have Kp := Kp.ext E2
  have O0 := O0.ext E2
  have ne_a_s2 : a ≠ s2 := (hs2 a Sg_a).1
  have ne_a_d2 : a ≠ d2 := (hs2 a Sg_a).2
  show Goes p e below _ T2 (mkF m 11 #[.val (.ref a), .val (.ref b), .val (.int (0 : Int32)), .val (.int (0 : Int32)), .val .null, .unset] [(.ref s2), (.ref a)])
  refine goGet X2 hx hZ hown (host := "") (Or.inl (hw _ (List.mem_of_getElem? (i := 24) rfl))) Via.refl eT2 Fv2 (g := (mkF m 11 #[.val (.ref a), .val (.ref b), .val (.int (0 : Int32)), .val (.int (0 : Int32)), .val .null, .unset] [(.ref s2), (.ref a)])) rfl rfl (hb hby d3_11) ?_
  intro T3 X3 eT3
  show Goes p e below _ T3 (mkF m 14 #[.val (.ref a), .val (.ref b), .val (.int (0 : Int32)), .val (.int (0 : Int32)), .val .null, .unset] [(.ref d2), (.ref a)])
  have Sf_a := Sg_a
  refine goPut (ty := (.array .byte)) X3 hx hZ hown (host := "") (Or.inl (hw _ (List.mem_of_getElem? (i := 24) rfl))) Via.refl eT3 Fv Ex (Or.inr ⟨(hw _ (List.mem_of_getElem? (i := 20) rfl)), rfl, hnm⟩) (hw _ (List.mem_of_getElem? (i := 5) rfl)) (by decide) rfl rfl (g := (mkF m 14 #[.val (.ref a), .val (.ref b), .val (.int (0 : Int32)), .val (.int (0 : Int32)), .val .null, .unset] [(.ref d2), (.ref a)])) rfl rfl (hb hby d3_14) ?_
  intro T4 h4 X4 eT4 W4
  have Fv := Fld.same W4 Fv
  have N4 := Fr.snoc X4 N0 g_a
  have Ex := Ex.wr W4
  have Fc := Fc.other W4 (Or.inr (slot_ne (Or.inr (hw _ (List.mem_of_getElem? (i := 21) rfl))) (Or.inr (hw _ (List.mem_of_getElem? (i := 20) rfl))) (by decide) (t := .byte) (t' := (.array .byte)) (by decide) (by decide)))
  have Es2 := Es2.wr W4
  have Fc2 := Fc2.other W4 (Or.inl (Ne.symm ne_a_s2))
  have Fv2 := Fv2.other W4 (Or.inl (Ne.symm ne_a_s2))
  have Vd2 := Vd2.other W4 (Ne.symm ne_a_d2)
  have Kp := Kp.wr W4 (Or.inl (List.mem_of_getElem? (i := 0) rfl))
  have Sg_a := Safe.wr W4 Sf_a HC.1 Sg_a
  have HC := HC.trans (CHr.wr W4 Sf_a HC.1)
  have hk := Nat.le_trans hk (Nat.le_of_eq (Wr.size W4).symm)
  have O0 := O0.wr W4 g_a
  show Goes p e below _ T4 (mkF m 17 #[.val (.ref a), .val (.ref b), .val (.int (0 : Int32)), .val (.int (0 : Int32)), .val .null, .unset] [])
  refine Goes.of (fun _ => XS.aloadN X4.here hx rfl (hb hby d3_17) rfl rfl) ?_
  show Goes p e below _ T4 (mkF m 18 #[.val (.ref a), .val (.ref b), .val (.int (0 : Int32)), .val (.int (0 : Int32)), .val .null, .unset] [(.ref a)])
  refine goLdcC (z := (0 : Int32)) (vs := []) 0 X4 hS hk hEL (by decide) HC hx hZ hown (hw _ (List.mem_of_getElem? (i := 18) rfl)) wS eT4 (by decide) (by decide) (by decide) (g := (mkF m 18 #[.val (.ref a), .val (.ref b), .val (.int (0 : Int32)), .val (.int (0 : Int32)), .val .null, .unset] [(.ref a)])) rfl (hb hby d3_18) (by decide) (by decide) (by decide) (by decide) ?_
  intro s5 T5 h5 kk5 d5 kd5 X5 eT5 E5 hS hk hZ hown HC CH5 Es5 Fc5 Fv5 Vd5 hs5
  have Sg_a := CH5.safe Ex.lt Sg_a
  have Ex := Ex.ext E5
  have Fv := Fv.ext E5
  have Fc := Fc.ext E5
  have Es2 := Es2.ext E5
  have Fc2 := Fc2.ext E5
  have Fv2 := Fv2.ext E5
  have Vd2 := Vd2.ext E5
  have Kp := Kp.ext E5
  have O0 := O0.ext E5
  have ne_a_s5 : a ≠ s5 := (hs5 a Sg_a).1
  have ne_a_d5 : a ≠ d5 := (hs5 a Sg_a).2
  show Goes p e below _ T5 (mkF m 20 #[.val (.ref a), .val (.ref b), .val (.int (0 : Int32)), .val (.int (0 : Int32)), .val .null, .unset] [(.ref s5), (.ref a)])
  refine goGet X5 hx hZ hown (host := "") (Or.inl (hw _ (List.mem_of_getElem? (i := 25) rfl))) Via.refl eT5 Fc5 (g := (mkF m 20 #[.val (.ref a), .val (.ref b), .val (.int (0 : Int32)), .val (.int (0 : Int32)), .val .null, .unset] [(.ref s5), (.ref a)])) rfl rfl (hb hby d3_20) ?_
  intro T6 X6 eT6
  show Goes p e below _ T6 (mkF m 23 #[.val (.ref a), .val (.ref b), .val (.int (0 : Int32)), .val (.int (0 : Int32)), .val .null, .unset] [(.int (0 : Int32)), (.ref a)])
  have Sf_a := Sg_a
  refine goPut (ty := .byte) X6 hx hZ hown (host := "") (Or.inl (hw _ (List.mem_of_getElem? (i := 25) rfl))) Via.refl eT6 Fc Ex (Or.inr ⟨(hw _ (List.mem_of_getElem? (i := 21) rfl)), rfl, hnm⟩) (hw _ (List.mem_of_getElem? (i := 5) rfl)) (by decide) rfl rfl (g := (mkF m 23 #[.val (.ref a), .val (.ref b), .val (.int (0 : Int32)), .val (.int (0 : Int32)), .val .null, .unset] [(.int (0 : Int32)), (.ref a)])) rfl rfl (hb hby d3_23) ?_
  intro T7 h7 X7 eT7 W7
  have Fc := Fld.same W7 Fc
  have N7 := Fr.snoc X7 N4 g_a
  have Ex := Ex.wr W7
  have Fv := Fv.other W7 (Or.inr (slot_ne (Or.inr (hw _ (List.mem_of_getElem? (i := 20) rfl))) (Or.inr (hw _ (List.mem_of_getElem? (i := 21) rfl))) (by decide) (t := (.array .byte)) (t' := .byte) (by decide) (by decide)))
  have Es2 := Es2.wr W7
  have Fc2 := Fc2.other W7 (Or.inl (Ne.symm ne_a_s2))
  have Fv2 := Fv2.other W7 (Or.inl (Ne.symm ne_a_s2))
  have Vd2 := Vd2.other W7 (Ne.symm ne_a_d2)
  have Es5 := Es5.wr W7
  have Fc5 := Fc5.other W7 (Or.inl (Ne.symm ne_a_s5))
  have Fv5 := Fv5.other W7 (Or.inl (Ne.symm ne_a_s5))
  have Vd5 := Vd5.other W7 (Ne.symm ne_a_d5)
  have Kp := Kp.wr W7 (Or.inl (List.mem_of_getElem? (i := 0) rfl))
  have Sg_a := Safe.wr W7 Sf_a HC.1 Sg_a
  have HC := HC.trans (CHr.wr W7 Sf_a HC.1)
  have hk := Nat.le_trans hk (Nat.le_of_eq (Wr.size W7).symm)
  have O0 := O0.wr W7 g_a
  show Goes p e below _ T7 (mkF m 26 #[.val (.ref a), .val (.ref b), .val (.int (0 : Int32)), .val (.int (0 : Int32)), .val .null, .unset] [])
  exact retVoidW X7 hS hk hZ hEL HC hx hret hlk (hb hby d3_26) eT7 (by decide) (by decide) ⟨rfl, N7, Kp, Ex, (fun _ q => nomatch q), (by decide), d2, _, 0, 0, [], Fv, Fc, Vd2, Or.inl ⟨rfl, rfl, rfl, (fun _ q => nomatch q)⟩⟩
set_option maxRecDepth 65536 in
set_option maxHeartbeats 40000000 in
theorem rm_sinit0 (l : Launch) (Z : State) (a0 : Array Value) (hw : ∀ d ∈ tables_1, d.before a0 Z = true) (a b : Addr) (kb : ClassId) (vs : List Value) (dv : Value) (h0 : Heap) (n0 : Nat) (O0 : Old Z n0 h0) (g_a : n0 ≤ a) (Ex : Exa Z h0 a "java/lang/String") (Fv : Fld Z h0 a "java/lang/String" "value" "[B" .null) (Fc : Fld Z h0 a "java/lang/String" "coder" "B" (.int (0 : Int32))) (hab : a ≠ b) (Vb : Arv Z h0 b kb .char (0 : Int32) vs dv) :
    RmH l (⟨"java/lang/String", "<init>", "([C)V"⟩ : MethodName) jdk_42_method_3_code 2 none ({ frames := 2, cells := 4, slots := 8, locals := 29 } : Room) [] Z EL #[(.ref a), (.ref b)] h0 (fun v h L => v = none ∧ Fr n0 L ∧ Keep h0 h [a] ∧ Str Z h a []) := by
  refine RmH.of (plainFor_of_name pn_java_lang_String) ?_
  intro p e s m below meth cod T X hx hZ hby hml hown hnm hret hlk eT0 hS hk HC
  have hEL := hELof hw
  have wS := wSof hw
  have hown : s.vm.findClass "java/lang/String" = some m.cls := hown
  have hnm : meth.name = "<init>" := hnm
  have N0 := Fr.nil n0
  have Kp := Keep.refl h0 [a]
  refine Goes.cast (ef_2 m a b) ?_
  show Goes p e below _ T (mkF m 0 #[.val (.ref a), .val (.ref b)] [])
  refine Goes.of (fun _ => XS.aloadN X.here hx rfl (hb hby d2_0) rfl rfl) ?_
  show Goes p e below _ T (mkF m 1 #[.val (.ref a), .val (.ref b)] [(.ref a)])
  refine Goes.of (fun _ => XS.aloadN X.here hx rfl (hb hby d2_1) rfl rfl) ?_
  show Goes p e below _ T (mkF m 2 #[.val (.ref a), .val (.ref b)] [(.ref b), (.ref a)])
  refine Goes.of (fun _ => XS.iconst X.here hx rfl (hb hby d2_2)) ?_
  show Goes p e below _ T (mkF m 3 #[.val (.ref a), .val (.ref b)] [(.int (0 : Int32)), (.ref b), (.ref a)])
  refine Goes.of (fun _ => XS.aloadN X.here hx rfl (hb hby d2_3) rfl rfl) ?_
  show Goes p e below _ T (mkF m 4 #[.val (.ref a), .val (.ref b)] [(.ref b), (.int (0 : Int32)), (.ref b), (.ref a)])
  refine goLen X hx hZ eT0 Vb (g := (mkF m 4 #[.val (.ref a), .val (.ref b)] [(.ref b), (.int (0 : Int32)), (.ref b), (.ref a)])) rfl rfl (hb hby d2_4) ?_
  show Goes p e below _ T (mkF m 5 #[.val (.ref a), .val (.ref b)] [(.int (0 : Int32)), (.int (0 : Int32)), (.ref b), (.ref a)])
  refine Goes.of (fun _ => XS.aconstNull X.here hx rfl (hb hby d2_5)) ?_
  show Goes p e below _ T (mkF m 6 #[.val (.ref a), .val (.ref b)] [.null, (.int (0 : Int32)), (.int (0 : Int32)), (.ref b), (.ref a)])
  refine goSpecialW 0 X hS hk hEL HC hx hZ rfl hown (hw _ (List.mem_of_getElem? (i := 11) rfl)) (hw _ (List.mem_of_getElem? (i := 12) rfl)) (hw _ (List.mem_of_getElem? (i := 6) rfl)) (hw _ (List.mem_of_getElem? (i := 14) rfl)) (by decide) (rm_sinit40 l Z a0 hw a b h0 n0 O0 g_a Ex Fv Fc) eT0 (g := (mkF m 6 #[.val (.ref a), .val (.ref b)] [.null, (.int (0 : Int32)), (.int (0 : Int32)), (.ref b), (.ref a)])) rfl (by rw [hml]; rfl) a [(.ref b), (.int (0 : Int32)), (.int (0 : Int32)), .null] [] (lenOf pd___CIILjava_lang_Void__V rfl) rfl rfl (by show 2 * 0 + _ ≤ _; exact Nat.le_of_eq rfl) (hb hby d2_6) (by decide) (by decide) (by decide) (by decide) ?_
  intro v2 T2 L2 kk2 X2 hS hk hZ hown HC q2
  obtain ⟨rfl, Nq2, Kq2, Ss2⟩ := q2
  have N2 := Fr.app N0 Nq2
  have Ex := Ex.keep Kq2
  have Vb := Vb.keep Kq2 (ninS (Ne.symm hab) nin0)
  have Kp := Kp.trans Kq2 (allS (Or.inl (List.mem_of_getElem? (i := 0) rfl)) all0)
  have O0 := O0.keep Kq2 (allS g_a all0)
  show Goes p e below _ T2 (mkF m 9 #[.val (.ref a), .val (.ref b)] [])
  exact retVoidW X2 hS hk hZ hEL HC hx hret hlk (hb hby d2_9) (rfl : T2.heap = _) (by decide) (by decide) ⟨rfl, N2, Kp, Ss2⟩
set_option maxRecDepth 65536 in
set_option maxHeartbeats 40000000 in
theorem rm_str (l : Launch) (Z : State) (a0 : Array Value) (hw : ∀ d ∈ tables_1, d.before a0 Z = true) (n c1 c2 : Int32) (cz : Int32) (h0 : Heap) (n0 : Nat) (O0 : Old Z n0 h0) (Sc : Sta Z Z.heap "java/lang/String" "COMPACT_STRINGS" "Z" (.int cz)) (hcz : ¬ cz = 0) (hc1 : ¬ c1 < 0 ∧ ¬ (255 : Int32) < c1) (hc2 : ¬ c2 < 0 ∧ ¬ (255 : Int32) < c2) :
    RmH l (⟨"com/example/latchwork/latchwork/store/RedisRunKeptAllPinLaw", "make", "(ICC)Ljava/lang/String;"⟩ : MethodName) method_2_code 3 (some (.object "java/lang/String")) ({ frames := 4, cells := 6, slots := 12, locals := 66 } : Room) [] Z EL #[(.int n), (.int c1), (.int c2)] h0 (fun v h L => ∃ b, v = some (.ref b) ∧ Fr n0 L ∧ Keep h0 h [] ∧ n0 ≤ b ∧ Str Z h b (strL n c1 c2)) := by
  refine RmH.of (plainFor_of_name pn_com_example_latchwork_latchwork_store_RedisRunKeptAllPinLaw) ?_
  intro p e s m below meth cod T X hx hZ hby hml hown hnm hret hlk eT0 hS hk HC
  have hEL := hELof hw
  have wS := wSof hw
  have hown : s.vm.findClass "com/example/latchwork/latchwork/store/RedisRunKeptAllPinLaw" = some m.cls := hown
  have hnm : meth.name = "make" := hnm
  have N0 := Fr.nil n0
  have Kp := Keep.refl h0 []
  refine Goes.cast (ef_1 m n c1 c2) ?_
  show Goes p e below _ T (mkF m 0 #[.val (.int n), .val (.int c1), .val (.int c2)] [])
  refine Goes.of (fun _ => XS.iloadN X.here hx rfl (hb hby d1_0) rfl) ?_
  show Goes p e below _ T (mkF m 1 #[.val (.int n), .val (.int c1), .val (.int c2)] [(.int n)])
  by_cases hpc1 : n = (0 : Int32)
  · refine Goes.of (fun _ => XS.ifNo X.here hx rfl (hb hby d1_1) rfl ((if0 _ _).trans (teq hpc1).2)) ?_
    show Goes p e below _ T (mkF m 4 #[.val (.int n), .val (.int c1), .val (.int c2)] [])
    refine goNew X hx hZ hown (hw _ (List.mem_of_getElem? (i := 4) rfl)) (hw _ (List.mem_of_getElem? (i := 5) rfl)) (hw _ (List.mem_of_getElem? (i := 6) rfl)) eT0 (g := (mkF m 4 #[.val (.int n), .val (.int c1), .val (.int c2)] [])) rfl (hb hby d1_4) (by decide) (by decide) ?_
    intro T1 h1 b1 X1 eT1 E1 hb1 A1 D1
    have g_b1 : n0 ≤ b1 := Nat.le_trans (oldLe O0) hb1
    have sz_b1 : h0.size ≤ b1 := Nat.le_trans Kp.1 hb1
    have Kp := Kp.ext E1
    have hk := Nat.le_trans hk E1.1
    have HC := HC.trans (CHr.ext E1 HC.1)
    have O0 := O0.ext E1
    have F1_value : Fld Z h1 b1 "java/lang/String" "value" "[B" .null := D1 (Or.inr (hw _ (List.mem_of_getElem? (i := 20) rfl))) (ty := (.array .byte)) (by decide)
    have F1_coder : Fld Z h1 b1 "java/lang/String" "coder" "B" (.int (0 : Int32)) := D1 (Or.inr (hw _ (List.mem_of_getElem? (i := 21) rfl))) (ty := .byte) (by decide)
    show Goes p e below _ T1 (mkF m 7 #[.val (.int n), .val (.int c1), .val (.int c2)] [(.ref b1)])
    refine Goes.of (fun _ => XS.dup X1.here hx rfl (hb hby d1_7) rfl rfl) ?_
    show Goes p e below _ T1 (mkF m 8 #[.val (.int n), .val (.int c1), .val (.int c2)] [(.ref b1), (.ref b1)])
    refine Goes.of (fun _ => XS.iconst X1.here hx rfl (hb hby d1_8)) ?_
    show Goes p e below _ T1 (mkF m 9 #[.val (.int n), .val (.int c1), .val (.int c2)] [(.int (0 : Int32)), (.ref b1), (.ref b1)])
    refine goNewP 0 X1 hx hZ (hw _ (List.mem_of_getElem? (i := 7) rfl)) eT1 (g := (mkF m 9 #[.val (.int n), .val (.int c1), .val (.int c2)] [(.int (0 : Int32)), (.ref b1), (.ref b1)])) rfl (hb hby d1_9) rfl (by decide) (by decide) (by decide) (by decide) (by decide) (ad := "[C") (by first | rfl | decide) ?_
    intro T2 h2 b2 kA2 X2 eT2 E2 hb2 V2 A2
    have g_b2 : n0 ≤ b2 := Nat.le_trans (oldLe O0) hb2
    have sz_b2 : h0.size ≤ b2 := Nat.le_trans Kp.1 hb2
    have ne_b1_b2 : b1 ≠ b2 := Nat.ne_of_lt (Nat.lt_of_lt_of_le A1.lt hb2)
    have A1 := A1.ext E2
    have F1_value := F1_value.ext E2
    have F1_coder := F1_coder.ext E2
    have Kp := Kp.ext E2
    have hk := Nat.le_trans hk E2.1
    have HC := HC.trans (CHr.ext E2 HC.1)
    have O0 := O0.ext E2
    have V2 : Arv Z h2 b2 kA2 .char (0 : Int32) [] (.int (0 : Int32)) := V2
    show Goes p e below _ T2 (mkF m 11 #[.val (.int n), .val (.int c1), .val (.int c2)] [(.ref b2), (.ref b1), (.ref b1)])
    refine goSpecialW 1 X2 hS hk hEL HC hx hZ rfl hown (hw _ (List.mem_of_getElem? (i := 8) rfl)) (hw _ (List.mem_of_getElem? (i := 9) rfl)) (hw _ (List.mem_of_getElem? (i := 6) rfl)) (hw _ (List.mem_of_getElem? (i := 10) rfl)) (by decide) (rm_sinit0 l Z a0 hw b1 b2 _ _ _ h2 n0 O0 g_b1 A1 F1_value F1_coder ne_b1_b2 V2) eT2 (g := (mkF m 11 #[.val (.int n), .val (.int c1), .val (.int c2)] [(.ref b2), (.ref b1), (.ref b1)])) rfl (by rw [hml]; rfl) b1 [(.ref b2)] [(.ref b1)] (lenOf pd___C_V rfl) rfl rfl (by show 2 * 0 + _ ≤ _; exact Nat.le_of_eq rfl) (hb hby d1_11) (by decide) (by decide) (by decide) (by decide) ?_
    intro v3 T3 L3 kk3 X3 hS hk hZ hown HC q3
    obtain ⟨rfl, Nq3, Kq3, Ss3⟩ := q3
    have N3 := Fr.app N0 Nq3
    have A1 := A1.keep Kq3
    have V2 := V2.keep Kq3 (ninS (Ne.symm ne_b1_b2) nin0)
    have A2 := A2.keep Kq3
    have Kp := Kp.trans Kq3 (allS (Or.inr sz_b1) all0)
    have O0 := O0.keep Kq3 (allS g_b1 all0)
    show Goes p e below _ T3 (mkF m 14 #[.val (.int n), .val (.int c1), .val (.int c2)] [(.ref b1)])
    exact retRefW X3 hS hk hZ hEL HC hx hret hlk rfl rfl (hb hby d1_14) (rfl : T3.heap = _) (by decide) (by decide) ⟨b1, rfl, N3, Kp, g_b1, Ss3.of (by unfold strL; rw [if_pos hpc1])⟩
  · refine Goes.of (fun _ => XS.ifYes X.here hx rfl (pc0 := 1) (pc' := 15) rfl (hb hby d1_1) rfl ((if0 _ _).trans (feq hpc1).2) (by decide) (by decide)) ?_
    show Goes p e below _ T (mkF m 15 #[.val (.int n), .val (.int c1), .val (.int c2)] [])
    refine Goes.of (fun _ => XS.iloadN X.here hx rfl (hb hby d1_15) rfl) ?_
    show Goes p e below _ T (mkF m 16 #[.val (.int n), .val (.int c1), .val (.int c2)] [(.int n)])
    refine Goes.of (fun _ => XS.iconst X.here hx rfl (hb hby d1_16)) ?_
    show Goes p e below _ T (mkF m 17 #[.val (.int n), .val (.int c1), .val (.int c2)] [(.int (1 : Int32)), (.int n)])
    by_cases hpc17 : n = (1 : Int32)
    · refine Goes.of (fun _ => XS.icmpNo X.here hx rfl (hb hby d1_17) rfl (teq hpc17).2) ?_
      show Goes p e below _ T (mkF m 20 #[.val (.int n), .val (.int c1), .val (.int c2)] [])
      refine goNew X hx hZ hown (hw _ (List.mem_of_getElem? (i := 4) rfl)) (hw _ (List.mem_of_getElem? (i := 5) rfl)) (hw _ (List.mem_of_getElem? (i := 6) rfl)) eT0 (g := (mkF m 20 #[.val (.int n), .val (.int c1), .val (.int c2)] [])) rfl (hb hby d1_20) (by decide) (by decide) ?_
      intro T4 h4 b4 X4 eT4 E4 hb4 A4 D4
      have g_b4 : n0 ≤ b4 := Nat.le_trans (oldLe O0) hb4
      have sz_b4 : h0.size ≤ b4 := Nat.le_trans Kp.1 hb4
      have Kp := Kp.ext E4
      have hk := Nat.le_trans hk E4.1
      have HC := HC.trans (CHr.ext E4 HC.1)
      have O0 := O0.ext E4
      have F4_value : Fld Z h4 b4 "java/lang/String" "value" "[B" .null := D4 (Or.inr (hw _ (List.mem_of_getElem? (i := 20) rfl))) (ty := (.array .byte)) (by decide)
      have F4_coder : Fld Z h4 b4 "java/lang/String" "coder" "B" (.int (0 : Int32)) := D4 (Or.inr (hw _ (List.mem_of_getElem? (i := 21) rfl))) (ty := .byte) (by decide)
      show Goes p e below _ T4 (mkF m 23 #[.val (.int n), .val (.int c1), .val (.int c2)] [(.ref b4)])
      refine Goes.of (fun _ => XS.dup X4.here hx rfl (hb hby d1_23) rfl rfl) ?_
      show Goes p e below _ T4 (mkF m 24 #[.val (.int n), .val (.int c1), .val (.int c2)] [(.ref b4), (.ref b4)])
      refine Goes.of (fun _ => XS.iconst X4.here hx rfl (hb hby d1_24)) ?_
      show Goes p e below _ T4 (mkF m 25 #[.val (.int n), .val (.int c1), .val (.int c2)] [(.int (1 : Int32)), (.ref b4), (.ref b4)])
      refine goNewP 1 X4 hx hZ (hw _ (List.mem_of_getElem? (i := 7) rfl)) eT4 (g := (mkF m 25 #[.val (.int n), .val (.int c1), .val (.int c2)] [(.int (1 : Int32)), (.ref b4), (.ref b4)])) rfl (hb hby d1_25) rfl (by decide) (by decide) (by decide) (by decide) (by decide) (ad := "[C") (by first | rfl | decide) ?_
      intro T5 h5 b5 kA5 X5 eT5 E5 hb5 V5 A5
      have g_b5 : n0 ≤ b5 := Nat.le_trans (oldLe O0) hb5
      have sz_b5 : h0.size ≤ b5 := Nat.le_trans Kp.1 hb5
      have ne_b4_b5 : b4 ≠ b5 := Nat.ne_of_lt (Nat.lt_of_lt_of_le A4.lt hb5)
      have A4 := A4.ext E5
      have F4_value := F4_value.ext E5
      have F4_coder := F4_coder.ext E5
      have Kp := Kp.ext E5
      have hk := Nat.le_trans hk E5.1
      have HC := HC.trans (CHr.ext E5 HC.1)
      have O0 := O0.ext E5
      have V5 : Arv Z h5 b5 kA5 .char (1 : Int32) [(.int (0 : Int32))] (.int (0 : Int32)) := V5
      show Goes p e below _ T5 (mkF m 27 #[.val (.int n), .val (.int c1), .val (.int c2)] [(.ref b5), (.ref b4), (.ref b4)])
      refine Goes.of (fun _ => XS.dup X5.here hx rfl (hb hby d1_27) rfl rfl) ?_
      show Goes p e below _ T5 (mkF m 28 #[.val (.int n), .val (.int c1), .val (.int c2)] [(.ref b5), (.ref b5), (.ref b4), (.ref b4)])
      refine Goes.of (fun _ => XS.iconst X5.here hx rfl (hb hby d1_28)) ?_
      show Goes p e below _ T5 (mkF m 29 #[.val (.int n), .val (.int c1), .val (.int c2)] [(.int (0 : Int32)), (.ref b5), (.ref b5), (.ref b4), (.ref b4)])
      refine Goes.of (fun _ => XS.iloadN X5.here hx rfl (hb hby d1_29) rfl) ?_
      show Goes p e below _ T5 (mkF m 30 #[.val (.int n), .val (.int c1), .val (.int c2)] [(.int c1), (.int (0 : Int32)), (.ref b5), (.ref b5), (.ref b4), (.ref b4)])
      have Sf_b5 : Safe Z EL _ h5 b5 := Safe.arv hZ.alike V5 (by decide)
      refine goStC 0 X5 hx hZ eT5 V5 (by decide) (by decide) rfl (Nat.lt_of_lt_of_le (Nat.lt_succ_self _) (Nat.le_of_ble_eq_true rfl)) (g := (mkF m 30 #[.val (.int n), .val (.int c1), .val (.int c2)] [(.int c1), (.int (0 : Int32)), (.ref b5), (.ref b5), (.ref b4), (.ref b4)])) rfl rfl (hb hby d1_30) ?_
      intro T6 h6 X6 eT6 W6 V5
      have N6 := Fr.snoc X6 N0 g_b5
      have A4 := A4.wr W6
      have F4_value := F4_value.other W6 (Or.inl ne_b4_b5)
      have F4_coder := F4_coder.other W6 (Or.inl ne_b4_b5)
      have A5 := A5.wr W6
      have Kp := Kp.wr W6 (Or.inr sz_b5)
      have HC := HC.trans (CHr.wr W6 Sf_b5 HC.1)
      have hk := Nat.le_trans hk (Nat.le_of_eq (Wr.size W6).symm)
      have O0 := O0.wr W6 g_b5
      have V5 : Arv Z h6 b5 kA5 .char (1 : Int32) [(.int (nar .char c1))] (.int (0 : Int32)) := V5
      show Goes p e below _ T6 (mkF m 31 #[.val (.int n), .val (.int c1), .val (.int c2)] [(.ref b5), (.ref b4), (.ref b4)])
      have Sf_b4 : Safe Z EL _ h6 b4 := safeNull hZ.alike A4 F4_value
      refine goNewS (cs := [(nar .char c1)]) 1 1 X6 hx hZ hown (hwsOf hw) (hw _ (List.mem_of_getElem? (i := 8) rfl)) (hw _ (List.mem_of_getElem? (i := 9) rfl)) (hw _ (List.mem_of_getElem? (i := 10) rfl)) (hw _ (List.mem_of_getElem? (i := 5) rfl)) g_b4 (oldLe O0) A4 F4_value F4_coder V5 rfl (Sc.ext O0.2) hcz rfl rfl (by decide) (by decide) (by intro c hc; simp only [List.mem_cons, List.not_mem_nil, or_false] at hc; rcases hc with rfl; (· rw [narC hc1.1 (le255 hc1.2)]; exact hc1)) eT6 (g := (mkF m 31 #[.val (.int n), .val (.int c1), .val (.int c2)] [(.ref b5), (.ref b4), (.ref b4)])) rfl (by rw [hml]; rfl) [(.ref b4)] (lenOf pd___C_V rfl) rfl (by show 2 * 0 + _ ≤ _; exact Nat.le_of_eq rfl) (hb hby d1_31) (by decide) (by decide) (by decide) (by decide) ?_
      intro T7 L7 X7 Nq7 Kq7 S7
      have S7 := S7.of (show [(nar .char c1)] = [c1] by (try rw [narC hc1.1 (le255 hc1.2)]))
      have N7 := Fr.app N6 Nq7
      have V5 := V5.keep Kq7 (ninS (Ne.symm ne_b4_b5) nin0)
      have A5 := A5.keep Kq7
      have Kp := Kp.trans Kq7 (allS (Or.inr sz_b4) all0)
      have HC := HC.trans (CHr.keep Kq7 (sfS Sf_b4 sf0) HC.1)
      have hk := Nat.le_trans hk Kq7.1
      have O0 := O0.keep Kq7 (allS g_b4 all0)
      show Goes p e below _ T7 (mkF m 34 #[.val (.int n), .val (.int c1), .val (.int c2)] [(.ref b4)])
      exact retRefW X7 hS hk hZ hEL HC hx hret hlk rfl rfl (hb hby d1_34) (rfl : T7.heap = _) (by decide) (by decide) ⟨b4, rfl, N7, Kp, g_b4, S7.of (by unfold strL; rw [if_neg hpc1, if_pos hpc17])⟩
    · refine Goes.of (fun _ => XS.icmpYes X.here hx rfl (pc0 := 17) (pc' := 35) rfl (hb hby d1_17) rfl (feq hpc17).2 (by decide) (by decide)) ?_
      show Goes p e below _ T (mkF m 35 #[.val (.int n), .val (.int c1), .val (.int c2)] [])
      refine goNew X hx hZ hown (hw _ (List.mem_of_getElem? (i := 4) rfl)) (hw _ (List.mem_of_getElem? (i := 5) rfl)) (hw _ (List.mem_of_getElem? (i := 6) rfl)) eT0 (g := (mkF m 35 #[.val (.int n), .val (.int c1), .val (.int c2)] [])) rfl (hb hby d1_35) (by decide) (by decide) ?_
      intro T8 h8 b8 X8 eT8 E8 hb8 A8 D8
      have g_b8 : n0 ≤ b8 := Nat.le_trans (oldLe O0) hb8
      have sz_b8 : h0.size ≤ b8 := Nat.le_trans Kp.1 hb8
      have Kp := Kp.ext E8
      have hk := Nat.le_trans hk E8.1
      have HC := HC.trans (CHr.ext E8 HC.1)
      have O0 := O0.ext E8
      have F8_value : Fld Z h8 b8 "java/lang/String" "value" "[B" .null := D8 (Or.inr (hw _ (List.mem_of_getElem? (i := 20) rfl))) (ty := (.array .byte)) (by decide)
      have F8_coder : Fld Z h8 b8 "java/lang/String" "coder" "B" (.int (0 : Int32)) := D8 (Or.inr (hw _ (List.mem_of_getElem? (i := 21) rfl))) (ty := .byte) (by decide)
      show Goes p e below _ T8 (mkF m 38 #[.val (.int n), .val (.int c1), .val (.int c2)] [(.ref b8)])
      refine Goes.of (fun _ => XS.dup X8.here hx rfl (hb hby d1_38) rfl rfl) ?_
      show Goes p e below _ T8 (mkF m 39 #[.val (.int n), .val (.int c1), .val (.int c2)] [(.ref b8), (.ref b8)])
      refine Goes.of (fun _ => XS.iconst X8.here hx rfl (hb hby d1_39)) ?_
      show Goes p e below _ T8 (mkF m 40 #[.val (.int n), .val (.int c1), .val (.int c2)] [(.int (2 : Int32)), (.ref b8), (.ref b8)])
      refine goNewP 2 X8 hx hZ (hw _ (List.mem_of_getElem? (i := 7) rfl)) eT8 (g := (mkF m 40 #[.val (.int n), .val (.int c1), .val (.int c2)] [(.int (2 : Int32)), (.ref b8), (.ref b8)])) rfl (hb hby d1_40) rfl (by decide) (by decide) (by decide) (by decide) (by decide) (ad := "[C") (by first | rfl | decide) ?_
      intro T9 h9 b9 kA9 X9 eT9 E9 hb9 V9 A9
      have g_b9 : n0 ≤ b9 := Nat.le_trans (oldLe O0) hb9
      have sz_b9 : h0.size ≤ b9 := Nat.le_trans Kp.1 hb9
      have ne_b8_b9 : b8 ≠ b9 := Nat.ne_of_lt (Nat.lt_of_lt_of_le A8.lt hb9)
      have A8 := A8.ext E9
      have F8_value := F8_value.ext E9
      have F8_coder := F8_coder.ext E9
      have Kp := Kp.ext E9
      have hk := Nat.le_trans hk E9.1
      have HC := HC.trans (CHr.ext E9 HC.1)
      have O0 := O0.ext E9
      have V9 : Arv Z h9 b9 kA9 .char (2 : Int32) [(.int (0 : Int32)), (.int (0 : Int32))] (.int (0 : Int32)) := V9
      show Goes p e below _ T9 (mkF m 42 #[.val (.int n), .val (.int c1), .val (.int c2)] [(.ref b9), (.ref b8), (.ref b8)])
      refine Goes.of (fun _ => XS.dup X9.here hx rfl (hb hby d1_42) rfl rfl) ?_
      show Goes p e below _ T9 (mkF m 43 #[.val (.int n), .val (.int c1), .val (.int c2)] [(.ref b9), (.ref b9), (.ref b8), (.ref b8)])
      refine Goes.of (fun _ => XS.iconst X9.here hx rfl (hb hby d1_43)) ?_
      show Goes p e below _ T9 (mkF m 44 #[.val (.int n), .val (.int c1), .val (.int c2)] [(.int (0 : Int32)), (.ref b9), (.ref b9), (.ref b8), (.ref b8)])
      refine Goes.of (fun _ => XS.iloadN X9.here hx rfl (hb hby d1_44) rfl) ?_
      show Goes p e below _ T9 (mkF m 45 #[.val (.int n), .val (.int c1), .val (.int c2)] [(.int c1), (.int (0 : Int32)), (.ref b9), (.ref b9), (.ref b8), (.ref b8)])
      have Sf_b9 : Safe Z EL _ h9 b9 := Safe.arv hZ.alike V9 (by decide)
      refine goStC 0 X9 hx hZ eT9 V9 (by decide) (by decide) rfl (Nat.lt_of_lt_of_le (Nat.lt_succ_self _) (Nat.le_of_ble_eq_true rfl)) (g := (mkF m 45 #[.val (.int n), .val (.int c1), .val (.int c2)] [(.int c1), (.int (0 : Int32)), (.ref b9), (.ref b9), (.ref b8), (.ref b8)])) rfl rfl (hb hby d1_45) ?_
      intro T10 h10 X10 eT10 W10 V9
      have N10 := Fr.snoc X10 N0 g_b9
      have A8 := A8.wr W10
      have F8_value := F8_value.other W10 (Or.inl ne_b8_b9)
      have F8_coder := F8_coder.other W10 (Or.inl ne_b8_b9)
      have A9 := A9.wr W10
      have Kp := Kp.wr W10 (Or.inr sz_b9)
      have HC := HC.trans (CHr.wr W10 Sf_b9 HC.1)
      have hk := Nat.le_trans hk (Nat.le_of_eq (Wr.size W10).symm)
      have O0 := O0.wr W10 g_b9
      have V9 : Arv Z h10 b9 kA9 .char (2 : Int32) [(.int (nar .char c1)), (.int (0 : Int32))] (.int (0 : Int32)) := V9
      show Goes p e below _ T10 (mkF m 46 #[.val (.int n), .val (.int c1), .val (.int c2)] [(.ref b9), (.ref b8), (.ref b8)])
      refine Goes.of (fun _ => XS.dup X10.here hx rfl (hb hby d1_46) rfl rfl) ?_
      show Goes p e below _ T10 (mkF m 47 #[.val (.int n), .val (.int c1), .val (.int c2)] [(.ref b9), (.ref b9), (.ref b8), (.ref b8)])
      refine Goes.of (fun _ => XS.iconst X10.here hx rfl (hb hby d1_47)) ?_
      show Goes p e below _ T10 (mkF m 48 #[.val (.int n), .val (.int c1), .val (.int c2)] [(.int (1 : Int32)), (.ref b9), (.ref b9), (.ref b8), (.ref b8)])
      refine Goes.of (fun _ => XS.iloadN X10.here hx rfl (hb hby d1_48) rfl) ?_
      show Goes p e below _ T10 (mkF m 49 #[.val (.int n), .val (.int c1), .val (.int c2)] [(.int c2), (.int (1 : Int32)), (.ref b9), (.ref b9), (.ref b8), (.ref b8)])
      have Sf_b9 : Safe Z EL _ h10 b9 := Safe.arv hZ.alike V9 (by decide)
      refine goStC 1 X10 hx hZ eT10 V9 (by decide) (by decide) rfl (Nat.lt_of_lt_of_le (Nat.lt_succ_self _) (Nat.le_of_ble_eq_true rfl)) (g := (mkF m 49 #[.val (.int n), .val (.int c1), .val (.int c2)] [(.int c2), (.int (1 : Int32)), (.ref b9), (.ref b9), (.ref b8), (.ref b8)])) rfl rfl (hb hby d1_49) ?_
      intro T11 h11 X11 eT11 W11 V9
      have N11 := Fr.snoc X11 N10 g_b9
      have A8 := A8.wr W11
      have F8_value := F8_value.other W11 (Or.inl ne_b8_b9)
      have F8_coder := F8_coder.other W11 (Or.inl ne_b8_b9)
      have A9 := A9.wr W11
      have Kp := Kp.wr W11 (Or.inr sz_b9)
      have HC := HC.trans (CHr.wr W11 Sf_b9 HC.1)
      have hk := Nat.le_trans hk (Nat.le_of_eq (Wr.size W11).symm)
      have O0 := O0.wr W11 g_b9
      have V9 : Arv Z h11 b9 kA9 .char (2 : Int32) [(.int (nar .char c1)), (.int (nar .char c2))] (.int (0 : Int32)) := V9
      show Goes p e below _ T11 (mkF m 50 #[.val (.int n), .val (.int c1), .val (.int c2)] [(.ref b9), (.ref b8), (.ref b8)])
      have Sf_b8 : Safe Z EL _ h11 b8 := safeNull hZ.alike A8 F8_value
      refine goNewS (cs := [(nar .char c1), (nar .char c2)]) 2 1 X11 hx hZ hown (hwsOf hw) (hw _ (List.mem_of_getElem? (i := 8) rfl)) (hw _ (List.mem_of_getElem? (i := 9) rfl)) (hw _ (List.mem_of_getElem? (i := 10) rfl)) (hw _ (List.mem_of_getElem? (i := 5) rfl)) g_b8 (oldLe O0) A8 F8_value F8_coder V9 rfl (Sc.ext O0.2) hcz rfl rfl (by decide) (by decide) (by intro c hc; simp only [List.mem_cons, List.not_mem_nil, or_false] at hc; rcases hc with rfl | rfl; (· rw [narC hc1.1 (le255 hc1.2)]; exact hc1); (· rw [narC hc2.1 (le255 hc2.2)]; exact hc2)) eT11 (g := (mkF m 50 #[.val (.int n), .val (.int c1), .val (.int c2)] [(.ref b9), (.ref b8), (.ref b8)])) rfl (by rw [hml]; rfl) [(.ref b8)] (lenOf pd___C_V rfl) rfl (by show 2 * 0 + _ ≤ _; exact Nat.le_of_eq rfl) (hb hby d1_50) (by decide) (by decide) (by decide) (by decide) ?_
      intro T12 L12 X12 Nq12 Kq12 S12
      have S12 := S12.of (show [(nar .char c1), (nar .char c2)] = [c1, c2] by (try rw [narC hc1.1 (le255 hc1.2)]); (try rw [narC hc2.1 (le255 hc2.2)]))
      have N12 := Fr.app N11 Nq12
      have V9 := V9.keep Kq12 (ninS (Ne.symm ne_b8_b9) nin0)
      have A9 := A9.keep Kq12
      have Kp := Kp.trans Kq12 (allS (Or.inr sz_b8) all0)
      have HC := HC.trans (CHr.keep Kq12 (sfS Sf_b8 sf0) HC.1)
      have hk := Nat.le_trans hk Kq12.1
      have O0 := O0.keep Kq12 (allS g_b8 all0)
      show Goes p e below _ T12 (mkF m 53 #[.val (.int n), .val (.int c1), .val (.int c2)] [(.ref b8)])
      exact retRefW X12 hS hk hZ hEL HC hx hret hlk rfl rfl (hb hby d1_53) (rfl : T12.heap = _) (by decide) (by decide) ⟨b8, rfl, N12, Kp, g_b8, S12.of (by unfold strL; rw [if_neg hpc1, if_neg hpc17])⟩
set_option maxRecDepth 65536 in
set_option maxHeartbeats 40000000 in
theorem rm_record (l : Launch) (Z : State) (a0 : Array Value) (hw : ∀ d ∈ tables_1, d.before a0 Z = true) (a : Addr) (h0 : Heap) (n0 : Nat) (O0 : Old Z n0 h0)  :
    Rm l (⟨"java/lang/Record", "<init>", "()V"⟩ : MethodName) jdk_30_method_1_code 1 none ({ frames := 1, cells := 0, slots := 0, locals := 12 } : Room) [] Z #[(.ref a)] h0 (fun v h L => v = none ∧ Fr n0 L ∧ h = h0) := by
  refine Rm.of (plainFor_of_name pn_java_lang_Record) ?_
  intro p e s m below meth cod T X hx hZ hby hml hown hnm hret hlk eT0
  have hown : s.vm.findClass "java/lang/Record" = some m.cls := hown
  have hnm : meth.name = "<init>" := hnm
  have N0 := Fr.nil n0
  refine Goes.cast (ef_6 m a) ?_
  show Goes p e below _ T (mkF m 0 #[.val (.ref a)] [])
  refine Goes.of (fun _ => XS.aloadN X.here hx rfl (hb hby d6_0) rfl rfl) ?_
  show Goes p e below _ T (mkF m 1 #[.val (.ref a)] [(.ref a)])
  refine goInitO 0 X hx hZ hown (hw _ (List.mem_of_getElem? (i := 37) rfl)) (hw _ (List.mem_of_getElem? (i := 16) rfl)) (hw _ (List.mem_of_getElem? (i := 17) rfl)) eT0 (g := (mkF m 1 #[.val (.ref a)] [(.ref a)])) rfl (by rw [hml]; rfl) rfl (hb hby d6_1) (by decide) (by show 2 * 0 + _ ≤ _; exact Nat.le_of_eq rfl) (by decide) ?_
  intro T1 X1 eT1
  show Goes p e below _ T1 (mkF m 4 #[.val (.ref a)] [])
  exact retVoid X1 hx hret hlk (hb hby d6_4) eT1 (by decide) (by decide) ⟨rfl, N0, rfl⟩
set_option maxRecDepth 65536 in
set_option maxHeartbeats 40000000 in
theorem rm_wec0 (l : Launch) (Z : State) (a0 : Array Value) (hw : ∀ d ∈ tables_1, d.before a0 Z = true) (a : Addr) (h0 : Heap) (n0 : Nat) (O0 : Old Z n0 h0) (F1 : Fld Z h0 a "com/example/latchwork/latchwork/store/RedisRun$Origin" "wroteEveryChange" "Z" (.int (0 : Int32))) :
    Rm l (⟨"com/example/latchwork/latchwork/store/RedisRun$Origin", "wroteEveryChange", "()Z"⟩ : MethodName) prog_17_method_7_code 1 (some .boolean) ({ frames := 0, cells := 0, slots := 0, locals := 0 } : Room) [] Z #[(.ref a)] h0 (fun v h L => v = some (.int 0) ∧ Fr n0 L ∧ h = h0) := by
  refine Rm.of (plainFor_of_name pn_com_example_latchwork_latchwork_store_RedisRun_Origin) ?_
  intro p e s m below meth cod T X hx hZ hby hml hown hnm hret hlk eT0
  have hown : s.vm.findClass "com/example/latchwork/latchwork/store/RedisRun$Origin" = some m.cls := hown
  have hnm : meth.name = "wroteEveryChange" := hnm
  have N0 := Fr.nil n0
  refine Goes.cast (ef_8 m a) ?_
  show Goes p e below _ T (mkF m 0 #[.val (.ref a)] [])
  refine Goes.of (fun _ => XS.aloadN X.here hx rfl (hb hby d8_0) rfl rfl) ?_
  show Goes p e below _ T (mkF m 1 #[.val (.ref a)] [(.ref a)])
  refine goGet X hx hZ hown (host := "") (Or.inl (hw _ (List.mem_of_getElem? (i := 40) rfl))) Via.refl eT0 F1 (g := (mkF m 1 #[.val (.ref a)] [(.ref a)])) rfl rfl (hb hby d8_1) ?_
  intro T1 X1 eT1
  show Goes p e below _ T1 (mkF m 4 #[.val (.ref a)] [(.int (0 : Int32))])
  exact retZ (t := .boolean) X1 hx hret hlk (by simp) (hb hby d8_4) eT1 (by decide) (by decide) ⟨rfl, N0, rfl⟩
set_option maxRecDepth 65536 in
set_option maxHeartbeats 40000000 in
theorem rm_init00 (l : Launch) (Z : State) (a0 : Array Value) (hw : ∀ d ∈ tables_1, d.before a0 Z = true) (a u : Addr) (h0 : Heap) (n0 : Nat) (O0 : Old Z n0 h0) (g_a : n0 ≤ a) (Ex : Exa Z h0 a "com/example/latchwork/latchwork/store/RedisRun$Origin") (F0 : Fld Z h0 a "com/example/latchwork/latchwork/store/RedisRun$Origin" "id" "Ljava/lang/String;" .null) (F1 : Fld Z h0 a "com/example/latchwork/latchwork/store/RedisRun$Origin" "wroteEveryChange" "Z" (.int (0 : Int32))) :
    Rm l (⟨"com/example/latchwork/latchwork/store/RedisRun$Origin", "<init>", "(Ljava/lang/String;Z)V"⟩ : MethodName) prog_17_method_1_code 3 none ({ frames := 2, cells := 0, slots := 0, locals := 24 } : Room) [] Z #[(.ref a), (.ref u), (.int (0 : Int32))] h0 (fun v h L => v = none ∧ Fr n0 L ∧ Keep h0 h [a] ∧ Fld Z h a "com/example/latchwork/latchwork/store/RedisRun$Origin" "id" "Ljava/lang/String;" (.ref u) ∧ Fld Z h a "com/example/latchwork/latchwork/store/RedisRun$Origin" "wroteEveryChange" "Z" (.int (0 : Int32))) := by
  refine Rm.of (plainFor_of_name pn_com_example_latchwork_latchwork_store_RedisRun_Origin) ?_
  intro p e s m below meth cod T X hx hZ hby hml hown hnm hret hlk eT0
  have hown : s.vm.findClass "com/example/latchwork/latchwork/store/RedisRun$Origin" = some m.cls := hown
  have hnm : meth.name = "<init>" := hnm
  have N0 := Fr.nil n0
  have Kp := Keep.refl h0 [a]
  refine Goes.cast (ef_5 m a u (0 : Int32)) ?_
  show Goes p e below _ T (mkF m 0 #[.val (.ref a), .val (.ref u), .val (.int (0 : Int32))] [])
  refine Goes.of (fun _ => XS.aloadN X.here hx rfl (hb hby d5_0) rfl rfl) ?_
  show Goes p e below _ T (mkF m 1 #[.val (.ref a), .val (.ref u), .val (.int (0 : Int32))] [(.ref a)])
  refine goSpecial 0 X hx hZ rfl hown (hw _ (List.mem_of_getElem? (i := 32) rfl)) (hw _ (List.mem_of_getElem? (i := 33) rfl)) (hw _ (List.mem_of_getElem? (i := 35) rfl)) (hw _ (List.mem_of_getElem? (i := 36) rfl)) (by decide) (rm_record l Z a0 hw a h0 n0 O0) eT0 (g := (mkF m 1 #[.val (.ref a), .val (.ref u), .val (.int (0 : Int32))] [(.ref a)])) rfl (by rw [hml]; rfl) a [] [] (lenOf pd___V rfl) rfl rfl (by show 2 * 0 + _ ≤ _; exact Nat.le_of_eq rfl) (hb hby d5_1) (by decide) (by decide) (by decide) (by decide) ?_
  intro v1 T1 L1 X1 q1
  obtain ⟨rfl, Nq1, eT1⟩ := q1
  have N1 := Fr.app N0 Nq1
  show Goes p e below _ T1 (mkF m 4 #[.val (.ref a), .val (.ref u), .val (.int (0 : Int32))] [])
  refine Goes.of (fun _ => XS.aloadN X1.here hx rfl (hb hby d5_4) rfl rfl) ?_
  show Goes p e below _ T1 (mkF m 5 #[.val (.ref a), .val (.ref u), .val (.int (0 : Int32))] [(.ref a)])
  refine Goes.of (fun _ => XS.aloadN X1.here hx rfl (hb hby d5_5) rfl rfl) ?_
  show Goes p e below _ T1 (mkF m 6 #[.val (.ref a), .val (.ref u), .val (.int (0 : Int32))] [(.ref u), (.ref a)])
  refine goPut (ty := (.object "java/lang/String")) X1 hx hZ hown (host := "") (Or.inl (hw _ (List.mem_of_getElem? (i := 38) rfl))) Via.refl eT1 F0 Ex (Or.inr ⟨(hw _ (List.mem_of_getElem? (i := 39) rfl)), rfl, hnm⟩) (hw _ (List.mem_of_getElem? (i := 27) rfl)) (by decide) rfl rfl (g := (mkF m 6 #[.val (.ref a), .val (.ref u), .val (.int (0 : Int32))] [(.ref u), (.ref a)])) rfl rfl (hb hby d5_6) ?_
  intro T2 h2 X2 eT2 W2
  have F0 := Fld.same W2 F0
  have N2 := Fr.snoc X2 N1 g_a
  have Ex := Ex.wr W2
  have F1 := F1.other W2 (Or.inr (slot_ne (Or.inr (hw _ (List.mem_of_getElem? (i := 41) rfl))) (Or.inr (hw _ (List.mem_of_getElem? (i := 39) rfl))) (by decide) (t := .boolean) (t' := (.object "java/lang/String")) (by decide) (by decide)))
  have Kp := Kp.wr W2 (Or.inl (List.mem_of_getElem? (i := 0) rfl))
  have O0 := O0.wr W2 g_a
  show Goes p e below _ T2 (mkF m 9 #[.val (.ref a), .val (.ref u), .val (.int (0 : Int32))] [])
  refine Goes.of (fun _ => XS.aloadN X2.here hx rfl (hb hby d5_9) rfl rfl) ?_
  show Goes p e below _ T2 (mkF m 10 #[.val (.ref a), .val (.ref u), .val (.int (0 : Int32))] [(.ref a)])
  refine Goes.of (fun _ => XS.iloadN X2.here hx rfl (hb hby d5_10) rfl) ?_
  show Goes p e below _ T2 (mkF m 11 #[.val (.ref a), .val (.ref u), .val (.int (0 : Int32))] [(.int (0 : Int32)), (.ref a)])
  refine goPut (ty := .boolean) X2 hx hZ hown (host := "") (Or.inl (hw _ (List.mem_of_getElem? (i := 40) rfl))) Via.refl eT2 F1 Ex (Or.inr ⟨(hw _ (List.mem_of_getElem? (i := 41) rfl)), rfl, hnm⟩) (hw _ (List.mem_of_getElem? (i := 27) rfl)) (by decide) rfl rfl (g := (mkF m 11 #[.val (.ref a), .val (.ref u), .val (.int (0 : Int32))] [(.int (0 : Int32)), (.ref a)])) rfl rfl (hb hby d5_11) ?_
  intro T3 h3 X3 eT3 W3
  have F1 := Fld.same W3 F1
  have N3 := Fr.snoc X3 N2 g_a
  have Ex := Ex.wr W3
  have F0 := F0.other W3 (Or.inr (slot_ne (Or.inr (hw _ (List.mem_of_getElem? (i := 39) rfl))) (Or.inr (hw _ (List.mem_of_getElem? (i := 41) rfl))) (by decide) (t := (.object "java/lang/String")) (t' := .boolean) (by decide) (by decide)))
  have Kp := Kp.wr W3 (Or.inl (List.mem_of_getElem? (i := 0) rfl))
  have O0 := O0.wr W3 g_a
  show Goes p e below _ T3 (mkF m 14 #[.val (.ref a), .val (.ref u), .val (.int (0 : Int32))] [])
  exact retVoid X3 hx hret hlk (hb hby d5_14) eT3 (by decide) (by decide) ⟨rfl, N3, Kp, F0, F1⟩
set_option maxRecDepth 65536 in
set_option maxHeartbeats 40000000 in
theorem rm_init10 (l : Launch) (Z : State) (a0 : Array Value) (hw : ∀ d ∈ tables_1, d.before a0 Z = true) (a : Addr) (h0 : Heap) (n0 : Nat) (O0 : Old Z n0 h0) (g_a : n0 ≤ a) (Ex : Exa Z h0 a "com/example/latchwork/latchwork/store/RedisRun$Origin") (F0 : Fld Z h0 a "com/example/latchwork/latchwork/store/RedisRun$Origin" "id" "Ljava/lang/String;" .null) (F1 : Fld Z h0 a "com/example/latchwork/latchwork/store/RedisRun$Origin" "wroteEveryChange" "Z" (.int (0 : Int32))) :
    Rm l (⟨"com/example/latchwork/latchwork/store/RedisRun$Origin", "<init>", "(Ljava/lang/String;Z)V"⟩ : MethodName) prog_17_method_1_code 3 none ({ frames := 2, cells := 0, slots := 0, locals := 24 } : Room) [] Z #[(.ref a), .null, (.int (0 : Int32))] h0 (fun v h L => v = none ∧ Fr n0 L ∧ Keep h0 h [a] ∧ Fld Z h a "com/example/latchwork/latchwork/store/RedisRun$Origin" "id" "Ljava/lang/String;" .null ∧ Fld Z h a "com/example/latchwork/latchwork/store/RedisRun$Origin" "wroteEveryChange" "Z" (.int (0 : Int32))) := by
  refine Rm.of (plainFor_of_name pn_com_example_latchwork_latchwork_store_RedisRun_Origin) ?_
  intro p e s m below meth cod T X hx hZ hby hml hown hnm hret hlk eT0
  have hown : s.vm.findClass "com/example/latchwork/latchwork/store/RedisRun$Origin" = some m.cls := hown
  have hnm : meth.name = "<init>" := hnm
  have N0 := Fr.nil n0
  have Kp := Keep.refl h0 [a]
  refine Goes.cast (ef_5n1 m a (0 : Int32)) ?_
  show Goes p e below _ T (mkF m 0 #[.val (.ref a), .val .null, .val (.int (0 : Int32))] [])
  refine Goes.of (fun _ => XS.aloadN X.here hx rfl (hb hby d5_0) rfl rfl) ?_
  show Goes p e below _ T (mkF m 1 #[.val (.ref a), .val .null, .val (.int (0 : Int32))] [(.ref a)])
  refine goSpecial 0 X hx hZ rfl hown (hw _ (List.mem_of_getElem? (i := 32) rfl)) (hw _ (List.mem_of_getElem? (i := 33) rfl)) (hw _ (List.mem_of_getElem? (i := 35) rfl)) (hw _ (List.mem_of_getElem? (i := 36) rfl)) (by decide) (rm_record l Z a0 hw a h0 n0 O0) eT0 (g := (mkF m 1 #[.val (.ref a), .val .null, .val (.int (0 : Int32))] [(.ref a)])) rfl (by rw [hml]; rfl) a [] [] (lenOf pd___V rfl) rfl rfl (by show 2 * 0 + _ ≤ _; exact Nat.le_of_eq rfl) (hb hby d5_1) (by decide) (by decide) (by decide) (by decide) ?_
  intro v1 T1 L1 X1 q1
  obtain ⟨rfl, Nq1, eT1⟩ := q1
  have N1 := Fr.app N0 Nq1
  show Goes p e below _ T1 (mkF m 4 #[.val (.ref a), .val .null, .val (.int (0 : Int32))] [])
  refine Goes.of (fun _ => XS.aloadN X1.here hx rfl (hb hby d5_4) rfl rfl) ?_
  show Goes p e below _ T1 (mkF m 5 #[.val (.ref a), .val .null, .val (.int (0 : Int32))] [(.ref a)])
  refine Goes.of (fun _ => XS.aloadN X1.here hx rfl (hb hby d5_5) rfl rfl) ?_
  show Goes p e below _ T1 (mkF m 6 #[.val (.ref a), .val .null, .val (.int (0 : Int32))] [.null, (.ref a)])
  refine goPut (ty := (.object "java/lang/String")) X1 hx hZ hown (host := "") (Or.inl (hw _ (List.mem_of_getElem? (i := 38) rfl))) Via.refl eT1 F0 Ex (Or.inr ⟨(hw _ (List.mem_of_getElem? (i := 39) rfl)), rfl, hnm⟩) (hw _ (List.mem_of_getElem? (i := 27) rfl)) (by decide) rfl rfl (g := (mkF m 6 #[.val (.ref a), .val .null, .val (.int (0 : Int32))] [.null, (.ref a)])) rfl rfl (hb hby d5_6) ?_
  intro T2 h2 X2 eT2 W2
  have F0 := Fld.same W2 F0
  have N2 := Fr.snoc X2 N1 g_a
  have Ex := Ex.wr W2
  have F1 := F1.other W2 (Or.inr (slot_ne (Or.inr (hw _ (List.mem_of_getElem? (i := 41) rfl))) (Or.inr (hw _ (List.mem_of_getElem? (i := 39) rfl))) (by decide) (t := .boolean) (t' := (.object "java/lang/String")) (by decide) (by decide)))
  have Kp := Kp.wr W2 (Or.inl (List.mem_of_getElem? (i := 0) rfl))
  have O0 := O0.wr W2 g_a
  show Goes p e below _ T2 (mkF m 9 #[.val (.ref a), .val .null, .val (.int (0 : Int32))] [])
  refine Goes.of (fun _ => XS.aloadN X2.here hx rfl (hb hby d5_9) rfl rfl) ?_
  show Goes p e below _ T2 (mkF m 10 #[.val (.ref a), .val .null, .val (.int (0 : Int32))] [(.ref a)])
  refine Goes.of (fun _ => XS.iloadN X2.here hx rfl (hb hby d5_10) rfl) ?_
  show Goes p e below _ T2 (mkF m 11 #[.val (.ref a), .val .null, .val (.int (0 : Int32))] [(.int (0 : Int32)), (.ref a)])
  refine goPut (ty := .boolean) X2 hx hZ hown (host := "") (Or.inl (hw _ (List.mem_of_getElem? (i := 40) rfl))) Via.refl eT2 F1 Ex (Or.inr ⟨(hw _ (List.mem_of_getElem? (i := 41) rfl)), rfl, hnm⟩) (hw _ (List.mem_of_getElem? (i := 27) rfl)) (by decide) rfl rfl (g := (mkF m 11 #[.val (.ref a), .val .null, .val (.int (0 : Int32))] [(.int (0 : Int32)), (.ref a)])) rfl rfl (hb hby d5_11) ?_
  intro T3 h3 X3 eT3 W3
  have F1 := Fld.same W3 F1
  have N3 := Fr.snoc X3 N2 g_a
  have Ex := Ex.wr W3
  have F0 := F0.other W3 (Or.inr (slot_ne (Or.inr (hw _ (List.mem_of_getElem? (i := 39) rfl))) (Or.inr (hw _ (List.mem_of_getElem? (i := 41) rfl))) (by decide) (t := (.object "java/lang/String")) (t' := .boolean) (by decide) (by decide)))
  have Kp := Kp.wr W3 (Or.inl (List.mem_of_getElem? (i := 0) rfl))
  have O0 := O0.wr W3 g_a
  show Goes p e below _ T3 (mkF m 14 #[.val (.ref a), .val .null, .val (.int (0 : Int32))] [])
  exact retVoid X3 hx hret hlk (hb hby d5_14) eT3 (by decide) (by decide) ⟨rfl, N3, Kp, F0, F1⟩
set_option maxRecDepth 65536 in
set_option maxHeartbeats 40000000 in
theorem rm_wec1 (l : Launch) (Z : State) (a0 : Array Value) (hw : ∀ d ∈ tables_1, d.before a0 Z = true) (a : Addr) (h0 : Heap) (n0 : Nat) (O0 : Old Z n0 h0) (F1 : Fld Z h0 a "com/example/latchwork/latchwork/store/RedisRun$Origin" "wroteEveryChange" "Z" (.int (1 : Int32))) :
    Rm l (⟨"com/example/latchwork/latchwork/store/RedisRun$Origin", "wroteEveryChange", "()Z"⟩ : MethodName) prog_17_method_7_code 1 (some .boolean) ({ frames := 0, cells := 0, slots := 0, locals := 0 } : Room) [] Z #[(.ref a)] h0 (fun v h L => v = some (.int 1) ∧ Fr n0 L ∧ h = h0) := by
  refine Rm.of (plainFor_of_name pn_com_example_latchwork_latchwork_store_RedisRun_Origin) ?_
  intro p e s m below meth cod T X hx hZ hby hml hown hnm hret hlk eT0
  have hown : s.vm.findClass "com/example/latchwork/latchwork/store/RedisRun$Origin" = some m.cls := hown
  have hnm : meth.name = "wroteEveryChange" := hnm
  have N0 := Fr.nil n0
  refine Goes.cast (ef_8 m a) ?_
  show Goes p e below _ T (mkF m 0 #[.val (.ref a)] [])
  refine Goes.of (fun _ => XS.aloadN X.here hx rfl (hb hby d8_0) rfl rfl) ?_
  show Goes p e below _ T (mkF m 1 #[.val (.ref a)] [(.ref a)])
  refine goGet X hx hZ hown (host := "") (Or.inl (hw _ (List.mem_of_getElem? (i := 40) rfl))) Via.refl eT0 F1 (g := (mkF m 1 #[.val (.ref a)] [(.ref a)])) rfl rfl (hb hby d8_1) ?_
  intro T1 X1 eT1
  show Goes p e below _ T1 (mkF m 4 #[.val (.ref a)] [(.int (1 : Int32))])
  exact retZ (t := .boolean) X1 hx hret hlk (by simp) (hb hby d8_4) eT1 (by decide) (by decide) ⟨rfl, N0, rfl⟩
set_option maxRecDepth 65536 in
set_option maxHeartbeats 40000000 in
theorem rm_init01 (l : Launch) (Z : State) (a0 : Array Value) (hw : ∀ d ∈ tables_1, d.before a0 Z = true) (a u : Addr) (h0 : Heap) (n0 : Nat) (O0 : Old Z n0 h0) (g_a : n0 ≤ a) (Ex : Exa Z h0 a "com/example/latchwork/latchwork/store/RedisRun$Origin") (F0 : Fld Z h0 a "com/example/latchwork/latchwork/store/RedisRun$Origin" "id" "Ljava/lang/String;" .null) (F1 : Fld Z h0 a "com/example/latchwork/latchwork/store/RedisRun$Origin" "wroteEveryChange" "Z" (.int (0 : Int32))) :
    Rm l (⟨"com/example/latchwork/latchwork/store/RedisRun$Origin", "<init>", "(Ljava/lang/String;Z)V"⟩ : MethodName) prog_17_method_1_code 3 none ({ frames := 2, cells := 0, slots := 0, locals := 24 } : Room) [] Z #[(.ref a), (.ref u), (.int (1 : Int32))] h0 (fun v h L => v = none ∧ Fr n0 L ∧ Keep h0 h [a] ∧ Fld Z h a "com/example/latchwork/latchwork/store/RedisRun$Origin" "id" "Ljava/lang/String;" (.ref u) ∧ Fld Z h a "com/example/latchwork/latchwork/store/RedisRun$Origin" "wroteEveryChange" "Z" (.int (1 : Int32))) := by
  refine Rm.of (plainFor_of_name pn_com_example_latchwork_latchwork_store_RedisRun_Origin) ?_
  intro p e s m below meth cod T X hx hZ hby hml hown hnm hret hlk eT0
  have hown : s.vm.findClass "com/example/latchwork/latchwork/store/RedisRun$Origin" = some m.cls := hown
  have hnm : meth.name = "<init>" := hnm
  have N0 := Fr.nil n0
  have Kp := Keep.refl h0 [a]
  refine Goes.cast (ef_5 m a u (1 : Int32)) ?_
  show Goes p e below _ T (mkF m 0 #[.val (.ref a), .val (.ref u), .val (.int (1 : Int32))] [])
  refine Goes.of (fun _ => XS.aloadN X.here hx rfl (hb hby d5_0) rfl rfl) ?_
  show Goes p e below _ T (mkF m 1 #[.val (.ref a), .val (.ref u), .val (.int (1 : Int32))] [(.ref a)])
  refine goSpecial 0 X hx hZ rfl hown (hw _ (List.mem_of_getElem? (i := 32) rfl)) (hw _ (List.mem_of_getElem? (i := 33) rfl)) (hw _ (List.mem_of_getElem? (i := 35) rfl)) (hw _ (List.mem_of_getElem? (i := 36) rfl)) (by decide) (rm_record l Z a0 hw a h0 n0 O0) eT0 (g := (mkF m 1 #[.val (.ref a), .val (.ref u), .val (.int (1 : Int32))] [(.ref a)])) rfl (by rw [hml]; rfl) a [] [] (lenOf pd___V rfl) rfl rfl (by show 2 * 0 + _ ≤ _; exact Nat.le_of_eq rfl) (hb hby d5_1) (by decide) (by decide) (by decide) (by decide) ?_
  intro v1 T1 L1 X1 q1
  obtain ⟨rfl, Nq1, eT1⟩ := q1
  have N1 := Fr.app N0 Nq1
  show Goes p e below _ T1 (mkF m 4 #[.val (.ref a), .val (.ref u), .val (.int (1 : Int32))] [])
  refine Goes.of (fun _ => XS.aloadN X1.here hx rfl (hb hby d5_4) rfl rfl) ?_
  show Goes p e below _ T1 (mkF m 5 #[.val (.ref a), .val (.ref u), .val (.int (1 : Int32))] [(.ref a)])
  refine Goes.of (fun _ => XS.aloadN X1.here hx rfl (hb hby d5_5) rfl rfl) ?_
  show Goes p e below _ T1 (mkF m 6 #[.val (.ref a), .val (.ref u), .val (.int (1 : Int32))] [(.ref u), (.ref a)])
  refine goPut (ty := (.object "java/lang/String")) X1 hx hZ hown (host := "") (Or.inl (hw _ (List.mem_of_getElem? (i := 38) rfl))) Via.refl eT1 F0 Ex (Or.inr ⟨(hw _ (List.mem_of_getElem? (i := 39) rfl)), rfl, hnm⟩) (hw _ (List.mem_of_getElem? (i := 27) rfl)) (by decide) rfl rfl (g := (mkF m 6 #[.val (.ref a), .val (.ref u), .val (.int (1 : Int32))] [(.ref u), (.ref a)])) rfl rfl (hb hby d5_6) ?_
  intro T2 h2 X2 eT2 W2
  have F0 := Fld.same W2 F0
  have N2 := Fr.snoc X2 N1 g_a
  have Ex := Ex.wr W2
  have F1 := F1.other W2 (Or.inr (slot_ne (Or.inr (hw _ (List.mem_of_getElem? (i := 41) rfl))) (Or.inr (hw _ (List.mem_of_getElem? (i := 39) rfl))) (by decide) (t := .boolean) (t' := (.object "java/lang/String")) (by decide) (by decide)))
  have Kp := Kp.wr W2 (Or.inl (List.mem_of_getElem? (i := 0) rfl))
  have O0 := O0.wr W2 g_a
  show Goes p e below _ T2 (mkF m 9 #[.val (.ref a), .val (.ref u), .val (.int (1 : Int32))] [])
  refine Goes.of (fun _ => XS.aloadN X2.here hx rfl (hb hby d5_9) rfl rfl) ?_
  show Goes p e below _ T2 (mkF m 10 #[.val (.ref a), .val (.ref u), .val (.int (1 : Int32))] [(.ref a)])
  refine Goes.of (fun _ => XS.iloadN X2.here hx rfl (hb hby d5_10) rfl) ?_
  show Goes p e below _ T2 (mkF m 11 #[.val (.ref a), .val (.ref u), .val (.int (1 : Int32))] [(.int (1 : Int32)), (.ref a)])
  refine goPut (ty := .boolean) X2 hx hZ hown (host := "") (Or.inl (hw _ (List.mem_of_getElem? (i := 40) rfl))) Via.refl eT2 F1 Ex (Or.inr ⟨(hw _ (List.mem_of_getElem? (i := 41) rfl)), rfl, hnm⟩) (hw _ (List.mem_of_getElem? (i := 27) rfl)) (by decide) rfl rfl (g := (mkF m 11 #[.val (.ref a), .val (.ref u), .val (.int (1 : Int32))] [(.int (1 : Int32)), (.ref a)])) rfl rfl (hb hby d5_11) ?_
  intro T3 h3 X3 eT3 W3
  have F1 := Fld.same W3 F1
  have N3 := Fr.snoc X3 N2 g_a
  have Ex := Ex.wr W3
  have F0 := F0.other W3 (Or.inr (slot_ne (Or.inr (hw _ (List.mem_of_getElem? (i := 39) rfl))) (Or.inr (hw _ (List.mem_of_getElem? (i := 41) rfl))) (by decide) (t := (.object "java/lang/String")) (t' := .boolean) (by decide) (by decide)))
  have Kp := Kp.wr W3 (Or.inl (List.mem_of_getElem? (i := 0) rfl))
  have O0 := O0.wr W3 g_a
  show Goes p e below _ T3 (mkF m 14 #[.val (.ref a), .val (.ref u), .val (.int (1 : Int32))] [])
  exact retVoid X3 hx hret hlk (hb hby d5_14) eT3 (by decide) (by decide) ⟨rfl, N3, Kp, F0, F1⟩
set_option maxRecDepth 65536 in
set_option maxHeartbeats 40000000 in
theorem rm_init11 (l : Launch) (Z : State) (a0 : Array Value) (hw : ∀ d ∈ tables_1, d.before a0 Z = true) (a : Addr) (h0 : Heap) (n0 : Nat) (O0 : Old Z n0 h0) (g_a : n0 ≤ a) (Ex : Exa Z h0 a "com/example/latchwork/latchwork/store/RedisRun$Origin") (F0 : Fld Z h0 a "com/example/latchwork/latchwork/store/RedisRun$Origin" "id" "Ljava/lang/String;" .null) (F1 : Fld Z h0 a "com/example/latchwork/latchwork/store/RedisRun$Origin" "wroteEveryChange" "Z" (.int (0 : Int32))) :
    Rm l (⟨"com/example/latchwork/latchwork/store/RedisRun$Origin", "<init>", "(Ljava/lang/String;Z)V"⟩ : MethodName) prog_17_method_1_code 3 none ({ frames := 2, cells := 0, slots := 0, locals := 24 } : Room) [] Z #[(.ref a), .null, (.int (1 : Int32))] h0 (fun v h L => v = none ∧ Fr n0 L ∧ Keep h0 h [a] ∧ Fld Z h a "com/example/latchwork/latchwork/store/RedisRun$Origin" "id" "Ljava/lang/String;" .null ∧ Fld Z h a "com/example/latchwork/latchwork/store/RedisRun$Origin" "wroteEveryChange" "Z" (.int (1 : Int32))) := by
  refine Rm.of (plainFor_of_name pn_com_example_latchwork_latchwork_store_RedisRun_Origin) ?_
  intro p e s m below meth cod T X hx hZ hby hml hown hnm hret hlk eT0
  have hown : s.vm.findClass "com/example/latchwork/latchwork/store/RedisRun$Origin" = some m.cls := hown
  have hnm : meth.name = "<init>" := hnm
  have N0 := Fr.nil n0
  have Kp := Keep.refl h0 [a]
  refine Goes.cast (ef_5n1 m a (1 : Int32)) ?_
  show Goes p e below _ T (mkF m 0 #[.val (.ref a), .val .null, .val (.int (1 : Int32))] [])
  refine Goes.of (fun _ => XS.aloadN X.here hx rfl (hb hby d5_0) rfl rfl) ?_
  show Goes p e below _ T (mkF m 1 #[.val (.ref a), .val .null, .val (.int (1 : Int32))] [(.ref a)])
  refine goSpecial 0 X hx hZ rfl hown (hw _ (List.mem_of_getElem? (i := 32) rfl)) (hw _ (List.mem_of_getElem? (i := 33) rfl)) (hw _ (List.mem_of_getElem? (i := 35) rfl)) (hw _ (List.mem_of_getElem? (i := 36) rfl)) (by decide) (rm_record l Z a0 hw a h0 n0 O0) eT0 (g := (mkF m 1 #[.val (.ref a), .val .null, .val (.int (1 : Int32))] [(.ref a)])) rfl (by rw [hml]; rfl) a [] [] (lenOf pd___V rfl) rfl rfl (by show 2 * 0 + _ ≤ _; exact Nat.le_of_eq rfl) (hb hby d5_1) (by decide) (by decide) (by decide) (by decide) ?_
  intro v1 T1 L1 X1 q1
  obtain ⟨rfl, Nq1, eT1⟩ := q1
  have N1 := Fr.app N0 Nq1
  show Goes p e below _ T1 (mkF m 4 #[.val (.ref a), .val .null, .val (.int (1 : Int32))] [])
  refine Goes.of (fun _ => XS.aloadN X1.here hx rfl (hb hby d5_4) rfl rfl) ?_
  show Goes p e below _ T1 (mkF m 5 #[.val (.ref a), .val .null, .val (.int (1 : Int32))] [(.ref a)])
  refine Goes.of (fun _ => XS.aloadN X1.here hx rfl (hb hby d5_5) rfl rfl) ?_
  show Goes p e below _ T1 (mkF m 6 #[.val (.ref a), .val .null, .val (.int (1 : Int32))] [.null, (.ref a)])
  refine goPut (ty := (.object "java/lang/String")) X1 hx hZ hown (host := "") (Or.inl (hw _ (List.mem_of_getElem? (i := 38) rfl))) Via.refl eT1 F0 Ex (Or.inr ⟨(hw _ (List.mem_of_getElem? (i := 39) rfl)), rfl, hnm⟩) (hw _ (List.mem_of_getElem? (i := 27) rfl)) (by decide) rfl rfl (g := (mkF m 6 #[.val (.ref a), .val .null, .val (.int (1 : Int32))] [.null, (.ref a)])) rfl rfl (hb hby d5_6) ?_
  intro T2 h2 X2 eT2 W2
  have F0 := Fld.same W2 F0
  have N2 := Fr.snoc X2 N1 g_a
  have Ex := Ex.wr W2
  have F1 := F1.other W2 (Or.inr (slot_ne (Or.inr (hw _ (List.mem_of_getElem? (i := 41) rfl))) (Or.inr (hw _ (List.mem_of_getElem? (i := 39) rfl))) (by decide) (t := .boolean) (t' := (.object "java/lang/String")) (by decide) (by decide)))
  have Kp := Kp.wr W2 (Or.inl (List.mem_of_getElem? (i := 0) rfl))
  have O0 := O0.wr W2 g_a
  show Goes p e below _ T2 (mkF m 9 #[.val (.ref a), .val .null, .val (.int (1 : Int32))] [])
  refine Goes.of (fun _ => XS.aloadN X2.here hx rfl (hb hby d5_9) rfl rfl) ?_
  show Goes p e below _ T2 (mkF m 10 #[.val (.ref a), .val .null, .val (.int (1 : Int32))] [(.ref a)])
  refine Goes.of (fun _ => XS.iloadN X2.here hx rfl (hb hby d5_10) rfl) ?_
  show Goes p e below _ T2 (mkF m 11 #[.val (.ref a), .val .null, .val (.int (1 : Int32))] [(.int (1 : Int32)), (.ref a)])
  refine goPut (ty := .boolean) X2 hx hZ hown (host := "") (Or.inl (hw _ (List.mem_of_getElem? (i := 40) rfl))) Via.refl eT2 F1 Ex (Or.inr ⟨(hw _ (List.mem_of_getElem? (i := 41) rfl)), rfl, hnm⟩) (hw _ (List.mem_of_getElem? (i := 27) rfl)) (by decide) rfl rfl (g := (mkF m 11 #[.val (.ref a), .val .null, .val (.int (1 : Int32))] [(.int (1 : Int32)), (.ref a)])) rfl rfl (hb hby d5_11) ?_
  intro T3 h3 X3 eT3 W3
  have F1 := Fld.same W3 F1
  have N3 := Fr.snoc X3 N2 g_a
  have Ex := Ex.wr W3
  have F0 := F0.other W3 (Or.inr (slot_ne (Or.inr (hw _ (List.mem_of_getElem? (i := 39) rfl))) (Or.inr (hw _ (List.mem_of_getElem? (i := 41) rfl))) (by decide) (t := (.object "java/lang/String")) (t' := .boolean) (by decide) (by decide)))
  have Kp := Kp.wr W3 (Or.inl (List.mem_of_getElem? (i := 0) rfl))
  have O0 := O0.wr W3 g_a
  show Goes p e below _ T3 (mkF m 14 #[.val (.ref a), .val .null, .val (.int (1 : Int32))] [])
  exact retVoid X3 hx hret hlk (hb hby d5_14) eT3 (by decide) (by decide) ⟨rfl, N3, Kp, F0, F1⟩
set_option maxRecDepth 65536 in
set_option maxHeartbeats 40000000 in
theorem rm_id0 (l : Launch) (Z : State) (a0 : Array Value) (hw : ∀ d ∈ tables_1, d.before a0 Z = true) (a u : Addr) (h0 : Heap) (n0 : Nat) (O0 : Old Z n0 h0) (F0 : Fld Z h0 a "com/example/latchwork/latchwork/store/RedisRun$Origin" "id" "Ljava/lang/String;" (.ref u)) :
    Rm l (⟨"com/example/latchwork/latchwork/store/RedisRun$Origin", "id", "()Ljava/lang/String;"⟩ : MethodName) prog_17_method_6_code 1 (some (.object "java/lang/String")) ({ frames := 0, cells := 0, slots := 0, locals := 0 } : Room) [] Z #[(.ref a)] h0 (fun v h L => v = some (.ref u) ∧ Fr n0 L ∧ h = h0) := by
  refine Rm.of (plainFor_of_name pn_com_example_latchwork_latchwork_store_RedisRun_Origin) ?_
  intro p e s m below meth cod T X hx hZ hby hml hown hnm hret hlk eT0
  have hown : s.vm.findClass "com/example/latchwork/latchwork/store/RedisRun$Origin" = some m.cls := hown
  have hnm : meth.name = "id" := hnm
  have N0 := Fr.nil n0
  refine Goes.cast (ef_9 m a) ?_
  show Goes p e below _ T (mkF m 0 #[.val (.ref a)] [])
  refine Goes.of (fun _ => XS.aloadN X.here hx rfl (hb hby d9_0) rfl rfl) ?_
  show Goes p e below _ T (mkF m 1 #[.val (.ref a)] [(.ref a)])
  refine goGet X hx hZ hown (host := "") (Or.inl (hw _ (List.mem_of_getElem? (i := 38) rfl))) Via.refl eT0 F0 (g := (mkF m 1 #[.val (.ref a)] [(.ref a)])) rfl rfl (hb hby d9_1) ?_
  intro T1 X1 eT1
  show Goes p e below _ T1 (mkF m 4 #[.val (.ref a)] [(.ref u)])
  exact retRef X1 hx hret hlk rfl rfl (hb hby d9_4) eT1 (by decide) (by decide) ⟨rfl, N0, rfl⟩
set_option maxRecDepth 65536 in
set_option maxHeartbeats 40000000 in
theorem rm_id1 (l : Launch) (Z : State) (a0 : Array Value) (hw : ∀ d ∈ tables_1, d.before a0 Z = true) (a : Addr) (h0 : Heap) (n0 : Nat) (O0 : Old Z n0 h0) (F0 : Fld Z h0 a "com/example/latchwork/latchwork/store/RedisRun$Origin" "id" "Ljava/lang/String;" .null) :
    Rm l (⟨"com/example/latchwork/latchwork/store/RedisRun$Origin", "id", "()Ljava/lang/String;"⟩ : MethodName) prog_17_method_6_code 1 (some (.object "java/lang/String")) ({ frames := 0, cells := 0, slots := 0, locals := 0 } : Room) [] Z #[(.ref a)] h0 (fun v h L => v = some .null ∧ Fr n0 L ∧ h = h0) := by
  refine Rm.of (plainFor_of_name pn_com_example_latchwork_latchwork_store_RedisRun_Origin) ?_
  intro p e s m below meth cod T X hx hZ hby hml hown hnm hret hlk eT0
  have hown : s.vm.findClass "com/example/latchwork/latchwork/store/RedisRun$Origin" = some m.cls := hown
  have hnm : meth.name = "id" := hnm
  have N0 := Fr.nil n0
  refine Goes.cast (ef_9 m a) ?_
  show Goes p e below _ T (mkF m 0 #[.val (.ref a)] [])
  refine Goes.of (fun _ => XS.aloadN X.here hx rfl (hb hby d9_0) rfl rfl) ?_
  show Goes p e below _ T (mkF m 1 #[.val (.ref a)] [(.ref a)])
  refine goGet X hx hZ hown (host := "") (Or.inl (hw _ (List.mem_of_getElem? (i := 38) rfl))) Via.refl eT0 F0 (g := (mkF m 1 #[.val (.ref a)] [(.ref a)])) rfl rfl (hb hby d9_1) ?_
  intro T1 X1 eT1
  show Goes p e below _ T1 (mkF m 4 #[.val (.ref a)] [.null])
  exact retRef X1 hx hret hlk rfl rfl (hb hby d9_4) eT1 (by decide) (by decide) ⟨rfl, N0, rfl⟩
set_option maxRecDepth 65536 in
set_option maxHeartbeats 40000000 in
theorem rm_seqnull (l : Launch) (Z : State) (a0 : Array Value) (hw : ∀ d ∈ tables_1, d.before a0 Z = true) (a : Addr) (h0 : Heap) (n0 : Nat) (O0 : Old Z n0 h0)  :
    Rm l (⟨"java/lang/String", "equals", "(Ljava/lang/Object;)Z"⟩ : MethodName) jdk_42_method_66_code 3 (some .boolean) ({ frames := 0, cells := 0, slots := 0, locals := 0 } : Room) [] Z #[(.ref a), .null] h0 (fun v h L => v = some (.int 0) ∧ Fr n0 L ∧ h = h0) := by
  refine Rm.of (plainFor_of_name pn_java_lang_String) ?_
  intro p e s m below meth cod T X hx hZ hby hml hown hnm hret hlk eT0
  have hown : s.vm.findClass "java/lang/String" = some m.cls := hown
  have hnm : meth.name = "equals" := hnm
  have N0 := Fr.nil n0
  refine Goes.cast (ef_10n1 m a) ?_
  show Goes p e below _ T (mkF m 0 #[.val (.ref a), .val .null, .unset] [])
  refine Goes.of (fun _ => XS.aloadN X.here hx rfl (hb hby d10_0) rfl rfl) ?_
  show Goes p e below _ T (mkF m 1 #[.val (.ref a), .val .null, .unset] [(.ref a)])
  refine Goes.of (fun _ => XS.aloadN X.here hx rfl (hb hby d10_1) rfl rfl) ?_
  show Goes p e below _ T (mkF m 2 #[.val (.ref a), .val .null, .unset] [.null, (.ref a)])
  refine Goes.of (fun _ => Jvm.RoadKit.acmp (g := (mkF m 2 #[.val (.ref a), .val .null, .unset] [.null, (.ref a)])) X hx rfl rfl rfl (pc0 := 2) (pc' := 7) (same := false) rfl (hb hby d10_2) rfl (decide_eq_false nofun) (by decide) (by decide)) ?_
  show Goes p e below _ T (mkF m 7 #[.val (.ref a), .val .null, .unset] [])
  refine Goes.of (fun _ => XS.aloadN X.here hx rfl (hb hby d10_7) rfl rfl) ?_
  show Goes p e below _ T (mkF m 8 #[.val (.ref a), .val .null, .unset] [.null])
  refine Goes.of (X.instanceofNull hx (g := (mkF m 8 #[.val (.ref a), .val .null, .unset] [.null])) rfl rfl (hb hby d10_8)) ?_
  show Goes p e below _ T (mkF m 11 #[.val (.ref a), .val .null, .unset] [(.int (0 : Int32))])
  refine Goes.of (fun _ => XS.ifYes X.here hx rfl (pc0 := 11) (pc' := 54) rfl (hb hby d10_11) rfl ((if0 _ _).trans (teq (by decide)).1) (by decide) (by decide)) ?_
  show Goes p e below _ T (mkF m 54 #[.val (.ref a), .val .null, .unset] [])
  refine Goes.of (fun _ => XS.iconst X.here hx rfl (hb hby d10_54)) ?_
  show Goes p e below _ T (mkF m 55 #[.val (.ref a), .val .null, .unset] [(.int (0 : Int32))])
  exact retZ (t := .boolean) X hx hret hlk (by simp) (hb hby d10_55) eT0 (by decide) (by decide) ⟨rfl, N0, rfl⟩
set_option maxRecDepth 65536 in
set_option maxHeartbeats 40000000 in
theorem rm_kept000 (l : Launch) (Z : State) (a0 : Array Value) (hw : ∀ d ∈ tables_1, d.before a0 Z = true) (a u1 u2 : Addr) (wr : Int32) (cs1 cs2 : List Int32) (cz : Int32) (h0 : Heap) (n0 : Nat) (O0 : Old Z n0 h0) (Sc : Sta Z Z.heap "java/lang/String" "COMPACT_STRINGS" "Z" (.int cz)) (hcz : ¬ cz = 0) (Eo : Exa Z h0 a "com/example/latchwork/latchwork/store/RedisRun$Origin") (F0 : Fld Z h0 a "com/example/latchwork/latchwork/store/RedisRun$Origin" "id" "Ljava/lang/String;" (.ref u2)) (F1 : Fld Z h0 a "com/example/latchwork/latchwork/store/RedisRun$Origin" "wroteEveryChange" "Z" (.int (0 : Int32))) (S1 : Str Z h0 u1 cs1) (S2 : Str Z h0 u2 cs2) :
    Rm l (⟨"com/example/latchwork/latchwork/store/RedisRun", "keptAll", "(Ljava/lang/String;Lcom/example/latchwork/latchwork/store/RedisRun$Origin;Z)Z"⟩ : MethodName) prog_16_method_4_code 4 (some .boolean) ({ frames := 1, cells := 0, slots := 0, locals := 12 } : Room) [] Z #[(.ref u1), (.ref a), (.int wr)] h0 (fun v h L => v = some (.int (if wr = (0 : Int32) then (0 : Int32) else (0 : Int32))) ∧ Fr n0 L ∧ h = h0) := by
  refine Rm.of (plainFor_of_name pn_com_example_latchwork_latchwork_store_RedisRun) ?_
  intro p e s m below meth cod T X hx hZ hby hml hown hnm hret hlk eT0
  have hown : s.vm.findClass "com/example/latchwork/latchwork/store/RedisRun" = some m.cls := hown
  have hnm : meth.name = "keptAll" := hnm
  have N0 := Fr.nil n0
  refine Goes.cast (ef_7 m u1 a wr) ?_
  show Goes p e below _ T (mkF m 0 #[.val (.ref u1), .val (.ref a), .val (.int wr), .unset] [])
  refine Goes.of (fun _ => XS.iloadN X.here hx rfl (hb hby d7_0) rfl) ?_
  show Goes p e below _ T (mkF m 1 #[.val (.ref u1), .val (.ref a), .val (.int wr), .unset] [(.int wr)])
  by_cases hpc1 : wr = (0 : Int32)
  · refine Goes.of (fun _ => XS.ifNo X.here hx rfl (hb hby d7_1) rfl ((if0 _ _).trans (teq hpc1).2)) ?_
    show Goes p e below _ T (mkF m 4 #[.val (.ref u1), .val (.ref a), .val (.int wr), .unset] [])
    refine Goes.of (fun _ => XS.iconst X.here hx rfl (hb hby d7_4)) ?_
    show Goes p e below _ T (mkF m 5 #[.val (.ref u1), .val (.ref a), .val (.int wr), .unset] [(.int (0 : Int32))])
    refine Goes.of (fun _ => XS.istoreN X.here hx rfl (hb hby d7_5) rfl (l' := #[.val (.ref u1), .val (.ref a), .val (.int wr), .val (.int (0 : Int32))]) rfl) ?_
    show Goes p e below _ T (mkF m 6 #[.val (.ref u1), .val (.ref a), .val (.int wr), .val (.int (0 : Int32))] [])
    refine Goes.of (fun _ => XS.goto X.here hx rfl (pc0 := 6) (pc' := 60) rfl (hb hby d7_6) (by decide) (by decide)) ?_
    show Goes p e below _ T (mkF m 60 #[.val (.ref u1), .val (.ref a), .val (.int wr), .val (.int (0 : Int32))] [])
    refine Goes.of (fun _ => XS.iloadN X.here hx rfl (hb hby d7_60) rfl) ?_
    show Goes p e below _ T (mkF m 61 #[.val (.ref u1), .val (.ref a), .val (.int wr), .val (.int (0 : Int32))] [(.int (0 : Int32))])
    exact retZ (t := .boolean) X hx hret hlk (by simp) (hb hby d7_61) eT0 (by decide) (by decide) ⟨by rw [if_pos hpc1]; try first | rfl | (split <;> rfl), N0, rfl⟩
  · refine Goes.of (fun _ => XS.ifYes X.here hx rfl (pc0 := 1) (pc' := 9) rfl (hb hby d7_1) rfl ((if0 _ _).trans (feq hpc1).2) (by decide) (by decide)) ?_
    show Goes p e below _ T (mkF m 9 #[.val (.ref u1), .val (.ref a), .val (.int wr), .unset] [])
    refine Goes.of (fun _ => XS.aloadN X.here hx rfl (hb hby d7_9) rfl rfl) ?_
    show Goes p e below _ T (mkF m 10 #[.val (.ref u1), .val (.ref a), .val (.int wr), .unset] [(.ref u1)])
    refine Goes.of (fun _ => XS.ifnullNo X.here hx rfl (hb hby d7_10) rfl) ?_
    show Goes p e below _ T (mkF m 13 #[.val (.ref u1), .val (.ref a), .val (.int wr), .unset] [])
    refine Goes.of (fun _ => XS.aloadN X.here hx rfl (hb hby d7_13) rfl rfl) ?_
    show Goes p e below _ T (mkF m 14 #[.val (.ref u1), .val (.ref a), .val (.int wr), .unset] [(.ref a)])
    refine goVirtual 0 X hx hZ hown (hw _ (List.mem_of_getElem? (i := 46) rfl)) (hw _ (List.mem_of_getElem? (i := 47) rfl)) (notFace_of_selects (args := #[]) (mvT hZ (hw _ (List.mem_of_getElem? (i := 49) rfl)))) (hw _ (List.mem_of_getElem? (i := 49) rfl)) (hw _ (List.mem_of_getElem? (i := 48) rfl)) (hw _ (List.mem_of_getElem? (i := 28) rfl)) (hw _ (List.mem_of_getElem? (i := 50) rfl)) (by decide) (rm_wec0 l Z a0 hw a h0 n0 O0 F1) eT0 Eo (g := (mkF m 14 #[.val (.ref u1), .val (.ref a), .val (.int wr), .unset] [(.ref a)])) rfl (by rw [hml]; rfl) [] [] (lenOf pd___Z rfl) rfl rfl (by show 2 * 0 + _ ≤ _; exact Nat.le_of_eq rfl) (hb hby d7_14) (by decide) (by decide) (by decide) (by decide) ?_
    intro v1 T1 L1 X1 q1
    obtain ⟨rfl, Nq1, eT1⟩ := q1
    have N1 := Fr.app N0 Nq1
    show Goes p e below _ T1 (mkF m 17 #[.val (.ref u1), .val (.ref a), .val (.int wr), .unset] [(.int (0 : Int32))])
    refine Goes.of (fun _ => XS.ifYes X1.here hx rfl (pc0 := 17) (pc' := 35) rfl (hb hby d7_17) rfl ((if0 _ _).trans (teq (by decide)).1) (by decide) (by decide)) ?_
    show Goes p e below _ T1 (mkF m 35 #[.val (.ref u1), .val (.ref a), .val (.int wr), .unset] [])
    refine Goes.of (fun _ => XS.iconst X1.here hx rfl (hb hby d7_35)) ?_
    show Goes p e below _ T1 (mkF m 36 #[.val (.ref u1), .val (.ref a), .val (.int wr), .unset] [(.int (0 : Int32))])
    refine Goes.of (fun _ => XS.istoreN X1.here hx rfl (hb hby d7_36) rfl (l' := #[.val (.ref u1), .val (.ref a), .val (.int wr), .val (.int (0 : Int32))]) rfl) ?_
    show Goes p e below _ T1 (mkF m 37 #[.val (.ref u1), .val (.ref a), .val (.int wr), .val (.int (0 : Int32))] [])
    refine Goes.of (fun _ => XS.goto X1.here hx rfl (pc0 := 37) (pc' := 60) rfl (hb hby d7_37) (by decide) (by decide)) ?_
    show Goes p e below _ T1 (mkF m 60 #[.val (.ref u1), .val (.ref a), .val (.int wr), .val (.int (0 : Int32))] [])
    refine Goes.of (fun _ => XS.iloadN X1.here hx rfl (hb hby d7_60) rfl) ?_
    show Goes p e below _ T1 (mkF m 61 #[.val (.ref u1), .val (.ref a), .val (.int wr), .val (.int (0 : Int32))] [(.int (0 : Int32))])
    exact retZ (t := .boolean) X1 hx hret hlk (by simp) (hb hby d7_61) eT1 (by decide) (by decide) ⟨by rw [if_neg hpc1]; try first | rfl | (split <;> rfl), N1, rfl⟩
set_option maxRecDepth 65536 in
set_option maxHeartbeats 40000000 in
theorem rm_kept001 (l : Launch) (Z : State) (a0 : Array Value) (hw : ∀ d ∈ tables_1, d.before a0 Z = true) (a u1 u2 : Addr) (wr : Int32) (cs1 cs2 : List Int32) (cz : Int32) (h0 : Heap) (n0 : Nat) (O0 : Old Z n0 h0) (Sc : Sta Z Z.heap "java/lang/String" "COMPACT_STRINGS" "Z" (.int cz)) (hcz : ¬ cz = 0) (Eo : Exa Z h0 a "com/example/latchwork/latchwork/store/RedisRun$Origin") (F0 : Fld Z h0 a "com/example/latchwork/latchwork/store/RedisRun$Origin" "id" "Ljava/lang/String;" (.ref u2)) (F1 : Fld Z h0 a "com/example/latchwork/latchwork/store/RedisRun$Origin" "wroteEveryChange" "Z" (.int (1 : Int32))) (S1 : Str Z h0 u1 cs1) (S2 : Str Z h0 u2 cs2) :
    Rm l (⟨"com/example/latchwork/latchwork/store/RedisRun", "keptAll", "(Ljava/lang/String;Lcom/example/latchwork/latchwork/store/RedisRun$Origin;Z)Z"⟩ : MethodName) prog_16_method_4_code 4 (some .boolean) ({ frames := 2, cells := 0, slots := 0, locals := 28 } : Room) [] Z #[(.ref u1), (.ref a), (.int wr)] h0 (fun v h L => v = some (.int (if wr = (0 : Int32) then (0 : Int32) else (if (if cs1 = cs2 then (1 : Int32) else (0 : Int32)) = (0 : Int32) then (0 : Int32) else (1 : Int32)))) ∧ Fr n0 L ∧ h = h0) := by
  refine Rm.of (plainFor_of_name pn_com_example_latchwork_latchwork_store_RedisRun) ?_
  intro p e s m below meth cod T X hx hZ hby hml hown hnm hret hlk eT0
  have hown : s.vm.findClass "com/example/latchwork/latchwork/store/RedisRun" = some m.cls := hown
  have hnm : meth.name = "keptAll" := hnm
  have N0 := Fr.nil n0
  refine Goes.cast (ef_7 m u1 a wr) ?_
  show Goes p e below _ T (mkF m 0 #[.val (.ref u1), .val (.ref a), .val (.int wr), .unset] [])
  refine Goes.of (fun _ => XS.iloadN X.here hx rfl (hb hby d7_0) rfl) ?_
  show Goes p e below _ T (mkF m 1 #[.val (.ref u1), .val (.ref a), .val (.int wr), .unset] [(.int wr)])
  by_cases hpc1 : wr = (0 : Int32)
  · refine Goes.of (fun _ => XS.ifNo X.here hx rfl (hb hby d7_1) rfl ((if0 _ _).trans (teq hpc1).2)) ?_
    show Goes p e below _ T (mkF m 4 #[.val (.ref u1), .val (.ref a), .val (.int wr), .unset] [])
    refine Goes.of (fun _ => XS.iconst X.here hx rfl (hb hby d7_4)) ?_
    show Goes p e below _ T (mkF m 5 #[.val (.ref u1), .val (.ref a), .val (.int wr), .unset] [(.int (0 : Int32))])
    refine Goes.of (fun _ => XS.istoreN X.here hx rfl (hb hby d7_5) rfl (l' := #[.val (.ref u1), .val (.ref a), .val (.int wr), .val (.int (0 : Int32))]) rfl) ?_
    show Goes p e below _ T (mkF m 6 #[.val (.ref u1), .val (.ref a), .val (.int wr), .val (.int (0 : Int32))] [])
    refine Goes.of (fun _ => XS.goto X.here hx rfl (pc0 := 6) (pc' := 60) rfl (hb hby d7_6) (by decide) (by decide)) ?_
    show Goes p e below _ T (mkF m 60 #[.val (.ref u1), .val (.ref a), .val (.int wr), .val (.int (0 : Int32))] [])
    refine Goes.of (fun _ => XS.iloadN X.here hx rfl (hb hby d7_60) rfl) ?_
    show Goes p e below _ T (mkF m 61 #[.val (.ref u1), .val (.ref a), .val (.int wr), .val (.int (0 : Int32))] [(.int (0 : Int32))])
    exact retZ (t := .boolean) X hx hret hlk (by simp) (hb hby d7_61) eT0 (by decide) (by decide) ⟨by rw [if_pos hpc1]; try first | rfl | (split <;> rfl), N0, rfl⟩
  · refine Goes.of (fun _ => XS.ifYes X.here hx rfl (pc0 := 1) (pc' := 9) rfl (hb hby d7_1) rfl ((if0 _ _).trans (feq hpc1).2) (by decide) (by decide)) ?_
    show Goes p e below _ T (mkF m 9 #[.val (.ref u1), .val (.ref a), .val (.int wr), .unset] [])
    refine Goes.of (fun _ => XS.aloadN X.here hx rfl (hb hby d7_9) rfl rfl) ?_
    show Goes p e below _ T (mkF m 10 #[.val (.ref u1), .val (.ref a), .val (.int wr), .unset] [(.ref u1)])
    refine Goes.of (fun _ => XS.ifnullNo X.here hx rfl (hb hby d7_10) rfl) ?_
    show Goes p e below _ T (mkF m 13 #[.val (.ref u1), .val (.ref a), .val (.int wr), .unset] [])
    refine Goes.of (fun _ => XS.aloadN X.here hx rfl (hb hby d7_13) rfl rfl) ?_
    show Goes p e below _ T (mkF m 14 #[.val (.ref u1), .val (.ref a), .val (.int wr), .unset] [(.ref a)])
    refine goVirtual 0 X hx hZ hown (hw _ (List.mem_of_getElem? (i := 46) rfl)) (hw _ (List.mem_of_getElem? (i := 47) rfl)) (notFace_of_selects (args := #[]) (mvT hZ (hw _ (List.mem_of_getElem? (i := 49) rfl)))) (hw _ (List.mem_of_getElem? (i := 49) rfl)) (hw _ (List.mem_of_getElem? (i := 48) rfl)) (hw _ (List.mem_of_getElem? (i := 28) rfl)) (hw _ (List.mem_of_getElem? (i := 50) rfl)) (by decide) (rm_wec1 l Z a0 hw a h0 n0 O0 F1) eT0 Eo (g := (mkF m 14 #[.val (.ref u1), .val (.ref a), .val (.int wr), .unset] [(.ref a)])) rfl (by rw [hml]; rfl) [] [] (lenOf pd___Z rfl) rfl rfl (by show 2 * 0 + _ ≤ _; exact Nat.le_of_eq rfl) (hb hby d7_14) (by decide) (by decide) (by decide) (by decide) ?_
    intro v1 T1 L1 X1 q1
    obtain ⟨rfl, Nq1, eT1⟩ := q1
    have N1 := Fr.app N0 Nq1
    show Goes p e below _ T1 (mkF m 17 #[.val (.ref u1), .val (.ref a), .val (.int wr), .unset] [(.int (1 : Int32))])
    refine Goes.of (fun _ => XS.ifNo X1.here hx rfl (hb hby d7_17) rfl ((if0 _ _).trans (feq (by decide)).1)) ?_
    show Goes p e below _ T1 (mkF m 20 #[.val (.ref u1), .val (.ref a), .val (.int wr), .unset] [])
    refine Goes.of (fun _ => XS.aloadN X1.here hx rfl (hb hby d7_20) rfl rfl) ?_
    show Goes p e below _ T1 (mkF m 21 #[.val (.ref u1), .val (.ref a), .val (.int wr), .unset] [(.ref u1)])
    refine Goes.of (fun _ => XS.aloadN X1.here hx rfl (hb hby d7_21) rfl rfl) ?_
    show Goes p e below _ T1 (mkF m 22 #[.val (.ref u1), .val (.ref a), .val (.int wr), .unset] [(.ref a), (.ref u1)])
    refine goVirtual 1 X1 hx hZ hown (hw _ (List.mem_of_getElem? (i := 51) rfl)) (hw _ (List.mem_of_getElem? (i := 52) rfl)) (notFace_of_selects (args := #[]) (mvT hZ (hw _ (List.mem_of_getElem? (i := 54) rfl)))) (hw _ (List.mem_of_getElem? (i := 54) rfl)) (hw _ (List.mem_of_getElem? (i := 53) rfl)) (hw _ (List.mem_of_getElem? (i := 28) rfl)) (hw _ (List.mem_of_getElem? (i := 55) rfl)) (by decide) (rm_id0 l Z a0 hw a u2 h0 n0 O0 F0) eT1 Eo (g := (mkF m 22 #[.val (.ref u1), .val (.ref a), .val (.int wr), .unset] [(.ref a), (.ref u1)])) rfl (by rw [hml]; rfl) [] [(.ref u1)] (lenOf pd___Ljava_lang_String_ rfl) rfl rfl (by show 2 * 0 + _ ≤ _; exact Nat.le_of_eq rfl) (hb hby d7_22) (by decide) (by decide) (by decide) (by decide) ?_
    intro v2 T2 L2 X2 q2
    obtain ⟨rfl, Nq2, eT2⟩ := q2
    have N2 := Fr.app N1 Nq2
    show Goes p e below _ T2 (mkF m 25 #[.val (.ref u1), .val (.ref a), .val (.int wr), .unset] [(.ref u2), (.ref u1)])
    refine goEqS 0 X2 hx hZ hown (heqOf hw) (hw _ (List.mem_of_getElem? (i := 56) rfl)) (hw _ (List.mem_of_getElem? (i := 57) rfl)) (hw _ (List.mem_of_getElem? (i := 59) rfl)) (hw _ (List.mem_of_getElem? (i := 58) rfl)) (hw _ (List.mem_of_getElem? (i := 5) rfl)) S1 S2 (Sc.ext O0.2) hcz eT2 (g := (mkF m 25 #[.val (.ref u1), .val (.ref a), .val (.int wr), .unset] [(.ref u2), (.ref u1)])) rfl (by rw [hml]; rfl) [] (lenOf pd__Ljava_lang_Object__Z rfl) rfl (by show 2 * 0 + _ ≤ _; exact Nat.le_of_eq rfl) (hb hby d7_25) (by decide) (by decide) (by decide) (by decide) ?_
    intro T3 X3 eT3
    show Goes p e below _ T3 (mkF m 28 #[.val (.ref u1), .val (.ref a), .val (.int wr), .unset] [(.int (if cs1 = cs2 then (1 : Int32) else (0 : Int32)))])
    by_cases hpc28 : (if cs1 = cs2 then (1 : Int32) else (0 : Int32)) = (0 : Int32)
    · refine Goes.of (fun _ => XS.ifYes X3.here hx rfl (pc0 := 28) (pc' := 35) rfl (hb hby d7_28) rfl ((if0 _ _).trans (teq hpc28).1) (by decide) (by decide)) ?_
      show Goes p e below _ T3 (mkF m 35 #[.val (.ref u1), .val (.ref a), .val (.int wr), .unset] [])
      refine Goes.of (fun _ => XS.iconst X3.here hx rfl (hb hby d7_35)) ?_
      show Goes p e below _ T3 (mkF m 36 #[.val (.ref u1), .val (.ref a), .val (.int wr), .unset] [(.int (0 : Int32))])
      refine Goes.of (fun _ => XS.istoreN X3.here hx rfl (hb hby d7_36) rfl (l' := #[.val (.ref u1), .val (.ref a), .val (.int wr), .val (.int (0 : Int32))]) rfl) ?_
      show Goes p e below _ T3 (mkF m 37 #[.val (.ref u1), .val (.ref a), .val (.int wr), .val (.int (0 : Int32))] [])
      refine Goes.of (fun _ => XS.goto X3.here hx rfl (pc0 := 37) (pc' := 60) rfl (hb hby d7_37) (by decide) (by decide)) ?_
      show Goes p e below _ T3 (mkF m 60 #[.val (.ref u1), .val (.ref a), .val (.int wr), .val (.int (0 : Int32))] [])
      refine Goes.of (fun _ => XS.iloadN X3.here hx rfl (hb hby d7_60) rfl) ?_
      show Goes p e below _ T3 (mkF m 61 #[.val (.ref u1), .val (.ref a), .val (.int wr), .val (.int (0 : Int32))] [(.int (0 : Int32))])
      exact retZ (t := .boolean) X3 hx hret hlk (by simp) (hb hby d7_61) eT3 (by decide) (by decide) ⟨by rw [if_neg hpc1, if_pos hpc28]; try first | rfl | (split <;> rfl), N2, rfl⟩
    · refine Goes.of (fun _ => XS.ifNo X3.here hx rfl (hb hby d7_28) rfl ((if0 _ _).trans (feq hpc28).1)) ?_
      show Goes p e below _ T3 (mkF m 31 #[.val (.ref u1), .val (.ref a), .val (.int wr), .unset] [])
      refine Goes.of (fun _ => XS.iconst X3.here hx rfl (hb hby d7_31)) ?_
      show Goes p e below _ T3 (mkF m 32 #[.val (.ref u1), .val (.ref a), .val (.int wr), .unset] [(.int (1 : Int32))])
      refine Goes.of (fun _ => XS.goto X3.here hx rfl (pc0 := 32) (pc' := 36) rfl (hb hby d7_32) (by decide) (by decide)) ?_
      show Goes p e below _ T3 (mkF m 36 #[.val (.ref u1), .val (.ref a), .val (.int wr), .unset] [(.int (1 : Int32))])
      refine Goes.of (fun _ => XS.istoreN X3.here hx rfl (hb hby d7_36) rfl (l' := #[.val (.ref u1), .val (.ref a), .val (.int wr), .val (.int (1 : Int32))]) rfl) ?_
      show Goes p e below _ T3 (mkF m 37 #[.val (.ref u1), .val (.ref a), .val (.int wr), .val (.int (1 : Int32))] [])
      refine Goes.of (fun _ => XS.goto X3.here hx rfl (pc0 := 37) (pc' := 60) rfl (hb hby d7_37) (by decide) (by decide)) ?_
      show Goes p e below _ T3 (mkF m 60 #[.val (.ref u1), .val (.ref a), .val (.int wr), .val (.int (1 : Int32))] [])
      refine Goes.of (fun _ => XS.iloadN X3.here hx rfl (hb hby d7_60) rfl) ?_
      show Goes p e below _ T3 (mkF m 61 #[.val (.ref u1), .val (.ref a), .val (.int wr), .val (.int (1 : Int32))] [(.int (1 : Int32))])
      exact retZ (t := .boolean) X3 hx hret hlk (by simp) (hb hby d7_61) eT3 (by decide) (by decide) ⟨by rw [if_neg hpc1, if_neg hpc28]; try first | rfl | (split <;> rfl), N2, rfl⟩
set_option maxRecDepth 65536 in
set_option maxHeartbeats 40000000 in
theorem rm_kept010 (l : Launch) (Z : State) (a0 : Array Value) (hw : ∀ d ∈ tables_1, d.before a0 Z = true) (a u1 : Addr) (wr : Int32) (cs1 cs2 : List Int32) (cz : Int32) (h0 : Heap) (n0 : Nat) (O0 : Old Z n0 h0) (Sc : Sta Z Z.heap "java/lang/String" "COMPACT_STRINGS" "Z" (.int cz)) (hcz : ¬ cz = 0) (Eo : Exa Z h0 a "com/example/latchwork/latchwork/store/RedisRun$Origin") (F0 : Fld Z h0 a "com/example/latchwork/latchwork/store/RedisRun$Origin" "id" "Ljava/lang/String;" .null) (F1 : Fld Z h0 a "com/example/latchwork/latchwork/store/RedisRun$Origin" "wroteEveryChange" "Z" (.int (0 : Int32))) (S1 : Str Z h0 u1 cs1) :
    Rm l (⟨"com/example/latchwork/latchwork/store/RedisRun", "keptAll", "(Ljava/lang/String;Lcom/example/latchwork/latchwork/store/RedisRun$Origin;Z)Z"⟩ : MethodName) prog_16_method_4_code 4 (some .boolean) ({ frames := 1, cells := 0, slots := 0, locals := 12 } : Room) [] Z #[(.ref u1), (.ref a), (.int wr)] h0 (fun v h L => v = some (.int (if wr = (0 : Int32) then (0 : Int32) else (0 : Int32))) ∧ Fr n0 L ∧ h = h0) := by
  refine Rm.of (plainFor_of_name pn_com_example_latchwork_latchwork_store_RedisRun) ?_
  intro p e s m below meth cod T X hx hZ hby hml hown hnm hret hlk eT0
  have hown : s.vm.findClass "com/example/latchwork/latchwork/store/RedisRun" = some m.cls := hown
  have hnm : meth.name = "keptAll" := hnm
  have N0 := Fr.nil n0
  refine Goes.cast (ef_7 m u1 a wr) ?_
  show Goes p e below _ T (mkF m 0 #[.val (.ref u1), .val (.ref a), .val (.int wr), .unset] [])
  refine Goes.of (fun _ => XS.iloadN X.here hx rfl (hb hby d7_0) rfl) ?_
  show Goes p e below _ T (mkF m 1 #[.val (.ref u1), .val (.ref a), .val (.int wr), .unset] [(.int wr)])
  by_cases hpc1 : wr = (0 : Int32)
  · refine Goes.of (fun _ => XS.ifNo X.here hx rfl (hb hby d7_1) rfl ((if0 _ _).trans (teq hpc1).2)) ?_
    show Goes p e below _ T (mkF m 4 #[.val (.ref u1), .val (.ref a), .val (.int wr), .unset] [])
    refine Goes.of (fun _ => XS.iconst X.here hx rfl (hb hby d7_4)) ?_
    show Goes p e below _ T (mkF m 5 #[.val (.ref u1), .val (.ref a), .val (.int wr), .unset] [(.int (0 : Int32))])
    refine Goes.of (fun _ => XS.istoreN X.here hx rfl (hb hby d7_5) rfl (l' := #[.val (.ref u1), .val (.ref a), .val (.int wr), .val (.int (0 : Int32))]) rfl) ?_
    show Goes p e below _ T (mkF m 6 #[.val (.ref u1), .val (.ref a), .val (.int wr), .val (.int (0 : Int32))] [])
    refine Goes.of (fun _ => XS.goto X.here hx rfl (pc0 := 6) (pc' := 60) rfl (hb hby d7_6) (by decide) (by decide)) ?_
    show Goes p e below _ T (mkF m 60 #[.val (.ref u1), .val (.ref a), .val (.int wr), .val (.int (0 : Int32))] [])
    refine Goes.of (fun _ => XS.iloadN X.here hx rfl (hb hby d7_60) rfl) ?_
    show Goes p e below _ T (mkF m 61 #[.val (.ref u1), .val (.ref a), .val (.int wr), .val (.int (0 : Int32))] [(.int (0 : Int32))])
    exact retZ (t := .boolean) X hx hret hlk (by simp) (hb hby d7_61) eT0 (by decide) (by decide) ⟨by rw [if_pos hpc1]; try first | rfl | (split <;> rfl), N0, rfl⟩
  · refine Goes.of (fun _ => XS.ifYes X.here hx rfl (pc0 := 1) (pc' := 9) rfl (hb hby d7_1) rfl ((if0 _ _).trans (feq hpc1).2) (by decide) (by decide)) ?_
    show Goes p e below _ T (mkF m 9 #[.val (.ref u1), .val (.ref a), .val (.int wr), .unset] [])
    refine Goes.of (fun _ => XS.aloadN X.here hx rfl (hb hby d7_9) rfl rfl) ?_
    show Goes p e below _ T (mkF m 10 #[.val (.ref u1), .val (.ref a), .val (.int wr), .unset] [(.ref u1)])
    refine Goes.of (fun _ => XS.ifnullNo X.here hx rfl (hb hby d7_10) rfl) ?_
    show Goes p e below _ T (mkF m 13 #[.val (.ref u1), .val (.ref a), .val (.int wr), .unset] [])
    refine Goes.of (fun _ => XS.aloadN X.here hx rfl (hb hby d7_13) rfl rfl) ?_
    show Goes p e below _ T (mkF m 14 #[.val (.ref u1), .val (.ref a), .val (.int wr), .unset] [(.ref a)])
    refine goVirtual 0 X hx hZ hown (hw _ (List.mem_of_getElem? (i := 46) rfl)) (hw _ (List.mem_of_getElem? (i := 47) rfl)) (notFace_of_selects (args := #[]) (mvT hZ (hw _ (List.mem_of_getElem? (i := 49) rfl)))) (hw _ (List.mem_of_getElem? (i := 49) rfl)) (hw _ (List.mem_of_getElem? (i := 48) rfl)) (hw _ (List.mem_of_getElem? (i := 28) rfl)) (hw _ (List.mem_of_getElem? (i := 50) rfl)) (by decide) (rm_wec0 l Z a0 hw a h0 n0 O0 F1) eT0 Eo (g := (mkF m 14 #[.val (.ref u1), .val (.ref a), .val (.int wr), .unset] [(.ref a)])) rfl (by rw [hml]; rfl) [] [] (lenOf pd___Z rfl) rfl rfl (by show 2 * 0 + _ ≤ _; exact Nat.le_of_eq rfl) (hb hby d7_14) (by decide) (by decide) (by decide) (by decide) ?_
    intro v1 T1 L1 X1 q1
    obtain ⟨rfl, Nq1, eT1⟩ := q1
    have N1 := Fr.app N0 Nq1
    show Goes p e below _ T1 (mkF m 17 #[.val (.ref u1), .val (.ref a), .val (.int wr), .unset] [(.int (0 : Int32))])
    refine Goes.of (fun _ => XS.ifYes X1.here hx rfl (pc0 := 17) (pc' := 35) rfl (hb hby d7_17) rfl ((if0 _ _).trans (teq (by decide)).1) (by decide) (by decide)) ?_
    show Goes p e below _ T1 (mkF m 35 #[.val (.ref u1), .val (.ref a), .val (.int wr), .unset] [])
    refine Goes.of (fun _ => XS.iconst X1.here hx rfl (hb hby d7_35)) ?_
    show Goes p e below _ T1 (mkF m 36 #[.val (.ref u1), .val (.ref a), .val (.int wr), .unset] [(.int (0 : Int32))])
    refine Goes.of (fun _ => XS.istoreN X1.here hx rfl (hb hby d7_36) rfl (l' := #[.val (.ref u1), .val (.ref a), .val (.int wr), .val (.int (0 : Int32))]) rfl) ?_
    show Goes p e below _ T1 (mkF m 37 #[.val (.ref u1), .val (.ref a), .val (.int wr), .val (.int (0 : Int32))] [])
    refine Goes.of (fun _ => XS.goto X1.here hx rfl (pc0 := 37) (pc' := 60) rfl (hb hby d7_37) (by decide) (by decide)) ?_
    show Goes p e below _ T1 (mkF m 60 #[.val (.ref u1), .val (.ref a), .val (.int wr), .val (.int (0 : Int32))] [])
    refine Goes.of (fun _ => XS.iloadN X1.here hx rfl (hb hby d7_60) rfl) ?_
    show Goes p e below _ T1 (mkF m 61 #[.val (.ref u1), .val (.ref a), .val (.int wr), .val (.int (0 : Int32))] [(.int (0 : Int32))])
    exact retZ (t := .boolean) X1 hx hret hlk (by simp) (hb hby d7_61) eT1 (by decide) (by decide) ⟨by rw [if_neg hpc1]; try first | rfl | (split <;> rfl), N1, rfl⟩
set_option maxRecDepth 65536 in
set_option maxHeartbeats 40000000 in
theorem rm_kept011 (l : Launch) (Z : State) (a0 : Array Value) (hw : ∀ d ∈ tables_1, d.before a0 Z = true) (a u1 : Addr) (wr : Int32) (cs1 cs2 : List Int32) (cz : Int32) (h0 : Heap) (n0 : Nat) (O0 : Old Z n0 h0) (Sc : Sta Z Z.heap "java/lang/String" "COMPACT_STRINGS" "Z" (.int cz)) (hcz : ¬ cz = 0) (Eo : Exa Z h0 a "com/example/latchwork/latchwork/store/RedisRun$Origin") (F0 : Fld Z h0 a "com/example/latchwork/latchwork/store/RedisRun$Origin" "id" "Ljava/lang/String;" .null) (F1 : Fld Z h0 a "com/example/latchwork/latchwork/store/RedisRun$Origin" "wroteEveryChange" "Z" (.int (1 : Int32))) (S1 : Str Z h0 u1 cs1) :
    Rm l (⟨"com/example/latchwork/latchwork/store/RedisRun", "keptAll", "(Ljava/lang/String;Lcom/example/latchwork/latchwork/store/RedisRun$Origin;Z)Z"⟩ : MethodName) prog_16_method_4_code 4 (some .boolean) ({ frames := 1, cells := 0, slots := 0, locals := 14 } : Room) [] Z #[(.ref u1), (.ref a), (.int wr)] h0 (fun v h L => v = some (.int (if wr = (0 : Int32) then (0 : Int32) else (0 : Int32))) ∧ Fr n0 L ∧ h = h0) := by
  refine Rm.of (plainFor_of_name pn_com_example_latchwork_latchwork_store_RedisRun) ?_
  intro p e s m below meth cod T X hx hZ hby hml hown hnm hret hlk eT0
  have hown : s.vm.findClass "com/example/latchwork/latchwork/store/RedisRun" = some m.cls := hown
  have hnm : meth.name = "keptAll" := hnm
  have N0 := Fr.nil n0
  refine Goes.cast (ef_7 m u1 a wr) ?_
  show Goes p e below _ T (mkF m 0 #[.val (.ref u1), .val (.ref a), .val (.int wr), .unset] [])
  refine Goes.of (fun _ => XS.iloadN X.here hx rfl (hb hby d7_0) rfl) ?_
  show Goes p e below _ T (mkF m 1 #[.val (.ref u1), .val (.ref a), .val (.int wr), .unset] [(.int wr)])
  by_cases hpc1 : wr = (0 : Int32)
  · refine Goes.of (fun _ => XS.ifNo X.here hx rfl (hb hby d7_1) rfl ((if0 _ _).trans (teq hpc1).2)) ?_
    show Goes p e below _ T (mkF m 4 #[.val (.ref u1), .val (.ref a), .val (.int wr), .unset] [])
    refine Goes.of (fun _ => XS.iconst X.here hx rfl (hb hby d7_4)) ?_
    show Goes p e below _ T (mkF m 5 #[.val (.ref u1), .val (.ref a), .val (.int wr), .unset] [(.int (0 : Int32))])
    refine Goes.of (fun _ => XS.istoreN X.here hx rfl (hb hby d7_5) rfl (l' := #[.val (.ref u1), .val (.ref a), .val (.int wr), .val (.int (0 : Int32))]) rfl) ?_
    show Goes p e below _ T (mkF m 6 #[.val (.ref u1), .val (.ref a), .val (.int wr), .val (.int (0 : Int32))] [])
    refine Goes.of (fun _ => XS.goto X.here hx rfl (pc0 := 6) (pc' := 60) rfl (hb hby d7_6) (by decide) (by decide)) ?_
    show Goes p e below _ T (mkF m 60 #[.val (.ref u1), .val (.ref a), .val (.int wr), .val (.int (0 : Int32))] [])
    refine Goes.of (fun _ => XS.iloadN X.here hx rfl (hb hby d7_60) rfl) ?_
    show Goes p e below _ T (mkF m 61 #[.val (.ref u1), .val (.ref a), .val (.int wr), .val (.int (0 : Int32))] [(.int (0 : Int32))])
    exact retZ (t := .boolean) X hx hret hlk (by simp) (hb hby d7_61) eT0 (by decide) (by decide) ⟨by rw [if_pos hpc1]; try first | rfl | (split <;> rfl), N0, rfl⟩
  · refine Goes.of (fun _ => XS.ifYes X.here hx rfl (pc0 := 1) (pc' := 9) rfl (hb hby d7_1) rfl ((if0 _ _).trans (feq hpc1).2) (by decide) (by decide)) ?_
    show Goes p e below _ T (mkF m 9 #[.val (.ref u1), .val (.ref a), .val (.int wr), .unset] [])
    refine Goes.of (fun _ => XS.aloadN X.here hx rfl (hb hby d7_9) rfl rfl) ?_
    show Goes p e below _ T (mkF m 10 #[.val (.ref u1), .val (.ref a), .val (.int wr), .unset] [(.ref u1)])
    refine Goes.of (fun _ => XS.ifnullNo X.here hx rfl (hb hby d7_10) rfl) ?_
    show Goes p e below _ T (mkF m 13 #[.val (.ref u1), .val (.ref a), .val (.int wr), .unset] [])
    refine Goes.of (fun _ => XS.aloadN X.here hx rfl (hb hby d7_13) rfl rfl) ?_
    show Goes p e below _ T (mkF m 14 #[.val (.ref u1), .val (.ref a), .val (.int wr), .unset] [(.ref a)])
    refine goVirtual 0 X hx hZ hown (hw _ (List.mem_of_getElem? (i := 46) rfl)) (hw _ (List.mem_of_getElem? (i := 47) rfl)) (notFace_of_selects (args := #[]) (mvT hZ (hw _ (List.mem_of_getElem? (i := 49) rfl)))) (hw _ (List.mem_of_getElem? (i := 49) rfl)) (hw _ (List.mem_of_getElem? (i := 48) rfl)) (hw _ (List.mem_of_getElem? (i := 28) rfl)) (hw _ (List.mem_of_getElem? (i := 50) rfl)) (by decide) (rm_wec1 l Z a0 hw a h0 n0 O0 F1) eT0 Eo (g := (mkF m 14 #[.val (.ref u1), .val (.ref a), .val (.int wr), .unset] [(.ref a)])) rfl (by rw [hml]; rfl) [] [] (lenOf pd___Z rfl) rfl rfl (by show 2 * 0 + _ ≤ _; exact Nat.le_of_eq rfl) (hb hby d7_14) (by decide) (by decide) (by decide) (by decide) ?_
    intro v1 T1 L1 X1 q1
    obtain ⟨rfl, Nq1, eT1⟩ := q1
    have N1 := Fr.app N0 Nq1
    show Goes p e below _ T1 (mkF m 17 #[.val (.ref u1), .val (.ref a), .val (.int wr), .unset] [(.int (1 : Int32))])
    refine Goes.of (fun _ => XS.ifNo X1.here hx rfl (hb hby d7_17) rfl ((if0 _ _).trans (feq (by decide)).1)) ?_
    show Goes p e below _ T1 (mkF m 20 #[.val (.ref u1), .val (.ref a), .val (.int wr), .unset] [])
    refine Goes.of (fun _ => XS.aloadN X1.here hx rfl (hb hby d7_20) rfl rfl) ?_
    show Goes p e below _ T1 (mkF m 21 #[.val (.ref u1), .val (.ref a), .val (.int wr), .unset] [(.ref u1)])
    refine Goes.of (fun _ => XS.aloadN X1.here hx rfl (hb hby d7_21) rfl rfl) ?_
    show Goes p e below _ T1 (mkF m 22 #[.val (.ref u1), .val (.ref a), .val (.int wr), .unset] [(.ref a), (.ref u1)])
    refine goVirtual 1 X1 hx hZ hown (hw _ (List.mem_of_getElem? (i := 51) rfl)) (hw _ (List.mem_of_getElem? (i := 52) rfl)) (notFace_of_selects (args := #[]) (mvT hZ (hw _ (List.mem_of_getElem? (i := 54) rfl)))) (hw _ (List.mem_of_getElem? (i := 54) rfl)) (hw _ (List.mem_of_getElem? (i := 53) rfl)) (hw _ (List.mem_of_getElem? (i := 28) rfl)) (hw _ (List.mem_of_getElem? (i := 55) rfl)) (by decide) (rm_id1 l Z a0 hw a  h0 n0 O0 F0) eT1 Eo (g := (mkF m 22 #[.val (.ref u1), .val (.ref a), .val (.int wr), .unset] [(.ref a), (.ref u1)])) rfl (by rw [hml]; rfl) [] [(.ref u1)] (lenOf pd___Ljava_lang_String_ rfl) rfl rfl (by show 2 * 0 + _ ≤ _; exact Nat.le_of_eq rfl) (hb hby d7_22) (by decide) (by decide) (by decide) (by decide) ?_
    intro v2 T2 L2 X2 q2
    obtain ⟨rfl, Nq2, eT2⟩ := q2
    have N2 := Fr.app N1 Nq2
    show Goes p e below _ T2 (mkF m 25 #[.val (.ref u1), .val (.ref a), .val (.int wr), .unset] [.null, (.ref u1)])
    refine goVirtual 0 X2 hx hZ hown (hw _ (List.mem_of_getElem? (i := 56) rfl)) (hw _ (List.mem_of_getElem? (i := 57) rfl)) (notFace_of_selects (args := #[]) (mvT hZ (hw _ (List.mem_of_getElem? (i := 59) rfl)))) (hw _ (List.mem_of_getElem? (i := 59) rfl)) (hw _ (List.mem_of_getElem? (i := 58) rfl)) (hw _ (List.mem_of_getElem? (i := 6) rfl)) (hw _ (List.mem_of_getElem? (i := 60) rfl)) (by decide) (rm_seqnull l Z a0 hw u1 h0 n0 O0) eT2 S1.1 (g := (mkF m 25 #[.val (.ref u1), .val (.ref a), .val (.int wr), .unset] [.null, (.ref u1)])) rfl (by rw [hml]; rfl) [.null] [] (lenOf pd__Ljava_lang_Object__Z rfl) rfl rfl (by show 2 * 0 + _ ≤ _; exact Nat.le_of_eq rfl) (hb hby d7_25) (by decide) (by decide) (by decide) (by decide) ?_
    intro v3 T3 L3 X3 q3
    obtain ⟨rfl, Nq3, eT3⟩ := q3
    have N3 := Fr.app N2 Nq3
    show Goes p e below _ T3 (mkF m 28 #[.val (.ref u1), .val (.ref a), .val (.int wr), .unset] [(.int (0 : Int32))])
    refine Goes.of (fun _ => XS.ifYes X3.here hx rfl (pc0 := 28) (pc' := 35) rfl (hb hby d7_28) rfl ((if0 _ _).trans (teq (by decide)).1) (by decide) (by decide)) ?_
    show Goes p e below _ T3 (mkF m 35 #[.val (.ref u1), .val (.ref a), .val (.int wr), .unset] [])
    refine Goes.of (fun _ => XS.iconst X3.here hx rfl (hb hby d7_35)) ?_
    show Goes p e below _ T3 (mkF m 36 #[.val (.ref u1), .val (.ref a), .val (.int wr), .unset] [(.int (0 : Int32))])
    refine Goes.of (fun _ => XS.istoreN X3.here hx rfl (hb hby d7_36) rfl (l' := #[.val (.ref u1), .val (.ref a), .val (.int wr), .val (.int (0 : Int32))]) rfl) ?_
    show Goes p e below _ T3 (mkF m 37 #[.val (.ref u1), .val (.ref a), .val (.int wr), .val (.int (0 : Int32))] [])
    refine Goes.of (fun _ => XS.goto X3.here hx rfl (pc0 := 37) (pc' := 60) rfl (hb hby d7_37) (by decide) (by decide)) ?_
    show Goes p e below _ T3 (mkF m 60 #[.val (.ref u1), .val (.ref a), .val (.int wr), .val (.int (0 : Int32))] [])
    refine Goes.of (fun _ => XS.iloadN X3.here hx rfl (hb hby d7_60) rfl) ?_
    show Goes p e below _ T3 (mkF m 61 #[.val (.ref u1), .val (.ref a), .val (.int wr), .val (.int (0 : Int32))] [(.int (0 : Int32))])
    exact retZ (t := .boolean) X3 hx hret hlk (by simp) (hb hby d7_61) eT3 (by decide) (by decide) ⟨by rw [if_neg hpc1]; try first | rfl | (split <;> rfl), N3, rfl⟩
set_option maxRecDepth 65536 in
set_option maxHeartbeats 40000000 in
theorem rm_kept100 (l : Launch) (Z : State) (a0 : Array Value) (hw : ∀ d ∈ tables_1, d.before a0 Z = true) (a u2 : Addr) (wr : Int32) (cs1 cs2 : List Int32) (cz : Int32) (h0 : Heap) (n0 : Nat) (O0 : Old Z n0 h0) (Sc : Sta Z Z.heap "java/lang/String" "COMPACT_STRINGS" "Z" (.int cz)) (hcz : ¬ cz = 0) (Eo : Exa Z h0 a "com/example/latchwork/latchwork/store/RedisRun$Origin") (F0 : Fld Z h0 a "com/example/latchwork/latchwork/store/RedisRun$Origin" "id" "Ljava/lang/String;" (.ref u2)) (F1 : Fld Z h0 a "com/example/latchwork/latchwork/store/RedisRun$Origin" "wroteEveryChange" "Z" (.int (0 : Int32))) (S2 : Str Z h0 u2 cs2) :
    Rm l (⟨"com/example/latchwork/latchwork/store/RedisRun", "keptAll", "(Ljava/lang/String;Lcom/example/latchwork/latchwork/store/RedisRun$Origin;Z)Z"⟩ : MethodName) prog_16_method_4_code 4 (some .boolean) ({ frames := 1, cells := 0, slots := 0, locals := 12 } : Room) [] Z #[.null, (.ref a), (.int wr)] h0 (fun v h L => v = some (.int (if wr = (0 : Int32) then (0 : Int32) else (0 : Int32))) ∧ Fr n0 L ∧ h = h0) := by
  refine Rm.of (plainFor_of_name pn_com_example_latchwork_latchwork_store_RedisRun) ?_
  intro p e s m below meth cod T X hx hZ hby hml hown hnm hret hlk eT0
  have hown : s.vm.findClass "com/example/latchwork/latchwork/store/RedisRun" = some m.cls := hown
  have hnm : meth.name = "keptAll" := hnm
  have N0 := Fr.nil n0
  refine Goes.cast (ef_7n0 m a wr) ?_
  show Goes p e below _ T (mkF m 0 #[.val .null, .val (.ref a), .val (.int wr), .unset] [])
  refine Goes.of (fun _ => XS.iloadN X.here hx rfl (hb hby d7_0) rfl) ?_
  show Goes p e below _ T (mkF m 1 #[.val .null, .val (.ref a), .val (.int wr), .unset] [(.int wr)])
  by_cases hpc1 : wr = (0 : Int32)
  · refine Goes.of (fun _ => XS.ifNo X.here hx rfl (hb hby d7_1) rfl ((if0 _ _).trans (teq hpc1).2)) ?_
    show Goes p e below _ T (mkF m 4 #[.val .null, .val (.ref a), .val (.int wr), .unset] [])
    refine Goes.of (fun _ => XS.iconst X.here hx rfl (hb hby d7_4)) ?_
    show Goes p e below _ T (mkF m 5 #[.val .null, .val (.ref a), .val (.int wr), .unset] [(.int (0 : Int32))])
    refine Goes.of (fun _ => XS.istoreN X.here hx rfl (hb hby d7_5) rfl (l' := #[.val .null, .val (.ref a), .val (.int wr), .val (.int (0 : Int32))]) rfl) ?_
    show Goes p e below _ T (mkF m 6 #[.val .null, .val (.ref a), .val (.int wr), .val (.int (0 : Int32))] [])
    refine Goes.of (fun _ => XS.goto X.here hx rfl (pc0 := 6) (pc' := 60) rfl (hb hby d7_6) (by decide) (by decide)) ?_
    show Goes p e below _ T (mkF m 60 #[.val .null, .val (.ref a), .val (.int wr), .val (.int (0 : Int32))] [])
    refine Goes.of (fun _ => XS.iloadN X.here hx rfl (hb hby d7_60) rfl) ?_
    show Goes p e below _ T (mkF m 61 #[.val .null, .val (.ref a), .val (.int wr), .val (.int (0 : Int32))] [(.int (0 : Int32))])
    exact retZ (t := .boolean) X hx hret hlk (by simp) (hb hby d7_61) eT0 (by decide) (by decide) ⟨by rw [if_pos hpc1]; try first | rfl | (split <;> rfl), N0, rfl⟩
  · refine Goes.of (fun _ => XS.ifYes X.here hx rfl (pc0 := 1) (pc' := 9) rfl (hb hby d7_1) rfl ((if0 _ _).trans (feq hpc1).2) (by decide) (by decide)) ?_
    show Goes p e below _ T (mkF m 9 #[.val .null, .val (.ref a), .val (.int wr), .unset] [])
    refine Goes.of (fun _ => XS.aloadN X.here hx rfl (hb hby d7_9) rfl rfl) ?_
    show Goes p e below _ T (mkF m 10 #[.val .null, .val (.ref a), .val (.int wr), .unset] [.null])
    refine Goes.of (fun _ => XS.ifnullYes X.here hx rfl (pc0 := 10) (pc' := 40) rfl (hb hby d7_10) rfl (by decide) (by decide)) ?_
    show Goes p e below _ T (mkF m 40 #[.val .null, .val (.ref a), .val (.int wr), .unset] [])
    refine Goes.of (fun _ => XS.aloadN X.here hx rfl (hb hby d7_40) rfl rfl) ?_
    show Goes p e below _ T (mkF m 41 #[.val .null, .val (.ref a), .val (.int wr), .unset] [(.ref a)])
    refine goVirtual 0 X hx hZ hown (hw _ (List.mem_of_getElem? (i := 51) rfl)) (hw _ (List.mem_of_getElem? (i := 52) rfl)) (notFace_of_selects (args := #[]) (mvT hZ (hw _ (List.mem_of_getElem? (i := 54) rfl)))) (hw _ (List.mem_of_getElem? (i := 54) rfl)) (hw _ (List.mem_of_getElem? (i := 53) rfl)) (hw _ (List.mem_of_getElem? (i := 28) rfl)) (hw _ (List.mem_of_getElem? (i := 55) rfl)) (by decide) (rm_id0 l Z a0 hw a u2 h0 n0 O0 F0) eT0 Eo (g := (mkF m 41 #[.val .null, .val (.ref a), .val (.int wr), .unset] [(.ref a)])) rfl (by rw [hml]; rfl) [] [] (lenOf pd___Ljava_lang_String_ rfl) rfl rfl (by show 2 * 0 + _ ≤ _; exact Nat.le_of_eq rfl) (hb hby d7_41) (by decide) (by decide) (by decide) (by decide) ?_
    intro v1 T1 L1 X1 q1
    obtain ⟨rfl, Nq1, eT1⟩ := q1
    have N1 := Fr.app N0 Nq1
    show Goes p e below _ T1 (mkF m 44 #[.val .null, .val (.ref a), .val (.int wr), .unset] [(.ref u2)])
    refine Goes.of (fun _ => XS.ifnullNo X1.here hx rfl (hb hby d7_44) rfl) ?_
    show Goes p e below _ T1 (mkF m 47 #[.val .null, .val (.ref a), .val (.int wr), .unset] [])
    refine Goes.of (fun _ => XS.aloadN X1.here hx rfl (hb hby d7_47) rfl rfl) ?_
    show Goes p e below _ T1 (mkF m 48 #[.val .null, .val (.ref a), .val (.int wr), .unset] [(.ref a)])
    refine goVirtual 0 X1 hx hZ hown (hw _ (List.mem_of_getElem? (i := 46) rfl)) (hw _ (List.mem_of_getElem? (i := 47) rfl)) (notFace_of_selects (args := #[]) (mvT hZ (hw _ (List.mem_of_getElem? (i := 49) rfl)))) (hw _ (List.mem_of_getElem? (i := 49) rfl)) (hw _ (List.mem_of_getElem? (i := 48) rfl)) (hw _ (List.mem_of_getElem? (i := 28) rfl)) (hw _ (List.mem_of_getElem? (i := 50) rfl)) (by decide) (rm_wec0 l Z a0 hw a h0 n0 O0 F1) eT1 Eo (g := (mkF m 48 #[.val .null, .val (.ref a), .val (.int wr), .unset] [(.ref a)])) rfl (by rw [hml]; rfl) [] [] (lenOf pd___Z rfl) rfl rfl (by show 2 * 0 + _ ≤ _; exact Nat.le_of_eq rfl) (hb hby d7_48) (by decide) (by decide) (by decide) (by decide) ?_
    intro v2 T2 L2 X2 q2
    obtain ⟨rfl, Nq2, eT2⟩ := q2
    have N2 := Fr.app N1 Nq2
    show Goes p e below _ T2 (mkF m 51 #[.val .null, .val (.ref a), .val (.int wr), .unset] [(.int (0 : Int32))])
    refine Goes.of (fun _ => XS.ifYes X2.here hx rfl (pc0 := 51) (pc' := 58) rfl (hb hby d7_51) rfl ((if0 _ _).trans (teq (by decide)).1) (by decide) (by decide)) ?_
    show Goes p e below _ T2 (mkF m 58 #[.val .null, .val (.ref a), .val (.int wr), .unset] [])
    refine Goes.of (fun _ => XS.iconst X2.here hx rfl (hb hby d7_58)) ?_
    show Goes p e below _ T2 (mkF m 59 #[.val .null, .val (.ref a), .val (.int wr), .unset] [(.int (0 : Int32))])
    refine Goes.of (fun _ => XS.istoreN X2.here hx rfl (hb hby d7_59) rfl (l' := #[.val .null, .val (.ref a), .val (.int wr), .val (.int (0 : Int32))]) rfl) ?_
    show Goes p e below _ T2 (mkF m 60 #[.val .null, .val (.ref a), .val (.int wr), .val (.int (0 : Int32))] [])
    refine Goes.of (fun _ => XS.iloadN X2.here hx rfl (hb hby d7_60) rfl) ?_
    show Goes p e below _ T2 (mkF m 61 #[.val .null, .val (.ref a), .val (.int wr), .val (.int (0 : Int32))] [(.int (0 : Int32))])
    exact retZ (t := .boolean) X2 hx hret hlk (by simp) (hb hby d7_61) eT2 (by decide) (by decide) ⟨by rw [if_neg hpc1]; try first | rfl | (split <;> rfl), N2, rfl⟩
set_option maxRecDepth 65536 in
set_option maxHeartbeats 40000000 in
theorem rm_kept101 (l : Launch) (Z : State) (a0 : Array Value) (hw : ∀ d ∈ tables_1, d.before a0 Z = true) (a u2 : Addr) (wr : Int32) (cs1 cs2 : List Int32) (cz : Int32) (h0 : Heap) (n0 : Nat) (O0 : Old Z n0 h0) (Sc : Sta Z Z.heap "java/lang/String" "COMPACT_STRINGS" "Z" (.int cz)) (hcz : ¬ cz = 0) (Eo : Exa Z h0 a "com/example/latchwork/latchwork/store/RedisRun$Origin") (F0 : Fld Z h0 a "com/example/latchwork/latchwork/store/RedisRun$Origin" "id" "Ljava/lang/String;" (.ref u2)) (F1 : Fld Z h0 a "com/example/latchwork/latchwork/store/RedisRun$Origin" "wroteEveryChange" "Z" (.int (1 : Int32))) (S2 : Str Z h0 u2 cs2) :
    Rm l (⟨"com/example/latchwork/latchwork/store/RedisRun", "keptAll", "(Ljava/lang/String;Lcom/example/latchwork/latchwork/store/RedisRun$Origin;Z)Z"⟩ : MethodName) prog_16_method_4_code 4 (some .boolean) ({ frames := 1, cells := 0, slots := 0, locals := 12 } : Room) [] Z #[.null, (.ref a), (.int wr)] h0 (fun v h L => v = some (.int (if wr = (0 : Int32) then (0 : Int32) else (1 : Int32))) ∧ Fr n0 L ∧ h = h0) := by
  refine Rm.of (plainFor_of_name pn_com_example_latchwork_latchwork_store_RedisRun) ?_
  intro p e s m below meth cod T X hx hZ hby hml hown hnm hret hlk eT0
  have hown : s.vm.findClass "com/example/latchwork/latchwork/store/RedisRun" = some m.cls := hown
  have hnm : meth.name = "keptAll" := hnm
  have N0 := Fr.nil n0
  refine Goes.cast (ef_7n0 m a wr) ?_
  show Goes p e below _ T (mkF m 0 #[.val .null, .val (.ref a), .val (.int wr), .unset] [])
  refine Goes.of (fun _ => XS.iloadN X.here hx rfl (hb hby d7_0) rfl) ?_
  show Goes p e below _ T (mkF m 1 #[.val .null, .val (.ref a), .val (.int wr), .unset] [(.int wr)])
  by_cases hpc1 : wr = (0 : Int32)
  · refine Goes.of (fun _ => XS.ifNo X.here hx rfl (hb hby d7_1) rfl ((if0 _ _).trans (teq hpc1).2)) ?_
    show Goes p e below _ T (mkF m 4 #[.val .null, .val (.ref a), .val (.int wr), .unset] [])
    refine Goes.of (fun _ => XS.iconst X.here hx rfl (hb hby d7_4)) ?_
    show Goes p e below _ T (mkF m 5 #[.val .null, .val (.ref a), .val (.int wr), .unset] [(.int (0 : Int32))])
    refine Goes.of (fun _ => XS.istoreN X.here hx rfl (hb hby d7_5) rfl (l' := #[.val .null, .val (.ref a), .val (.int wr), .val (.int (0 : Int32))]) rfl) ?_
    show Goes p e below _ T (mkF m 6 #[.val .null, .val (.ref a), .val (.int wr), .val (.int (0 : Int32))] [])
    refine Goes.of (fun _ => XS.goto X.here hx rfl (pc0 := 6) (pc' := 60) rfl (hb hby d7_6) (by decide) (by decide)) ?_
    show Goes p e below _ T (mkF m 60 #[.val .null, .val (.ref a), .val (.int wr), .val (.int (0 : Int32))] [])
    refine Goes.of (fun _ => XS.iloadN X.here hx rfl (hb hby d7_60) rfl) ?_
    show Goes p e below _ T (mkF m 61 #[.val .null, .val (.ref a), .val (.int wr), .val (.int (0 : Int32))] [(.int (0 : Int32))])
    exact retZ (t := .boolean) X hx hret hlk (by simp) (hb hby d7_61) eT0 (by decide) (by decide) ⟨by rw [if_pos hpc1]; try first | rfl | (split <;> rfl), N0, rfl⟩
  · refine Goes.of (fun _ => XS.ifYes X.here hx rfl (pc0 := 1) (pc' := 9) rfl (hb hby d7_1) rfl ((if0 _ _).trans (feq hpc1).2) (by decide) (by decide)) ?_
    show Goes p e below _ T (mkF m 9 #[.val .null, .val (.ref a), .val (.int wr), .unset] [])
    refine Goes.of (fun _ => XS.aloadN X.here hx rfl (hb hby d7_9) rfl rfl) ?_
    show Goes p e below _ T (mkF m 10 #[.val .null, .val (.ref a), .val (.int wr), .unset] [.null])
    refine Goes.of (fun _ => XS.ifnullYes X.here hx rfl (pc0 := 10) (pc' := 40) rfl (hb hby d7_10) rfl (by decide) (by decide)) ?_
    show Goes p e below _ T (mkF m 40 #[.val .null, .val (.ref a), .val (.int wr), .unset] [])
    refine Goes.of (fun _ => XS.aloadN X.here hx rfl (hb hby d7_40) rfl rfl) ?_
    show Goes p e below _ T (mkF m 41 #[.val .null, .val (.ref a), .val (.int wr), .unset] [(.ref a)])
    refine goVirtual 0 X hx hZ hown (hw _ (List.mem_of_getElem? (i := 51) rfl)) (hw _ (List.mem_of_getElem? (i := 52) rfl)) (notFace_of_selects (args := #[]) (mvT hZ (hw _ (List.mem_of_getElem? (i := 54) rfl)))) (hw _ (List.mem_of_getElem? (i := 54) rfl)) (hw _ (List.mem_of_getElem? (i := 53) rfl)) (hw _ (List.mem_of_getElem? (i := 28) rfl)) (hw _ (List.mem_of_getElem? (i := 55) rfl)) (by decide) (rm_id0 l Z a0 hw a u2 h0 n0 O0 F0) eT0 Eo (g := (mkF m 41 #[.val .null, .val (.ref a), .val (.int wr), .unset] [(.ref a)])) rfl (by rw [hml]; rfl) [] [] (lenOf pd___Ljava_lang_String_ rfl) rfl rfl (by show 2 * 0 + _ ≤ _; exact Nat.le_of_eq rfl) (hb hby d7_41) (by decide) (by decide) (by decide) (by decide) ?_
    intro v1 T1 L1 X1 q1
    obtain ⟨rfl, Nq1, eT1⟩ := q1
    have N1 := Fr.app N0 Nq1
    show Goes p e below _ T1 (mkF m 44 #[.val .null, .val (.ref a), .val (.int wr), .unset] [(.ref u2)])
    refine Goes.of (fun _ => XS.ifnullNo X1.here hx rfl (hb hby d7_44) rfl) ?_
    show Goes p e below _ T1 (mkF m 47 #[.val .null, .val (.ref a), .val (.int wr), .unset] [])
    refine Goes.of (fun _ => XS.aloadN X1.here hx rfl (hb hby d7_47) rfl rfl) ?_
    show Goes p e below _ T1 (mkF m 48 #[.val .null, .val (.ref a), .val (.int wr), .unset] [(.ref a)])
    refine goVirtual 0 X1 hx hZ hown (hw _ (List.mem_of_getElem? (i := 46) rfl)) (hw _ (List.mem_of_getElem? (i := 47) rfl)) (notFace_of_selects (args := #[]) (mvT hZ (hw _ (List.mem_of_getElem? (i := 49) rfl)))) (hw _ (List.mem_of_getElem? (i := 49) rfl)) (hw _ (List.mem_of_getElem? (i := 48) rfl)) (hw _ (List.mem_of_getElem? (i := 28) rfl)) (hw _ (List.mem_of_getElem? (i := 50) rfl)) (by decide) (rm_wec1 l Z a0 hw a h0 n0 O0 F1) eT1 Eo (g := (mkF m 48 #[.val .null, .val (.ref a), .val (.int wr), .unset] [(.ref a)])) rfl (by rw [hml]; rfl) [] [] (lenOf pd___Z rfl) rfl rfl (by show 2 * 0 + _ ≤ _; exact Nat.le_of_eq rfl) (hb hby d7_48) (by decide) (by decide) (by decide) (by decide) ?_
    intro v2 T2 L2 X2 q2
    obtain ⟨rfl, Nq2, eT2⟩ := q2
    have N2 := Fr.app N1 Nq2
    show Goes p e below _ T2 (mkF m 51 #[.val .null, .val (.ref a), .val (.int wr), .unset] [(.int (1 : Int32))])
    refine Goes.of (fun _ => XS.ifNo X2.here hx rfl (hb hby d7_51) rfl ((if0 _ _).trans (feq (by decide)).1)) ?_
    show Goes p e below _ T2 (mkF m 54 #[.val .null, .val (.ref a), .val (.int wr), .unset] [])
    refine Goes.of (fun _ => XS.iconst X2.here hx rfl (hb hby d7_54)) ?_
    show Goes p e below _ T2 (mkF m 55 #[.val .null, .val (.ref a), .val (.int wr), .unset] [(.int (1 : Int32))])
    refine Goes.of (fun _ => XS.goto X2.here hx rfl (pc0 := 55) (pc' := 59) rfl (hb hby d7_55) (by decide) (by decide)) ?_
    show Goes p e below _ T2 (mkF m 59 #[.val .null, .val (.ref a), .val (.int wr), .unset] [(.int (1 : Int32))])
    refine Goes.of (fun _ => XS.istoreN X2.here hx rfl (hb hby d7_59) rfl (l' := #[.val .null, .val (.ref a), .val (.int wr), .val (.int (1 : Int32))]) rfl) ?_
    show Goes p e below _ T2 (mkF m 60 #[.val .null, .val (.ref a), .val (.int wr), .val (.int (1 : Int32))] [])
    refine Goes.of (fun _ => XS.iloadN X2.here hx rfl (hb hby d7_60) rfl) ?_
    show Goes p e below _ T2 (mkF m 61 #[.val .null, .val (.ref a), .val (.int wr), .val (.int (1 : Int32))] [(.int (1 : Int32))])
    exact retZ (t := .boolean) X2 hx hret hlk (by simp) (hb hby d7_61) eT2 (by decide) (by decide) ⟨by rw [if_neg hpc1]; try first | rfl | (split <;> rfl), N2, rfl⟩
set_option maxRecDepth 65536 in
set_option maxHeartbeats 40000000 in
theorem rm_kept110 (l : Launch) (Z : State) (a0 : Array Value) (hw : ∀ d ∈ tables_1, d.before a0 Z = true) (a : Addr) (wr : Int32) (cs1 cs2 : List Int32) (cz : Int32) (h0 : Heap) (n0 : Nat) (O0 : Old Z n0 h0) (Sc : Sta Z Z.heap "java/lang/String" "COMPACT_STRINGS" "Z" (.int cz)) (hcz : ¬ cz = 0) (Eo : Exa Z h0 a "com/example/latchwork/latchwork/store/RedisRun$Origin") (F0 : Fld Z h0 a "com/example/latchwork/latchwork/store/RedisRun$Origin" "id" "Ljava/lang/String;" .null) (F1 : Fld Z h0 a "com/example/latchwork/latchwork/store/RedisRun$Origin" "wroteEveryChange" "Z" (.int (0 : Int32))) :
    Rm l (⟨"com/example/latchwork/latchwork/store/RedisRun", "keptAll", "(Ljava/lang/String;Lcom/example/latchwork/latchwork/store/RedisRun$Origin;Z)Z"⟩ : MethodName) prog_16_method_4_code 4 (some .boolean) ({ frames := 1, cells := 0, slots := 0, locals := 12 } : Room) [] Z #[.null, (.ref a), (.int wr)] h0 (fun v h L => v = some (.int (if wr = (0 : Int32) then (0 : Int32) else (1 : Int32))) ∧ Fr n0 L ∧ h = h0) := by
  refine Rm.of (plainFor_of_name pn_com_example_latchwork_latchwork_store_RedisRun) ?_
  intro p e s m below meth cod T X hx hZ hby hml hown hnm hret hlk eT0
  have hown : s.vm.findClass "com/example/latchwork/latchwork/store/RedisRun" = some m.cls := hown
  have hnm : meth.name = "keptAll" := hnm
  have N0 := Fr.nil n0
  refine Goes.cast (ef_7n0 m a wr) ?_
  show Goes p e below _ T (mkF m 0 #[.val .null, .val (.ref a), .val (.int wr), .unset] [])
  refine Goes.of (fun _ => XS.iloadN X.here hx rfl (hb hby d7_0) rfl) ?_
  show Goes p e below _ T (mkF m 1 #[.val .null, .val (.ref a), .val (.int wr), .unset] [(.int wr)])
  by_cases hpc1 : wr = (0 : Int32)
  · refine Goes.of (fun _ => XS.ifNo X.here hx rfl (hb hby d7_1) rfl ((if0 _ _).trans (teq hpc1).2)) ?_
    show Goes p e below _ T (mkF m 4 #[.val .null, .val (.ref a), .val (.int wr), .unset] [])
    refine Goes.of (fun _ => XS.iconst X.here hx rfl (hb hby d7_4)) ?_
    show Goes p e below _ T (mkF m 5 #[.val .null, .val (.ref a), .val (.int wr), .unset] [(.int (0 : Int32))])
    refine Goes.of (fun _ => XS.istoreN X.here hx rfl (hb hby d7_5) rfl (l' := #[.val .null, .val (.ref a), .val (.int wr), .val (.int (0 : Int32))]) rfl) ?_
    show Goes p e below _ T (mkF m 6 #[.val .null, .val (.ref a), .val (.int wr), .val (.int (0 : Int32))] [])
    refine Goes.of (fun _ => XS.goto X.here hx rfl (pc0 := 6) (pc' := 60) rfl (hb hby d7_6) (by decide) (by decide)) ?_
    show Goes p e below _ T (mkF m 60 #[.val .null, .val (.ref a), .val (.int wr), .val (.int (0 : Int32))] [])
    refine Goes.of (fun _ => XS.iloadN X.here hx rfl (hb hby d7_60) rfl) ?_
    show Goes p e below _ T (mkF m 61 #[.val .null, .val (.ref a), .val (.int wr), .val (.int (0 : Int32))] [(.int (0 : Int32))])
    exact retZ (t := .boolean) X hx hret hlk (by simp) (hb hby d7_61) eT0 (by decide) (by decide) ⟨by rw [if_pos hpc1]; try first | rfl | (split <;> rfl), N0, rfl⟩
  · refine Goes.of (fun _ => XS.ifYes X.here hx rfl (pc0 := 1) (pc' := 9) rfl (hb hby d7_1) rfl ((if0 _ _).trans (feq hpc1).2) (by decide) (by decide)) ?_
    show Goes p e below _ T (mkF m 9 #[.val .null, .val (.ref a), .val (.int wr), .unset] [])
    refine Goes.of (fun _ => XS.aloadN X.here hx rfl (hb hby d7_9) rfl rfl) ?_
    show Goes p e below _ T (mkF m 10 #[.val .null, .val (.ref a), .val (.int wr), .unset] [.null])
    refine Goes.of (fun _ => XS.ifnullYes X.here hx rfl (pc0 := 10) (pc' := 40) rfl (hb hby d7_10) rfl (by decide) (by decide)) ?_
    show Goes p e below _ T (mkF m 40 #[.val .null, .val (.ref a), .val (.int wr), .unset] [])
    refine Goes.of (fun _ => XS.aloadN X.here hx rfl (hb hby d7_40) rfl rfl) ?_
    show Goes p e below _ T (mkF m 41 #[.val .null, .val (.ref a), .val (.int wr), .unset] [(.ref a)])
    refine goVirtual 0 X hx hZ hown (hw _ (List.mem_of_getElem? (i := 51) rfl)) (hw _ (List.mem_of_getElem? (i := 52) rfl)) (notFace_of_selects (args := #[]) (mvT hZ (hw _ (List.mem_of_getElem? (i := 54) rfl)))) (hw _ (List.mem_of_getElem? (i := 54) rfl)) (hw _ (List.mem_of_getElem? (i := 53) rfl)) (hw _ (List.mem_of_getElem? (i := 28) rfl)) (hw _ (List.mem_of_getElem? (i := 55) rfl)) (by decide) (rm_id1 l Z a0 hw a  h0 n0 O0 F0) eT0 Eo (g := (mkF m 41 #[.val .null, .val (.ref a), .val (.int wr), .unset] [(.ref a)])) rfl (by rw [hml]; rfl) [] [] (lenOf pd___Ljava_lang_String_ rfl) rfl rfl (by show 2 * 0 + _ ≤ _; exact Nat.le_of_eq rfl) (hb hby d7_41) (by decide) (by decide) (by decide) (by decide) ?_
    intro v1 T1 L1 X1 q1
    obtain ⟨rfl, Nq1, eT1⟩ := q1
    have N1 := Fr.app N0 Nq1
    show Goes p e below _ T1 (mkF m 44 #[.val .null, .val (.ref a), .val (.int wr), .unset] [.null])
    refine Goes.of (fun _ => XS.ifnullYes X1.here hx rfl (pc0 := 44) (pc' := 54) rfl (hb hby d7_44) rfl (by decide) (by decide)) ?_
    show Goes p e below _ T1 (mkF m 54 #[.val .null, .val (.ref a), .val (.int wr), .unset] [])
    refine Goes.of (fun _ => XS.iconst X1.here hx rfl (hb hby d7_54)) ?_
    show Goes p e below _ T1 (mkF m 55 #[.val .null, .val (.ref a), .val (.int wr), .unset] [(.int (1 : Int32))])
    refine Goes.of (fun _ => XS.goto X1.here hx rfl (pc0 := 55) (pc' := 59) rfl (hb hby d7_55) (by decide) (by decide)) ?_
    show Goes p e below _ T1 (mkF m 59 #[.val .null, .val (.ref a), .val (.int wr), .unset] [(.int (1 : Int32))])
    refine Goes.of (fun _ => XS.istoreN X1.here hx rfl (hb hby d7_59) rfl (l' := #[.val .null, .val (.ref a), .val (.int wr), .val (.int (1 : Int32))]) rfl) ?_
    show Goes p e below _ T1 (mkF m 60 #[.val .null, .val (.ref a), .val (.int wr), .val (.int (1 : Int32))] [])
    refine Goes.of (fun _ => XS.iloadN X1.here hx rfl (hb hby d7_60) rfl) ?_
    show Goes p e below _ T1 (mkF m 61 #[.val .null, .val (.ref a), .val (.int wr), .val (.int (1 : Int32))] [(.int (1 : Int32))])
    exact retZ (t := .boolean) X1 hx hret hlk (by simp) (hb hby d7_61) eT1 (by decide) (by decide) ⟨by rw [if_neg hpc1]; try first | rfl | (split <;> rfl), N1, rfl⟩
set_option maxRecDepth 65536 in
set_option maxHeartbeats 40000000 in
theorem rm_kept111 (l : Launch) (Z : State) (a0 : Array Value) (hw : ∀ d ∈ tables_1, d.before a0 Z = true) (a : Addr) (wr : Int32) (cs1 cs2 : List Int32) (cz : Int32) (h0 : Heap) (n0 : Nat) (O0 : Old Z n0 h0) (Sc : Sta Z Z.heap "java/lang/String" "COMPACT_STRINGS" "Z" (.int cz)) (hcz : ¬ cz = 0) (Eo : Exa Z h0 a "com/example/latchwork/latchwork/store/RedisRun$Origin") (F0 : Fld Z h0 a "com/example/latchwork/latchwork/store/RedisRun$Origin" "id" "Ljava/lang/String;" .null) (F1 : Fld Z h0 a "com/example/latchwork/latchwork/store/RedisRun$Origin" "wroteEveryChange" "Z" (.int (1 : Int32))) :
    Rm l (⟨"com/example/latchwork/latchwork/store/RedisRun", "keptAll", "(Ljava/lang/String;Lcom/example/latchwork/latchwork/store/RedisRun$Origin;Z)Z"⟩ : MethodName) prog_16_method_4_code 4 (some .boolean) ({ frames := 1, cells := 0, slots := 0, locals := 12 } : Room) [] Z #[.null, (.ref a), (.int wr)] h0 (fun v h L => v = some (.int (if wr = (0 : Int32) then (0 : Int32) else (1 : Int32))) ∧ Fr n0 L ∧ h = h0) := by
  refine Rm.of (plainFor_of_name pn_com_example_latchwork_latchwork_store_RedisRun) ?_
  intro p e s m below meth cod T X hx hZ hby hml hown hnm hret hlk eT0
  have hown : s.vm.findClass "com/example/latchwork/latchwork/store/RedisRun" = some m.cls := hown
  have hnm : meth.name = "keptAll" := hnm
  have N0 := Fr.nil n0
  refine Goes.cast (ef_7n0 m a wr) ?_
  show Goes p e below _ T (mkF m 0 #[.val .null, .val (.ref a), .val (.int wr), .unset] [])
  refine Goes.of (fun _ => XS.iloadN X.here hx rfl (hb hby d7_0) rfl) ?_
  show Goes p e below _ T (mkF m 1 #[.val .null, .val (.ref a), .val (.int wr), .unset] [(.int wr)])
  by_cases hpc1 : wr = (0 : Int32)
  · refine Goes.of (fun _ => XS.ifNo X.here hx rfl (hb hby d7_1) rfl ((if0 _ _).trans (teq hpc1).2)) ?_
    show Goes p e below _ T (mkF m 4 #[.val .null, .val (.ref a), .val (.int wr), .unset] [])
    refine Goes.of (fun _ => XS.iconst X.here hx rfl (hb hby d7_4)) ?_
    show Goes p e below _ T (mkF m 5 #[.val .null, .val (.ref a), .val (.int wr), .unset] [(.int (0 : Int32))])
    refine Goes.of (fun _ => XS.istoreN X.here hx rfl (hb hby d7_5) rfl (l' := #[.val .null, .val (.ref a), .val (.int wr), .val (.int (0 : Int32))]) rfl) ?_
    show Goes p e below _ T (mkF m 6 #[.val .null, .val (.ref a), .val (.int wr), .val (.int (0 : Int32))] [])
    refine Goes.of (fun _ => XS.goto X.here hx rfl (pc0 := 6) (pc' := 60) rfl (hb hby d7_6) (by decide) (by decide)) ?_
    show Goes p e below _ T (mkF m 60 #[.val .null, .val (.ref a), .val (.int wr), .val (.int (0 : Int32))] [])
    refine Goes.of (fun _ => XS.iloadN X.here hx rfl (hb hby d7_60) rfl) ?_
    show Goes p e below _ T (mkF m 61 #[.val .null, .val (.ref a), .val (.int wr), .val (.int (0 : Int32))] [(.int (0 : Int32))])
    exact retZ (t := .boolean) X hx hret hlk (by simp) (hb hby d7_61) eT0 (by decide) (by decide) ⟨by rw [if_pos hpc1]; try first | rfl | (split <;> rfl), N0, rfl⟩
  · refine Goes.of (fun _ => XS.ifYes X.here hx rfl (pc0 := 1) (pc' := 9) rfl (hb hby d7_1) rfl ((if0 _ _).trans (feq hpc1).2) (by decide) (by decide)) ?_
    show Goes p e below _ T (mkF m 9 #[.val .null, .val (.ref a), .val (.int wr), .unset] [])
    refine Goes.of (fun _ => XS.aloadN X.here hx rfl (hb hby d7_9) rfl rfl) ?_
    show Goes p e below _ T (mkF m 10 #[.val .null, .val (.ref a), .val (.int wr), .unset] [.null])
    refine Goes.of (fun _ => XS.ifnullYes X.here hx rfl (pc0 := 10) (pc' := 40) rfl (hb hby d7_10) rfl (by decide) (by decide)) ?_
    show Goes p e below _ T (mkF m 40 #[.val .null, .val (.ref a), .val (.int wr), .unset] [])
    refine Goes.of (fun _ => XS.aloadN X.here hx rfl (hb hby d7_40) rfl rfl) ?_
    show Goes p e below _ T (mkF m 41 #[.val .null, .val (.ref a), .val (.int wr), .unset] [(.ref a)])
    refine goVirtual 0 X hx hZ hown (hw _ (List.mem_of_getElem? (i := 51) rfl)) (hw _ (List.mem_of_getElem? (i := 52) rfl)) (notFace_of_selects (args := #[]) (mvT hZ (hw _ (List.mem_of_getElem? (i := 54) rfl)))) (hw _ (List.mem_of_getElem? (i := 54) rfl)) (hw _ (List.mem_of_getElem? (i := 53) rfl)) (hw _ (List.mem_of_getElem? (i := 28) rfl)) (hw _ (List.mem_of_getElem? (i := 55) rfl)) (by decide) (rm_id1 l Z a0 hw a  h0 n0 O0 F0) eT0 Eo (g := (mkF m 41 #[.val .null, .val (.ref a), .val (.int wr), .unset] [(.ref a)])) rfl (by rw [hml]; rfl) [] [] (lenOf pd___Ljava_lang_String_ rfl) rfl rfl (by show 2 * 0 + _ ≤ _; exact Nat.le_of_eq rfl) (hb hby d7_41) (by decide) (by decide) (by decide) (by decide) ?_
    intro v1 T1 L1 X1 q1
    obtain ⟨rfl, Nq1, eT1⟩ := q1
    have N1 := Fr.app N0 Nq1
    show Goes p e below _ T1 (mkF m 44 #[.val .null, .val (.ref a), .val (.int wr), .unset] [.null])
    refine Goes.of (fun _ => XS.ifnullYes X1.here hx rfl (pc0 := 44) (pc' := 54) rfl (hb hby d7_44) rfl (by decide) (by decide)) ?_
    show Goes p e below _ T1 (mkF m 54 #[.val .null, .val (.ref a), .val (.int wr), .unset] [])
    refine Goes.of (fun _ => XS.iconst X1.here hx rfl (hb hby d7_54)) ?_
    show Goes p e below _ T1 (mkF m 55 #[.val .null, .val (.ref a), .val (.int wr), .unset] [(.int (1 : Int32))])
    refine Goes.of (fun _ => XS.goto X1.here hx rfl (pc0 := 55) (pc' := 59) rfl (hb hby d7_55) (by decide) (by decide)) ?_
    show Goes p e below _ T1 (mkF m 59 #[.val .null, .val (.ref a), .val (.int wr), .unset] [(.int (1 : Int32))])
    refine Goes.of (fun _ => XS.istoreN X1.here hx rfl (hb hby d7_59) rfl (l' := #[.val .null, .val (.ref a), .val (.int wr), .val (.int (1 : Int32))]) rfl) ?_
    show Goes p e below _ T1 (mkF m 60 #[.val .null, .val (.ref a), .val (.int wr), .val (.int (1 : Int32))] [])
    refine Goes.of (fun _ => XS.iloadN X1.here hx rfl (hb hby d7_60) rfl) ?_
    show Goes p e below _ T1 (mkF m 61 #[.val .null, .val (.ref a), .val (.int wr), .val (.int (1 : Int32))] [(.int (1 : Int32))])
    exact retZ (t := .boolean) X1 hx hret hlk (by simp) (hb hby d7_61) eT1 (by decide) (by decide) ⟨by rw [if_neg hpc1]; try first | rfl | (split <;> rfl), N1, rfl⟩
set_option maxRecDepth 65536 in
set_option maxHeartbeats 40000000 in
theorem rm_law (l : Launch) (Z : State) (a0 : Array Value) (hw : ∀ d ∈ tables_1, d.before a0 Z = true) (ws : List Jvm.Cond) (p1 p2 p3 : Int32) (cz : Int32) (h0 : Heap) (n0 : Nat) (O0 : Old Z n0 h0) (Sc : Sta Z Z.heap "java/lang/String" "COMPACT_STRINGS" "Z" (.int cz)) (hcz : ¬ cz = 0) :
    RmH l x code maxLocals ret room_1 ws Z EL #[(.int p1), (.int p2), (.int p3)] h0 (fun v h L => v = some (.int 1) ∧ Fr n0 L) := by
  refine RmH.of (plainFor_of_name pn_com_example_latchwork_latchwork_store_RedisRunKeptAllPinLaw) ?_
  intro p e s m below meth cod T X hx hZ hby hml hown hnm hret hlk eT0 hS hk HC
  have hEL := hELof hw
  have wS := wSof hw
  have hown : s.vm.findClass "com/example/latchwork/latchwork/store/RedisRunKeptAllPinLaw" = some m.cls := hown
  have hnm : meth.name = "law" := hnm
  have N0 := Fr.nil n0
  refine Goes.cast (ef_0 m p1 p2 p3) ?_
  show Goes p e below _ T (mkF m 0 #[.val (.int p1), .val (.int p2), .val (.int p3), .unset, .unset, .unset, .unset, .unset, .unset, .unset, .unset, .unset, .unset, .unset, .unset, .unset, .unset, .unset, .unset, .unset] [])
  refine Goes.of (fun _ => XS.iloadN X.here hx rfl (hb hby at_0) rfl) ?_
  show Goes p e below _ T (mkF m 1 #[.val (.int p1), .val (.int p2), .val (.int p3), .unset, .unset, .unset, .unset, .unset, .unset, .unset, .unset, .unset, .unset, .unset, .unset, .unset, .unset, .unset, .unset, .unset] [(.int p3)])
  refine Goes.of (fun _ => XS.iconst X.here hx rfl (hb hby at_1)) ?_
  show Goes p e below _ T (mkF m 2 #[.val (.int p1), .val (.int p2), .val (.int p3), .unset, .unset, .unset, .unset, .unset, .unset, .unset, .unset, .unset, .unset, .unset, .unset, .unset, .unset, .unset, .unset, .unset] [(.int (1 : Int32)), (.int p3)])
  refine Goes.of (fun _ => XS.iand X.here hx rfl (hb hby at_2) rfl) ?_
  show Goes p e below _ T (mkF m 3 #[.val (.int p1), .val (.int p2), .val (.int p3), .unset, .unset, .unset, .unset, .unset, .unset, .unset, .unset, .unset, .unset, .unset, .unset, .unset, .unset, .unset, .unset, .unset] [(.int (p3 &&& (1 : Int32)))])
  refine Goes.of (T' := T) (f' := (mkF m 11 #[.val (.int p1), .val (.int p2), .val (.int p3), .unset, .unset, .unset, .unset, .unset, .unset, .unset, .unset, .unset, .unset, .unset, .unset, .unset, .unset, .unset, .unset, .unset] [(.int (if (p3 &&& (1 : Int32)) = (0 : Int32) then (0 : Int32) else (1 : Int32)))])) (fun t kt => ?_) ?_
  · show Steps p.tables e below (T.setTop (mkF m 3 #[.val (.int p1), .val (.int p2), .val (.int p3), .unset, .unset, .unset, .unset, .unset, .unset, .unset, .unset, .unset, .unset, .unset, .unset, .unset, .unset, .unset, .unset, .unset] [(.int (p3 &&& (1 : Int32)))])) _
    by_cases hq3 : (p3 &&& (1 : Int32)) = (0 : Int32)
    · simp only [if_pos hq3] at kt
      refine XS.ifYes X.here hx rfl (pc0 := 3) (pc' := 10) rfl (hb hby at_3) rfl ((if0 _ _).trans (teq hq3).1) (by decide) (by decide) ?_
      show Steps p.tables e below (T.setTop (mkF m 10 #[.val (.int p1), .val (.int p2), .val (.int p3), .unset, .unset, .unset, .unset, .unset, .unset, .unset, .unset, .unset, .unset, .unset, .unset, .unset, .unset, .unset, .unset, .unset] [])) _
      refine XS.iconst X.here hx rfl (hb hby at_10) ?_
      show Steps p.tables e below (T.setTop (mkF m 11 #[.val (.int p1), .val (.int p2), .val (.int p3), .unset, .unset, .unset, .unset, .unset, .unset, .unset, .unset, .unset, .unset, .unset, .unset, .unset, .unset, .unset, .unset, .unset] [(.int (0 : Int32))])) _
      exact kt
    · simp only [if_neg hq3] at kt
      refine XS.ifNo X.here hx rfl (hb hby at_3) rfl ((if0 _ _).trans (feq hq3).1) ?_
      show Steps p.tables e below (T.setTop (mkF m 6 #[.val (.int p1), .val (.int p2), .val (.int p3), .unset, .unset, .unset, .unset, .unset, .unset, .unset, .unset, .unset, .unset, .unset, .unset, .unset, .unset, .unset, .unset, .unset] [])) _
      refine XS.iconst X.here hx rfl (hb hby at_6) ?_
      show Steps p.tables e below (T.setTop (mkF m 7 #[.val (.int p1), .val (.int p2), .val (.int p3), .unset, .unset, .unset, .unset, .unset, .unset, .unset, .unset, .unset, .unset, .unset, .unset, .unset, .unset, .unset, .unset, .unset] [(.int (1 : Int32))])) _
      refine XS.goto X.here hx rfl (pc0 := 7) (pc' := 11) rfl (hb hby at_7) (by decide) (by decide) ?_
      show Steps p.tables e below (T.setTop (mkF m 11 #[.val (.int p1), .val (.int p2), .val (.int p3), .unset, .unset, .unset, .unset, .unset, .unset, .unset, .unset, .unset, .unset, .unset, .unset, .unset, .unset, .unset, .unset, .unset] [(.int (1 : Int32))])) _
      exact kt
  show Goes p e below _ T (mkF m 11 #[.val (.int p1), .val (.int p2), .val (.int p3), .unset, .unset, .unset, .unset, .unset, .unset, .unset, .unset, .unset, .unset, .unset, .unset, .unset, .unset, .unset, .unset, .unset] [(.int (if (p3 &&& (1 : Int32)) = (0 : Int32) then (0 : Int32) else (1 : Int32)))])
  refine Goes.of (fun _ => XS.istoreN X.here hx rfl (hb hby at_11) rfl (l' := #[.val (.int p1), .val (.int p2), .val (.int p3), .val (.int (if (p3 &&& (1 : Int32)) = (0 : Int32) then (0 : Int32) else (1 : Int32))), .unset, .unset, .unset, .unset, .unset, .unset, .unset, .unset, .unset, .unset, .unset, .unset, .unset, .unset, .unset, .unset]) rfl) ?_
  show Goes p e below _ T (mkF m 12 #[.val (.int p1), .val (.int p2), .val (.int p3), .val (.int (if (p3 &&& (1 : Int32)) = (0 : Int32) then (0 : Int32) else (1 : Int32))), .unset, .unset, .unset, .unset, .unset, .unset, .unset, .unset, .unset, .unset, .unset, .unset, .unset, .unset, .unset, .unset] [])
  generalize evr : (if (p3 &&& (1 : Int32)) = (0 : Int32) then (0 : Int32) else (1 : Int32)) = vr
  show Goes p e below _ T (mkF m 12 #[.val (.int p1), .val (.int p2), .val (.int p3), .val (.int vr), .unset, .unset, .unset, .unset, .unset, .unset, .unset, .unset, .unset, .unset, .unset, .unset, .unset, .unset, .unset, .unset] [])
  have hvr := b01 evr
  show Goes p e below _ T (mkF m 12 #[.val (.int p1), .val (.int p2), .val (.int p3), .val (.int vr), .unset, .unset, .unset, .unset, .unset, .unset, .unset, .unset, .unset, .unset, .unset, .unset, .unset, .unset, .unset, .unset] [])
  refine Goes.of (fun _ => XS.iloadN X.here hx rfl (hb hby at_12) rfl) ?_
  show Goes p e below _ T (mkF m 13 #[.val (.int p1), .val (.int p2), .val (.int p3), .val (.int vr), .unset, .unset, .unset, .unset, .unset, .unset, .unset, .unset, .unset, .unset, .unset, .unset, .unset, .unset, .unset, .unset] [(.int p3)])
  refine Goes.of (fun _ => XS.iconst X.here hx rfl (hb hby at_13)) ?_
  show Goes p e below _ T (mkF m 14 #[.val (.int p1), .val (.int p2), .val (.int p3), .val (.int vr), .unset, .unset, .unset, .unset, .unset, .unset, .unset, .unset, .unset, .unset, .unset, .unset, .unset, .unset, .unset, .unset] [(.int (2 : Int32)), (.int p3)])
  refine Goes.of (fun _ => XS.iand X.here hx rfl (hb hby at_14) rfl) ?_
  show Goes p e below _ T (mkF m 15 #[.val (.int p1), .val (.int p2), .val (.int p3), .val (.int vr), .unset, .unset, .unset, .unset, .unset, .unset, .unset, .unset, .unset, .unset, .unset, .unset, .unset, .unset, .unset, .unset] [(.int (p3 &&& (2 : Int32)))])
  refine Goes.of (T' := T) (f' := (mkF m 23 #[.val (.int p1), .val (.int p2), .val (.int p3), .val (.int vr), .unset, .unset, .unset, .unset, .unset, .unset, .unset, .unset, .unset, .unset, .unset, .unset, .unset, .unset, .unset, .unset] [(.int (if (p3 &&& (2 : Int32)) = (0 : Int32) then (0 : Int32) else (1 : Int32)))])) (fun t kt => ?_) ?_
  · show Steps p.tables e below (T.setTop (mkF m 15 #[.val (.int p1), .val (.int p2), .val (.int p3), .val (.int vr), .unset, .unset, .unset, .unset, .unset, .unset, .unset, .unset, .unset, .unset, .unset, .unset, .unset, .unset, .unset, .unset] [(.int (p3 &&& (2 : Int32)))])) _
    by_cases hq15 : (p3 &&& (2 : Int32)) = (0 : Int32)
    · simp only [if_pos hq15] at kt
      refine XS.ifYes X.here hx rfl (pc0 := 15) (pc' := 22) rfl (hb hby at_15) rfl ((if0 _ _).trans (teq hq15).1) (by decide) (by decide) ?_
      show Steps p.tables e below (T.setTop (mkF m 22 #[.val (.int p1), .val (.int p2), .val (.int p3), .val (.int vr), .unset, .unset, .unset, .unset, .unset, .unset, .unset, .unset, .unset, .unset, .unset, .unset, .unset, .unset, .unset, .unset] [])) _
      refine XS.iconst X.here hx rfl (hb hby at_22) ?_
      show Steps p.tables e below (T.setTop (mkF m 23 #[.val (.int p1), .val (.int p2), .val (.int p3), .val (.int vr), .unset, .unset, .unset, .unset, .unset, .unset, .unset, .unset, .unset, .unset, .unset, .unset, .unset, .unset, .unset, .unset] [(.int (0 : Int32))])) _
      exact kt
    · simp only [if_neg hq15] at kt
      refine XS.ifNo X.here hx rfl (hb hby at_15) rfl ((if0 _ _).trans (feq hq15).1) ?_
      show Steps p.tables e below (T.setTop (mkF m 18 #[.val (.int p1), .val (.int p2), .val (.int p3), .val (.int vr), .unset, .unset, .unset, .unset, .unset, .unset, .unset, .unset, .unset, .unset, .unset, .unset, .unset, .unset, .unset, .unset] [])) _
      refine XS.iconst X.here hx rfl (hb hby at_18) ?_
      show Steps p.tables e below (T.setTop (mkF m 19 #[.val (.int p1), .val (.int p2), .val (.int p3), .val (.int vr), .unset, .unset, .unset, .unset, .unset, .unset, .unset, .unset, .unset, .unset, .unset, .unset, .unset, .unset, .unset, .unset] [(.int (1 : Int32))])) _
      refine XS.goto X.here hx rfl (pc0 := 19) (pc' := 23) rfl (hb hby at_19) (by decide) (by decide) ?_
      show Steps p.tables e below (T.setTop (mkF m 23 #[.val (.int p1), .val (.int p2), .val (.int p3), .val (.int vr), .unset, .unset, .unset, .unset, .unset, .unset, .unset, .unset, .unset, .unset, .unset, .unset, .unset, .unset, .unset, .unset] [(.int (1 : Int32))])) _
      exact kt
  show Goes p e below _ T (mkF m 23 #[.val (.int p1), .val (.int p2), .val (.int p3), .val (.int vr), .unset, .unset, .unset, .unset, .unset, .unset, .unset, .unset, .unset, .unset, .unset, .unset, .unset, .unset, .unset, .unset] [(.int (if (p3 &&& (2 : Int32)) = (0 : Int32) then (0 : Int32) else (1 : Int32)))])
  refine Goes.of (fun _ => XS.istore X.here hx rfl (hb hby at_23) rfl (l' := #[.val (.int p1), .val (.int p2), .val (.int p3), .val (.int vr), .val (.int (if (p3 &&& (2 : Int32)) = (0 : Int32) then (0 : Int32) else (1 : Int32))), .unset, .unset, .unset, .unset, .unset, .unset, .unset, .unset, .unset, .unset, .unset, .unset, .unset, .unset, .unset]) rfl) ?_
  show Goes p e below _ T (mkF m 25 #[.val (.int p1), .val (.int p2), .val (.int p3), .val (.int vr), .val (.int (if (p3 &&& (2 : Int32)) = (0 : Int32) then (0 : Int32) else (1 : Int32))), .unset, .unset, .unset, .unset, .unset, .unset, .unset, .unset, .unset, .unset, .unset, .unset, .unset, .unset, .unset] [])
  generalize evt : (if (p3 &&& (2 : Int32)) = (0 : Int32) then (0 : Int32) else (1 : Int32)) = vt
  show Goes p e below _ T (mkF m 25 #[.val (.int p1), .val (.int p2), .val (.int p3), .val (.int vr), .val (.int vt), .unset, .unset, .unset, .unset, .unset, .unset, .unset, .unset, .unset, .unset, .unset, .unset, .unset, .unset, .unset] [])
  have hvt := b01 evt
  show Goes p e below _ T (mkF m 25 #[.val (.int p1), .val (.int p2), .val (.int p3), .val (.int vr), .val (.int vt), .unset, .unset, .unset, .unset, .unset, .unset, .unset, .unset, .unset, .unset, .unset, .unset, .unset, .unset, .unset] [])
  refine Goes.of (fun _ => XS.iloadN X.here hx rfl (hb hby at_25) rfl) ?_
  show Goes p e below _ T (mkF m 26 #[.val (.int p1), .val (.int p2), .val (.int p3), .val (.int vr), .val (.int vt), .unset, .unset, .unset, .unset, .unset, .unset, .unset, .unset, .unset, .unset, .unset, .unset, .unset, .unset, .unset] [(.int p3)])
  refine Goes.of (fun _ => XS.iconst X.here hx rfl (hb hby at_26)) ?_
  show Goes p e below _ T (mkF m 27 #[.val (.int p1), .val (.int p2), .val (.int p3), .val (.int vr), .val (.int vt), .unset, .unset, .unset, .unset, .unset, .unset, .unset, .unset, .unset, .unset, .unset, .unset, .unset, .unset, .unset] [(.int (4 : Int32)), (.int p3)])
  refine Goes.of (fun _ => XS.iand X.here hx rfl (hb hby at_27) rfl) ?_
  show Goes p e below _ T (mkF m 28 #[.val (.int p1), .val (.int p2), .val (.int p3), .val (.int vr), .val (.int vt), .unset, .unset, .unset, .unset, .unset, .unset, .unset, .unset, .unset, .unset, .unset, .unset, .unset, .unset, .unset] [(.int (p3 &&& (4 : Int32)))])
  refine Goes.of (T' := T) (f' := (mkF m 36 #[.val (.int p1), .val (.int p2), .val (.int p3), .val (.int vr), .val (.int vt), .unset, .unset, .unset, .unset, .unset, .unset, .unset, .unset, .unset, .unset, .unset, .unset, .unset, .unset, .unset] [(.int (if (p3 &&& (4 : Int32)) = (0 : Int32) then (0 : Int32) else (1 : Int32)))])) (fun t kt => ?_) ?_
  · show Steps p.tables e below (T.setTop (mkF m 28 #[.val (.int p1), .val (.int p2), .val (.int p3), .val (.int vr), .val (.int vt), .unset, .unset, .unset, .unset, .unset, .unset, .unset, .unset, .unset, .unset, .unset, .unset, .unset, .unset, .unset] [(.int (p3 &&& (4 : Int32)))])) _
    by_cases hq28 : (p3 &&& (4 : Int32)) = (0 : Int32)
    · simp only [if_pos hq28] at kt
      refine XS.ifYes X.here hx rfl (pc0 := 28) (pc' := 35) rfl (hb hby at_28) rfl ((if0 _ _).trans (teq hq28).1) (by decide) (by decide) ?_
      show Steps p.tables e below (T.setTop (mkF m 35 #[.val (.int p1), .val (.int p2), .val (.int p3), .val (.int vr), .val (.int vt), .unset, .unset, .unset, .unset, .unset, .unset, .unset, .unset, .unset, .unset, .unset, .unset, .unset, .unset, .unset] [])) _
      refine XS.iconst X.here hx rfl (hb hby at_35) ?_
      show Steps p.tables e below (T.setTop (mkF m 36 #[.val (.int p1), .val (.int p2), .val (.int p3), .val (.int vr), .val (.int vt), .unset, .unset, .unset, .unset, .unset, .unset, .unset, .unset, .unset, .unset, .unset, .unset, .unset, .unset, .unset] [(.int (0 : Int32))])) _
      exact kt
    · simp only [if_neg hq28] at kt
      refine XS.ifNo X.here hx rfl (hb hby at_28) rfl ((if0 _ _).trans (feq hq28).1) ?_
      show Steps p.tables e below (T.setTop (mkF m 31 #[.val (.int p1), .val (.int p2), .val (.int p3), .val (.int vr), .val (.int vt), .unset, .unset, .unset, .unset, .unset, .unset, .unset, .unset, .unset, .unset, .unset, .unset, .unset, .unset, .unset] [])) _
      refine XS.iconst X.here hx rfl (hb hby at_31) ?_
      show Steps p.tables e below (T.setTop (mkF m 32 #[.val (.int p1), .val (.int p2), .val (.int p3), .val (.int vr), .val (.int vt), .unset, .unset, .unset, .unset, .unset, .unset, .unset, .unset, .unset, .unset, .unset, .unset, .unset, .unset, .unset] [(.int (1 : Int32))])) _
      refine XS.goto X.here hx rfl (pc0 := 32) (pc' := 36) rfl (hb hby at_32) (by decide) (by decide) ?_
      show Steps p.tables e below (T.setTop (mkF m 36 #[.val (.int p1), .val (.int p2), .val (.int p3), .val (.int vr), .val (.int vt), .unset, .unset, .unset, .unset, .unset, .unset, .unset, .unset, .unset, .unset, .unset, .unset, .unset, .unset, .unset] [(.int (1 : Int32))])) _
      exact kt
  show Goes p e below _ T (mkF m 36 #[.val (.int p1), .val (.int p2), .val (.int p3), .val (.int vr), .val (.int vt), .unset, .unset, .unset, .unset, .unset, .unset, .unset, .unset, .unset, .unset, .unset, .unset, .unset, .unset, .unset] [(.int (if (p3 &&& (4 : Int32)) = (0 : Int32) then (0 : Int32) else (1 : Int32)))])
  refine Goes.of (fun _ => XS.istore X.here hx rfl (hb hby at_36) rfl (l' := #[.val (.int p1), .val (.int p2), .val (.int p3), .val (.int vr), .val (.int vt), .val (.int (if (p3 &&& (4 : Int32)) = (0 : Int32) then (0 : Int32) else (1 : Int32))), .unset, .unset, .unset, .unset, .unset, .unset, .unset, .unset, .unset, .unset, .unset, .unset, .unset, .unset]) rfl) ?_
  show Goes p e below _ T (mkF m 38 #[.val (.int p1), .val (.int p2), .val (.int p3), .val (.int vr), .val (.int vt), .val (.int (if (p3 &&& (4 : Int32)) = (0 : Int32) then (0 : Int32) else (1 : Int32))), .unset, .unset, .unset, .unset, .unset, .unset, .unset, .unset, .unset, .unset, .unset, .unset, .unset, .unset] [])
  generalize evb : (if (p3 &&& (4 : Int32)) = (0 : Int32) then (0 : Int32) else (1 : Int32)) = vb
  show Goes p e below _ T (mkF m 38 #[.val (.int p1), .val (.int p2), .val (.int p3), .val (.int vr), .val (.int vt), .val (.int vb), .unset, .unset, .unset, .unset, .unset, .unset, .unset, .unset, .unset, .unset, .unset, .unset, .unset, .unset] [])
  have hvb := b01 evb
  show Goes p e below _ T (mkF m 38 #[.val (.int p1), .val (.int p2), .val (.int p3), .val (.int vr), .val (.int vt), .val (.int vb), .unset, .unset, .unset, .unset, .unset, .unset, .unset, .unset, .unset, .unset, .unset, .unset, .unset, .unset] [])
  refine Goes.of (fun _ => XS.iloadN X.here hx rfl (hb hby at_38) rfl) ?_
  show Goes p e below _ T (mkF m 39 #[.val (.int p1), .val (.int p2), .val (.int p3), .val (.int vr), .val (.int vt), .val (.int vb), .unset, .unset, .unset, .unset, .unset, .unset, .unset, .unset, .unset, .unset, .unset, .unset, .unset, .unset] [(.int p3)])
  refine Goes.of (fun _ => XS.bipush X.here hx rfl (hb hby at_39)) ?_
  show Goes p e below _ T (mkF m 41 #[.val (.int p1), .val (.int p2), .val (.int p3), .val (.int vr), .val (.int vt), .val (.int vb), .unset, .unset, .unset, .unset, .unset, .unset, .unset, .unset, .unset, .unset, .unset, .unset, .unset, .unset] [(.int (8 : Int32)), (.int p3)])
  refine Goes.of (fun _ => XS.iand X.here hx rfl (hb hby at_41) rfl) ?_
  show Goes p e below _ T (mkF m 42 #[.val (.int p1), .val (.int p2), .val (.int p3), .val (.int vr), .val (.int vt), .val (.int vb), .unset, .unset, .unset, .unset, .unset, .unset, .unset, .unset, .unset, .unset, .unset, .unset, .unset, .unset] [(.int (p3 &&& (8 : Int32)))])
  refine Goes.of (T' := T) (f' := (mkF m 50 #[.val (.int p1), .val (.int p2), .val (.int p3), .val (.int vr), .val (.int vt), .val (.int vb), .unset, .unset, .unset, .unset, .unset, .unset, .unset, .unset, .unset, .unset, .unset, .unset, .unset, .unset] [(.int (if (p3 &&& (8 : Int32)) = (0 : Int32) then (0 : Int32) else (1 : Int32)))])) (fun t kt => ?_) ?_
  · show Steps p.tables e below (T.setTop (mkF m 42 #[.val (.int p1), .val (.int p2), .val (.int p3), .val (.int vr), .val (.int vt), .val (.int vb), .unset, .unset, .unset, .unset, .unset, .unset, .unset, .unset, .unset, .unset, .unset, .unset, .unset, .unset] [(.int (p3 &&& (8 : Int32)))])) _
    by_cases hq42 : (p3 &&& (8 : Int32)) = (0 : Int32)
    · simp only [if_pos hq42] at kt
      refine XS.ifYes X.here hx rfl (pc0 := 42) (pc' := 49) rfl (hb hby at_42) rfl ((if0 _ _).trans (teq hq42).1) (by decide) (by decide) ?_
      show Steps p.tables e below (T.setTop (mkF m 49 #[.val (.int p1), .val (.int p2), .val (.int p3), .val (.int vr), .val (.int vt), .val (.int vb), .unset, .unset, .unset, .unset, .unset, .unset, .unset, .unset, .unset, .unset, .unset, .unset, .unset, .unset] [])) _
      refine XS.iconst X.here hx rfl (hb hby at_49) ?_
      show Steps p.tables e below (T.setTop (mkF m 50 #[.val (.int p1), .val (.int p2), .val (.int p3), .val (.int vr), .val (.int vt), .val (.int vb), .unset, .unset, .unset, .unset, .unset, .unset, .unset, .unset, .unset, .unset, .unset, .unset, .unset, .unset] [(.int (0 : Int32))])) _
      exact kt
    · simp only [if_neg hq42] at kt
      refine XS.ifNo X.here hx rfl (hb hby at_42) rfl ((if0 _ _).trans (feq hq42).1) ?_
      show Steps p.tables e below (T.setTop (mkF m 45 #[.val (.int p1), .val (.int p2), .val (.int p3), .val (.int vr), .val (.int vt), .val (.int vb), .unset, .unset, .unset, .unset, .unset, .unset, .unset, .unset, .unset, .unset, .unset, .unset, .unset, .unset] [])) _
      refine XS.iconst X.here hx rfl (hb hby at_45) ?_
      show Steps p.tables e below (T.setTop (mkF m 46 #[.val (.int p1), .val (.int p2), .val (.int p3), .val (.int vr), .val (.int vt), .val (.int vb), .unset, .unset, .unset, .unset, .unset, .unset, .unset, .unset, .unset, .unset, .unset, .unset, .unset, .unset] [(.int (1 : Int32))])) _
      refine XS.goto X.here hx rfl (pc0 := 46) (pc' := 50) rfl (hb hby at_46) (by decide) (by decide) ?_
      show Steps p.tables e below (T.setTop (mkF m 50 #[.val (.int p1), .val (.int p2), .val (.int p3), .val (.int vr), .val (.int vt), .val (.int vb), .unset, .unset, .unset, .unset, .unset, .unset, .unset, .unset, .unset, .unset, .unset, .unset, .unset, .unset] [(.int (1 : Int32))])) _
      exact kt
  show Goes p e below _ T (mkF m 50 #[.val (.int p1), .val (.int p2), .val (.int p3), .val (.int vr), .val (.int vt), .val (.int vb), .unset, .unset, .unset, .unset, .unset, .unset, .unset, .unset, .unset, .unset, .unset, .unset, .unset, .unset] [(.int (if (p3 &&& (8 : Int32)) = (0 : Int32) then (0 : Int32) else (1 : Int32)))])
  refine Goes.of (fun _ => XS.istore X.here hx rfl (hb hby at_50) rfl (l' := #[.val (.int p1), .val (.int p2), .val (.int p3), .val (.int vr), .val (.int vt), .val (.int vb), .val (.int (if (p3 &&& (8 : Int32)) = (0 : Int32) then (0 : Int32) else (1 : Int32))), .unset, .unset, .unset, .unset, .unset, .unset, .unset, .unset, .unset, .unset, .unset, .unset, .unset]) rfl) ?_
  show Goes p e below _ T (mkF m 52 #[.val (.int p1), .val (.int p2), .val (.int p3), .val (.int vr), .val (.int vt), .val (.int vb), .val (.int (if (p3 &&& (8 : Int32)) = (0 : Int32) then (0 : Int32) else (1 : Int32))), .unset, .unset, .unset, .unset, .unset, .unset, .unset, .unset, .unset, .unset, .unset, .unset, .unset] [])
  generalize evi : (if (p3 &&& (8 : Int32)) = (0 : Int32) then (0 : Int32) else (1 : Int32)) = vi
  show Goes p e below _ T (mkF m 52 #[.val (.int p1), .val (.int p2), .val (.int p3), .val (.int vr), .val (.int vt), .val (.int vb), .val (.int vi), .unset, .unset, .unset, .unset, .unset, .unset, .unset, .unset, .unset, .unset, .unset, .unset, .unset] [])
  have hvi := b01 evi
  show Goes p e below _ T (mkF m 52 #[.val (.int p1), .val (.int p2), .val (.int p3), .val (.int vr), .val (.int vt), .val (.int vb), .val (.int vi), .unset, .unset, .unset, .unset, .unset, .unset, .unset, .unset, .unset, .unset, .unset, .unset, .unset] [])
  refine Goes.of (fun _ => XS.iloadN X.here hx rfl (hb hby at_52) rfl) ?_
  show Goes p e below _ T (mkF m 53 #[.val (.int p1), .val (.int p2), .val (.int p3), .val (.int vr), .val (.int vt), .val (.int vb), .val (.int vi), .unset, .unset, .unset, .unset, .unset, .unset, .unset, .unset, .unset, .unset, .unset, .unset, .unset] [(.int p3)])
  refine Goes.of (fun _ => XS.bipush X.here hx rfl (hb hby at_53)) ?_
  show Goes p e below _ T (mkF m 55 #[.val (.int p1), .val (.int p2), .val (.int p3), .val (.int vr), .val (.int vt), .val (.int vb), .val (.int vi), .unset, .unset, .unset, .unset, .unset, .unset, .unset, .unset, .unset, .unset, .unset, .unset, .unset] [(.int (16 : Int32)), (.int p3)])
  refine Goes.of (fun _ => XS.iand X.here hx rfl (hb hby at_55) rfl) ?_
  show Goes p e below _ T (mkF m 56 #[.val (.int p1), .val (.int p2), .val (.int p3), .val (.int vr), .val (.int vt), .val (.int vb), .val (.int vi), .unset, .unset, .unset, .unset, .unset, .unset, .unset, .unset, .unset, .unset, .unset, .unset, .unset] [(.int (p3 &&& (16 : Int32)))])
  refine Goes.of (T' := T) (f' := (mkF m 64 #[.val (.int p1), .val (.int p2), .val (.int p3), .val (.int vr), .val (.int vt), .val (.int vb), .val (.int vi), .unset, .unset, .unset, .unset, .unset, .unset, .unset, .unset, .unset, .unset, .unset, .unset, .unset] [(.int (if (p3 &&& (16 : Int32)) = (0 : Int32) then (0 : Int32) else (1 : Int32)))])) (fun t kt => ?_) ?_
  · show Steps p.tables e below (T.setTop (mkF m 56 #[.val (.int p1), .val (.int p2), .val (.int p3), .val (.int vr), .val (.int vt), .val (.int vb), .val (.int vi), .unset, .unset, .unset, .unset, .unset, .unset, .unset, .unset, .unset, .unset, .unset, .unset, .unset] [(.int (p3 &&& (16 : Int32)))])) _
    by_cases hq56 : (p3 &&& (16 : Int32)) = (0 : Int32)
    · simp only [if_pos hq56] at kt
      refine XS.ifYes X.here hx rfl (pc0 := 56) (pc' := 63) rfl (hb hby at_56) rfl ((if0 _ _).trans (teq hq56).1) (by decide) (by decide) ?_
      show Steps p.tables e below (T.setTop (mkF m 63 #[.val (.int p1), .val (.int p2), .val (.int p3), .val (.int vr), .val (.int vt), .val (.int vb), .val (.int vi), .unset, .unset, .unset, .unset, .unset, .unset, .unset, .unset, .unset, .unset, .unset, .unset, .unset] [])) _
      refine XS.iconst X.here hx rfl (hb hby at_63) ?_
      show Steps p.tables e below (T.setTop (mkF m 64 #[.val (.int p1), .val (.int p2), .val (.int p3), .val (.int vr), .val (.int vt), .val (.int vb), .val (.int vi), .unset, .unset, .unset, .unset, .unset, .unset, .unset, .unset, .unset, .unset, .unset, .unset, .unset] [(.int (0 : Int32))])) _
      exact kt
    · simp only [if_neg hq56] at kt
      refine XS.ifNo X.here hx rfl (hb hby at_56) rfl ((if0 _ _).trans (feq hq56).1) ?_
      show Steps p.tables e below (T.setTop (mkF m 59 #[.val (.int p1), .val (.int p2), .val (.int p3), .val (.int vr), .val (.int vt), .val (.int vb), .val (.int vi), .unset, .unset, .unset, .unset, .unset, .unset, .unset, .unset, .unset, .unset, .unset, .unset, .unset] [])) _
      refine XS.iconst X.here hx rfl (hb hby at_59) ?_
      show Steps p.tables e below (T.setTop (mkF m 60 #[.val (.int p1), .val (.int p2), .val (.int p3), .val (.int vr), .val (.int vt), .val (.int vb), .val (.int vi), .unset, .unset, .unset, .unset, .unset, .unset, .unset, .unset, .unset, .unset, .unset, .unset, .unset] [(.int (1 : Int32))])) _
      refine XS.goto X.here hx rfl (pc0 := 60) (pc' := 64) rfl (hb hby at_60) (by decide) (by decide) ?_
      show Steps p.tables e below (T.setTop (mkF m 64 #[.val (.int p1), .val (.int p2), .val (.int p3), .val (.int vr), .val (.int vt), .val (.int vb), .val (.int vi), .unset, .unset, .unset, .unset, .unset, .unset, .unset, .unset, .unset, .unset, .unset, .unset, .unset] [(.int (1 : Int32))])) _
      exact kt
  show Goes p e below _ T (mkF m 64 #[.val (.int p1), .val (.int p2), .val (.int p3), .val (.int vr), .val (.int vt), .val (.int vb), .val (.int vi), .unset, .unset, .unset, .unset, .unset, .unset, .unset, .unset, .unset, .unset, .unset, .unset, .unset] [(.int (if (p3 &&& (16 : Int32)) = (0 : Int32) then (0 : Int32) else (1 : Int32)))])
  refine Goes.of (fun _ => XS.istore X.here hx rfl (hb hby at_64) rfl (l' := #[.val (.int p1), .val (.int p2), .val (.int p3), .val (.int vr), .val (.int vt), .val (.int vb), .val (.int vi), .val (.int (if (p3 &&& (16 : Int32)) = (0 : Int32) then (0 : Int32) else (1 : Int32))), .unset, .unset, .unset, .unset, .unset, .unset, .unset, .unset, .unset, .unset, .unset, .unset]) rfl) ?_
  show Goes p e below _ T (mkF m 66 #[.val (.int p1), .val (.int p2), .val (.int p3), .val (.int vr), .val (.int vt), .val (.int vb), .val (.int vi), .val (.int (if (p3 &&& (16 : Int32)) = (0 : Int32) then (0 : Int32) else (1 : Int32))), .unset, .unset, .unset, .unset, .unset, .unset, .unset, .unset, .unset, .unset, .unset, .unset] [])
  generalize evc : (if (p3 &&& (16 : Int32)) = (0 : Int32) then (0 : Int32) else (1 : Int32)) = vc
  show Goes p e below _ T (mkF m 66 #[.val (.int p1), .val (.int p2), .val (.int p3), .val (.int vr), .val (.int vt), .val (.int vb), .val (.int vi), .val (.int vc), .unset, .unset, .unset, .unset, .unset, .unset, .unset, .unset, .unset, .unset, .unset, .unset] [])
  refine Goes.of (fun _ => XS.iloadN X.here hx rfl (hb hby at_66) rfl) ?_
  show Goes p e below _ T (mkF m 67 #[.val (.int p1), .val (.int p2), .val (.int p3), .val (.int vr), .val (.int vt), .val (.int vb), .val (.int vi), .val (.int vc), .unset, .unset, .unset, .unset, .unset, .unset, .unset, .unset, .unset, .unset, .unset, .unset] [(.int p3)])
  refine Goes.of (fun _ => XS.iconst X.here hx rfl (hb hby at_67)) ?_
  show Goes p e below _ T (mkF m 68 #[.val (.int p1), .val (.int p2), .val (.int p3), .val (.int vr), .val (.int vt), .val (.int vb), .val (.int vi), .val (.int vc), .unset, .unset, .unset, .unset, .unset, .unset, .unset, .unset, .unset, .unset, .unset, .unset] [(.int (5 : Int32)), (.int p3)])
  refine Goes.of (fun _ => XS.iushr X.here hx rfl (hb hby at_68) rfl) ?_
  show Goes p e below _ T (mkF m 69 #[.val (.int p1), .val (.int p2), .val (.int p3), .val (.int vr), .val (.int vt), .val (.int vb), .val (.int vi), .val (.int vc), .unset, .unset, .unset, .unset, .unset, .unset, .unset, .unset, .unset, .unset, .unset, .unset] [(.int ((p3.toUInt32 >>> ((5 : Int32) &&& 31).toUInt32).toInt32))])
  refine Goes.of (fun _ => XS.iconst X.here hx rfl (hb hby at_69)) ?_
  show Goes p e below _ T (mkF m 70 #[.val (.int p1), .val (.int p2), .val (.int p3), .val (.int vr), .val (.int vt), .val (.int vb), .val (.int vi), .val (.int vc), .unset, .unset, .unset, .unset, .unset, .unset, .unset, .unset, .unset, .unset, .unset, .unset] [(.int (3 : Int32)), (.int ((p3.toUInt32 >>> ((5 : Int32) &&& 31).toUInt32).toInt32))])
  refine Goes.of (fun _ => XS.iand X.here hx rfl (hb hby at_70) rfl) ?_
  show Goes p e below _ T (mkF m 71 #[.val (.int p1), .val (.int p2), .val (.int p3), .val (.int vr), .val (.int vt), .val (.int vb), .val (.int vi), .val (.int vc), .unset, .unset, .unset, .unset, .unset, .unset, .unset, .unset, .unset, .unset, .unset, .unset] [(.int (((p3.toUInt32 >>> ((5 : Int32) &&& 31).toUInt32).toInt32) &&& (3 : Int32)))])
  refine Goes.of (fun _ => XS.iconst X.here hx rfl (hb hby at_71)) ?_
  show Goes p e below _ T (mkF m 72 #[.val (.int p1), .val (.int p2), .val (.int p3), .val (.int vr), .val (.int vt), .val (.int vb), .val (.int vi), .val (.int vc), .unset, .unset, .unset, .unset, .unset, .unset, .unset, .unset, .unset, .unset, .unset, .unset] [(.int (3 : Int32)), (.int (((p3.toUInt32 >>> ((5 : Int32) &&& 31).toUInt32).toInt32) &&& (3 : Int32)))])
  refine Goes.of (fun _ => XS.irem X.here hx rfl (hb hby at_72) rfl (by decide)) ?_
  show Goes p e below _ T (mkF m 73 #[.val (.int p1), .val (.int p2), .val (.int p3), .val (.int vr), .val (.int vt), .val (.int vb), .val (.int vi), .val (.int vc), .unset, .unset, .unset, .unset, .unset, .unset, .unset, .unset, .unset, .unset, .unset, .unset] [(.int ((((p3.toUInt32 >>> ((5 : Int32) &&& 31).toUInt32).toInt32) &&& (3 : Int32)) - ((((p3.toUInt32 >>> ((5 : Int32) &&& 31).toUInt32).toInt32) &&& (3 : Int32)) / (3 : Int32)) * (3 : Int32)))])
  refine Goes.of (fun _ => XS.istore X.here hx rfl (hb hby at_73) rfl (l' := #[.val (.int p1), .val (.int p2), .val (.int p3), .val (.int vr), .val (.int vt), .val (.int vb), .val (.int vi), .val (.int vc), .val (.int ((((p3.toUInt32 >>> ((5 : Int32) &&& 31).toUInt32).toInt32) &&& (3 : Int32)) - ((((p3.toUInt32 >>> ((5 : Int32) &&& 31).toUInt32).toInt32) &&& (3 : Int32)) / (3 : Int32)) * (3 : Int32))), .unset, .unset, .unset, .unset, .unset, .unset, .unset, .unset, .unset, .unset, .unset]) rfl) ?_
  show Goes p e below _ T (mkF m 75 #[.val (.int p1), .val (.int p2), .val (.int p3), .val (.int vr), .val (.int vt), .val (.int vb), .val (.int vi), .val (.int vc), .val (.int ((((p3.toUInt32 >>> ((5 : Int32) &&& 31).toUInt32).toInt32) &&& (3 : Int32)) - ((((p3.toUInt32 >>> ((5 : Int32) &&& 31).toUInt32).toInt32) &&& (3 : Int32)) / (3 : Int32)) * (3 : Int32))), .unset, .unset, .unset, .unset, .unset, .unset, .unset, .unset, .unset, .unset, .unset] [])
  generalize en1 : ((((p3.toUInt32 >>> ((5 : Int32) &&& 31).toUInt32).toInt32) &&& (3 : Int32)) - ((((p3.toUInt32 >>> ((5 : Int32) &&& 31).toUInt32).toInt32) &&& (3 : Int32)) / (3 : Int32)) * (3 : Int32)) = n1
  show Goes p e below _ T (mkF m 75 #[.val (.int p1), .val (.int p2), .val (.int p3), .val (.int vr), .val (.int vt), .val (.int vb), .val (.int vi), .val (.int vc), .val (.int n1), .unset, .unset, .unset, .unset, .unset, .unset, .unset, .unset, .unset, .unset, .unset] [])
  have hn1 : 0 ≤ n1.toInt ∧ n1.toInt < 3 := en1 ▸ len3 _
  show Goes p e below _ T (mkF m 75 #[.val (.int p1), .val (.int p2), .val (.int p3), .val (.int vr), .val (.int vt), .val (.int vb), .val (.int vi), .val (.int vc), .val (.int n1), .unset, .unset, .unset, .unset, .unset, .unset, .unset, .unset, .unset, .unset, .unset] [])
  refine Goes.of (fun _ => XS.iload X.here hx rfl (hb hby at_75) rfl) ?_
  show Goes p e below _ T (mkF m 77 #[.val (.int p1), .val (.int p2), .val (.int p3), .val (.int vr), .val (.int vt), .val (.int vb), .val (.int vi), .val (.int vc), .val (.int n1), .unset, .unset, .unset, .unset, .unset, .unset, .unset, .unset, .unset, .unset, .unset] [(.int vc)])
  refine Goes.of (T' := T) (f' := (mkF m 93 #[.val (.int p1), .val (.int p2), .val (.int p3), .val (.int vr), .val (.int vt), .val (.int vb), .val (.int vi), .val (.int vc), .val (.int n1), .unset, .unset, .unset, .unset, .unset, .unset, .unset, .unset, .unset, .unset, .unset] [(.int (if vc = (0 : Int32) then ((((p3.toUInt32 >>> ((7 : Int32) &&& 31).toUInt32).toInt32) &&& (3 : Int32)) - ((((p3.toUInt32 >>> ((7 : Int32) &&& 31).toUInt32).toInt32) &&& (3 : Int32)) / (3 : Int32)) * (3 : Int32)) else n1))])) (fun t kt => ?_) ?_
  · show Steps p.tables e below (T.setTop (mkF m 77 #[.val (.int p1), .val (.int p2), .val (.int p3), .val (.int vr), .val (.int vt), .val (.int vb), .val (.int vi), .val (.int vc), .val (.int n1), .unset, .unset, .unset, .unset, .unset, .unset, .unset, .unset, .unset, .unset, .unset] [(.int vc)])) _
    by_cases hq77 : vc = (0 : Int32)
    · simp only [if_pos hq77] at kt
      refine XS.ifYes X.here hx rfl (pc0 := 77) (pc' := 85) rfl (hb hby at_77) rfl ((if0 _ _).trans (teq hq77).1) (by decide) (by decide) ?_
      show Steps p.tables e below (T.setTop (mkF m 85 #[.val (.int p1), .val (.int p2), .val (.int p3), .val (.int vr), .val (.int vt), .val (.int vb), .val (.int vi), .val (.int vc), .val (.int n1), .unset, .unset, .unset, .unset, .unset, .unset, .unset, .unset, .unset, .unset, .unset] [])) _
      refine XS.iloadN X.here hx rfl (hb hby at_85) rfl ?_
      show Steps p.tables e below (T.setTop (mkF m 86 #[.val (.int p1), .val (.int p2), .val (.int p3), .val (.int vr), .val (.int vt), .val (.int vb), .val (.int vi), .val (.int vc), .val (.int n1), .unset, .unset, .unset, .unset, .unset, .unset, .unset, .unset, .unset, .unset, .unset] [(.int p3)])) _
      refine XS.bipush X.here hx rfl (hb hby at_86) ?_
      show Steps p.tables e below (T.setTop (mkF m 88 #[.val (.int p1), .val (.int p2), .val (.int p3), .val (.int vr), .val (.int vt), .val (.int vb), .val (.int vi), .val (.int vc), .val (.int n1), .unset, .unset, .unset, .unset, .unset, .unset, .unset, .unset, .unset, .unset, .unset] [(.int (7 : Int32)), (.int p3)])) _
      refine XS.iushr X.here hx rfl (hb hby at_88) rfl ?_
      show Steps p.tables e below (T.setTop (mkF m 89 #[.val (.int p1), .val (.int p2), .val (.int p3), .val (.int vr), .val (.int vt), .val (.int vb), .val (.int vi), .val (.int vc), .val (.int n1), .unset, .unset, .unset, .unset, .unset, .unset, .unset, .unset, .unset, .unset, .unset] [(.int ((p3.toUInt32 >>> ((7 : Int32) &&& 31).toUInt32).toInt32))])) _
      refine XS.iconst X.here hx rfl (hb hby at_89) ?_
      show Steps p.tables e below (T.setTop (mkF m 90 #[.val (.int p1), .val (.int p2), .val (.int p3), .val (.int vr), .val (.int vt), .val (.int vb), .val (.int vi), .val (.int vc), .val (.int n1), .unset, .unset, .unset, .unset, .unset, .unset, .unset, .unset, .unset, .unset, .unset] [(.int (3 : Int32)), (.int ((p3.toUInt32 >>> ((7 : Int32) &&& 31).toUInt32).toInt32))])) _
      refine XS.iand X.here hx rfl (hb hby at_90) rfl ?_
      show Steps p.tables e below (T.setTop (mkF m 91 #[.val (.int p1), .val (.int p2), .val (.int p3), .val (.int vr), .val (.int vt), .val (.int vb), .val (.int vi), .val (.int vc), .val (.int n1), .unset, .unset, .unset, .unset, .unset, .unset, .unset, .unset, .unset, .unset, .unset] [(.int (((p3.toUInt32 >>> ((7 : Int32) &&& 31).toUInt32).toInt32) &&& (3 : Int32)))])) _
      refine XS.iconst X.here hx rfl (hb hby at_91) ?_
      show Steps p.tables e below (T.setTop (mkF m 92 #[.val (.int p1), .val (.int p2), .val (.int p3), .val (.int vr), .val (.int vt), .val (.int vb), .val (.int vi), .val (.int vc), .val (.int n1), .unset, .unset, .unset, .unset, .unset, .unset, .unset, .unset, .unset, .unset, .unset] [(.int (3 : Int32)), (.int (((p3.toUInt32 >>> ((7 : Int32) &&& 31).toUInt32).toInt32) &&& (3 : Int32)))])) _
      refine XS.irem X.here hx rfl (hb hby at_92) rfl (by decide) ?_
      show Steps p.tables e below (T.setTop (mkF m 93 #[.val (.int p1), .val (.int p2), .val (.int p3), .val (.int vr), .val (.int vt), .val (.int vb), .val (.int vi), .val (.int vc), .val (.int n1), .unset, .unset, .unset, .unset, .unset, .unset, .unset, .unset, .unset, .unset, .unset] [(.int ((((p3.toUInt32 >>> ((7 : Int32) &&& 31).toUInt32).toInt32) &&& (3 : Int32)) - ((((p3.toUInt32 >>> ((7 : Int32) &&& 31).toUInt32).toInt32) &&& (3 : Int32)) / (3 : Int32)) * (3 : Int32)))])) _
      exact kt
    · simp only [if_neg hq77] at kt
      refine XS.ifNo X.here hx rfl (hb hby at_77) rfl ((if0 _ _).trans (feq hq77).1) ?_
      show Steps p.tables e below (T.setTop (mkF m 80 #[.val (.int p1), .val (.int p2), .val (.int p3), .val (.int vr), .val (.int vt), .val (.int vb), .val (.int vi), .val (.int vc), .val (.int n1), .unset, .unset, .unset, .unset, .unset, .unset, .unset, .unset, .unset, .unset, .unset] [])) _
      refine XS.iload X.here hx rfl (hb hby at_80) rfl ?_
      show Steps p.tables e below (T.setTop (mkF m 82 #[.val (.int p1), .val (.int p2), .val (.int p3), .val (.int vr), .val (.int vt), .val (.int vb), .val (.int vi), .val (.int vc), .val (.int n1), .unset, .unset, .unset, .unset, .unset, .unset, .unset, .unset, .unset, .unset, .unset] [(.int n1)])) _
      refine XS.goto X.here hx rfl (pc0 := 82) (pc' := 93) rfl (hb hby at_82) (by decide) (by decide) ?_
      show Steps p.tables e below (T.setTop (mkF m 93 #[.val (.int p1), .val (.int p2), .val (.int p3), .val (.int vr), .val (.int vt), .val (.int vb), .val (.int vi), .val (.int vc), .val (.int n1), .unset, .unset, .unset, .unset, .unset, .unset, .unset, .unset, .unset, .unset, .unset] [(.int n1)])) _
      exact kt
  show Goes p e below _ T (mkF m 93 #[.val (.int p1), .val (.int p2), .val (.int p3), .val (.int vr), .val (.int vt), .val (.int vb), .val (.int vi), .val (.int vc), .val (.int n1), .unset, .unset, .unset, .unset, .unset, .unset, .unset, .unset, .unset, .unset, .unset] [(.int (if vc = (0 : Int32) then ((((p3.toUInt32 >>> ((7 : Int32) &&& 31).toUInt32).toInt32) &&& (3 : Int32)) - ((((p3.toUInt32 >>> ((7 : Int32) &&& 31).toUInt32).toInt32) &&& (3 : Int32)) / (3 : Int32)) * (3 : Int32)) else n1))])
  refine Goes.of (fun _ => XS.istore X.here hx rfl (hb hby at_93) rfl (l' := #[.val (.int p1), .val (.int p2), .val (.int p3), .val (.int vr), .val (.int vt), .val (.int vb), .val (.int vi), .val (.int vc), .val (.int n1), .val (.int (if vc = (0 : Int32) then ((((p3.toUInt32 >>> ((7 : Int32) &&& 31).toUInt32).toInt32) &&& (3 : Int32)) - ((((p3.toUInt32 >>> ((7 : Int32) &&& 31).toUInt32).toInt32) &&& (3 : Int32)) / (3 : Int32)) * (3 : Int32)) else n1)), .unset, .unset, .unset, .unset, .unset, .unset, .unset, .unset, .unset, .unset]) rfl) ?_
  show Goes p e below _ T (mkF m 95 #[.val (.int p1), .val (.int p2), .val (.int p3), .val (.int vr), .val (.int vt), .val (.int vb), .val (.int vi), .val (.int vc), .val (.int n1), .val (.int (if vc = (0 : Int32) then ((((p3.toUInt32 >>> ((7 : Int32) &&& 31).toUInt32).toInt32) &&& (3 : Int32)) - ((((p3.toUInt32 >>> ((7 : Int32) &&& 31).toUInt32).toInt32) &&& (3 : Int32)) / (3 : Int32)) * (3 : Int32)) else n1)), .unset, .unset, .unset, .unset, .unset, .unset, .unset, .unset, .unset, .unset] [])
  generalize en2 : (if vc = (0 : Int32) then ((((p3.toUInt32 >>> ((7 : Int32) &&& 31).toUInt32).toInt32) &&& (3 : Int32)) - ((((p3.toUInt32 >>> ((7 : Int32) &&& 31).toUInt32).toInt32) &&& (3 : Int32)) / (3 : Int32)) * (3 : Int32)) else n1) = n2
  show Goes p e below _ T (mkF m 95 #[.val (.int p1), .val (.int p2), .val (.int p3), .val (.int vr), .val (.int vt), .val (.int vb), .val (.int vi), .val (.int vc), .val (.int n1), .val (.int n2), .unset, .unset, .unset, .unset, .unset, .unset, .unset, .unset, .unset, .unset] [])
  have hn2 : 0 ≤ n2.toInt ∧ n2.toInt < 3 := by rw [← en2]; split; (· exact len3 _); (· exact hn1)
  show Goes p e below _ T (mkF m 95 #[.val (.int p1), .val (.int p2), .val (.int p3), .val (.int vr), .val (.int vt), .val (.int vb), .val (.int vi), .val (.int vc), .val (.int n1), .val (.int n2), .unset, .unset, .unset, .unset, .unset, .unset, .unset, .unset, .unset, .unset] [])
  refine Goes.of (fun _ => XS.iloadN X.here hx rfl (hb hby at_95) rfl) ?_
  show Goes p e below _ T (mkF m 96 #[.val (.int p1), .val (.int p2), .val (.int p3), .val (.int vr), .val (.int vt), .val (.int vb), .val (.int vi), .val (.int vc), .val (.int n1), .val (.int n2), .unset, .unset, .unset, .unset, .unset, .unset, .unset, .unset, .unset, .unset] [(.int p1)])
  refine Goes.of (fun _ => XS.sipush X.here hx rfl (hb hby at_96)) ?_
  show Goes p e below _ T (mkF m 99 #[.val (.int p1), .val (.int p2), .val (.int p3), .val (.int vr), .val (.int vt), .val (.int vb), .val (.int vi), .val (.int vc), .val (.int n1), .val (.int n2), .unset, .unset, .unset, .unset, .unset, .unset, .unset, .unset, .unset, .unset] [(.int (255 : Int32)), (.int p1)])
  refine Goes.of (fun _ => XS.iand X.here hx rfl (hb hby at_99) rfl) ?_
  show Goes p e below _ T (mkF m 100 #[.val (.int p1), .val (.int p2), .val (.int p3), .val (.int vr), .val (.int vt), .val (.int vb), .val (.int vi), .val (.int vc), .val (.int n1), .val (.int n2), .unset, .unset, .unset, .unset, .unset, .unset, .unset, .unset, .unset, .unset] [(.int (p1 &&& (255 : Int32)))])
  refine Goes.of (fun _ => XS.i2c X.here hx rfl (hb hby at_100) rfl) ?_
  show Goes p e below _ T (mkF m 101 #[.val (.int p1), .val (.int p2), .val (.int p3), .val (.int vr), .val (.int vt), .val (.int vb), .val (.int vi), .val (.int vc), .val (.int n1), .val (.int n2), .unset, .unset, .unset, .unset, .unset, .unset, .unset, .unset, .unset, .unset] [(.int ((p1 &&& (255 : Int32)).toUInt32.toUInt16.toUInt32.toInt32))])
  refine Goes.of (fun _ => XS.istore X.here hx rfl (hb hby at_101) rfl (l' := #[.val (.int p1), .val (.int p2), .val (.int p3), .val (.int vr), .val (.int vt), .val (.int vb), .val (.int vi), .val (.int vc), .val (.int n1), .val (.int n2), .val (.int ((p1 &&& (255 : Int32)).toUInt32.toUInt16.toUInt32.toInt32)), .unset, .unset, .unset, .unset, .unset, .unset, .unset, .unset, .unset]) rfl) ?_
  show Goes p e below _ T (mkF m 103 #[.val (.int p1), .val (.int p2), .val (.int p3), .val (.int vr), .val (.int vt), .val (.int vb), .val (.int vi), .val (.int vc), .val (.int n1), .val (.int n2), .val (.int ((p1 &&& (255 : Int32)).toUInt32.toUInt16.toUInt32.toInt32)), .unset, .unset, .unset, .unset, .unset, .unset, .unset, .unset, .unset] [])
  generalize ex0 : ((p1 &&& (255 : Int32)).toUInt32.toUInt16.toUInt32.toInt32) = x0
  show Goes p e below _ T (mkF m 103 #[.val (.int p1), .val (.int p2), .val (.int p3), .val (.int vr), .val (.int vt), .val (.int vb), .val (.int vi), .val (.int vc), .val (.int n1), .val (.int n2), .val (.int x0), .unset, .unset, .unset, .unset, .unset, .unset, .unset, .unset, .unset] [])
  have hx0 : ¬ x0 < 0 ∧ ¬ (255 : Int32) < x0 := ex0 ▸ chr8 _
  show Goes p e below _ T (mkF m 103 #[.val (.int p1), .val (.int p2), .val (.int p3), .val (.int vr), .val (.int vt), .val (.int vb), .val (.int vi), .val (.int vc), .val (.int n1), .val (.int n2), .val (.int x0), .unset, .unset, .unset, .unset, .unset, .unset, .unset, .unset, .unset] [])
  refine Goes.of (fun _ => XS.iloadN X.here hx rfl (hb hby at_103) rfl) ?_
  show Goes p e below _ T (mkF m 104 #[.val (.int p1), .val (.int p2), .val (.int p3), .val (.int vr), .val (.int vt), .val (.int vb), .val (.int vi), .val (.int vc), .val (.int n1), .val (.int n2), .val (.int x0), .unset, .unset, .unset, .unset, .unset, .unset, .unset, .unset, .unset] [(.int p1)])
  refine Goes.of (fun _ => XS.bipush X.here hx rfl (hb hby at_104)) ?_
  show Goes p e below _ T (mkF m 106 #[.val (.int p1), .val (.int p2), .val (.int p3), .val (.int vr), .val (.int vt), .val (.int vb), .val (.int vi), .val (.int vc), .val (.int n1), .val (.int n2), .val (.int x0), .unset, .unset, .unset, .unset, .unset, .unset, .unset, .unset, .unset] [(.int (8 : Int32)), (.int p1)])
  refine Goes.of (fun _ => XS.iushr X.here hx rfl (hb hby at_106) rfl) ?_
  show Goes p e below _ T (mkF m 107 #[.val (.int p1), .val (.int p2), .val (.int p3), .val (.int vr), .val (.int vt), .val (.int vb), .val (.int vi), .val (.int vc), .val (.int n1), .val (.int n2), .val (.int x0), .unset, .unset, .unset, .unset, .unset, .unset, .unset, .unset, .unset] [(.int ((p1.toUInt32 >>> ((8 : Int32) &&& 31).toUInt32).toInt32))])
  refine Goes.of (fun _ => XS.sipush X.here hx rfl (hb hby at_107)) ?_
  show Goes p e below _ T (mkF m 110 #[.val (.int p1), .val (.int p2), .val (.int p3), .val (.int vr), .val (.int vt), .val (.int vb), .val (.int vi), .val (.int vc), .val (.int n1), .val (.int n2), .val (.int x0), .unset, .unset, .unset, .unset, .unset, .unset, .unset, .unset, .unset] [(.int (255 : Int32)), (.int ((p1.toUInt32 >>> ((8 : Int32) &&& 31).toUInt32).toInt32))])
  refine Goes.of (fun _ => XS.iand X.here hx rfl (hb hby at_110) rfl) ?_
  show Goes p e below _ T (mkF m 111 #[.val (.int p1), .val (.int p2), .val (.int p3), .val (.int vr), .val (.int vt), .val (.int vb), .val (.int vi), .val (.int vc), .val (.int n1), .val (.int n2), .val (.int x0), .unset, .unset, .unset, .unset, .unset, .unset, .unset, .unset, .unset] [(.int (((p1.toUInt32 >>> ((8 : Int32) &&& 31).toUInt32).toInt32) &&& (255 : Int32)))])
  refine Goes.of (fun _ => XS.i2c X.here hx rfl (hb hby at_111) rfl) ?_
  show Goes p e below _ T (mkF m 112 #[.val (.int p1), .val (.int p2), .val (.int p3), .val (.int vr), .val (.int vt), .val (.int vb), .val (.int vi), .val (.int vc), .val (.int n1), .val (.int n2), .val (.int x0), .unset, .unset, .unset, .unset, .unset, .unset, .unset, .unset, .unset] [(.int ((((p1.toUInt32 >>> ((8 : Int32) &&& 31).toUInt32).toInt32) &&& (255 : Int32)).toUInt32.toUInt16.toUInt32.toInt32))])
  refine Goes.of (fun _ => XS.istore X.here hx rfl (hb hby at_112) rfl (l' := #[.val (.int p1), .val (.int p2), .val (.int p3), .val (.int vr), .val (.int vt), .val (.int vb), .val (.int vi), .val (.int vc), .val (.int n1), .val (.int n2), .val (.int x0), .val (.int ((((p1.toUInt32 >>> ((8 : Int32) &&& 31).toUInt32).toInt32) &&& (255 : Int32)).toUInt32.toUInt16.toUInt32.toInt32)), .unset, .unset, .unset, .unset, .unset, .unset, .unset, .unset]) rfl) ?_
  show Goes p e below _ T (mkF m 114 #[.val (.int p1), .val (.int p2), .val (.int p3), .val (.int vr), .val (.int vt), .val (.int vb), .val (.int vi), .val (.int vc), .val (.int n1), .val (.int n2), .val (.int x0), .val (.int ((((p1.toUInt32 >>> ((8 : Int32) &&& 31).toUInt32).toInt32) &&& (255 : Int32)).toUInt32.toUInt16.toUInt32.toInt32)), .unset, .unset, .unset, .unset, .unset, .unset, .unset, .unset] [])
  generalize ex1 : ((((p1.toUInt32 >>> ((8 : Int32) &&& 31).toUInt32).toInt32) &&& (255 : Int32)).toUInt32.toUInt16.toUInt32.toInt32) = x1
  show Goes p e below _ T (mkF m 114 #[.val (.int p1), .val (.int p2), .val (.int p3), .val (.int vr), .val (.int vt), .val (.int vb), .val (.int vi), .val (.int vc), .val (.int n1), .val (.int n2), .val (.int x0), .val (.int x1), .unset, .unset, .unset, .unset, .unset, .unset, .unset, .unset] [])
  have hx1 : ¬ x1 < 0 ∧ ¬ (255 : Int32) < x1 := ex1 ▸ chr8 _
  show Goes p e below _ T (mkF m 114 #[.val (.int p1), .val (.int p2), .val (.int p3), .val (.int vr), .val (.int vt), .val (.int vb), .val (.int vi), .val (.int vc), .val (.int n1), .val (.int n2), .val (.int x0), .val (.int x1), .unset, .unset, .unset, .unset, .unset, .unset, .unset, .unset] [])
  refine Goes.of (fun _ => XS.iload X.here hx rfl (hb hby at_114) rfl) ?_
  show Goes p e below _ T (mkF m 116 #[.val (.int p1), .val (.int p2), .val (.int p3), .val (.int vr), .val (.int vt), .val (.int vb), .val (.int vi), .val (.int vc), .val (.int n1), .val (.int n2), .val (.int x0), .val (.int x1), .unset, .unset, .unset, .unset, .unset, .unset, .unset, .unset] [(.int vc)])
  refine Goes.of (T' := T) (f' := (mkF m 130 #[.val (.int p1), .val (.int p2), .val (.int p3), .val (.int vr), .val (.int vt), .val (.int vb), .val (.int vi), .val (.int vc), .val (.int n1), .val (.int n2), .val (.int x0), .val (.int x1), .unset, .unset, .unset, .unset, .unset, .unset, .unset, .unset] [(.int (if vc = (0 : Int32) then ((p2 &&& (255 : Int32)).toUInt32.toUInt16.toUInt32.toInt32) else x0))])) (fun t kt => ?_) ?_
  · show Steps p.tables e below (T.setTop (mkF m 116 #[.val (.int p1), .val (.int p2), .val (.int p3), .val (.int vr), .val (.int vt), .val (.int vb), .val (.int vi), .val (.int vc), .val (.int n1), .val (.int n2), .val (.int x0), .val (.int x1), .unset, .unset, .unset, .unset, .unset, .unset, .unset, .unset] [(.int vc)])) _
    by_cases hq116 : vc = (0 : Int32)
    · simp only [if_pos hq116] at kt
      refine XS.ifYes X.here hx rfl (pc0 := 116) (pc' := 124) rfl (hb hby at_116) rfl ((if0 _ _).trans (teq hq116).1) (by decide) (by decide) ?_
      show Steps p.tables e below (T.setTop (mkF m 124 #[.val (.int p1), .val (.int p2), .val (.int p3), .val (.int vr), .val (.int vt), .val (.int vb), .val (.int vi), .val (.int vc), .val (.int n1), .val (.int n2), .val (.int x0), .val (.int x1), .unset, .unset, .unset, .unset, .unset, .unset, .unset, .unset] [])) _
      refine XS.iloadN X.here hx rfl (hb hby at_124) rfl ?_
      show Steps p.tables e below (T.setTop (mkF m 125 #[.val (.int p1), .val (.int p2), .val (.int p3), .val (.int vr), .val (.int vt), .val (.int vb), .val (.int vi), .val (.int vc), .val (.int n1), .val (.int n2), .val (.int x0), .val (.int x1), .unset, .unset, .unset, .unset, .unset, .unset, .unset, .unset] [(.int p2)])) _
      refine XS.sipush X.here hx rfl (hb hby at_125) ?_
      show Steps p.tables e below (T.setTop (mkF m 128 #[.val (.int p1), .val (.int p2), .val (.int p3), .val (.int vr), .val (.int vt), .val (.int vb), .val (.int vi), .val (.int vc), .val (.int n1), .val (.int n2), .val (.int x0), .val (.int x1), .unset, .unset, .unset, .unset, .unset, .unset, .unset, .unset] [(.int (255 : Int32)), (.int p2)])) _
      refine XS.iand X.here hx rfl (hb hby at_128) rfl ?_
      show Steps p.tables e below (T.setTop (mkF m 129 #[.val (.int p1), .val (.int p2), .val (.int p3), .val (.int vr), .val (.int vt), .val (.int vb), .val (.int vi), .val (.int vc), .val (.int n1), .val (.int n2), .val (.int x0), .val (.int x1), .unset, .unset, .unset, .unset, .unset, .unset, .unset, .unset] [(.int (p2 &&& (255 : Int32)))])) _
      refine XS.i2c X.here hx rfl (hb hby at_129) rfl ?_
      show Steps p.tables e below (T.setTop (mkF m 130 #[.val (.int p1), .val (.int p2), .val (.int p3), .val (.int vr), .val (.int vt), .val (.int vb), .val (.int vi), .val (.int vc), .val (.int n1), .val (.int n2), .val (.int x0), .val (.int x1), .unset, .unset, .unset, .unset, .unset, .unset, .unset, .unset] [(.int ((p2 &&& (255 : Int32)).toUInt32.toUInt16.toUInt32.toInt32))])) _
      exact kt
    · simp only [if_neg hq116] at kt
      refine XS.ifNo X.here hx rfl (hb hby at_116) rfl ((if0 _ _).trans (feq hq116).1) ?_
      show Steps p.tables e below (T.setTop (mkF m 119 #[.val (.int p1), .val (.int p2), .val (.int p3), .val (.int vr), .val (.int vt), .val (.int vb), .val (.int vi), .val (.int vc), .val (.int n1), .val (.int n2), .val (.int x0), .val (.int x1), .unset, .unset, .unset, .unset, .unset, .unset, .unset, .unset] [])) _
      refine XS.iload X.here hx rfl (hb hby at_119) rfl ?_
      show Steps p.tables e below (T.setTop (mkF m 121 #[.val (.int p1), .val (.int p2), .val (.int p3), .val (.int vr), .val (.int vt), .val (.int vb), .val (.int vi), .val (.int vc), .val (.int n1), .val (.int n2), .val (.int x0), .val (.int x1), .unset, .unset, .unset, .unset, .unset, .unset, .unset, .unset] [(.int x0)])) _
      refine XS.goto X.here hx rfl (pc0 := 121) (pc' := 130) rfl (hb hby at_121) (by decide) (by decide) ?_
      show Steps p.tables e below (T.setTop (mkF m 130 #[.val (.int p1), .val (.int p2), .val (.int p3), .val (.int vr), .val (.int vt), .val (.int vb), .val (.int vi), .val (.int vc), .val (.int n1), .val (.int n2), .val (.int x0), .val (.int x1), .unset, .unset, .unset, .unset, .unset, .unset, .unset, .unset] [(.int x0)])) _
      exact kt
  show Goes p e below _ T (mkF m 130 #[.val (.int p1), .val (.int p2), .val (.int p3), .val (.int vr), .val (.int vt), .val (.int vb), .val (.int vi), .val (.int vc), .val (.int n1), .val (.int n2), .val (.int x0), .val (.int x1), .unset, .unset, .unset, .unset, .unset, .unset, .unset, .unset] [(.int (if vc = (0 : Int32) then ((p2 &&& (255 : Int32)).toUInt32.toUInt16.toUInt32.toInt32) else x0))])
  refine Goes.of (fun _ => XS.istore X.here hx rfl (hb hby at_130) rfl (l' := #[.val (.int p1), .val (.int p2), .val (.int p3), .val (.int vr), .val (.int vt), .val (.int vb), .val (.int vi), .val (.int vc), .val (.int n1), .val (.int n2), .val (.int x0), .val (.int x1), .val (.int (if vc = (0 : Int32) then ((p2 &&& (255 : Int32)).toUInt32.toUInt16.toUInt32.toInt32) else x0)), .unset, .unset, .unset, .unset, .unset, .unset, .unset]) rfl) ?_
  show Goes p e below _ T (mkF m 132 #[.val (.int p1), .val (.int p2), .val (.int p3), .val (.int vr), .val (.int vt), .val (.int vb), .val (.int vi), .val (.int vc), .val (.int n1), .val (.int n2), .val (.int x0), .val (.int x1), .val (.int (if vc = (0 : Int32) then ((p2 &&& (255 : Int32)).toUInt32.toUInt16.toUInt32.toInt32) else x0)), .unset, .unset, .unset, .unset, .unset, .unset, .unset] [])
  generalize ey0 : (if vc = (0 : Int32) then ((p2 &&& (255 : Int32)).toUInt32.toUInt16.toUInt32.toInt32) else x0) = y0
  show Goes p e below _ T (mkF m 132 #[.val (.int p1), .val (.int p2), .val (.int p3), .val (.int vr), .val (.int vt), .val (.int vb), .val (.int vi), .val (.int vc), .val (.int n1), .val (.int n2), .val (.int x0), .val (.int x1), .val (.int y0), .unset, .unset, .unset, .unset, .unset, .unset, .unset] [])
  have hy0 : ¬ y0 < 0 ∧ ¬ (255 : Int32) < y0 := by rw [← ey0]; split; (· exact chr8 _); (· exact hx0)
  show Goes p e below _ T (mkF m 132 #[.val (.int p1), .val (.int p2), .val (.int p3), .val (.int vr), .val (.int vt), .val (.int vb), .val (.int vi), .val (.int vc), .val (.int n1), .val (.int n2), .val (.int x0), .val (.int x1), .val (.int y0), .unset, .unset, .unset, .unset, .unset, .unset, .unset] [])
  refine Goes.of (fun _ => XS.iload X.here hx rfl (hb hby at_132) rfl) ?_
  show Goes p e below _ T (mkF m 134 #[.val (.int p1), .val (.int p2), .val (.int p3), .val (.int vr), .val (.int vt), .val (.int vb), .val (.int vi), .val (.int vc), .val (.int n1), .val (.int n2), .val (.int x0), .val (.int x1), .val (.int y0), .unset, .unset, .unset, .unset, .unset, .unset, .unset] [(.int vc)])
  refine Goes.of (T' := T) (f' := (mkF m 151 #[.val (.int p1), .val (.int p2), .val (.int p3), .val (.int vr), .val (.int vt), .val (.int vb), .val (.int vi), .val (.int vc), .val (.int n1), .val (.int n2), .val (.int x0), .val (.int x1), .val (.int y0), .unset, .unset, .unset, .unset, .unset, .unset, .unset] [(.int (if vc = (0 : Int32) then ((((p2.toUInt32 >>> ((8 : Int32) &&& 31).toUInt32).toInt32) &&& (255 : Int32)).toUInt32.toUInt16.toUInt32.toInt32) else x1))])) (fun t kt => ?_) ?_
  · show Steps p.tables e below (T.setTop (mkF m 134 #[.val (.int p1), .val (.int p2), .val (.int p3), .val (.int vr), .val (.int vt), .val (.int vb), .val (.int vi), .val (.int vc), .val (.int n1), .val (.int n2), .val (.int x0), .val (.int x1), .val (.int y0), .unset, .unset, .unset, .unset, .unset, .unset, .unset] [(.int vc)])) _
    by_cases hq134 : vc = (0 : Int32)
    · simp only [if_pos hq134] at kt
      refine XS.ifYes X.here hx rfl (pc0 := 134) (pc' := 142) rfl (hb hby at_134) rfl ((if0 _ _).trans (teq hq134).1) (by decide) (by decide) ?_
      show Steps p.tables e below (T.setTop (mkF m 142 #[.val (.int p1), .val (.int p2), .val (.int p3), .val (.int vr), .val (.int vt), .val (.int vb), .val (.int vi), .val (.int vc), .val (.int n1), .val (.int n2), .val (.int x0), .val (.int x1), .val (.int y0), .unset, .unset, .unset, .unset, .unset, .unset, .unset] [])) _
      refine XS.iloadN X.here hx rfl (hb hby at_142) rfl ?_
      show Steps p.tables e below (T.setTop (mkF m 143 #[.val (.int p1), .val (.int p2), .val (.int p3), .val (.int vr), .val (.int vt), .val (.int vb), .val (.int vi), .val (.int vc), .val (.int n1), .val (.int n2), .val (.int x0), .val (.int x1), .val (.int y0), .unset, .unset, .unset, .unset, .unset, .unset, .unset] [(.int p2)])) _
      refine XS.bipush X.here hx rfl (hb hby at_143) ?_
      show Steps p.tables e below (T.setTop (mkF m 145 #[.val (.int p1), .val (.int p2), .val (.int p3), .val (.int vr), .val (.int vt), .val (.int vb), .val (.int vi), .val (.int vc), .val (.int n1), .val (.int n2), .val (.int x0), .val (.int x1), .val (.int y0), .unset, .unset, .unset, .unset, .unset, .unset, .unset] [(.int (8 : Int32)), (.int p2)])) _
      refine XS.iushr X.here hx rfl (hb hby at_145) rfl ?_
      show Steps p.tables e below (T.setTop (mkF m 146 #[.val (.int p1), .val (.int p2), .val (.int p3), .val (.int vr), .val (.int vt), .val (.int vb), .val (.int vi), .val (.int vc), .val (.int n1), .val (.int n2), .val (.int x0), .val (.int x1), .val (.int y0), .unset, .unset, .unset, .unset, .unset, .unset, .unset] [(.int ((p2.toUInt32 >>> ((8 : Int32) &&& 31).toUInt32).toInt32))])) _
      refine XS.sipush X.here hx rfl (hb hby at_146) ?_
      show Steps p.tables e below (T.setTop (mkF m 149 #[.val (.int p1), .val (.int p2), .val (.int p3), .val (.int vr), .val (.int vt), .val (.int vb), .val (.int vi), .val (.int vc), .val (.int n1), .val (.int n2), .val (.int x0), .val (.int x1), .val (.int y0), .unset, .unset, .unset, .unset, .unset, .unset, .unset] [(.int (255 : Int32)), (.int ((p2.toUInt32 >>> ((8 : Int32) &&& 31).toUInt32).toInt32))])) _
      refine XS.iand X.here hx rfl (hb hby at_149) rfl ?_
      show Steps p.tables e below (T.setTop (mkF m 150 #[.val (.int p1), .val (.int p2), .val (.int p3), .val (.int vr), .val (.int vt), .val (.int vb), .val (.int vi), .val (.int vc), .val (.int n1), .val (.int n2), .val (.int x0), .val (.int x1), .val (.int y0), .unset, .unset, .unset, .unset, .unset, .unset, .unset] [(.int (((p2.toUInt32 >>> ((8 : Int32) &&& 31).toUInt32).toInt32) &&& (255 : Int32)))])) _
      refine XS.i2c X.here hx rfl (hb hby at_150) rfl ?_
      show Steps p.tables e below (T.setTop (mkF m 151 #[.val (.int p1), .val (.int p2), .val (.int p3), .val (.int vr), .val (.int vt), .val (.int vb), .val (.int vi), .val (.int vc), .val (.int n1), .val (.int n2), .val (.int x0), .val (.int x1), .val (.int y0), .unset, .unset, .unset, .unset, .unset, .unset, .unset] [(.int ((((p2.toUInt32 >>> ((8 : Int32) &&& 31).toUInt32).toInt32) &&& (255 : Int32)).toUInt32.toUInt16.toUInt32.toInt32))])) _
      exact kt
    · simp only [if_neg hq134] at kt
      refine XS.ifNo X.here hx rfl (hb hby at_134) rfl ((if0 _ _).trans (feq hq134).1) ?_
      show Steps p.tables e below (T.setTop (mkF m 137 #[.val (.int p1), .val (.int p2), .val (.int p3), .val (.int vr), .val (.int vt), .val (.int vb), .val (.int vi), .val (.int vc), .val (.int n1), .val (.int n2), .val (.int x0), .val (.int x1), .val (.int y0), .unset, .unset, .unset, .unset, .unset, .unset, .unset] [])) _
      refine XS.iload X.here hx rfl (hb hby at_137) rfl ?_
      show Steps p.tables e below (T.setTop (mkF m 139 #[.val (.int p1), .val (.int p2), .val (.int p3), .val (.int vr), .val (.int vt), .val (.int vb), .val (.int vi), .val (.int vc), .val (.int n1), .val (.int n2), .val (.int x0), .val (.int x1), .val (.int y0), .unset, .unset, .unset, .unset, .unset, .unset, .unset] [(.int x1)])) _
      refine XS.goto X.here hx rfl (pc0 := 139) (pc' := 151) rfl (hb hby at_139) (by decide) (by decide) ?_
      show Steps p.tables e below (T.setTop (mkF m 151 #[.val (.int p1), .val (.int p2), .val (.int p3), .val (.int vr), .val (.int vt), .val (.int vb), .val (.int vi), .val (.int vc), .val (.int n1), .val (.int n2), .val (.int x0), .val (.int x1), .val (.int y0), .unset, .unset, .unset, .unset, .unset, .unset, .unset] [(.int x1)])) _
      exact kt
  show Goes p e below _ T (mkF m 151 #[.val (.int p1), .val (.int p2), .val (.int p3), .val (.int vr), .val (.int vt), .val (.int vb), .val (.int vi), .val (.int vc), .val (.int n1), .val (.int n2), .val (.int x0), .val (.int x1), .val (.int y0), .unset, .unset, .unset, .unset, .unset, .unset, .unset] [(.int (if vc = (0 : Int32) then ((((p2.toUInt32 >>> ((8 : Int32) &&& 31).toUInt32).toInt32) &&& (255 : Int32)).toUInt32.toUInt16.toUInt32.toInt32) else x1))])
  refine Goes.of (fun _ => XS.istore X.here hx rfl (hb hby at_151) rfl (l' := #[.val (.int p1), .val (.int p2), .val (.int p3), .val (.int vr), .val (.int vt), .val (.int vb), .val (.int vi), .val (.int vc), .val (.int n1), .val (.int n2), .val (.int x0), .val (.int x1), .val (.int y0), .val (.int (if vc = (0 : Int32) then ((((p2.toUInt32 >>> ((8 : Int32) &&& 31).toUInt32).toInt32) &&& (255 : Int32)).toUInt32.toUInt16.toUInt32.toInt32) else x1)), .unset, .unset, .unset, .unset, .unset, .unset]) rfl) ?_
  show Goes p e below _ T (mkF m 153 #[.val (.int p1), .val (.int p2), .val (.int p3), .val (.int vr), .val (.int vt), .val (.int vb), .val (.int vi), .val (.int vc), .val (.int n1), .val (.int n2), .val (.int x0), .val (.int x1), .val (.int y0), .val (.int (if vc = (0 : Int32) then ((((p2.toUInt32 >>> ((8 : Int32) &&& 31).toUInt32).toInt32) &&& (255 : Int32)).toUInt32.toUInt16.toUInt32.toInt32) else x1)), .unset, .unset, .unset, .unset, .unset, .unset] [])
  generalize ey1 : (if vc = (0 : Int32) then ((((p2.toUInt32 >>> ((8 : Int32) &&& 31).toUInt32).toInt32) &&& (255 : Int32)).toUInt32.toUInt16.toUInt32.toInt32) else x1) = y1
  show Goes p e below _ T (mkF m 153 #[.val (.int p1), .val (.int p2), .val (.int p3), .val (.int vr), .val (.int vt), .val (.int vb), .val (.int vi), .val (.int vc), .val (.int n1), .val (.int n2), .val (.int x0), .val (.int x1), .val (.int y0), .val (.int y1), .unset, .unset, .unset, .unset, .unset, .unset] [])
  have hy1 : ¬ y1 < 0 ∧ ¬ (255 : Int32) < y1 := by rw [← ey1]; split; (· exact chr8 _); (· exact hx1)
  show Goes p e below _ T (mkF m 153 #[.val (.int p1), .val (.int p2), .val (.int p3), .val (.int vr), .val (.int vt), .val (.int vb), .val (.int vi), .val (.int vc), .val (.int n1), .val (.int n2), .val (.int x0), .val (.int x1), .val (.int y0), .val (.int y1), .unset, .unset, .unset, .unset, .unset, .unset] [])
  rcases hvt with rfl | rfl
  · show Goes p e below _ T (mkF m 153 #[.val (.int p1), .val (.int p2), .val (.int p3), .val (.int vr), .val (.int (0 : Int32)), .val (.int vb), .val (.int vi), .val (.int vc), .val (.int n1), .val (.int n2), .val (.int x0), .val (.int x1), .val (.int y0), .val (.int y1), .unset, .unset, .unset, .unset, .unset, .unset] [])
    rcases hvb with rfl | rfl
    · show Goes p e below _ T (mkF m 153 #[.val (.int p1), .val (.int p2), .val (.int p3), .val (.int vr), .val (.int (0 : Int32)), .val (.int (0 : Int32)), .val (.int vi), .val (.int vc), .val (.int n1), .val (.int n2), .val (.int x0), .val (.int x1), .val (.int y0), .val (.int y1), .unset, .unset, .unset, .unset, .unset, .unset] [])
      rcases hvi with rfl | rfl
      · show Goes p e below _ T (mkF m 153 #[.val (.int p1), .val (.int p2), .val (.int p3), .val (.int vr), .val (.int (0 : Int32)), .val (.int (0 : Int32)), .val (.int (0 : Int32)), .val (.int vc), .val (.int n1), .val (.int n2), .val (.int x0), .val (.int x1), .val (.int y0), .val (.int y1), .unset, .unset, .unset, .unset, .unset, .unset] [])
        refine Goes.of (fun _ => XS.iload X.here hx rfl (hb hby at_153) rfl) ?_
        show Goes p e below _ T (mkF m 155 #[.val (.int p1), .val (.int p2), .val (.int p3), .val (.int vr), .val (.int (0 : Int32)), .val (.int (0 : Int32)), .val (.int (0 : Int32)), .val (.int vc), .val (.int n1), .val (.int n2), .val (.int x0), .val (.int x1), .val (.int y0), .val (.int y1), .unset, .unset, .unset, .unset, .unset, .unset] [(.int (0 : Int32))])
        refine Goes.of (fun _ => XS.ifYes X.here hx rfl (pc0 := 155) (pc' := 162) rfl (hb hby at_155) rfl ((if0 _ _).trans (teq (by decide)).1) (by decide) (by decide)) ?_
        show Goes p e below _ T (mkF m 162 #[.val (.int p1), .val (.int p2), .val (.int p3), .val (.int vr), .val (.int (0 : Int32)), .val (.int (0 : Int32)), .val (.int (0 : Int32)), .val (.int vc), .val (.int n1), .val (.int n2), .val (.int x0), .val (.int x1), .val (.int y0), .val (.int y1), .unset, .unset, .unset, .unset, .unset, .unset] [])
        refine Goes.of (fun _ => XS.iload X.here hx rfl (hb hby at_162) rfl) ?_
        show Goes p e below _ T (mkF m 164 #[.val (.int p1), .val (.int p2), .val (.int p3), .val (.int vr), .val (.int (0 : Int32)), .val (.int (0 : Int32)), .val (.int (0 : Int32)), .val (.int vc), .val (.int n1), .val (.int n2), .val (.int x0), .val (.int x1), .val (.int y0), .val (.int y1), .unset, .unset, .unset, .unset, .unset, .unset] [(.int n1)])
        refine Goes.of (fun _ => XS.iload X.here hx rfl (hb hby at_164) rfl) ?_
        show Goes p e below _ T (mkF m 166 #[.val (.int p1), .val (.int p2), .val (.int p3), .val (.int vr), .val (.int (0 : Int32)), .val (.int (0 : Int32)), .val (.int (0 : Int32)), .val (.int vc), .val (.int n1), .val (.int n2), .val (.int x0), .val (.int x1), .val (.int y0), .val (.int y1), .unset, .unset, .unset, .unset, .unset, .unset] [(.int x0), (.int n1)])
        refine Goes.of (fun _ => XS.iload X.here hx rfl (hb hby at_166) rfl) ?_
        show Goes p e below _ T (mkF m 168 #[.val (.int p1), .val (.int p2), .val (.int p3), .val (.int vr), .val (.int (0 : Int32)), .val (.int (0 : Int32)), .val (.int (0 : Int32)), .val (.int vc), .val (.int n1), .val (.int n2), .val (.int x0), .val (.int x1), .val (.int y0), .val (.int y1), .unset, .unset, .unset, .unset, .unset, .unset] [(.int x1), (.int x0), (.int n1)])
        refine goStaticW 0 X hS hk hEL HC hx hZ hown (hw _ (List.mem_of_getElem? (i := 0) rfl)) (hw _ (List.mem_of_getElem? (i := 1) rfl)) (hw _ (List.mem_of_getElem? (i := 2) rfl)) (hw _ (List.mem_of_getElem? (i := 3) rfl)) (by decide) (rm_str l Z a0 hw n1 x0 x1 cz h0 n0 O0 Sc hcz hx0 hx1) eT0 (g := (mkF m 168 #[.val (.int p1), .val (.int p2), .val (.int p3), .val (.int vr), .val (.int (0 : Int32)), .val (.int (0 : Int32)), .val (.int (0 : Int32)), .val (.int vc), .val (.int n1), .val (.int n2), .val (.int x0), .val (.int x1), .val (.int y0), .val (.int y1), .unset, .unset, .unset, .unset, .unset, .unset] [(.int x1), (.int x0), (.int n1)])) rfl (by rw [hml]; rfl) [(.int n1), (.int x0), (.int x1)] [] (lenOf pd__ICC_Ljava_lang_String_ rfl) rfl rfl (by show 2 * 0 + _ ≤ _; exact Nat.le_of_eq rfl) (hb hby at_168) (by decide) (by decide) (by decide) (by decide) ?_
        intro v1 T1 L1 kk1 X1 hS hk hZ hown HC q1
        obtain ⟨sb1, rfl, Nq1, Kq1, g_sb1, S1⟩ := q1
        have N1 := Fr.app N0 Nq1
        have O0 := O0.keep Kq1 all0
        show Goes p e below _ T1 (mkF m 171 #[.val (.int p1), .val (.int p2), .val (.int p3), .val (.int vr), .val (.int (0 : Int32)), .val (.int (0 : Int32)), .val (.int (0 : Int32)), .val (.int vc), .val (.int n1), .val (.int n2), .val (.int x0), .val (.int x1), .val (.int y0), .val (.int y1), .unset, .unset, .unset, .unset, .unset, .unset] [(.ref sb1)])
        refine Goes.of (fun _ => XS.astore X1.here hx rfl (hb hby at_171) rfl rfl (l' := #[.val (.int p1), .val (.int p2), .val (.int p3), .val (.int vr), .val (.int (0 : Int32)), .val (.int (0 : Int32)), .val (.int (0 : Int32)), .val (.int vc), .val (.int n1), .val (.int n2), .val (.int x0), .val (.int x1), .val (.int y0), .val (.int y1), .val (.ref sb1), .unset, .unset, .unset, .unset, .unset]) rfl) ?_
        show Goes p e below _ T1 (mkF m 173 #[.val (.int p1), .val (.int p2), .val (.int p3), .val (.int vr), .val (.int (0 : Int32)), .val (.int (0 : Int32)), .val (.int (0 : Int32)), .val (.int vc), .val (.int n1), .val (.int n2), .val (.int x0), .val (.int x1), .val (.int y0), .val (.int y1), .val (.ref sb1), .unset, .unset, .unset, .unset, .unset] [])
        refine Goes.of (fun _ => XS.iload X1.here hx rfl (hb hby at_173) rfl) ?_
        show Goes p e below _ T1 (mkF m 175 #[.val (.int p1), .val (.int p2), .val (.int p3), .val (.int vr), .val (.int (0 : Int32)), .val (.int (0 : Int32)), .val (.int (0 : Int32)), .val (.int vc), .val (.int n1), .val (.int n2), .val (.int x0), .val (.int x1), .val (.int y0), .val (.int y1), .val (.ref sb1), .unset, .unset, .unset, .unset, .unset] [(.int (0 : Int32))])
        refine Goes.of (fun _ => XS.ifYes X1.here hx rfl (pc0 := 175) (pc' := 182) rfl (hb hby at_175) rfl ((if0 _ _).trans (teq (by decide)).1) (by decide) (by decide)) ?_
        show Goes p e below _ T1 (mkF m 182 #[.val (.int p1), .val (.int p2), .val (.int p3), .val (.int vr), .val (.int (0 : Int32)), .val (.int (0 : Int32)), .val (.int (0 : Int32)), .val (.int vc), .val (.int n1), .val (.int n2), .val (.int x0), .val (.int x1), .val (.int y0), .val (.int y1), .val (.ref sb1), .unset, .unset, .unset, .unset, .unset] [])
        refine Goes.of (fun _ => XS.iload X1.here hx rfl (hb hby at_182) rfl) ?_
        show Goes p e below _ T1 (mkF m 184 #[.val (.int p1), .val (.int p2), .val (.int p3), .val (.int vr), .val (.int (0 : Int32)), .val (.int (0 : Int32)), .val (.int (0 : Int32)), .val (.int vc), .val (.int n1), .val (.int n2), .val (.int x0), .val (.int x1), .val (.int y0), .val (.int y1), .val (.ref sb1), .unset, .unset, .unset, .unset, .unset] [(.int n2)])
        refine Goes.of (fun _ => XS.iload X1.here hx rfl (hb hby at_184) rfl) ?_
        show Goes p e below _ T1 (mkF m 186 #[.val (.int p1), .val (.int p2), .val (.int p3), .val (.int vr), .val (.int (0 : Int32)), .val (.int (0 : Int32)), .val (.int (0 : Int32)), .val (.int vc), .val (.int n1), .val (.int n2), .val (.int x0), .val (.int x1), .val (.int y0), .val (.int y1), .val (.ref sb1), .unset, .unset, .unset, .unset, .unset] [(.int y0), (.int n2)])
        refine Goes.of (fun _ => XS.iload X1.here hx rfl (hb hby at_186) rfl) ?_
        show Goes p e below _ T1 (mkF m 188 #[.val (.int p1), .val (.int p2), .val (.int p3), .val (.int vr), .val (.int (0 : Int32)), .val (.int (0 : Int32)), .val (.int (0 : Int32)), .val (.int vc), .val (.int n1), .val (.int n2), .val (.int x0), .val (.int x1), .val (.int y0), .val (.int y1), .val (.ref sb1), .unset, .unset, .unset, .unset, .unset] [(.int y1), (.int y0), (.int n2)])
        refine goStaticW 0 X1 hS hk hEL HC hx hZ hown (hw _ (List.mem_of_getElem? (i := 0) rfl)) (hw _ (List.mem_of_getElem? (i := 1) rfl)) (hw _ (List.mem_of_getElem? (i := 2) rfl)) (hw _ (List.mem_of_getElem? (i := 3) rfl)) (by decide) (rm_str l Z a0 hw n2 y0 y1 cz T1.heap n0 O0 Sc hcz hy0 hy1) (rfl : T1.heap = _) (g := (mkF m 188 #[.val (.int p1), .val (.int p2), .val (.int p3), .val (.int vr), .val (.int (0 : Int32)), .val (.int (0 : Int32)), .val (.int (0 : Int32)), .val (.int vc), .val (.int n1), .val (.int n2), .val (.int x0), .val (.int x1), .val (.int y0), .val (.int y1), .val (.ref sb1), .unset, .unset, .unset, .unset, .unset] [(.int y1), (.int y0), (.int n2)])) rfl (by rw [hml]; rfl) [(.int n2), (.int y0), (.int y1)] [] (lenOf pd__ICC_Ljava_lang_String_ rfl) rfl rfl (by show 2 * 0 + _ ≤ _; exact Nat.le_of_eq rfl) (hb hby at_188) (by decide) (by decide) (by decide) (by decide) ?_
        intro v2 T2 L2 kk2 X2 hS hk hZ hown HC q2
        obtain ⟨sb2, rfl, Nq2, Kq2, g_sb2, S2⟩ := q2
        have N2 := Fr.app N1 Nq2
        have S1 := S1.keep0 Kq2
        have O0 := O0.keep Kq2 all0
        show Goes p e below _ T2 (mkF m 191 #[.val (.int p1), .val (.int p2), .val (.int p3), .val (.int vr), .val (.int (0 : Int32)), .val (.int (0 : Int32)), .val (.int (0 : Int32)), .val (.int vc), .val (.int n1), .val (.int n2), .val (.int x0), .val (.int x1), .val (.int y0), .val (.int y1), .val (.ref sb1), .unset, .unset, .unset, .unset, .unset] [(.ref sb2)])
        refine Goes.of (fun _ => XS.astore X2.here hx rfl (hb hby at_191) rfl rfl (l' := #[.val (.int p1), .val (.int p2), .val (.int p3), .val (.int vr), .val (.int (0 : Int32)), .val (.int (0 : Int32)), .val (.int (0 : Int32)), .val (.int vc), .val (.int n1), .val (.int n2), .val (.int x0), .val (.int x1), .val (.int y0), .val (.int y1), .val (.ref sb1), .val (.ref sb2), .unset, .unset, .unset, .unset]) rfl) ?_
        show Goes p e below _ T2 (mkF m 193 #[.val (.int p1), .val (.int p2), .val (.int p3), .val (.int vr), .val (.int (0 : Int32)), .val (.int (0 : Int32)), .val (.int (0 : Int32)), .val (.int vc), .val (.int n1), .val (.int n2), .val (.int x0), .val (.int x1), .val (.int y0), .val (.int y1), .val (.ref sb1), .val (.ref sb2), .unset, .unset, .unset, .unset] [])
        refine goNew X2 hx hZ hown (hw _ (List.mem_of_getElem? (i := 26) rfl)) (hw _ (List.mem_of_getElem? (i := 27) rfl)) (hw _ (List.mem_of_getElem? (i := 28) rfl)) (rfl : T2.heap = _) (g := (mkF m 193 #[.val (.int p1), .val (.int p2), .val (.int p3), .val (.int vr), .val (.int (0 : Int32)), .val (.int (0 : Int32)), .val (.int (0 : Int32)), .val (.int vc), .val (.int n1), .val (.int n2), .val (.int x0), .val (.int x1), .val (.int y0), .val (.int y1), .val (.ref sb1), .val (.ref sb2), .unset, .unset, .unset, .unset] [])) rfl (hb hby at_193) (by decide) (by decide) ?_
        intro T3 h3 b3 X3 eT3 E3 hb3 A3 D3
        have g_b3 : n0 ≤ b3 := Nat.le_trans (oldLe O0) hb3
        have ne_sb1_b3 : sb1 ≠ b3 := Nat.ne_of_lt (Nat.lt_of_lt_of_le S1.lt hb3)
        have ne_sb2_b3 : sb2 ≠ b3 := Nat.ne_of_lt (Nat.lt_of_lt_of_le S2.lt hb3)
        have S1 := S1.ext E3
        have S2 := S2.ext E3
        have hk := Nat.le_trans hk E3.1
        have HC := HC.trans (CHr.ext E3 HC.1)
        have O0 := O0.ext E3
        have F3_id : Fld Z h3 b3 "com/example/latchwork/latchwork/store/RedisRun$Origin" "id" "Ljava/lang/String;" .null := D3 (Or.inr (hw _ (List.mem_of_getElem? (i := 39) rfl))) (ty := (.object "java/lang/String")) (by decide)
        have F3_wroteEveryChange : Fld Z h3 b3 "com/example/latchwork/latchwork/store/RedisRun$Origin" "wroteEveryChange" "Z" (.int (0 : Int32)) := D3 (Or.inr (hw _ (List.mem_of_getElem? (i := 41) rfl))) (ty := .boolean) (by decide)
        show Goes p e below _ T3 (mkF m 196 #[.val (.int p1), .val (.int p2), .val (.int p3), .val (.int vr), .val (.int (0 : Int32)), .val (.int (0 : Int32)), .val (.int (0 : Int32)), .val (.int vc), .val (.int n1), .val (.int n2), .val (.int x0), .val (.int x1), .val (.int y0), .val (.int y1), .val (.ref sb1), .val (.ref sb2), .unset, .unset, .unset, .unset] [(.ref b3)])
        refine Goes.of (fun _ => XS.dup X3.here hx rfl (hb hby at_196) rfl rfl) ?_
        show Goes p e below _ T3 (mkF m 197 #[.val (.int p1), .val (.int p2), .val (.int p3), .val (.int vr), .val (.int (0 : Int32)), .val (.int (0 : Int32)), .val (.int (0 : Int32)), .val (.int vc), .val (.int n1), .val (.int n2), .val (.int x0), .val (.int x1), .val (.int y0), .val (.int y1), .val (.ref sb1), .val (.ref sb2), .unset, .unset, .unset, .unset] [(.ref b3), (.ref b3)])
        refine Goes.of (fun _ => XS.aload X3.here hx rfl (hb hby at_197) rfl rfl) ?_
        show Goes p e below _ T3 (mkF m 199 #[.val (.int p1), .val (.int p2), .val (.int p3), .val (.int vr), .val (.int (0 : Int32)), .val (.int (0 : Int32)), .val (.int (0 : Int32)), .val (.int vc), .val (.int n1), .val (.int n2), .val (.int x0), .val (.int x1), .val (.int y0), .val (.int y1), .val (.ref sb1), .val (.ref sb2), .unset, .unset, .unset, .unset] [(.ref sb2), (.ref b3), (.ref b3)])
        refine Goes.of (fun _ => XS.iload X3.here hx rfl (hb hby at_199) rfl) ?_
        show Goes p e below _ T3 (mkF m 201 #[.val (.int p1), .val (.int p2), .val (.int p3), .val (.int vr), .val (.int (0 : Int32)), .val (.int (0 : Int32)), .val (.int (0 : Int32)), .val (.int vc), .val (.int n1), .val (.int n2), .val (.int x0), .val (.int x1), .val (.int y0), .val (.int y1), .val (.ref sb1), .val (.ref sb2), .unset, .unset, .unset, .unset] [(.int (0 : Int32)), (.ref sb2), (.ref b3), (.ref b3)])
        have Sf_b3 : Safe Z EL _ h3 b3 := Safe.exa hZ.alike A3 (by decide) (by decide)
        refine goSpecial 1 X3 hx hZ rfl hown (hw _ (List.mem_of_getElem? (i := 29) rfl)) (hw _ (List.mem_of_getElem? (i := 30) rfl)) (hw _ (List.mem_of_getElem? (i := 28) rfl)) (hw _ (List.mem_of_getElem? (i := 31) rfl)) (by decide) (rm_init00 l Z a0 hw b3 sb2 h3 n0 O0 g_b3 A3 F3_id F3_wroteEveryChange) eT3 (g := (mkF m 201 #[.val (.int p1), .val (.int p2), .val (.int p3), .val (.int vr), .val (.int (0 : Int32)), .val (.int (0 : Int32)), .val (.int (0 : Int32)), .val (.int vc), .val (.int n1), .val (.int n2), .val (.int x0), .val (.int x1), .val (.int y0), .val (.int y1), .val (.ref sb1), .val (.ref sb2), .unset, .unset, .unset, .unset] [(.int (0 : Int32)), (.ref sb2), (.ref b3), (.ref b3)])) rfl (by rw [hml]; rfl) b3 [(.ref sb2), (.int (0 : Int32))] [(.ref b3)] (lenOf pd__Ljava_lang_String_Z_V rfl) rfl rfl (by show 2 * 0 + _ ≤ _; exact Nat.le_of_eq rfl) (hb hby at_201) (by decide) (by decide) (by decide) (by decide) ?_
        intro v4 T4 L4 X4 q4
        obtain ⟨rfl, Nq4, Kq4, H0_4, H1_4⟩ := q4
        have N4 := Fr.app N2 Nq4
        have S1 := S1.keep1 Kq4 ne_sb1_b3 A3 (hw _ (List.mem_of_getElem? (i := 27) rfl))
        have S2 := S2.keep1 Kq4 ne_sb2_b3 A3 (hw _ (List.mem_of_getElem? (i := 27) rfl))
        have A3 := A3.keep Kq4
        have HC := HC.trans (CHr.keep Kq4 (sfS Sf_b3 sf0) HC.1)
        have hk := Nat.le_trans hk Kq4.1
        have O0 := O0.keep Kq4 (allS g_b3 all0)
        show Goes p e below _ T4 (mkF m 204 #[.val (.int p1), .val (.int p2), .val (.int p3), .val (.int vr), .val (.int (0 : Int32)), .val (.int (0 : Int32)), .val (.int (0 : Int32)), .val (.int vc), .val (.int n1), .val (.int n2), .val (.int x0), .val (.int x1), .val (.int y0), .val (.int y1), .val (.ref sb1), .val (.ref sb2), .unset, .unset, .unset, .unset] [(.ref b3)])
        refine Goes.of (fun _ => XS.astore X4.here hx rfl (hb hby at_204) rfl rfl (l' := #[.val (.int p1), .val (.int p2), .val (.int p3), .val (.int vr), .val (.int (0 : Int32)), .val (.int (0 : Int32)), .val (.int (0 : Int32)), .val (.int vc), .val (.int n1), .val (.int n2), .val (.int x0), .val (.int x1), .val (.int y0), .val (.int y1), .val (.ref sb1), .val (.ref sb2), .val (.ref b3), .unset, .unset, .unset]) rfl) ?_
        show Goes p e below _ T4 (mkF m 206 #[.val (.int p1), .val (.int p2), .val (.int p3), .val (.int vr), .val (.int (0 : Int32)), .val (.int (0 : Int32)), .val (.int (0 : Int32)), .val (.int vc), .val (.int n1), .val (.int n2), .val (.int x0), .val (.int x1), .val (.int y0), .val (.int y1), .val (.ref sb1), .val (.ref sb2), .val (.ref b3), .unset, .unset, .unset] [])
        refine Goes.of (fun _ => XS.aload X4.here hx rfl (hb hby at_206) rfl rfl) ?_
        show Goes p e below _ T4 (mkF m 208 #[.val (.int p1), .val (.int p2), .val (.int p3), .val (.int vr), .val (.int (0 : Int32)), .val (.int (0 : Int32)), .val (.int (0 : Int32)), .val (.int vc), .val (.int n1), .val (.int n2), .val (.int x0), .val (.int x1), .val (.int y0), .val (.int y1), .val (.ref sb1), .val (.ref sb2), .val (.ref b3), .unset, .unset, .unset] [(.ref sb1)])
        refine Goes.of (fun _ => XS.aload X4.here hx rfl (hb hby at_208) rfl rfl) ?_
        show Goes p e below _ T4 (mkF m 210 #[.val (.int p1), .val (.int p2), .val (.int p3), .val (.int vr), .val (.int (0 : Int32)), .val (.int (0 : Int32)), .val (.int (0 : Int32)), .val (.int vc), .val (.int n1), .val (.int n2), .val (.int x0), .val (.int x1), .val (.int y0), .val (.int y1), .val (.ref sb1), .val (.ref sb2), .val (.ref b3), .unset, .unset, .unset] [(.ref b3), (.ref sb1)])
        refine Goes.of (fun _ => XS.iloadN X4.here hx rfl (hb hby at_210) rfl) ?_
        show Goes p e below _ T4 (mkF m 211 #[.val (.int p1), .val (.int p2), .val (.int p3), .val (.int vr), .val (.int (0 : Int32)), .val (.int (0 : Int32)), .val (.int (0 : Int32)), .val (.int vc), .val (.int n1), .val (.int n2), .val (.int x0), .val (.int x1), .val (.int y0), .val (.int y1), .val (.ref sb1), .val (.ref sb2), .val (.ref b3), .unset, .unset, .unset] [(.int vr), (.ref b3), (.ref sb1)])
        refine goStatic 0 X4 hx hZ hown (hw _ (List.mem_of_getElem? (i := 42) rfl)) (hw _ (List.mem_of_getElem? (i := 43) rfl)) (hw _ (List.mem_of_getElem? (i := 44) rfl)) (hw _ (List.mem_of_getElem? (i := 45) rfl)) (by decide) (rm_kept000 l Z a0 hw b3 sb1 sb2 vr (strL n1 x0 x1) (strL n2 y0 y1) cz T4.heap n0 O0 Sc hcz A3 H0_4 H1_4 S1 S2) (rfl : T4.heap = _) (g := (mkF m 211 #[.val (.int p1), .val (.int p2), .val (.int p3), .val (.int vr), .val (.int (0 : Int32)), .val (.int (0 : Int32)), .val (.int (0 : Int32)), .val (.int vc), .val (.int n1), .val (.int n2), .val (.int x0), .val (.int x1), .val (.int y0), .val (.int y1), .val (.ref sb1), .val (.ref sb2), .val (.ref b3), .unset, .unset, .unset] [(.int vr), (.ref b3), (.ref sb1)])) rfl (by rw [hml]; rfl) [(.ref sb1), (.ref b3), (.int vr)] [] (lenOf pd__Ljava_lang_String_Lcom_example_latchwork_latchwork_store_RedisRun_Origin_Z_Z rfl) rfl rfl (by show 2 * 0 + _ ≤ _; exact Nat.le_of_eq rfl) (hb hby at_211) (by decide) (by decide) (by decide) (by decide) ?_
        intro v5 T5 L5 X5 q5
        obtain ⟨rfl, Nq5, eT5⟩ := q5
        have N5 := Fr.app N4 Nq5
        show Goes p e below _ T5 (mkF m 214 #[.val (.int p1), .val (.int p2), .val (.int p3), .val (.int vr), .val (.int (0 : Int32)), .val (.int (0 : Int32)), .val (.int (0 : Int32)), .val (.int vc), .val (.int n1), .val (.int n2), .val (.int x0), .val (.int x1), .val (.int y0), .val (.int y1), .val (.ref sb1), .val (.ref sb2), .val (.ref b3), .unset, .unset, .unset] [(.int (if vr = (0 : Int32) then (0 : Int32) else (0 : Int32)))])
        refine Goes.of (fun _ => XS.istore X5.here hx rfl (hb hby at_214) rfl (l' := #[.val (.int p1), .val (.int p2), .val (.int p3), .val (.int vr), .val (.int (0 : Int32)), .val (.int (0 : Int32)), .val (.int (0 : Int32)), .val (.int vc), .val (.int n1), .val (.int n2), .val (.int x0), .val (.int x1), .val (.int y0), .val (.int y1), .val (.ref sb1), .val (.ref sb2), .val (.ref b3), .val (.int (if vr = (0 : Int32) then (0 : Int32) else (0 : Int32))), .unset, .unset]) rfl) ?_
        show Goes p e below _ T5 (mkF m 216 #[.val (.int p1), .val (.int p2), .val (.int p3), .val (.int vr), .val (.int (0 : Int32)), .val (.int (0 : Int32)), .val (.int (0 : Int32)), .val (.int vc), .val (.int n1), .val (.int n2), .val (.int x0), .val (.int x1), .val (.int y0), .val (.int y1), .val (.ref sb1), .val (.ref sb2), .val (.ref b3), .val (.int (if vr = (0 : Int32) then (0 : Int32) else (0 : Int32))), .unset, .unset] [])
        refine Goes.of (fun _ => XS.iload X5.here hx rfl (hb hby at_216) rfl) ?_
        show Goes p e below _ T5 (mkF m 218 #[.val (.int p1), .val (.int p2), .val (.int p3), .val (.int vr), .val (.int (0 : Int32)), .val (.int (0 : Int32)), .val (.int (0 : Int32)), .val (.int vc), .val (.int n1), .val (.int n2), .val (.int x0), .val (.int x1), .val (.int y0), .val (.int y1), .val (.ref sb1), .val (.ref sb2), .val (.ref b3), .val (.int (if vr = (0 : Int32) then (0 : Int32) else (0 : Int32))), .unset, .unset] [(.int n1)])
        refine Goes.of (fun _ => XS.iload X5.here hx rfl (hb hby at_218) rfl) ?_
        show Goes p e below _ T5 (mkF m 220 #[.val (.int p1), .val (.int p2), .val (.int p3), .val (.int vr), .val (.int (0 : Int32)), .val (.int (0 : Int32)), .val (.int (0 : Int32)), .val (.int vc), .val (.int n1), .val (.int n2), .val (.int x0), .val (.int x1), .val (.int y0), .val (.int y1), .val (.ref sb1), .val (.ref sb2), .val (.ref b3), .val (.int (if vr = (0 : Int32) then (0 : Int32) else (0 : Int32))), .unset, .unset] [(.int n2), (.int n1)])
        refine Goes.of (T' := T5) (f' := (mkF m 254 #[.val (.int p1), .val (.int p2), .val (.int p3), .val (.int vr), .val (.int (0 : Int32)), .val (.int (0 : Int32)), .val (.int (0 : Int32)), .val (.int vc), .val (.int n1), .val (.int n2), .val (.int x0), .val (.int x1), .val (.int y0), .val (.int y1), .val (.ref sb1), .val (.ref sb2), .val (.ref b3), .val (.int (if vr = (0 : Int32) then (0 : Int32) else (0 : Int32))), .unset, .unset] [(.int (if n1 = n2 then (if n1 < (1 : Int32) then (if n1 < (2 : Int32) then (1 : Int32) else (if x1 = y1 then (1 : Int32) else (0 : Int32))) else (if x0 = y0 then (if n1 < (2 : Int32) then (1 : Int32) else (if x1 = y1 then (1 : Int32) else (0 : Int32))) else (0 : Int32))) else (0 : Int32)))])) (fun t kt => ?_) ?_
        · show Steps p.tables e below (T5.setTop (mkF m 220 #[.val (.int p1), .val (.int p2), .val (.int p3), .val (.int vr), .val (.int (0 : Int32)), .val (.int (0 : Int32)), .val (.int (0 : Int32)), .val (.int vc), .val (.int n1), .val (.int n2), .val (.int x0), .val (.int x1), .val (.int y0), .val (.int y1), .val (.ref sb1), .val (.ref sb2), .val (.ref b3), .val (.int (if vr = (0 : Int32) then (0 : Int32) else (0 : Int32))), .unset, .unset] [(.int n2), (.int n1)])) _
          by_cases hq220 : n1 = n2
          · simp only [if_pos hq220] at kt
            refine XS.icmpNo X5.here hx rfl (hb hby at_220) rfl (teq hq220).2 ?_
            show Steps p.tables e below (T5.setTop (mkF m 223 #[.val (.int p1), .val (.int p2), .val (.int p3), .val (.int vr), .val (.int (0 : Int32)), .val (.int (0 : Int32)), .val (.int (0 : Int32)), .val (.int vc), .val (.int n1), .val (.int n2), .val (.int x0), .val (.int x1), .val (.int y0), .val (.int y1), .val (.ref sb1), .val (.ref sb2), .val (.ref b3), .val (.int (if vr = (0 : Int32) then (0 : Int32) else (0 : Int32))), .unset, .unset] [])) _
            refine XS.iload X5.here hx rfl (hb hby at_223) rfl ?_
            show Steps p.tables e below (T5.setTop (mkF m 225 #[.val (.int p1), .val (.int p2), .val (.int p3), .val (.int vr), .val (.int (0 : Int32)), .val (.int (0 : Int32)), .val (.int (0 : Int32)), .val (.int vc), .val (.int n1), .val (.int n2), .val (.int x0), .val (.int x1), .val (.int y0), .val (.int y1), .val (.ref sb1), .val (.ref sb2), .val (.ref b3), .val (.int (if vr = (0 : Int32) then (0 : Int32) else (0 : Int32))), .unset, .unset] [(.int n1)])) _
            refine XS.iconst X5.here hx rfl (hb hby at_225) ?_
            show Steps p.tables e below (T5.setTop (mkF m 226 #[.val (.int p1), .val (.int p2), .val (.int p3), .val (.int vr), .val (.int (0 : Int32)), .val (.int (0 : Int32)), .val (.int (0 : Int32)), .val (.int vc), .val (.int n1), .val (.int n2), .val (.int x0), .val (.int x1), .val (.int y0), .val (.int y1), .val (.ref sb1), .val (.ref sb2), .val (.ref b3), .val (.int (if vr = (0 : Int32) then (0 : Int32) else (0 : Int32))), .unset, .unset] [(.int (1 : Int32)), (.int n1)])) _
            by_cases hq226 : n1 < (1 : Int32)
            · simp only [if_pos hq226] at kt
              refine XS.icmpYes X5.here hx rfl (pc0 := 226) (pc' := 236) rfl (hb hby at_226) rfl (tlt hq226).1 (by decide) (by decide) ?_
              show Steps p.tables e below (T5.setTop (mkF m 236 #[.val (.int p1), .val (.int p2), .val (.int p3), .val (.int vr), .val (.int (0 : Int32)), .val (.int (0 : Int32)), .val (.int (0 : Int32)), .val (.int vc), .val (.int n1), .val (.int n2), .val (.int x0), .val (.int x1), .val (.int y0), .val (.int y1), .val (.ref sb1), .val (.ref sb2), .val (.ref b3), .val (.int (if vr = (0 : Int32) then (0 : Int32) else (0 : Int32))), .unset, .unset] [])) _
              refine XS.iload X5.here hx rfl (hb hby at_236) rfl ?_
              show Steps p.tables e below (T5.setTop (mkF m 238 #[.val (.int p1), .val (.int p2), .val (.int p3), .val (.int vr), .val (.int (0 : Int32)), .val (.int (0 : Int32)), .val (.int (0 : Int32)), .val (.int vc), .val (.int n1), .val (.int n2), .val (.int x0), .val (.int x1), .val (.int y0), .val (.int y1), .val (.ref sb1), .val (.ref sb2), .val (.ref b3), .val (.int (if vr = (0 : Int32) then (0 : Int32) else (0 : Int32))), .unset, .unset] [(.int n1)])) _
              refine XS.iconst X5.here hx rfl (hb hby at_238) ?_
              show Steps p.tables e below (T5.setTop (mkF m 239 #[.val (.int p1), .val (.int p2), .val (.int p3), .val (.int vr), .val (.int (0 : Int32)), .val (.int (0 : Int32)), .val (.int (0 : Int32)), .val (.int vc), .val (.int n1), .val (.int n2), .val (.int x0), .val (.int x1), .val (.int y0), .val (.int y1), .val (.ref sb1), .val (.ref sb2), .val (.ref b3), .val (.int (if vr = (0 : Int32) then (0 : Int32) else (0 : Int32))), .unset, .unset] [(.int (2 : Int32)), (.int n1)])) _
              by_cases hq239 : n1 < (2 : Int32)
              · simp only [if_pos hq239] at kt
                refine XS.icmpYes X5.here hx rfl (pc0 := 239) (pc' := 249) rfl (hb hby at_239) rfl (tlt hq239).1 (by decide) (by decide) ?_
                show Steps p.tables e below (T5.setTop (mkF m 249 #[.val (.int p1), .val (.int p2), .val (.int p3), .val (.int vr), .val (.int (0 : Int32)), .val (.int (0 : Int32)), .val (.int (0 : Int32)), .val (.int vc), .val (.int n1), .val (.int n2), .val (.int x0), .val (.int x1), .val (.int y0), .val (.int y1), .val (.ref sb1), .val (.ref sb2), .val (.ref b3), .val (.int (if vr = (0 : Int32) then (0 : Int32) else (0 : Int32))), .unset, .unset] [])) _
                refine XS.iconst X5.here hx rfl (hb hby at_249) ?_
                show Steps p.tables e below (T5.setTop (mkF m 250 #[.val (.int p1), .val (.int p2), .val (.int p3), .val (.int vr), .val (.int (0 : Int32)), .val (.int (0 : Int32)), .val (.int (0 : Int32)), .val (.int vc), .val (.int n1), .val (.int n2), .val (.int x0), .val (.int x1), .val (.int y0), .val (.int y1), .val (.ref sb1), .val (.ref sb2), .val (.ref b3), .val (.int (if vr = (0 : Int32) then (0 : Int32) else (0 : Int32))), .unset, .unset] [(.int (1 : Int32))])) _
                refine XS.goto X5.here hx rfl (pc0 := 250) (pc' := 254) rfl (hb hby at_250) (by decide) (by decide) ?_
                show Steps p.tables e below (T5.setTop (mkF m 254 #[.val (.int p1), .val (.int p2), .val (.int p3), .val (.int vr), .val (.int (0 : Int32)), .val (.int (0 : Int32)), .val (.int (0 : Int32)), .val (.int vc), .val (.int n1), .val (.int n2), .val (.int x0), .val (.int x1), .val (.int y0), .val (.int y1), .val (.ref sb1), .val (.ref sb2), .val (.ref b3), .val (.int (if vr = (0 : Int32) then (0 : Int32) else (0 : Int32))), .unset, .unset] [(.int (1 : Int32))])) _
                first | exact kt | (simp only [if_pos hq220, if_pos hq226, if_pos hq239]; exact kt)
              · simp only [if_neg hq239] at kt
                refine XS.icmpNo X5.here hx rfl (hb hby at_239) rfl (flt hq239).1 ?_
                show Steps p.tables e below (T5.setTop (mkF m 242 #[.val (.int p1), .val (.int p2), .val (.int p3), .val (.int vr), .val (.int (0 : Int32)), .val (.int (0 : Int32)), .val (.int (0 : Int32)), .val (.int vc), .val (.int n1), .val (.int n2), .val (.int x0), .val (.int x1), .val (.int y0), .val (.int y1), .val (.ref sb1), .val (.ref sb2), .val (.ref b3), .val (.int (if vr = (0 : Int32) then (0 : Int32) else (0 : Int32))), .unset, .unset] [])) _
                refine XS.iload X5.here hx rfl (hb hby at_242) rfl ?_
                show Steps p.tables e below (T5.setTop (mkF m 244 #[.val (.int p1), .val (.int p2), .val (.int p3), .val (.int vr), .val (.int (0 : Int32)), .val (.int (0 : Int32)), .val (.int (0 : Int32)), .val (.int vc), .val (.int n1), .val (.int n2), .val (.int x0), .val (.int x1), .val (.int y0), .val (.int y1), .val (.ref sb1), .val (.ref sb2), .val (.ref b3), .val (.int (if vr = (0 : Int32) then (0 : Int32) else (0 : Int32))), .unset, .unset] [(.int x1)])) _
                refine XS.iload X5.here hx rfl (hb hby at_244) rfl ?_
                show Steps p.tables e below (T5.setTop (mkF m 246 #[.val (.int p1), .val (.int p2), .val (.int p3), .val (.int vr), .val (.int (0 : Int32)), .val (.int (0 : Int32)), .val (.int (0 : Int32)), .val (.int vc), .val (.int n1), .val (.int n2), .val (.int x0), .val (.int x1), .val (.int y0), .val (.int y1), .val (.ref sb1), .val (.ref sb2), .val (.ref b3), .val (.int (if vr = (0 : Int32) then (0 : Int32) else (0 : Int32))), .unset, .unset] [(.int y1), (.int x1)])) _
                by_cases hq246 : x1 = y1
                · simp only [if_pos hq246] at kt
                  refine XS.icmpNo X5.here hx rfl (hb hby at_246) rfl (teq hq246).2 ?_
                  show Steps p.tables e below (T5.setTop (mkF m 249 #[.val (.int p1), .val (.int p2), .val (.int p3), .val (.int vr), .val (.int (0 : Int32)), .val (.int (0 : Int32)), .val (.int (0 : Int32)), .val (.int vc), .val (.int n1), .val (.int n2), .val (.int x0), .val (.int x1), .val (.int y0), .val (.int y1), .val (.ref sb1), .val (.ref sb2), .val (.ref b3), .val (.int (if vr = (0 : Int32) then (0 : Int32) else (0 : Int32))), .unset, .unset] [])) _
                  refine XS.iconst X5.here hx rfl (hb hby at_249) ?_
                  show Steps p.tables e below (T5.setTop (mkF m 250 #[.val (.int p1), .val (.int p2), .val (.int p3), .val (.int vr), .val (.int (0 : Int32)), .val (.int (0 : Int32)), .val (.int (0 : Int32)), .val (.int vc), .val (.int n1), .val (.int n2), .val (.int x0), .val (.int x1), .val (.int y0), .val (.int y1), .val (.ref sb1), .val (.ref sb2), .val (.ref b3), .val (.int (if vr = (0 : Int32) then (0 : Int32) else (0 : Int32))), .unset, .unset] [(.int (1 : Int32))])) _
                  refine XS.goto X5.here hx rfl (pc0 := 250) (pc' := 254) rfl (hb hby at_250) (by decide) (by decide) ?_
                  show Steps p.tables e below (T5.setTop (mkF m 254 #[.val (.int p1), .val (.int p2), .val (.int p3), .val (.int vr), .val (.int (0 : Int32)), .val (.int (0 : Int32)), .val (.int (0 : Int32)), .val (.int vc), .val (.int n1), .val (.int n2), .val (.int x0), .val (.int x1), .val (.int y0), .val (.int y1), .val (.ref sb1), .val (.ref sb2), .val (.ref b3), .val (.int (if vr = (0 : Int32) then (0 : Int32) else (0 : Int32))), .unset, .unset] [(.int (1 : Int32))])) _
                  first | exact kt | (simp only [if_pos hq220, if_pos hq226, if_neg hq239, if_pos hq246]; exact kt)
                · simp only [if_neg hq246] at kt
                  refine XS.icmpYes X5.here hx rfl (pc0 := 246) (pc' := 253) rfl (hb hby at_246) rfl (feq hq246).2 (by decide) (by decide) ?_
                  show Steps p.tables e below (T5.setTop (mkF m 253 #[.val (.int p1), .val (.int p2), .val (.int p3), .val (.int vr), .val (.int (0 : Int32)), .val (.int (0 : Int32)), .val (.int (0 : Int32)), .val (.int vc), .val (.int n1), .val (.int n2), .val (.int x0), .val (.int x1), .val (.int y0), .val (.int y1), .val (.ref sb1), .val (.ref sb2), .val (.ref b3), .val (.int (if vr = (0 : Int32) then (0 : Int32) else (0 : Int32))), .unset, .unset] [])) _
                  refine XS.iconst X5.here hx rfl (hb hby at_253) ?_
                  show Steps p.tables e below (T5.setTop (mkF m 254 #[.val (.int p1), .val (.int p2), .val (.int p3), .val (.int vr), .val (.int (0 : Int32)), .val (.int (0 : Int32)), .val (.int (0 : Int32)), .val (.int vc), .val (.int n1), .val (.int n2), .val (.int x0), .val (.int x1), .val (.int y0), .val (.int y1), .val (.ref sb1), .val (.ref sb2), .val (.ref b3), .val (.int (if vr = (0 : Int32) then (0 : Int32) else (0 : Int32))), .unset, .unset] [(.int (0 : Int32))])) _
                  first | exact kt | (simp only [if_pos hq220, if_pos hq226, if_neg hq239, if_neg hq246]; exact kt)
            · simp only [if_neg hq226] at kt
              refine XS.icmpNo X5.here hx rfl (hb hby at_226) rfl (flt hq226).1 ?_
              show Steps p.tables e below (T5.setTop (mkF m 229 #[.val (.int p1), .val (.int p2), .val (.int p3), .val (.int vr), .val (.int (0 : Int32)), .val (.int (0 : Int32)), .val (.int (0 : Int32)), .val (.int vc), .val (.int n1), .val (.int n2), .val (.int x0), .val (.int x1), .val (.int y0), .val (.int y1), .val (.ref sb1), .val (.ref sb2), .val (.ref b3), .val (.int (if vr = (0 : Int32) then (0 : Int32) else (0 : Int32))), .unset, .unset] [])) _
              refine XS.iload X5.here hx rfl (hb hby at_229) rfl ?_
              show Steps p.tables e below (T5.setTop (mkF m 231 #[.val (.int p1), .val (.int p2), .val (.int p3), .val (.int vr), .val (.int (0 : Int32)), .val (.int (0 : Int32)), .val (.int (0 : Int32)), .val (.int vc), .val (.int n1), .val (.int n2), .val (.int x0), .val (.int x1), .val (.int y0), .val (.int y1), .val (.ref sb1), .val (.ref sb2), .val (.ref b3), .val (.int (if vr = (0 : Int32) then (0 : Int32) else (0 : Int32))), .unset, .unset] [(.int x0)])) _
              refine XS.iload X5.here hx rfl (hb hby at_231) rfl ?_
              show Steps p.tables e below (T5.setTop (mkF m 233 #[.val (.int p1), .val (.int p2), .val (.int p3), .val (.int vr), .val (.int (0 : Int32)), .val (.int (0 : Int32)), .val (.int (0 : Int32)), .val (.int vc), .val (.int n1), .val (.int n2), .val (.int x0), .val (.int x1), .val (.int y0), .val (.int y1), .val (.ref sb1), .val (.ref sb2), .val (.ref b3), .val (.int (if vr = (0 : Int32) then (0 : Int32) else (0 : Int32))), .unset, .unset] [(.int y0), (.int x0)])) _
              by_cases hq233 : x0 = y0
              · simp only [if_pos hq233] at kt
                refine XS.icmpNo X5.here hx rfl (hb hby at_233) rfl (teq hq233).2 ?_
                show Steps p.tables e below (T5.setTop (mkF m 236 #[.val (.int p1), .val (.int p2), .val (.int p3), .val (.int vr), .val (.int (0 : Int32)), .val (.int (0 : Int32)), .val (.int (0 : Int32)), .val (.int vc), .val (.int n1), .val (.int n2), .val (.int x0), .val (.int x1), .val (.int y0), .val (.int y1), .val (.ref sb1), .val (.ref sb2), .val (.ref b3), .val (.int (if vr = (0 : Int32) then (0 : Int32) else (0 : Int32))), .unset, .unset] [])) _
                refine XS.iload X5.here hx rfl (hb hby at_236) rfl ?_
                show Steps p.tables e below (T5.setTop (mkF m 238 #[.val (.int p1), .val (.int p2), .val (.int p3), .val (.int vr), .val (.int (0 : Int32)), .val (.int (0 : Int32)), .val (.int (0 : Int32)), .val (.int vc), .val (.int n1), .val (.int n2), .val (.int x0), .val (.int x1), .val (.int y0), .val (.int y1), .val (.ref sb1), .val (.ref sb2), .val (.ref b3), .val (.int (if vr = (0 : Int32) then (0 : Int32) else (0 : Int32))), .unset, .unset] [(.int n1)])) _
                refine XS.iconst X5.here hx rfl (hb hby at_238) ?_
                show Steps p.tables e below (T5.setTop (mkF m 239 #[.val (.int p1), .val (.int p2), .val (.int p3), .val (.int vr), .val (.int (0 : Int32)), .val (.int (0 : Int32)), .val (.int (0 : Int32)), .val (.int vc), .val (.int n1), .val (.int n2), .val (.int x0), .val (.int x1), .val (.int y0), .val (.int y1), .val (.ref sb1), .val (.ref sb2), .val (.ref b3), .val (.int (if vr = (0 : Int32) then (0 : Int32) else (0 : Int32))), .unset, .unset] [(.int (2 : Int32)), (.int n1)])) _
                by_cases hq239 : n1 < (2 : Int32)
                · simp only [if_pos hq239] at kt
                  refine XS.icmpYes X5.here hx rfl (pc0 := 239) (pc' := 249) rfl (hb hby at_239) rfl (tlt hq239).1 (by decide) (by decide) ?_
                  show Steps p.tables e below (T5.setTop (mkF m 249 #[.val (.int p1), .val (.int p2), .val (.int p3), .val (.int vr), .val (.int (0 : Int32)), .val (.int (0 : Int32)), .val (.int (0 : Int32)), .val (.int vc), .val (.int n1), .val (.int n2), .val (.int x0), .val (.int x1), .val (.int y0), .val (.int y1), .val (.ref sb1), .val (.ref sb2), .val (.ref b3), .val (.int (if vr = (0 : Int32) then (0 : Int32) else (0 : Int32))), .unset, .unset] [])) _
                  refine XS.iconst X5.here hx rfl (hb hby at_249) ?_
                  show Steps p.tables e below (T5.setTop (mkF m 250 #[.val (.int p1), .val (.int p2), .val (.int p3), .val (.int vr), .val (.int (0 : Int32)), .val (.int (0 : Int32)), .val (.int (0 : Int32)), .val (.int vc), .val (.int n1), .val (.int n2), .val (.int x0), .val (.int x1), .val (.int y0), .val (.int y1), .val (.ref sb1), .val (.ref sb2), .val (.ref b3), .val (.int (if vr = (0 : Int32) then (0 : Int32) else (0 : Int32))), .unset, .unset] [(.int (1 : Int32))])) _
                  refine XS.goto X5.here hx rfl (pc0 := 250) (pc' := 254) rfl (hb hby at_250) (by decide) (by decide) ?_
                  show Steps p.tables e below (T5.setTop (mkF m 254 #[.val (.int p1), .val (.int p2), .val (.int p3), .val (.int vr), .val (.int (0 : Int32)), .val (.int (0 : Int32)), .val (.int (0 : Int32)), .val (.int vc), .val (.int n1), .val (.int n2), .val (.int x0), .val (.int x1), .val (.int y0), .val (.int y1), .val (.ref sb1), .val (.ref sb2), .val (.ref b3), .val (.int (if vr = (0 : Int32) then (0 : Int32) else (0 : Int32))), .unset, .unset] [(.int (1 : Int32))])) _
                  first | exact kt | (simp only [if_pos hq220, if_neg hq226, if_pos hq233, if_pos hq239]; exact kt)
                · simp only [if_neg hq239] at kt
                  refine XS.icmpNo X5.here hx rfl (hb hby at_239) rfl (flt hq239).1 ?_
                  show Steps p.tables e below (T5.setTop (mkF m 242 #[.val (.int p1), .val (.int p2), .val (.int p3), .val (.int vr), .val (.int (0 : Int32)), .val (.int (0 : Int32)), .val (.int (0 : Int32)), .val (.int vc), .val (.int n1), .val (.int n2), .val (.int x0), .val (.int x1), .val (.int y0), .val (.int y1), .val (.ref sb1), .val (.ref sb2), .val (.ref b3), .val (.int (if vr = (0 : Int32) then (0 : Int32) else (0 : Int32))), .unset, .unset] [])) _
                  refine XS.iload X5.here hx rfl (hb hby at_242) rfl ?_
                  show Steps p.tables e below (T5.setTop (mkF m 244 #[.val (.int p1), .val (.int p2), .val (.int p3), .val (.int vr), .val (.int (0 : Int32)), .val (.int (0 : Int32)), .val (.int (0 : Int32)), .val (.int vc), .val (.int n1), .val (.int n2), .val (.int x0), .val (.int x1), .val (.int y0), .val (.int y1), .val (.ref sb1), .val (.ref sb2), .val (.ref b3), .val (.int (if vr = (0 : Int32) then (0 : Int32) else (0 : Int32))), .unset, .unset] [(.int x1)])) _
                  refine XS.iload X5.here hx rfl (hb hby at_244) rfl ?_
                  show Steps p.tables e below (T5.setTop (mkF m 246 #[.val (.int p1), .val (.int p2), .val (.int p3), .val (.int vr), .val (.int (0 : Int32)), .val (.int (0 : Int32)), .val (.int (0 : Int32)), .val (.int vc), .val (.int n1), .val (.int n2), .val (.int x0), .val (.int x1), .val (.int y0), .val (.int y1), .val (.ref sb1), .val (.ref sb2), .val (.ref b3), .val (.int (if vr = (0 : Int32) then (0 : Int32) else (0 : Int32))), .unset, .unset] [(.int y1), (.int x1)])) _
                  by_cases hq246 : x1 = y1
                  · simp only [if_pos hq246] at kt
                    refine XS.icmpNo X5.here hx rfl (hb hby at_246) rfl (teq hq246).2 ?_
                    show Steps p.tables e below (T5.setTop (mkF m 249 #[.val (.int p1), .val (.int p2), .val (.int p3), .val (.int vr), .val (.int (0 : Int32)), .val (.int (0 : Int32)), .val (.int (0 : Int32)), .val (.int vc), .val (.int n1), .val (.int n2), .val (.int x0), .val (.int x1), .val (.int y0), .val (.int y1), .val (.ref sb1), .val (.ref sb2), .val (.ref b3), .val (.int (if vr = (0 : Int32) then (0 : Int32) else (0 : Int32))), .unset, .unset] [])) _
                    refine XS.iconst X5.here hx rfl (hb hby at_249) ?_
                    show Steps p.tables e below (T5.setTop (mkF m 250 #[.val (.int p1), .val (.int p2), .val (.int p3), .val (.int vr), .val (.int (0 : Int32)), .val (.int (0 : Int32)), .val (.int (0 : Int32)), .val (.int vc), .val (.int n1), .val (.int n2), .val (.int x0), .val (.int x1), .val (.int y0), .val (.int y1), .val (.ref sb1), .val (.ref sb2), .val (.ref b3), .val (.int (if vr = (0 : Int32) then (0 : Int32) else (0 : Int32))), .unset, .unset] [(.int (1 : Int32))])) _
                    refine XS.goto X5.here hx rfl (pc0 := 250) (pc' := 254) rfl (hb hby at_250) (by decide) (by decide) ?_
                    show Steps p.tables e below (T5.setTop (mkF m 254 #[.val (.int p1), .val (.int p2), .val (.int p3), .val (.int vr), .val (.int (0 : Int32)), .val (.int (0 : Int32)), .val (.int (0 : Int32)), .val (.int vc), .val (.int n1), .val (.int n2), .val (.int x0), .val (.int x1), .val (.int y0), .val (.int y1), .val (.ref sb1), .val (.ref sb2), .val (.ref b3), .val (.int (if vr = (0 : Int32) then (0 : Int32) else (0 : Int32))), .unset, .unset] [(.int (1 : Int32))])) _
                    first | exact kt | (simp only [if_pos hq220, if_neg hq226, if_pos hq233, if_neg hq239, if_pos hq246]; exact kt)
                  · simp only [if_neg hq246] at kt
                    refine XS.icmpYes X5.here hx rfl (pc0 := 246) (pc' := 253) rfl (hb hby at_246) rfl (feq hq246).2 (by decide) (by decide) ?_
                    show Steps p.tables e below (T5.setTop (mkF m 253 #[.val (.int p1), .val (.int p2), .val (.int p3), .val (.int vr), .val (.int (0 : Int32)), .val (.int (0 : Int32)), .val (.int (0 : Int32)), .val (.int vc), .val (.int n1), .val (.int n2), .val (.int x0), .val (.int x1), .val (.int y0), .val (.int y1), .val (.ref sb1), .val (.ref sb2), .val (.ref b3), .val (.int (if vr = (0 : Int32) then (0 : Int32) else (0 : Int32))), .unset, .unset] [])) _
                    refine XS.iconst X5.here hx rfl (hb hby at_253) ?_
                    show Steps p.tables e below (T5.setTop (mkF m 254 #[.val (.int p1), .val (.int p2), .val (.int p3), .val (.int vr), .val (.int (0 : Int32)), .val (.int (0 : Int32)), .val (.int (0 : Int32)), .val (.int vc), .val (.int n1), .val (.int n2), .val (.int x0), .val (.int x1), .val (.int y0), .val (.int y1), .val (.ref sb1), .val (.ref sb2), .val (.ref b3), .val (.int (if vr = (0 : Int32) then (0 : Int32) else (0 : Int32))), .unset, .unset] [(.int (0 : Int32))])) _
                    first | exact kt | (simp only [if_pos hq220, if_neg hq226, if_pos hq233, if_neg hq239, if_neg hq246]; exact kt)
              · simp only [if_neg hq233] at kt
                refine XS.icmpYes X5.here hx rfl (pc0 := 233) (pc' := 253) rfl (hb hby at_233) rfl (feq hq233).2 (by decide) (by decide) ?_
                show Steps p.tables e below (T5.setTop (mkF m 253 #[.val (.int p1), .val (.int p2), .val (.int p3), .val (.int vr), .val (.int (0 : Int32)), .val (.int (0 : Int32)), .val (.int (0 : Int32)), .val (.int vc), .val (.int n1), .val (.int n2), .val (.int x0), .val (.int x1), .val (.int y0), .val (.int y1), .val (.ref sb1), .val (.ref sb2), .val (.ref b3), .val (.int (if vr = (0 : Int32) then (0 : Int32) else (0 : Int32))), .unset, .unset] [])) _
                refine XS.iconst X5.here hx rfl (hb hby at_253) ?_
                show Steps p.tables e below (T5.setTop (mkF m 254 #[.val (.int p1), .val (.int p2), .val (.int p3), .val (.int vr), .val (.int (0 : Int32)), .val (.int (0 : Int32)), .val (.int (0 : Int32)), .val (.int vc), .val (.int n1), .val (.int n2), .val (.int x0), .val (.int x1), .val (.int y0), .val (.int y1), .val (.ref sb1), .val (.ref sb2), .val (.ref b3), .val (.int (if vr = (0 : Int32) then (0 : Int32) else (0 : Int32))), .unset, .unset] [(.int (0 : Int32))])) _
                first | exact kt | (simp only [if_pos hq220, if_neg hq226, if_neg hq233]; exact kt)
          · simp only [if_neg hq220] at kt
            refine XS.icmpYes X5.here hx rfl (pc0 := 220) (pc' := 253) rfl (hb hby at_220) rfl (feq hq220).2 (by decide) (by decide) ?_
            show Steps p.tables e below (T5.setTop (mkF m 253 #[.val (.int p1), .val (.int p2), .val (.int p3), .val (.int vr), .val (.int (0 : Int32)), .val (.int (0 : Int32)), .val (.int (0 : Int32)), .val (.int vc), .val (.int n1), .val (.int n2), .val (.int x0), .val (.int x1), .val (.int y0), .val (.int y1), .val (.ref sb1), .val (.ref sb2), .val (.ref b3), .val (.int (if vr = (0 : Int32) then (0 : Int32) else (0 : Int32))), .unset, .unset] [])) _
            refine XS.iconst X5.here hx rfl (hb hby at_253) ?_
            show Steps p.tables e below (T5.setTop (mkF m 254 #[.val (.int p1), .val (.int p2), .val (.int p3), .val (.int vr), .val (.int (0 : Int32)), .val (.int (0 : Int32)), .val (.int (0 : Int32)), .val (.int vc), .val (.int n1), .val (.int n2), .val (.int x0), .val (.int x1), .val (.int y0), .val (.int y1), .val (.ref sb1), .val (.ref sb2), .val (.ref b3), .val (.int (if vr = (0 : Int32) then (0 : Int32) else (0 : Int32))), .unset, .unset] [(.int (0 : Int32))])) _
            first | exact kt | (simp only [if_neg hq220]; exact kt)
        show Goes p e below _ T5 (mkF m 254 #[.val (.int p1), .val (.int p2), .val (.int p3), .val (.int vr), .val (.int (0 : Int32)), .val (.int (0 : Int32)), .val (.int (0 : Int32)), .val (.int vc), .val (.int n1), .val (.int n2), .val (.int x0), .val (.int x1), .val (.int y0), .val (.int y1), .val (.ref sb1), .val (.ref sb2), .val (.ref b3), .val (.int (if vr = (0 : Int32) then (0 : Int32) else (0 : Int32))), .unset, .unset] [(.int (if n1 = n2 then (if n1 < (1 : Int32) then (if n1 < (2 : Int32) then (1 : Int32) else (if x1 = y1 then (1 : Int32) else (0 : Int32))) else (if x0 = y0 then (if n1 < (2 : Int32) then (1 : Int32) else (if x1 = y1 then (1 : Int32) else (0 : Int32))) else (0 : Int32))) else (0 : Int32)))])
        refine Goes.of (fun _ => XS.istore X5.here hx rfl (hb hby at_254) rfl (l' := #[.val (.int p1), .val (.int p2), .val (.int p3), .val (.int vr), .val (.int (0 : Int32)), .val (.int (0 : Int32)), .val (.int (0 : Int32)), .val (.int vc), .val (.int n1), .val (.int n2), .val (.int x0), .val (.int x1), .val (.int y0), .val (.int y1), .val (.ref sb1), .val (.ref sb2), .val (.ref b3), .val (.int (if vr = (0 : Int32) then (0 : Int32) else (0 : Int32))), .val (.int (if n1 = n2 then (if n1 < (1 : Int32) then (if n1 < (2 : Int32) then (1 : Int32) else (if x1 = y1 then (1 : Int32) else (0 : Int32))) else (if x0 = y0 then (if n1 < (2 : Int32) then (1 : Int32) else (if x1 = y1 then (1 : Int32) else (0 : Int32))) else (0 : Int32))) else (0 : Int32))), .unset]) rfl) ?_
        show Goes p e below _ T5 (mkF m 256 #[.val (.int p1), .val (.int p2), .val (.int p3), .val (.int vr), .val (.int (0 : Int32)), .val (.int (0 : Int32)), .val (.int (0 : Int32)), .val (.int vc), .val (.int n1), .val (.int n2), .val (.int x0), .val (.int x1), .val (.int y0), .val (.int y1), .val (.ref sb1), .val (.ref sb2), .val (.ref b3), .val (.int (if vr = (0 : Int32) then (0 : Int32) else (0 : Int32))), .val (.int (if n1 = n2 then (if n1 < (1 : Int32) then (if n1 < (2 : Int32) then (1 : Int32) else (if x1 = y1 then (1 : Int32) else (0 : Int32))) else (if x0 = y0 then (if n1 < (2 : Int32) then (1 : Int32) else (if x1 = y1 then (1 : Int32) else (0 : Int32))) else (0 : Int32))) else (0 : Int32))), .unset] [])
        generalize erf : (if n1 = n2 then (if n1 < (1 : Int32) then (if n1 < (2 : Int32) then (1 : Int32) else (if x1 = y1 then (1 : Int32) else (0 : Int32))) else (if x0 = y0 then (if n1 < (2 : Int32) then (1 : Int32) else (if x1 = y1 then (1 : Int32) else (0 : Int32))) else (0 : Int32))) else (0 : Int32)) = rf
        show Goes p e below _ T5 (mkF m 256 #[.val (.int p1), .val (.int p2), .val (.int p3), .val (.int vr), .val (.int (0 : Int32)), .val (.int (0 : Int32)), .val (.int (0 : Int32)), .val (.int vc), .val (.int n1), .val (.int n2), .val (.int x0), .val (.int x1), .val (.int y0), .val (.int y1), .val (.ref sb1), .val (.ref sb2), .val (.ref b3), .val (.int (if vr = (0 : Int32) then (0 : Int32) else (0 : Int32))), .val (.int rf), .unset] [])
        refine Goes.of (fun _ => XS.iloadN X5.here hx rfl (hb hby at_256) rfl) ?_
        show Goes p e below _ T5 (mkF m 257 #[.val (.int p1), .val (.int p2), .val (.int p3), .val (.int vr), .val (.int (0 : Int32)), .val (.int (0 : Int32)), .val (.int (0 : Int32)), .val (.int vc), .val (.int n1), .val (.int n2), .val (.int x0), .val (.int x1), .val (.int y0), .val (.int y1), .val (.ref sb1), .val (.ref sb2), .val (.ref b3), .val (.int (if vr = (0 : Int32) then (0 : Int32) else (0 : Int32))), .val (.int rf), .unset] [(.int vr)])
        refine Goes.of (T' := T5) (f' := (mkF m 313 #[.val (.int p1), .val (.int p2), .val (.int p3), .val (.int vr), .val (.int (0 : Int32)), .val (.int (0 : Int32)), .val (.int (0 : Int32)), .val (.int vc), .val (.int n1), .val (.int n2), .val (.int x0), .val (.int x1), .val (.int y0), .val (.int y1), .val (.ref sb1), .val (.ref sb2), .val (.ref b3), .val (.int (if vr = (0 : Int32) then (0 : Int32) else (0 : Int32))), .val (.int rf), .val (.int (0 : Int32))] [])) (fun t kt => ?_) ?_
        · show Steps p.tables e below (T5.setTop (mkF m 257 #[.val (.int p1), .val (.int p2), .val (.int p3), .val (.int vr), .val (.int (0 : Int32)), .val (.int (0 : Int32)), .val (.int (0 : Int32)), .val (.int vc), .val (.int n1), .val (.int n2), .val (.int x0), .val (.int x1), .val (.int y0), .val (.int y1), .val (.ref sb1), .val (.ref sb2), .val (.ref b3), .val (.int (if vr = (0 : Int32) then (0 : Int32) else (0 : Int32))), .val (.int rf), .unset] [(.int vr)])) _
          by_cases hq257 : vr = (0 : Int32)
          · refine XS.ifNo X5.here hx rfl (hb hby at_257) rfl ((if0 _ _).trans (teq hq257).2) ?_
            show Steps p.tables e below (T5.setTop (mkF m 260 #[.val (.int p1), .val (.int p2), .val (.int p3), .val (.int vr), .val (.int (0 : Int32)), .val (.int (0 : Int32)), .val (.int (0 : Int32)), .val (.int vc), .val (.int n1), .val (.int n2), .val (.int x0), .val (.int x1), .val (.int y0), .val (.int y1), .val (.ref sb1), .val (.ref sb2), .val (.ref b3), .val (.int (if vr = (0 : Int32) then (0 : Int32) else (0 : Int32))), .val (.int rf), .unset] [])) _
            refine XS.iconst X5.here hx rfl (hb hby at_260) ?_
            show Steps p.tables e below (T5.setTop (mkF m 261 #[.val (.int p1), .val (.int p2), .val (.int p3), .val (.int vr), .val (.int (0 : Int32)), .val (.int (0 : Int32)), .val (.int (0 : Int32)), .val (.int vc), .val (.int n1), .val (.int n2), .val (.int x0), .val (.int x1), .val (.int y0), .val (.int y1), .val (.ref sb1), .val (.ref sb2), .val (.ref b3), .val (.int (if vr = (0 : Int32) then (0 : Int32) else (0 : Int32))), .val (.int rf), .unset] [(.int (0 : Int32))])) _
            refine XS.istore X5.here hx rfl (hb hby at_261) rfl (l' := #[.val (.int p1), .val (.int p2), .val (.int p3), .val (.int vr), .val (.int (0 : Int32)), .val (.int (0 : Int32)), .val (.int (0 : Int32)), .val (.int vc), .val (.int n1), .val (.int n2), .val (.int x0), .val (.int x1), .val (.int y0), .val (.int y1), .val (.ref sb1), .val (.ref sb2), .val (.ref b3), .val (.int (if vr = (0 : Int32) then (0 : Int32) else (0 : Int32))), .val (.int rf), .val (.int (0 : Int32))]) rfl ?_
            show Steps p.tables e below (T5.setTop (mkF m 263 #[.val (.int p1), .val (.int p2), .val (.int p3), .val (.int vr), .val (.int (0 : Int32)), .val (.int (0 : Int32)), .val (.int (0 : Int32)), .val (.int vc), .val (.int n1), .val (.int n2), .val (.int x0), .val (.int x1), .val (.int y0), .val (.int y1), .val (.ref sb1), .val (.ref sb2), .val (.ref b3), .val (.int (if vr = (0 : Int32) then (0 : Int32) else (0 : Int32))), .val (.int rf), .val (.int (0 : Int32))] [])) _
            refine XS.goto X5.here hx rfl (pc0 := 263) (pc' := 313) rfl (hb hby at_263) (by decide) (by decide) ?_
            show Steps p.tables e below (T5.setTop (mkF m 313 #[.val (.int p1), .val (.int p2), .val (.int p3), .val (.int vr), .val (.int (0 : Int32)), .val (.int (0 : Int32)), .val (.int (0 : Int32)), .val (.int vc), .val (.int n1), .val (.int n2), .val (.int x0), .val (.int x1), .val (.int y0), .val (.int y1), .val (.ref sb1), .val (.ref sb2), .val (.ref b3), .val (.int (if vr = (0 : Int32) then (0 : Int32) else (0 : Int32))), .val (.int rf), .val (.int (0 : Int32))] [])) _
            first | exact kt | (simp only [if_pos hq257]; exact kt)
          · refine XS.ifYes X5.here hx rfl (pc0 := 257) (pc' := 266) rfl (hb hby at_257) rfl ((if0 _ _).trans (feq hq257).2) (by decide) (by decide) ?_
            show Steps p.tables e below (T5.setTop (mkF m 266 #[.val (.int p1), .val (.int p2), .val (.int p3), .val (.int vr), .val (.int (0 : Int32)), .val (.int (0 : Int32)), .val (.int (0 : Int32)), .val (.int vc), .val (.int n1), .val (.int n2), .val (.int x0), .val (.int x1), .val (.int y0), .val (.int y1), .val (.ref sb1), .val (.ref sb2), .val (.ref b3), .val (.int (if vr = (0 : Int32) then (0 : Int32) else (0 : Int32))), .val (.int rf), .unset] [])) _
            refine XS.iload X5.here hx rfl (hb hby at_266) rfl ?_
            show Steps p.tables e below (T5.setTop (mkF m 268 #[.val (.int p1), .val (.int p2), .val (.int p3), .val (.int vr), .val (.int (0 : Int32)), .val (.int (0 : Int32)), .val (.int (0 : Int32)), .val (.int vc), .val (.int n1), .val (.int n2), .val (.int x0), .val (.int x1), .val (.int y0), .val (.int y1), .val (.ref sb1), .val (.ref sb2), .val (.ref b3), .val (.int (if vr = (0 : Int32) then (0 : Int32) else (0 : Int32))), .val (.int rf), .unset] [(.int (0 : Int32))])) _
            refine XS.ifYes X5.here hx rfl (pc0 := 268) (pc' := 291) rfl (hb hby at_268) rfl ((if0 _ _).trans (teq (by decide)).1) (by decide) (by decide) ?_
            show Steps p.tables e below (T5.setTop (mkF m 291 #[.val (.int p1), .val (.int p2), .val (.int p3), .val (.int vr), .val (.int (0 : Int32)), .val (.int (0 : Int32)), .val (.int (0 : Int32)), .val (.int vc), .val (.int n1), .val (.int n2), .val (.int x0), .val (.int x1), .val (.int y0), .val (.int y1), .val (.ref sb1), .val (.ref sb2), .val (.ref b3), .val (.int (if vr = (0 : Int32) then (0 : Int32) else (0 : Int32))), .val (.int rf), .unset] [])) _
            refine XS.iload X5.here hx rfl (hb hby at_291) rfl ?_
            show Steps p.tables e below (T5.setTop (mkF m 293 #[.val (.int p1), .val (.int p2), .val (.int p3), .val (.int vr), .val (.int (0 : Int32)), .val (.int (0 : Int32)), .val (.int (0 : Int32)), .val (.int vc), .val (.int n1), .val (.int n2), .val (.int x0), .val (.int x1), .val (.int y0), .val (.int y1), .val (.ref sb1), .val (.ref sb2), .val (.ref b3), .val (.int (if vr = (0 : Int32) then (0 : Int32) else (0 : Int32))), .val (.int rf), .unset] [(.int (0 : Int32))])) _
            refine XS.ifYes X5.here hx rfl (pc0 := 293) (pc' := 310) rfl (hb hby at_293) rfl ((if0 _ _).trans (teq (by decide)).1) (by decide) (by decide) ?_
            show Steps p.tables e below (T5.setTop (mkF m 310 #[.val (.int p1), .val (.int p2), .val (.int p3), .val (.int vr), .val (.int (0 : Int32)), .val (.int (0 : Int32)), .val (.int (0 : Int32)), .val (.int vc), .val (.int n1), .val (.int n2), .val (.int x0), .val (.int x1), .val (.int y0), .val (.int y1), .val (.ref sb1), .val (.ref sb2), .val (.ref b3), .val (.int (if vr = (0 : Int32) then (0 : Int32) else (0 : Int32))), .val (.int rf), .unset] [])) _
            refine XS.iconst X5.here hx rfl (hb hby at_310) ?_
            show Steps p.tables e below (T5.setTop (mkF m 311 #[.val (.int p1), .val (.int p2), .val (.int p3), .val (.int vr), .val (.int (0 : Int32)), .val (.int (0 : Int32)), .val (.int (0 : Int32)), .val (.int vc), .val (.int n1), .val (.int n2), .val (.int x0), .val (.int x1), .val (.int y0), .val (.int y1), .val (.ref sb1), .val (.ref sb2), .val (.ref b3), .val (.int (if vr = (0 : Int32) then (0 : Int32) else (0 : Int32))), .val (.int rf), .unset] [(.int (0 : Int32))])) _
            refine XS.istore X5.here hx rfl (hb hby at_311) rfl (l' := #[.val (.int p1), .val (.int p2), .val (.int p3), .val (.int vr), .val (.int (0 : Int32)), .val (.int (0 : Int32)), .val (.int (0 : Int32)), .val (.int vc), .val (.int n1), .val (.int n2), .val (.int x0), .val (.int x1), .val (.int y0), .val (.int y1), .val (.ref sb1), .val (.ref sb2), .val (.ref b3), .val (.int (if vr = (0 : Int32) then (0 : Int32) else (0 : Int32))), .val (.int rf), .val (.int (0 : Int32))]) rfl ?_
            show Steps p.tables e below (T5.setTop (mkF m 313 #[.val (.int p1), .val (.int p2), .val (.int p3), .val (.int vr), .val (.int (0 : Int32)), .val (.int (0 : Int32)), .val (.int (0 : Int32)), .val (.int vc), .val (.int n1), .val (.int n2), .val (.int x0), .val (.int x1), .val (.int y0), .val (.int y1), .val (.ref sb1), .val (.ref sb2), .val (.ref b3), .val (.int (if vr = (0 : Int32) then (0 : Int32) else (0 : Int32))), .val (.int rf), .val (.int (0 : Int32))] [])) _
            first | exact kt | (simp only [if_neg hq257]; exact kt)
        show Goes p e below _ T5 (mkF m 313 #[.val (.int p1), .val (.int p2), .val (.int p3), .val (.int vr), .val (.int (0 : Int32)), .val (.int (0 : Int32)), .val (.int (0 : Int32)), .val (.int vc), .val (.int n1), .val (.int n2), .val (.int x0), .val (.int x1), .val (.int y0), .val (.int y1), .val (.ref sb1), .val (.ref sb2), .val (.ref b3), .val (.int (if vr = (0 : Int32) then (0 : Int32) else (0 : Int32))), .val (.int rf), .val (.int (0 : Int32))] [])
        refine Goes.of (fun _ => XS.iload X5.here hx rfl (hb hby at_313) rfl) ?_
        show Goes p e below _ T5 (mkF m 315 #[.val (.int p1), .val (.int p2), .val (.int p3), .val (.int vr), .val (.int (0 : Int32)), .val (.int (0 : Int32)), .val (.int (0 : Int32)), .val (.int vc), .val (.int n1), .val (.int n2), .val (.int x0), .val (.int x1), .val (.int y0), .val (.int y1), .val (.ref sb1), .val (.ref sb2), .val (.ref b3), .val (.int (if vr = (0 : Int32) then (0 : Int32) else (0 : Int32))), .val (.int rf), .val (.int (0 : Int32))] [(.int (if vr = (0 : Int32) then (0 : Int32) else (0 : Int32)))])
        refine Goes.of (fun _ => XS.iload X5.here hx rfl (hb hby at_315) rfl) ?_
        show Goes p e below _ T5 (mkF m 317 #[.val (.int p1), .val (.int p2), .val (.int p3), .val (.int vr), .val (.int (0 : Int32)), .val (.int (0 : Int32)), .val (.int (0 : Int32)), .val (.int vc), .val (.int n1), .val (.int n2), .val (.int x0), .val (.int x1), .val (.int y0), .val (.int y1), .val (.ref sb1), .val (.ref sb2), .val (.ref b3), .val (.int (if vr = (0 : Int32) then (0 : Int32) else (0 : Int32))), .val (.int rf), .val (.int (0 : Int32))] [(.int (0 : Int32)), (.int (if vr = (0 : Int32) then (0 : Int32) else (0 : Int32)))])
        refine Goes.of (fun _ => XS.icmpNo X5.here hx rfl (hb hby at_317) rfl (teq (by first | rfl | (split <;> rfl) | (rw [eq_fin n1 n2 x0 x1 y0 y1 hn1 hn2, erf]; done) | (simp only [eq_fin n1 n2 x0 x1 y0 y1 hn1 hn2, erf]; done))).2) ?_
        show Goes p e below _ T5 (mkF m 320 #[.val (.int p1), .val (.int p2), .val (.int p3), .val (.int vr), .val (.int (0 : Int32)), .val (.int (0 : Int32)), .val (.int (0 : Int32)), .val (.int vc), .val (.int n1), .val (.int n2), .val (.int x0), .val (.int x1), .val (.int y0), .val (.int y1), .val (.ref sb1), .val (.ref sb2), .val (.ref b3), .val (.int (if vr = (0 : Int32) then (0 : Int32) else (0 : Int32))), .val (.int rf), .val (.int (0 : Int32))] [])
        refine Goes.of (fun _ => XS.iconst X5.here hx rfl (hb hby at_320)) ?_
        show Goes p e below _ T5 (mkF m 321 #[.val (.int p1), .val (.int p2), .val (.int p3), .val (.int vr), .val (.int (0 : Int32)), .val (.int (0 : Int32)), .val (.int (0 : Int32)), .val (.int vc), .val (.int n1), .val (.int n2), .val (.int x0), .val (.int x1), .val (.int y0), .val (.int y1), .val (.ref sb1), .val (.ref sb2), .val (.ref b3), .val (.int (if vr = (0 : Int32) then (0 : Int32) else (0 : Int32))), .val (.int rf), .val (.int (0 : Int32))] [(.int (1 : Int32))])
        refine Goes.of (fun _ => XS.goto X5.here hx rfl (pc0 := 321) (pc' := 325) rfl (hb hby at_321) (by decide) (by decide)) ?_
        show Goes p e below _ T5 (mkF m 325 #[.val (.int p1), .val (.int p2), .val (.int p3), .val (.int vr), .val (.int (0 : Int32)), .val (.int (0 : Int32)), .val (.int (0 : Int32)), .val (.int vc), .val (.int n1), .val (.int n2), .val (.int x0), .val (.int x1), .val (.int y0), .val (.int y1), .val (.ref sb1), .val (.ref sb2), .val (.ref b3), .val (.int (if vr = (0 : Int32) then (0 : Int32) else (0 : Int32))), .val (.int rf), .val (.int (0 : Int32))] [(.int (1 : Int32))])
        exact retZW (t := .boolean) X5 hS hk hZ hEL HC hx hret hlk (by simp) (hb hby at_325) eT5 (by decide) (by decide) ⟨rfl, N5⟩
      · show Goes p e below _ T (mkF m 153 #[.val (.int p1), .val (.int p2), .val (.int p3), .val (.int vr), .val (.int (0 : Int32)), .val (.int (0 : Int32)), .val (.int (1 : Int32)), .val (.int vc), .val (.int n1), .val (.int n2), .val (.int x0), .val (.int x1), .val (.int y0), .val (.int y1), .unset, .unset, .unset, .unset, .unset, .unset] [])
        refine Goes.of (fun _ => XS.iload X.here hx rfl (hb hby at_153) rfl) ?_
        show Goes p e below _ T (mkF m 155 #[.val (.int p1), .val (.int p2), .val (.int p3), .val (.int vr), .val (.int (0 : Int32)), .val (.int (0 : Int32)), .val (.int (1 : Int32)), .val (.int vc), .val (.int n1), .val (.int n2), .val (.int x0), .val (.int x1), .val (.int y0), .val (.int y1), .unset, .unset, .unset, .unset, .unset, .unset] [(.int (0 : Int32))])
        refine Goes.of (fun _ => XS.ifYes X.here hx rfl (pc0 := 155) (pc' := 162) rfl (hb hby at_155) rfl ((if0 _ _).trans (teq (by decide)).1) (by decide) (by decide)) ?_
        show Goes p e below _ T (mkF m 162 #[.val (.int p1), .val (.int p2), .val (.int p3), .val (.int vr), .val (.int (0 : Int32)), .val (.int (0 : Int32)), .val (.int (1 : Int32)), .val (.int vc), .val (.int n1), .val (.int n2), .val (.int x0), .val (.int x1), .val (.int y0), .val (.int y1), .unset, .unset, .unset, .unset, .unset, .unset] [])
        refine Goes.of (fun _ => XS.iload X.here hx rfl (hb hby at_162) rfl) ?_
        show Goes p e below _ T (mkF m 164 #[.val (.int p1), .val (.int p2), .val (.int p3), .val (.int vr), .val (.int (0 : Int32)), .val (.int (0 : Int32)), .val (.int (1 : Int32)), .val (.int vc), .val (.int n1), .val (.int n2), .val (.int x0), .val (.int x1), .val (.int y0), .val (.int y1), .unset, .unset, .unset, .unset, .unset, .unset] [(.int n1)])
        refine Goes.of (fun _ => XS.iload X.here hx rfl (hb hby at_164) rfl) ?_
        show Goes p e below _ T (mkF m 166 #[.val (.int p1), .val (.int p2), .val (.int p3), .val (.int vr), .val (.int (0 : Int32)), .val (.int (0 : Int32)), .val (.int (1 : Int32)), .val (.int vc), .val (.int n1), .val (.int n2), .val (.int x0), .val (.int x1), .val (.int y0), .val (.int y1), .unset, .unset, .unset, .unset, .unset, .unset] [(.int x0), (.int n1)])
        refine Goes.of (fun _ => XS.iload X.here hx rfl (hb hby at_166) rfl) ?_
        show Goes p e below _ T (mkF m 168 #[.val (.int p1), .val (.int p2), .val (.int p3), .val (.int vr), .val (.int (0 : Int32)), .val (.int (0 : Int32)), .val (.int (1 : Int32)), .val (.int vc), .val (.int n1), .val (.int n2), .val (.int x0), .val (.int x1), .val (.int y0), .val (.int y1), .unset, .unset, .unset, .unset, .unset, .unset] [(.int x1), (.int x0), (.int n1)])
        refine goStaticW 0 X hS hk hEL HC hx hZ hown (hw _ (List.mem_of_getElem? (i := 0) rfl)) (hw _ (List.mem_of_getElem? (i := 1) rfl)) (hw _ (List.mem_of_getElem? (i := 2) rfl)) (hw _ (List.mem_of_getElem? (i := 3) rfl)) (by decide) (rm_str l Z a0 hw n1 x0 x1 cz h0 n0 O0 Sc hcz hx0 hx1) eT0 (g := (mkF m 168 #[.val (.int p1), .val (.int p2), .val (.int p3), .val (.int vr), .val (.int (0 : Int32)), .val (.int (0 : Int32)), .val (.int (1 : Int32)), .val (.int vc), .val (.int n1), .val (.int n2), .val (.int x0), .val (.int x1), .val (.int y0), .val (.int y1), .unset, .unset, .unset, .unset, .unset, .unset] [(.int x1), (.int x0), (.int n1)])) rfl (by rw [hml]; rfl) [(.int n1), (.int x0), (.int x1)] [] (lenOf pd__ICC_Ljava_lang_String_ rfl) rfl rfl (by show 2 * 0 + _ ≤ _; exact Nat.le_of_eq rfl) (hb hby at_168) (by decide) (by decide) (by decide) (by decide) ?_
        intro v6 T6 L6 kk6 X6 hS hk hZ hown HC q6
        obtain ⟨sb6, rfl, Nq6, Kq6, g_sb6, S6⟩ := q6
        have N6 := Fr.app N0 Nq6
        have O0 := O0.keep Kq6 all0
        show Goes p e below _ T6 (mkF m 171 #[.val (.int p1), .val (.int p2), .val (.int p3), .val (.int vr), .val (.int (0 : Int32)), .val (.int (0 : Int32)), .val (.int (1 : Int32)), .val (.int vc), .val (.int n1), .val (.int n2), .val (.int x0), .val (.int x1), .val (.int y0), .val (.int y1), .unset, .unset, .unset, .unset, .unset, .unset] [(.ref sb6)])
        refine Goes.of (fun _ => XS.astore X6.here hx rfl (hb hby at_171) rfl rfl (l' := #[.val (.int p1), .val (.int p2), .val (.int p3), .val (.int vr), .val (.int (0 : Int32)), .val (.int (0 : Int32)), .val (.int (1 : Int32)), .val (.int vc), .val (.int n1), .val (.int n2), .val (.int x0), .val (.int x1), .val (.int y0), .val (.int y1), .val (.ref sb6), .unset, .unset, .unset, .unset, .unset]) rfl) ?_
        show Goes p e below _ T6 (mkF m 173 #[.val (.int p1), .val (.int p2), .val (.int p3), .val (.int vr), .val (.int (0 : Int32)), .val (.int (0 : Int32)), .val (.int (1 : Int32)), .val (.int vc), .val (.int n1), .val (.int n2), .val (.int x0), .val (.int x1), .val (.int y0), .val (.int y1), .val (.ref sb6), .unset, .unset, .unset, .unset, .unset] [])
        refine Goes.of (fun _ => XS.iload X6.here hx rfl (hb hby at_173) rfl) ?_
        show Goes p e below _ T6 (mkF m 175 #[.val (.int p1), .val (.int p2), .val (.int p3), .val (.int vr), .val (.int (0 : Int32)), .val (.int (0 : Int32)), .val (.int (1 : Int32)), .val (.int vc), .val (.int n1), .val (.int n2), .val (.int x0), .val (.int x1), .val (.int y0), .val (.int y1), .val (.ref sb6), .unset, .unset, .unset, .unset, .unset] [(.int (1 : Int32))])
        refine Goes.of (fun _ => XS.ifNo X6.here hx rfl (hb hby at_175) rfl ((if0 _ _).trans (feq (by decide)).1)) ?_
        show Goes p e below _ T6 (mkF m 178 #[.val (.int p1), .val (.int p2), .val (.int p3), .val (.int vr), .val (.int (0 : Int32)), .val (.int (0 : Int32)), .val (.int (1 : Int32)), .val (.int vc), .val (.int n1), .val (.int n2), .val (.int x0), .val (.int x1), .val (.int y0), .val (.int y1), .val (.ref sb6), .unset, .unset, .unset, .unset, .unset] [])
        refine Goes.of (fun _ => XS.aconstNull X6.here hx rfl (hb hby at_178)) ?_
        show Goes p e below _ T6 (mkF m 179 #[.val (.int p1), .val (.int p2), .val (.int p3), .val (.int vr), .val (.int (0 : Int32)), .val (.int (0 : Int32)), .val (.int (1 : Int32)), .val (.int vc), .val (.int n1), .val (.int n2), .val (.int x0), .val (.int x1), .val (.int y0), .val (.int y1), .val (.ref sb6), .unset, .unset, .unset, .unset, .unset] [.null])
        refine Goes.of (fun _ => XS.goto X6.here hx rfl (pc0 := 179) (pc' := 191) rfl (hb hby at_179) (by decide) (by decide)) ?_
        show Goes p e below _ T6 (mkF m 191 #[.val (.int p1), .val (.int p2), .val (.int p3), .val (.int vr), .val (.int (0 : Int32)), .val (.int (0 : Int32)), .val (.int (1 : Int32)), .val (.int vc), .val (.int n1), .val (.int n2), .val (.int x0), .val (.int x1), .val (.int y0), .val (.int y1), .val (.ref sb6), .unset, .unset, .unset, .unset, .unset] [.null])
        refine Goes.of (fun _ => XS.astore X6.here hx rfl (hb hby at_191) rfl rfl (l' := #[.val (.int p1), .val (.int p2), .val (.int p3), .val (.int vr), .val (.int (0 : Int32)), .val (.int (0 : Int32)), .val (.int (1 : Int32)), .val (.int vc), .val (.int n1), .val (.int n2), .val (.int x0), .val (.int x1), .val (.int y0), .val (.int y1), .val (.ref sb6), .val .null, .unset, .unset, .unset, .unset]) rfl) ?_
        show Goes p e below _ T6 (mkF m 193 #[.val (.int p1), .val (.int p2), .val (.int p3), .val (.int vr), .val (.int (0 : Int32)), .val (.int (0 : Int32)), .val (.int (1 : Int32)), .val (.int vc), .val (.int n1), .val (.int n2), .val (.int x0), .val (.int x1), .val (.int y0), .val (.int y1), .val (.ref sb6), .val .null, .unset, .unset, .unset, .unset] [])
        refine goNew X6 hx hZ hown (hw _ (List.mem_of_getElem? (i := 26) rfl)) (hw _ (List.mem_of_getElem? (i := 27) rfl)) (hw _ (List.mem_of_getElem? (i := 28) rfl)) (rfl : T6.heap = _) (g := (mkF m 193 #[.val (.int p1), .val (.int p2), .val (.int p3), .val (.int vr), .val (.int (0 : Int32)), .val (.int (0 : Int32)), .val (.int (1 : Int32)), .val (.int vc), .val (.int n1), .val (.int n2), .val (.int x0), .val (.int x1), .val (.int y0), .val (.int y1), .val (.ref sb6), .val .null, .unset, .unset, .unset, .unset] [])) rfl (hb hby at_193) (by decide) (by decide) ?_
        intro T7 h7 b7 X7 eT7 E7 hb7 A7 D7
        have g_b7 : n0 ≤ b7 := Nat.le_trans (oldLe O0) hb7
        have ne_sb6_b7 : sb6 ≠ b7 := Nat.ne_of_lt (Nat.lt_of_lt_of_le S6.lt hb7)
        have S6 := S6.ext E7
        have hk := Nat.le_trans hk E7.1
        have HC := HC.trans (CHr.ext E7 HC.1)
        have O0 := O0.ext E7
        have F7_id : Fld Z h7 b7 "com/example/latchwork/latchwork/store/RedisRun$Origin" "id" "Ljava/lang/String;" .null := D7 (Or.inr (hw _ (List.mem_of_getElem? (i := 39) rfl))) (ty := (.object "java/lang/String")) (by decide)
        have F7_wroteEveryChange : Fld Z h7 b7 "com/example/latchwork/latchwork/store/RedisRun$Origin" "wroteEveryChange" "Z" (.int (0 : Int32)) := D7 (Or.inr (hw _ (List.mem_of_getElem? (i := 41) rfl))) (ty := .boolean) (by decide)
        show Goes p e below _ T7 (mkF m 196 #[.val (.int p1), .val (.int p2), .val (.int p3), .val (.int vr), .val (.int (0 : Int32)), .val (.int (0 : Int32)), .val (.int (1 : Int32)), .val (.int vc), .val (.int n1), .val (.int n2), .val (.int x0), .val (.int x1), .val (.int y0), .val (.int y1), .val (.ref sb6), .val .null, .unset, .unset, .unset, .unset] [(.ref b7)])
        refine Goes.of (fun _ => XS.dup X7.here hx rfl (hb hby at_196) rfl rfl) ?_
        show Goes p e below _ T7 (mkF m 197 #[.val (.int p1), .val (.int p2), .val (.int p3), .val (.int vr), .val (.int (0 : Int32)), .val (.int (0 : Int32)), .val (.int (1 : Int32)), .val (.int vc), .val (.int n1), .val (.int n2), .val (.int x0), .val (.int x1), .val (.int y0), .val (.int y1), .val (.ref sb6), .val .null, .unset, .unset, .unset, .unset] [(.ref b7), (.ref b7)])
        refine Goes.of (fun _ => XS.aload X7.here hx rfl (hb hby at_197) rfl rfl) ?_
        show Goes p e below _ T7 (mkF m 199 #[.val (.int p1), .val (.int p2), .val (.int p3), .val (.int vr), .val (.int (0 : Int32)), .val (.int (0 : Int32)), .val (.int (1 : Int32)), .val (.int vc), .val (.int n1), .val (.int n2), .val (.int x0), .val (.int x1), .val (.int y0), .val (.int y1), .val (.ref sb6), .val .null, .unset, .unset, .unset, .unset] [.null, (.ref b7), (.ref b7)])
        refine Goes.of (fun _ => XS.iload X7.here hx rfl (hb hby at_199) rfl) ?_
        show Goes p e below _ T7 (mkF m 201 #[.val (.int p1), .val (.int p2), .val (.int p3), .val (.int vr), .val (.int (0 : Int32)), .val (.int (0 : Int32)), .val (.int (1 : Int32)), .val (.int vc), .val (.int n1), .val (.int n2), .val (.int x0), .val (.int x1), .val (.int y0), .val (.int y1), .val (.ref sb6), .val .null, .unset, .unset, .unset, .unset] [(.int (0 : Int32)), .null, (.ref b7), (.ref b7)])
        have Sf_b7 : Safe Z EL _ h7 b7 := Safe.exa hZ.alike A7 (by decide) (by decide)
        refine goSpecial 1 X7 hx hZ rfl hown (hw _ (List.mem_of_getElem? (i := 29) rfl)) (hw _ (List.mem_of_getElem? (i := 30) rfl)) (hw _ (List.mem_of_getElem? (i := 28) rfl)) (hw _ (List.mem_of_getElem? (i := 31) rfl)) (by decide) (rm_init10 l Z a0 hw b7  h7 n0 O0 g_b7 A7 F7_id F7_wroteEveryChange) eT7 (g := (mkF m 201 #[.val (.int p1), .val (.int p2), .val (.int p3), .val (.int vr), .val (.int (0 : Int32)), .val (.int (0 : Int32)), .val (.int (1 : Int32)), .val (.int vc), .val (.int n1), .val (.int n2), .val (.int x0), .val (.int x1), .val (.int y0), .val (.int y1), .val (.ref sb6), .val .null, .unset, .unset, .unset, .unset] [(.int (0 : Int32)), .null, (.ref b7), (.ref b7)])) rfl (by rw [hml]; rfl) b7 [.null, (.int (0 : Int32))] [(.ref b7)] (lenOf pd__Ljava_lang_String_Z_V rfl) rfl rfl (by show 2 * 0 + _ ≤ _; exact Nat.le_of_eq rfl) (hb hby at_201) (by decide) (by decide) (by decide) (by decide) ?_
        intro v8 T8 L8 X8 q8
        obtain ⟨rfl, Nq8, Kq8, H0_8, H1_8⟩ := q8
        have N8 := Fr.app N6 Nq8
        have S6 := S6.keep1 Kq8 ne_sb6_b7 A7 (hw _ (List.mem_of_getElem? (i := 27) rfl))
        have A7 := A7.keep Kq8
        have HC := HC.trans (CHr.keep Kq8 (sfS Sf_b7 sf0) HC.1)
        have hk := Nat.le_trans hk Kq8.1
        have O0 := O0.keep Kq8 (allS g_b7 all0)
        show Goes p e below _ T8 (mkF m 204 #[.val (.int p1), .val (.int p2), .val (.int p3), .val (.int vr), .val (.int (0 : Int32)), .val (.int (0 : Int32)), .val (.int (1 : Int32)), .val (.int vc), .val (.int n1), .val (.int n2), .val (.int x0), .val (.int x1), .val (.int y0), .val (.int y1), .val (.ref sb6), .val .null, .unset, .unset, .unset, .unset] [(.ref b7)])
        refine Goes.of (fun _ => XS.astore X8.here hx rfl (hb hby at_204) rfl rfl (l' := #[.val (.int p1), .val (.int p2), .val (.int p3), .val (.int vr), .val (.int (0 : Int32)), .val (.int (0 : Int32)), .val (.int (1 : Int32)), .val (.int vc), .val (.int n1), .val (.int n2), .val (.int x0), .val (.int x1), .val (.int y0), .val (.int y1), .val (.ref sb6), .val .null, .val (.ref b7), .unset, .unset, .unset]) rfl) ?_
        show Goes p e below _ T8 (mkF m 206 #[.val (.int p1), .val (.int p2), .val (.int p3), .val (.int vr), .val (.int (0 : Int32)), .val (.int (0 : Int32)), .val (.int (1 : Int32)), .val (.int vc), .val (.int n1), .val (.int n2), .val (.int x0), .val (.int x1), .val (.int y0), .val (.int y1), .val (.ref sb6), .val .null, .val (.ref b7), .unset, .unset, .unset] [])
        refine Goes.of (fun _ => XS.aload X8.here hx rfl (hb hby at_206) rfl rfl) ?_
        show Goes p e below _ T8 (mkF m 208 #[.val (.int p1), .val (.int p2), .val (.int p3), .val (.int vr), .val (.int (0 : Int32)), .val (.int (0 : Int32)), .val (.int (1 : Int32)), .val (.int vc), .val (.int n1), .val (.int n2), .val (.int x0), .val (.int x1), .val (.int y0), .val (.int y1), .val (.ref sb6), .val .null, .val (.ref b7), .unset, .unset, .unset] [(.ref sb6)])
        refine Goes.of (fun _ => XS.aload X8.here hx rfl (hb hby at_208) rfl rfl) ?_
        show Goes p e below _ T8 (mkF m 210 #[.val (.int p1), .val (.int p2), .val (.int p3), .val (.int vr), .val (.int (0 : Int32)), .val (.int (0 : Int32)), .val (.int (1 : Int32)), .val (.int vc), .val (.int n1), .val (.int n2), .val (.int x0), .val (.int x1), .val (.int y0), .val (.int y1), .val (.ref sb6), .val .null, .val (.ref b7), .unset, .unset, .unset] [(.ref b7), (.ref sb6)])
        refine Goes.of (fun _ => XS.iloadN X8.here hx rfl (hb hby at_210) rfl) ?_
        show Goes p e below _ T8 (mkF m 211 #[.val (.int p1), .val (.int p2), .val (.int p3), .val (.int vr), .val (.int (0 : Int32)), .val (.int (0 : Int32)), .val (.int (1 : Int32)), .val (.int vc), .val (.int n1), .val (.int n2), .val (.int x0), .val (.int x1), .val (.int y0), .val (.int y1), .val (.ref sb6), .val .null, .val (.ref b7), .unset, .unset, .unset] [(.int vr), (.ref b7), (.ref sb6)])
        refine goStatic 0 X8 hx hZ hown (hw _ (List.mem_of_getElem? (i := 42) rfl)) (hw _ (List.mem_of_getElem? (i := 43) rfl)) (hw _ (List.mem_of_getElem? (i := 44) rfl)) (hw _ (List.mem_of_getElem? (i := 45) rfl)) (by decide) (rm_kept010 l Z a0 hw b7 sb6  vr (strL n1 x0 x1) [] cz T8.heap n0 O0 Sc hcz A7 H0_8 H1_8 S6 ) (rfl : T8.heap = _) (g := (mkF m 211 #[.val (.int p1), .val (.int p2), .val (.int p3), .val (.int vr), .val (.int (0 : Int32)), .val (.int (0 : Int32)), .val (.int (1 : Int32)), .val (.int vc), .val (.int n1), .val (.int n2), .val (.int x0), .val (.int x1), .val (.int y0), .val (.int y1), .val (.ref sb6), .val .null, .val (.ref b7), .unset, .unset, .unset] [(.int vr), (.ref b7), (.ref sb6)])) rfl (by rw [hml]; rfl) [(.ref sb6), (.ref b7), (.int vr)] [] (lenOf pd__Ljava_lang_String_Lcom_example_latchwork_latchwork_store_RedisRun_Origin_Z_Z rfl) rfl rfl (by show 2 * 0 + _ ≤ _; exact Nat.le_of_eq rfl) (hb hby at_211) (by decide) (by decide) (by decide) (by decide) ?_
        intro v9 T9 L9 X9 q9
        obtain ⟨rfl, Nq9, eT9⟩ := q9
        have N9 := Fr.app N8 Nq9
        show Goes p e below _ T9 (mkF m 214 #[.val (.int p1), .val (.int p2), .val (.int p3), .val (.int vr), .val (.int (0 : Int32)), .val (.int (0 : Int32)), .val (.int (1 : Int32)), .val (.int vc), .val (.int n1), .val (.int n2), .val (.int x0), .val (.int x1), .val (.int y0), .val (.int y1), .val (.ref sb6), .val .null, .val (.ref b7), .unset, .unset, .unset] [(.int (if vr = (0 : Int32) then (0 : Int32) else (0 : Int32)))])
        refine Goes.of (fun _ => XS.istore X9.here hx rfl (hb hby at_214) rfl (l' := #[.val (.int p1), .val (.int p2), .val (.int p3), .val (.int vr), .val (.int (0 : Int32)), .val (.int (0 : Int32)), .val (.int (1 : Int32)), .val (.int vc), .val (.int n1), .val (.int n2), .val (.int x0), .val (.int x1), .val (.int y0), .val (.int y1), .val (.ref sb6), .val .null, .val (.ref b7), .val (.int (if vr = (0 : Int32) then (0 : Int32) else (0 : Int32))), .unset, .unset]) rfl) ?_
        show Goes p e below _ T9 (mkF m 216 #[.val (.int p1), .val (.int p2), .val (.int p3), .val (.int vr), .val (.int (0 : Int32)), .val (.int (0 : Int32)), .val (.int (1 : Int32)), .val (.int vc), .val (.int n1), .val (.int n2), .val (.int x0), .val (.int x1), .val (.int y0), .val (.int y1), .val (.ref sb6), .val .null, .val (.ref b7), .val (.int (if vr = (0 : Int32) then (0 : Int32) else (0 : Int32))), .unset, .unset] [])
        refine Goes.of (fun _ => XS.iload X9.here hx rfl (hb hby at_216) rfl) ?_
        show Goes p e below _ T9 (mkF m 218 #[.val (.int p1), .val (.int p2), .val (.int p3), .val (.int vr), .val (.int (0 : Int32)), .val (.int (0 : Int32)), .val (.int (1 : Int32)), .val (.int vc), .val (.int n1), .val (.int n2), .val (.int x0), .val (.int x1), .val (.int y0), .val (.int y1), .val (.ref sb6), .val .null, .val (.ref b7), .val (.int (if vr = (0 : Int32) then (0 : Int32) else (0 : Int32))), .unset, .unset] [(.int n1)])
        refine Goes.of (fun _ => XS.iload X9.here hx rfl (hb hby at_218) rfl) ?_
        show Goes p e below _ T9 (mkF m 220 #[.val (.int p1), .val (.int p2), .val (.int p3), .val (.int vr), .val (.int (0 : Int32)), .val (.int (0 : Int32)), .val (.int (1 : Int32)), .val (.int vc), .val (.int n1), .val (.int n2), .val (.int x0), .val (.int x1), .val (.int y0), .val (.int y1), .val (.ref sb6), .val .null, .val (.ref b7), .val (.int (if vr = (0 : Int32) then (0 : Int32) else (0 : Int32))), .unset, .unset] [(.int n2), (.int n1)])
        refine Goes.of (T' := T9) (f' := (mkF m 254 #[.val (.int p1), .val (.int p2), .val (.int p3), .val (.int vr), .val (.int (0 : Int32)), .val (.int (0 : Int32)), .val (.int (1 : Int32)), .val (.int vc), .val (.int n1), .val (.int n2), .val (.int x0), .val (.int x1), .val (.int y0), .val (.int y1), .val (.ref sb6), .val .null, .val (.ref b7), .val (.int (if vr = (0 : Int32) then (0 : Int32) else (0 : Int32))), .unset, .unset] [(.int (if n1 = n2 then (if n1 < (1 : Int32) then (if n1 < (2 : Int32) then (1 : Int32) else (if x1 = y1 then (1 : Int32) else (0 : Int32))) else (if x0 = y0 then (if n1 < (2 : Int32) then (1 : Int32) else (if x1 = y1 then (1 : Int32) else (0 : Int32))) else (0 : Int32))) else (0 : Int32)))])) (fun t kt => ?_) ?_
        · show Steps p.tables e below (T9.setTop (mkF m 220 #[.val (.int p1), .val (.int p2), .val (.int p3), .val (.int vr), .val (.int (0 : Int32)), .val (.int (0 : Int32)), .val (.int (1 : Int32)), .val (.int vc), .val (.int n1), .val (.int n2), .val (.int x0), .val (.int x1), .val (.int y0), .val (.int y1), .val (.ref sb6), .val .null, .val (.ref b7), .val (.int (if vr = (0 : Int32) then (0 : Int32) else (0 : Int32))), .unset, .unset] [(.int n2), (.int n1)])) _
          by_cases hq220 : n1 = n2
          · simp only [if_pos hq220] at kt
            refine XS.icmpNo X9.here hx rfl (hb hby at_220) rfl (teq hq220).2 ?_
            show Steps p.tables e below (T9.setTop (mkF m 223 #[.val (.int p1), .val (.int p2), .val (.int p3), .val (.int vr), .val (.int (0 : Int32)), .val (.int (0 : Int32)), .val (.int (1 : Int32)), .val (.int vc), .val (.int n1), .val (.int n2), .val (.int x0), .val (.int x1), .val (.int y0), .val (.int y1), .val (.ref sb6), .val .null, .val (.ref b7), .val (.int (if vr = (0 : Int32) then (0 : Int32) else (0 : Int32))), .unset, .unset] [])) _
            refine XS.iload X9.here hx rfl (hb hby at_223) rfl ?_
            show Steps p.tables e below (T9.setTop (mkF m 225 #[.val (.int p1), .val (.int p2), .val (.int p3), .val (.int vr), .val (.int (0 : Int32)), .val (.int (0 : Int32)), .val (.int (1 : Int32)), .val (.int vc), .val (.int n1), .val (.int n2), .val (.int x0), .val (.int x1), .val (.int y0), .val (.int y1), .val (.ref sb6), .val .null, .val (.ref b7), .val (.int (if vr = (0 : Int32) then (0 : Int32) else (0 : Int32))), .unset, .unset] [(.int n1)])) _
            refine XS.iconst X9.here hx rfl (hb hby at_225) ?_
            show Steps p.tables e below (T9.setTop (mkF m 226 #[.val (.int p1), .val (.int p2), .val (.int p3), .val (.int vr), .val (.int (0 : Int32)), .val (.int (0 : Int32)), .val (.int (1 : Int32)), .val (.int vc), .val (.int n1), .val (.int n2), .val (.int x0), .val (.int x1), .val (.int y0), .val (.int y1), .val (.ref sb6), .val .null, .val (.ref b7), .val (.int (if vr = (0 : Int32) then (0 : Int32) else (0 : Int32))), .unset, .unset] [(.int (1 : Int32)), (.int n1)])) _
            by_cases hq226 : n1 < (1 : Int32)
            · simp only [if_pos hq226] at kt
              refine XS.icmpYes X9.here hx rfl (pc0 := 226) (pc' := 236) rfl (hb hby at_226) rfl (tlt hq226).1 (by decide) (by decide) ?_
              show Steps p.tables e below (T9.setTop (mkF m 236 #[.val (.int p1), .val (.int p2), .val (.int p3), .val (.int vr), .val (.int (0 : Int32)), .val (.int (0 : Int32)), .val (.int (1 : Int32)), .val (.int vc), .val (.int n1), .val (.int n2), .val (.int x0), .val (.int x1), .val (.int y0), .val (.int y1), .val (.ref sb6), .val .null, .val (.ref b7), .val (.int (if vr = (0 : Int32) then (0 : Int32) else (0 : Int32))), .unset, .unset] [])) _
              refine XS.iload X9.here hx rfl (hb hby at_236) rfl ?_
              show Steps p.tables e below (T9.setTop (mkF m 238 #[.val (.int p1), .val (.int p2), .val (.int p3), .val (.int vr), .val (.int (0 : Int32)), .val (.int (0 : Int32)), .val (.int (1 : Int32)), .val (.int vc), .val (.int n1), .val (.int n2), .val (.int x0), .val (.int x1), .val (.int y0), .val (.int y1), .val (.ref sb6), .val .null, .val (.ref b7), .val (.int (if vr = (0 : Int32) then (0 : Int32) else (0 : Int32))), .unset, .unset] [(.int n1)])) _
              refine XS.iconst X9.here hx rfl (hb hby at_238) ?_
              show Steps p.tables e below (T9.setTop (mkF m 239 #[.val (.int p1), .val (.int p2), .val (.int p3), .val (.int vr), .val (.int (0 : Int32)), .val (.int (0 : Int32)), .val (.int (1 : Int32)), .val (.int vc), .val (.int n1), .val (.int n2), .val (.int x0), .val (.int x1), .val (.int y0), .val (.int y1), .val (.ref sb6), .val .null, .val (.ref b7), .val (.int (if vr = (0 : Int32) then (0 : Int32) else (0 : Int32))), .unset, .unset] [(.int (2 : Int32)), (.int n1)])) _
              by_cases hq239 : n1 < (2 : Int32)
              · simp only [if_pos hq239] at kt
                refine XS.icmpYes X9.here hx rfl (pc0 := 239) (pc' := 249) rfl (hb hby at_239) rfl (tlt hq239).1 (by decide) (by decide) ?_
                show Steps p.tables e below (T9.setTop (mkF m 249 #[.val (.int p1), .val (.int p2), .val (.int p3), .val (.int vr), .val (.int (0 : Int32)), .val (.int (0 : Int32)), .val (.int (1 : Int32)), .val (.int vc), .val (.int n1), .val (.int n2), .val (.int x0), .val (.int x1), .val (.int y0), .val (.int y1), .val (.ref sb6), .val .null, .val (.ref b7), .val (.int (if vr = (0 : Int32) then (0 : Int32) else (0 : Int32))), .unset, .unset] [])) _
                refine XS.iconst X9.here hx rfl (hb hby at_249) ?_
                show Steps p.tables e below (T9.setTop (mkF m 250 #[.val (.int p1), .val (.int p2), .val (.int p3), .val (.int vr), .val (.int (0 : Int32)), .val (.int (0 : Int32)), .val (.int (1 : Int32)), .val (.int vc), .val (.int n1), .val (.int n2), .val (.int x0), .val (.int x1), .val (.int y0), .val (.int y1), .val (.ref sb6), .val .null, .val (.ref b7), .val (.int (if vr = (0 : Int32) then (0 : Int32) else (0 : Int32))), .unset, .unset] [(.int (1 : Int32))])) _
                refine XS.goto X9.here hx rfl (pc0 := 250) (pc' := 254) rfl (hb hby at_250) (by decide) (by decide) ?_
                show Steps p.tables e below (T9.setTop (mkF m 254 #[.val (.int p1), .val (.int p2), .val (.int p3), .val (.int vr), .val (.int (0 : Int32)), .val (.int (0 : Int32)), .val (.int (1 : Int32)), .val (.int vc), .val (.int n1), .val (.int n2), .val (.int x0), .val (.int x1), .val (.int y0), .val (.int y1), .val (.ref sb6), .val .null, .val (.ref b7), .val (.int (if vr = (0 : Int32) then (0 : Int32) else (0 : Int32))), .unset, .unset] [(.int (1 : Int32))])) _
                first | exact kt | (simp only [if_pos hq220, if_pos hq226, if_pos hq239]; exact kt)
              · simp only [if_neg hq239] at kt
                refine XS.icmpNo X9.here hx rfl (hb hby at_239) rfl (flt hq239).1 ?_
                show Steps p.tables e below (T9.setTop (mkF m 242 #[.val (.int p1), .val (.int p2), .val (.int p3), .val (.int vr), .val (.int (0 : Int32)), .val (.int (0 : Int32)), .val (.int (1 : Int32)), .val (.int vc), .val (.int n1), .val (.int n2), .val (.int x0), .val (.int x1), .val (.int y0), .val (.int y1), .val (.ref sb6), .val .null, .val (.ref b7), .val (.int (if vr = (0 : Int32) then (0 : Int32) else (0 : Int32))), .unset, .unset] [])) _
                refine XS.iload X9.here hx rfl (hb hby at_242) rfl ?_
                show Steps p.tables e below (T9.setTop (mkF m 244 #[.val (.int p1), .val (.int p2), .val (.int p3), .val (.int vr), .val (.int (0 : Int32)), .val (.int (0 : Int32)), .val (.int (1 : Int32)), .val (.int vc), .val (.int n1), .val (.int n2), .val (.int x0), .val (.int x1), .val (.int y0), .val (.int y1), .val (.ref sb6), .val .null, .val (.ref b7), .val (.int (if vr = (0 : Int32) then (0 : Int32) else (0 : Int32))), .unset, .unset] [(.int x1)])) _
                refine XS.iload X9.here hx rfl (hb hby at_244) rfl ?_
                show Steps p.tables e below (T9.setTop (mkF m 246 #[.val (.int p1), .val (.int p2), .val (.int p3), .val (.int vr), .val (.int (0 : Int32)), .val (.int (0 : Int32)), .val (.int (1 : Int32)), .val (.int vc), .val (.int n1), .val (.int n2), .val (.int x0), .val (.int x1), .val (.int y0), .val (.int y1), .val (.ref sb6), .val .null, .val (.ref b7), .val (.int (if vr = (0 : Int32) then (0 : Int32) else (0 : Int32))), .unset, .unset] [(.int y1), (.int x1)])) _
                by_cases hq246 : x1 = y1
                · simp only [if_pos hq246] at kt
                  refine XS.icmpNo X9.here hx rfl (hb hby at_246) rfl (teq hq246).2 ?_
                  show Steps p.tables e below (T9.setTop (mkF m 249 #[.val (.int p1), .val (.int p2), .val (.int p3), .val (.int vr), .val (.int (0 : Int32)), .val (.int (0 : Int32)), .val (.int (1 : Int32)), .val (.int vc), .val (.int n1), .val (.int n2), .val (.int x0), .val (.int x1), .val (.int y0), .val (.int y1), .val (.ref sb6), .val .null, .val (.ref b7), .val (.int (if vr = (0 : Int32) then (0 : Int32) else (0 : Int32))), .unset, .unset] [])) _
                  refine XS.iconst X9.here hx rfl (hb hby at_249) ?_
                  show Steps p.tables e below (T9.setTop (mkF m 250 #[.val (.int p1), .val (.int p2), .val (.int p3), .val (.int vr), .val (.int (0 : Int32)), .val (.int (0 : Int32)), .val (.int (1 : Int32)), .val (.int vc), .val (.int n1), .val (.int n2), .val (.int x0), .val (.int x1), .val (.int y0), .val (.int y1), .val (.ref sb6), .val .null, .val (.ref b7), .val (.int (if vr = (0 : Int32) then (0 : Int32) else (0 : Int32))), .unset, .unset] [(.int (1 : Int32))])) _
                  refine XS.goto X9.here hx rfl (pc0 := 250) (pc' := 254) rfl (hb hby at_250) (by decide) (by decide) ?_
                  show Steps p.tables e below (T9.setTop (mkF m 254 #[.val (.int p1), .val (.int p2), .val (.int p3), .val (.int vr), .val (.int (0 : Int32)), .val (.int (0 : Int32)), .val (.int (1 : Int32)), .val (.int vc), .val (.int n1), .val (.int n2), .val (.int x0), .val (.int x1), .val (.int y0), .val (.int y1), .val (.ref sb6), .val .null, .val (.ref b7), .val (.int (if vr = (0 : Int32) then (0 : Int32) else (0 : Int32))), .unset, .unset] [(.int (1 : Int32))])) _
                  first | exact kt | (simp only [if_pos hq220, if_pos hq226, if_neg hq239, if_pos hq246]; exact kt)
                · simp only [if_neg hq246] at kt
                  refine XS.icmpYes X9.here hx rfl (pc0 := 246) (pc' := 253) rfl (hb hby at_246) rfl (feq hq246).2 (by decide) (by decide) ?_
                  show Steps p.tables e below (T9.setTop (mkF m 253 #[.val (.int p1), .val (.int p2), .val (.int p3), .val (.int vr), .val (.int (0 : Int32)), .val (.int (0 : Int32)), .val (.int (1 : Int32)), .val (.int vc), .val (.int n1), .val (.int n2), .val (.int x0), .val (.int x1), .val (.int y0), .val (.int y1), .val (.ref sb6), .val .null, .val (.ref b7), .val (.int (if vr = (0 : Int32) then (0 : Int32) else (0 : Int32))), .unset, .unset] [])) _
                  refine XS.iconst X9.here hx rfl (hb hby at_253) ?_
                  show Steps p.tables e below (T9.setTop (mkF m 254 #[.val (.int p1), .val (.int p2), .val (.int p3), .val (.int vr), .val (.int (0 : Int32)), .val (.int (0 : Int32)), .val (.int (1 : Int32)), .val (.int vc), .val (.int n1), .val (.int n2), .val (.int x0), .val (.int x1), .val (.int y0), .val (.int y1), .val (.ref sb6), .val .null, .val (.ref b7), .val (.int (if vr = (0 : Int32) then (0 : Int32) else (0 : Int32))), .unset, .unset] [(.int (0 : Int32))])) _
                  first | exact kt | (simp only [if_pos hq220, if_pos hq226, if_neg hq239, if_neg hq246]; exact kt)
            · simp only [if_neg hq226] at kt
              refine XS.icmpNo X9.here hx rfl (hb hby at_226) rfl (flt hq226).1 ?_
              show Steps p.tables e below (T9.setTop (mkF m 229 #[.val (.int p1), .val (.int p2), .val (.int p3), .val (.int vr), .val (.int (0 : Int32)), .val (.int (0 : Int32)), .val (.int (1 : Int32)), .val (.int vc), .val (.int n1), .val (.int n2), .val (.int x0), .val (.int x1), .val (.int y0), .val (.int y1), .val (.ref sb6), .val .null, .val (.ref b7), .val (.int (if vr = (0 : Int32) then (0 : Int32) else (0 : Int32))), .unset, .unset] [])) _
              refine XS.iload X9.here hx rfl (hb hby at_229) rfl ?_
              show Steps p.tables e below (T9.setTop (mkF m 231 #[.val (.int p1), .val (.int p2), .val (.int p3), .val (.int vr), .val (.int (0 : Int32)), .val (.int (0 : Int32)), .val (.int (1 : Int32)), .val (.int vc), .val (.int n1), .val (.int n2), .val (.int x0), .val (.int x1), .val (.int y0), .val (.int y1), .val (.ref sb6), .val .null, .val (.ref b7), .val (.int (if vr = (0 : Int32) then (0 : Int32) else (0 : Int32))), .unset, .unset] [(.int x0)])) _
              refine XS.iload X9.here hx rfl (hb hby at_231) rfl ?_
              show Steps p.tables e below (T9.setTop (mkF m 233 #[.val (.int p1), .val (.int p2), .val (.int p3), .val (.int vr), .val (.int (0 : Int32)), .val (.int (0 : Int32)), .val (.int (1 : Int32)), .val (.int vc), .val (.int n1), .val (.int n2), .val (.int x0), .val (.int x1), .val (.int y0), .val (.int y1), .val (.ref sb6), .val .null, .val (.ref b7), .val (.int (if vr = (0 : Int32) then (0 : Int32) else (0 : Int32))), .unset, .unset] [(.int y0), (.int x0)])) _
              by_cases hq233 : x0 = y0
              · simp only [if_pos hq233] at kt
                refine XS.icmpNo X9.here hx rfl (hb hby at_233) rfl (teq hq233).2 ?_
                show Steps p.tables e below (T9.setTop (mkF m 236 #[.val (.int p1), .val (.int p2), .val (.int p3), .val (.int vr), .val (.int (0 : Int32)), .val (.int (0 : Int32)), .val (.int (1 : Int32)), .val (.int vc), .val (.int n1), .val (.int n2), .val (.int x0), .val (.int x1), .val (.int y0), .val (.int y1), .val (.ref sb6), .val .null, .val (.ref b7), .val (.int (if vr = (0 : Int32) then (0 : Int32) else (0 : Int32))), .unset, .unset] [])) _
                refine XS.iload X9.here hx rfl (hb hby at_236) rfl ?_
                show Steps p.tables e below (T9.setTop (mkF m 238 #[.val (.int p1), .val (.int p2), .val (.int p3), .val (.int vr), .val (.int (0 : Int32)), .val (.int (0 : Int32)), .val (.int (1 : Int32)), .val (.int vc), .val (.int n1), .val (.int n2), .val (.int x0), .val (.int x1), .val (.int y0), .val (.int y1), .val (.ref sb6), .val .null, .val (.ref b7), .val (.int (if vr = (0 : Int32) then (0 : Int32) else (0 : Int32))), .unset, .unset] [(.int n1)])) _
                refine XS.iconst X9.here hx rfl (hb hby at_238) ?_
                show Steps p.tables e below (T9.setTop (mkF m 239 #[.val (.int p1), .val (.int p2), .val (.int p3), .val (.int vr), .val (.int (0 : Int32)), .val (.int (0 : Int32)), .val (.int (1 : Int32)), .val (.int vc), .val (.int n1), .val (.int n2), .val (.int x0), .val (.int x1), .val (.int y0), .val (.int y1), .val (.ref sb6), .val .null, .val (.ref b7), .val (.int (if vr = (0 : Int32) then (0 : Int32) else (0 : Int32))), .unset, .unset] [(.int (2 : Int32)), (.int n1)])) _
                by_cases hq239 : n1 < (2 : Int32)
                · simp only [if_pos hq239] at kt
                  refine XS.icmpYes X9.here hx rfl (pc0 := 239) (pc' := 249) rfl (hb hby at_239) rfl (tlt hq239).1 (by decide) (by decide) ?_
                  show Steps p.tables e below (T9.setTop (mkF m 249 #[.val (.int p1), .val (.int p2), .val (.int p3), .val (.int vr), .val (.int (0 : Int32)), .val (.int (0 : Int32)), .val (.int (1 : Int32)), .val (.int vc), .val (.int n1), .val (.int n2), .val (.int x0), .val (.int x1), .val (.int y0), .val (.int y1), .val (.ref sb6), .val .null, .val (.ref b7), .val (.int (if vr = (0 : Int32) then (0 : Int32) else (0 : Int32))), .unset, .unset] [])) _
                  refine XS.iconst X9.here hx rfl (hb hby at_249) ?_
                  show Steps p.tables e below (T9.setTop (mkF m 250 #[.val (.int p1), .val (.int p2), .val (.int p3), .val (.int vr), .val (.int (0 : Int32)), .val (.int (0 : Int32)), .val (.int (1 : Int32)), .val (.int vc), .val (.int n1), .val (.int n2), .val (.int x0), .val (.int x1), .val (.int y0), .val (.int y1), .val (.ref sb6), .val .null, .val (.ref b7), .val (.int (if vr = (0 : Int32) then (0 : Int32) else (0 : Int32))), .unset, .unset] [(.int (1 : Int32))])) _
                  refine XS.goto X9.here hx rfl (pc0 := 250) (pc' := 254) rfl (hb hby at_250) (by decide) (by decide) ?_
                  show Steps p.tables e below (T9.setTop (mkF m 254 #[.val (.int p1), .val (.int p2), .val (.int p3), .val (.int vr), .val (.int (0 : Int32)), .val (.int (0 : Int32)), .val (.int (1 : Int32)), .val (.int vc), .val (.int n1), .val (.int n2), .val (.int x0), .val (.int x1), .val (.int y0), .val (.int y1), .val (.ref sb6), .val .null, .val (.ref b7), .val (.int (if vr = (0 : Int32) then (0 : Int32) else (0 : Int32))), .unset, .unset] [(.int (1 : Int32))])) _
                  first | exact kt | (simp only [if_pos hq220, if_neg hq226, if_pos hq233, if_pos hq239]; exact kt)
                · simp only [if_neg hq239] at kt
                  refine XS.icmpNo X9.here hx rfl (hb hby at_239) rfl (flt hq239).1 ?_
                  show Steps p.tables e below (T9.setTop (mkF m 242 #[.val (.int p1), .val (.int p2), .val (.int p3), .val (.int vr), .val (.int (0 : Int32)), .val (.int (0 : Int32)), .val (.int (1 : Int32)), .val (.int vc), .val (.int n1), .val (.int n2), .val (.int x0), .val (.int x1), .val (.int y0), .val (.int y1), .val (.ref sb6), .val .null, .val (.ref b7), .val (.int (if vr = (0 : Int32) then (0 : Int32) else (0 : Int32))), .unset, .unset] [])) _
                  refine XS.iload X9.here hx rfl (hb hby at_242) rfl ?_
                  show Steps p.tables e below (T9.setTop (mkF m 244 #[.val (.int p1), .val (.int p2), .val (.int p3), .val (.int vr), .val (.int (0 : Int32)), .val (.int (0 : Int32)), .val (.int (1 : Int32)), .val (.int vc), .val (.int n1), .val (.int n2), .val (.int x0), .val (.int x1), .val (.int y0), .val (.int y1), .val (.ref sb6), .val .null, .val (.ref b7), .val (.int (if vr = (0 : Int32) then (0 : Int32) else (0 : Int32))), .unset, .unset] [(.int x1)])) _
                  refine XS.iload X9.here hx rfl (hb hby at_244) rfl ?_
                  show Steps p.tables e below (T9.setTop (mkF m 246 #[.val (.int p1), .val (.int p2), .val (.int p3), .val (.int vr), .val (.int (0 : Int32)), .val (.int (0 : Int32)), .val (.int (1 : Int32)), .val (.int vc), .val (.int n1), .val (.int n2), .val (.int x0), .val (.int x1), .val (.int y0), .val (.int y1), .val (.ref sb6), .val .null, .val (.ref b7), .val (.int (if vr = (0 : Int32) then (0 : Int32) else (0 : Int32))), .unset, .unset] [(.int y1), (.int x1)])) _
                  by_cases hq246 : x1 = y1
                  · simp only [if_pos hq246] at kt
                    refine XS.icmpNo X9.here hx rfl (hb hby at_246) rfl (teq hq246).2 ?_
                    show Steps p.tables e below (T9.setTop (mkF m 249 #[.val (.int p1), .val (.int p2), .val (.int p3), .val (.int vr), .val (.int (0 : Int32)), .val (.int (0 : Int32)), .val (.int (1 : Int32)), .val (.int vc), .val (.int n1), .val (.int n2), .val (.int x0), .val (.int x1), .val (.int y0), .val (.int y1), .val (.ref sb6), .val .null, .val (.ref b7), .val (.int (if vr = (0 : Int32) then (0 : Int32) else (0 : Int32))), .unset, .unset] [])) _
                    refine XS.iconst X9.here hx rfl (hb hby at_249) ?_
                    show Steps p.tables e below (T9.setTop (mkF m 250 #[.val (.int p1), .val (.int p2), .val (.int p3), .val (.int vr), .val (.int (0 : Int32)), .val (.int (0 : Int32)), .val (.int (1 : Int32)), .val (.int vc), .val (.int n1), .val (.int n2), .val (.int x0), .val (.int x1), .val (.int y0), .val (.int y1), .val (.ref sb6), .val .null, .val (.ref b7), .val (.int (if vr = (0 : Int32) then (0 : Int32) else (0 : Int32))), .unset, .unset] [(.int (1 : Int32))])) _
                    refine XS.goto X9.here hx rfl (pc0 := 250) (pc' := 254) rfl (hb hby at_250) (by decide) (by decide) ?_
                    show Steps p.tables e below (T9.setTop (mkF m 254 #[.val (.int p1), .val (.int p2), .val (.int p3), .val (.int vr), .val (.int (0 : Int32)), .val (.int (0 : Int32)), .val (.int (1 : Int32)), .val (.int vc), .val (.int n1), .val (.int n2), .val (.int x0), .val (.int x1), .val (.int y0), .val (.int y1), .val (.ref sb6), .val .null, .val (.ref b7), .val (.int (if vr = (0 : Int32) then (0 : Int32) else (0 : Int32))), .unset, .unset] [(.int (1 : Int32))])) _
                    first | exact kt | (simp only [if_pos hq220, if_neg hq226, if_pos hq233, if_neg hq239, if_pos hq246]; exact kt)
                  · simp only [if_neg hq246] at kt
                    refine XS.icmpYes X9.here hx rfl (pc0 := 246) (pc' := 253) rfl (hb hby at_246) rfl (feq hq246).2 (by decide) (by decide) ?_
                    show Steps p.tables e below (T9.setTop (mkF m 253 #[.val (.int p1), .val (.int p2), .val (.int p3), .val (.int vr), .val (.int (0 : Int32)), .val (.int (0 : Int32)), .val (.int (1 : Int32)), .val (.int vc), .val (.int n1), .val (.int n2), .val (.int x0), .val (.int x1), .val (.int y0), .val (.int y1), .val (.ref sb6), .val .null, .val (.ref b7), .val (.int (if vr = (0 : Int32) then (0 : Int32) else (0 : Int32))), .unset, .unset] [])) _
                    refine XS.iconst X9.here hx rfl (hb hby at_253) ?_
                    show Steps p.tables e below (T9.setTop (mkF m 254 #[.val (.int p1), .val (.int p2), .val (.int p3), .val (.int vr), .val (.int (0 : Int32)), .val (.int (0 : Int32)), .val (.int (1 : Int32)), .val (.int vc), .val (.int n1), .val (.int n2), .val (.int x0), .val (.int x1), .val (.int y0), .val (.int y1), .val (.ref sb6), .val .null, .val (.ref b7), .val (.int (if vr = (0 : Int32) then (0 : Int32) else (0 : Int32))), .unset, .unset] [(.int (0 : Int32))])) _
                    first | exact kt | (simp only [if_pos hq220, if_neg hq226, if_pos hq233, if_neg hq239, if_neg hq246]; exact kt)
              · simp only [if_neg hq233] at kt
                refine XS.icmpYes X9.here hx rfl (pc0 := 233) (pc' := 253) rfl (hb hby at_233) rfl (feq hq233).2 (by decide) (by decide) ?_
                show Steps p.tables e below (T9.setTop (mkF m 253 #[.val (.int p1), .val (.int p2), .val (.int p3), .val (.int vr), .val (.int (0 : Int32)), .val (.int (0 : Int32)), .val (.int (1 : Int32)), .val (.int vc), .val (.int n1), .val (.int n2), .val (.int x0), .val (.int x1), .val (.int y0), .val (.int y1), .val (.ref sb6), .val .null, .val (.ref b7), .val (.int (if vr = (0 : Int32) then (0 : Int32) else (0 : Int32))), .unset, .unset] [])) _
                refine XS.iconst X9.here hx rfl (hb hby at_253) ?_
                show Steps p.tables e below (T9.setTop (mkF m 254 #[.val (.int p1), .val (.int p2), .val (.int p3), .val (.int vr), .val (.int (0 : Int32)), .val (.int (0 : Int32)), .val (.int (1 : Int32)), .val (.int vc), .val (.int n1), .val (.int n2), .val (.int x0), .val (.int x1), .val (.int y0), .val (.int y1), .val (.ref sb6), .val .null, .val (.ref b7), .val (.int (if vr = (0 : Int32) then (0 : Int32) else (0 : Int32))), .unset, .unset] [(.int (0 : Int32))])) _
                first | exact kt | (simp only [if_pos hq220, if_neg hq226, if_neg hq233]; exact kt)
          · simp only [if_neg hq220] at kt
            refine XS.icmpYes X9.here hx rfl (pc0 := 220) (pc' := 253) rfl (hb hby at_220) rfl (feq hq220).2 (by decide) (by decide) ?_
            show Steps p.tables e below (T9.setTop (mkF m 253 #[.val (.int p1), .val (.int p2), .val (.int p3), .val (.int vr), .val (.int (0 : Int32)), .val (.int (0 : Int32)), .val (.int (1 : Int32)), .val (.int vc), .val (.int n1), .val (.int n2), .val (.int x0), .val (.int x1), .val (.int y0), .val (.int y1), .val (.ref sb6), .val .null, .val (.ref b7), .val (.int (if vr = (0 : Int32) then (0 : Int32) else (0 : Int32))), .unset, .unset] [])) _
            refine XS.iconst X9.here hx rfl (hb hby at_253) ?_
            show Steps p.tables e below (T9.setTop (mkF m 254 #[.val (.int p1), .val (.int p2), .val (.int p3), .val (.int vr), .val (.int (0 : Int32)), .val (.int (0 : Int32)), .val (.int (1 : Int32)), .val (.int vc), .val (.int n1), .val (.int n2), .val (.int x0), .val (.int x1), .val (.int y0), .val (.int y1), .val (.ref sb6), .val .null, .val (.ref b7), .val (.int (if vr = (0 : Int32) then (0 : Int32) else (0 : Int32))), .unset, .unset] [(.int (0 : Int32))])) _
            first | exact kt | (simp only [if_neg hq220]; exact kt)
        show Goes p e below _ T9 (mkF m 254 #[.val (.int p1), .val (.int p2), .val (.int p3), .val (.int vr), .val (.int (0 : Int32)), .val (.int (0 : Int32)), .val (.int (1 : Int32)), .val (.int vc), .val (.int n1), .val (.int n2), .val (.int x0), .val (.int x1), .val (.int y0), .val (.int y1), .val (.ref sb6), .val .null, .val (.ref b7), .val (.int (if vr = (0 : Int32) then (0 : Int32) else (0 : Int32))), .unset, .unset] [(.int (if n1 = n2 then (if n1 < (1 : Int32) then (if n1 < (2 : Int32) then (1 : Int32) else (if x1 = y1 then (1 : Int32) else (0 : Int32))) else (if x0 = y0 then (if n1 < (2 : Int32) then (1 : Int32) else (if x1 = y1 then (1 : Int32) else (0 : Int32))) else (0 : Int32))) else (0 : Int32)))])
        refine Goes.of (fun _ => XS.istore X9.here hx rfl (hb hby at_254) rfl (l' := #[.val (.int p1), .val (.int p2), .val (.int p3), .val (.int vr), .val (.int (0 : Int32)), .val (.int (0 : Int32)), .val (.int (1 : Int32)), .val (.int vc), .val (.int n1), .val (.int n2), .val (.int x0), .val (.int x1), .val (.int y0), .val (.int y1), .val (.ref sb6), .val .null, .val (.ref b7), .val (.int (if vr = (0 : Int32) then (0 : Int32) else (0 : Int32))), .val (.int (if n1 = n2 then (if n1 < (1 : Int32) then (if n1 < (2 : Int32) then (1 : Int32) else (if x1 = y1 then (1 : Int32) else (0 : Int32))) else (if x0 = y0 then (if n1 < (2 : Int32) then (1 : Int32) else (if x1 = y1 then (1 : Int32) else (0 : Int32))) else (0 : Int32))) else (0 : Int32))), .unset]) rfl) ?_
        show Goes p e below _ T9 (mkF m 256 #[.val (.int p1), .val (.int p2), .val (.int p3), .val (.int vr), .val (.int (0 : Int32)), .val (.int (0 : Int32)), .val (.int (1 : Int32)), .val (.int vc), .val (.int n1), .val (.int n2), .val (.int x0), .val (.int x1), .val (.int y0), .val (.int y1), .val (.ref sb6), .val .null, .val (.ref b7), .val (.int (if vr = (0 : Int32) then (0 : Int32) else (0 : Int32))), .val (.int (if n1 = n2 then (if n1 < (1 : Int32) then (if n1 < (2 : Int32) then (1 : Int32) else (if x1 = y1 then (1 : Int32) else (0 : Int32))) else (if x0 = y0 then (if n1 < (2 : Int32) then (1 : Int32) else (if x1 = y1 then (1 : Int32) else (0 : Int32))) else (0 : Int32))) else (0 : Int32))), .unset] [])
        generalize erf : (if n1 = n2 then (if n1 < (1 : Int32) then (if n1 < (2 : Int32) then (1 : Int32) else (if x1 = y1 then (1 : Int32) else (0 : Int32))) else (if x0 = y0 then (if n1 < (2 : Int32) then (1 : Int32) else (if x1 = y1 then (1 : Int32) else (0 : Int32))) else (0 : Int32))) else (0 : Int32)) = rf
        show Goes p e below _ T9 (mkF m 256 #[.val (.int p1), .val (.int p2), .val (.int p3), .val (.int vr), .val (.int (0 : Int32)), .val (.int (0 : Int32)), .val (.int (1 : Int32)), .val (.int vc), .val (.int n1), .val (.int n2), .val (.int x0), .val (.int x1), .val (.int y0), .val (.int y1), .val (.ref sb6), .val .null, .val (.ref b7), .val (.int (if vr = (0 : Int32) then (0 : Int32) else (0 : Int32))), .val (.int rf), .unset] [])
        refine Goes.of (fun _ => XS.iloadN X9.here hx rfl (hb hby at_256) rfl) ?_
        show Goes p e below _ T9 (mkF m 257 #[.val (.int p1), .val (.int p2), .val (.int p3), .val (.int vr), .val (.int (0 : Int32)), .val (.int (0 : Int32)), .val (.int (1 : Int32)), .val (.int vc), .val (.int n1), .val (.int n2), .val (.int x0), .val (.int x1), .val (.int y0), .val (.int y1), .val (.ref sb6), .val .null, .val (.ref b7), .val (.int (if vr = (0 : Int32) then (0 : Int32) else (0 : Int32))), .val (.int rf), .unset] [(.int vr)])
        refine Goes.of (T' := T9) (f' := (mkF m 313 #[.val (.int p1), .val (.int p2), .val (.int p3), .val (.int vr), .val (.int (0 : Int32)), .val (.int (0 : Int32)), .val (.int (1 : Int32)), .val (.int vc), .val (.int n1), .val (.int n2), .val (.int x0), .val (.int x1), .val (.int y0), .val (.int y1), .val (.ref sb6), .val .null, .val (.ref b7), .val (.int (if vr = (0 : Int32) then (0 : Int32) else (0 : Int32))), .val (.int rf), .val (.int (0 : Int32))] [])) (fun t kt => ?_) ?_
        · show Steps p.tables e below (T9.setTop (mkF m 257 #[.val (.int p1), .val (.int p2), .val (.int p3), .val (.int vr), .val (.int (0 : Int32)), .val (.int (0 : Int32)), .val (.int (1 : Int32)), .val (.int vc), .val (.int n1), .val (.int n2), .val (.int x0), .val (.int x1), .val (.int y0), .val (.int y1), .val (.ref sb6), .val .null, .val (.ref b7), .val (.int (if vr = (0 : Int32) then (0 : Int32) else (0 : Int32))), .val (.int rf), .unset] [(.int vr)])) _
          by_cases hq257 : vr = (0 : Int32)
          · refine XS.ifNo X9.here hx rfl (hb hby at_257) rfl ((if0 _ _).trans (teq hq257).2) ?_
            show Steps p.tables e below (T9.setTop (mkF m 260 #[.val (.int p1), .val (.int p2), .val (.int p3), .val (.int vr), .val (.int (0 : Int32)), .val (.int (0 : Int32)), .val (.int (1 : Int32)), .val (.int vc), .val (.int n1), .val (.int n2), .val (.int x0), .val (.int x1), .val (.int y0), .val (.int y1), .val (.ref sb6), .val .null, .val (.ref b7), .val (.int (if vr = (0 : Int32) then (0 : Int32) else (0 : Int32))), .val (.int rf), .unset] [])) _
            refine XS.iconst X9.here hx rfl (hb hby at_260) ?_
            show Steps p.tables e below (T9.setTop (mkF m 261 #[.val (.int p1), .val (.int p2), .val (.int p3), .val (.int vr), .val (.int (0 : Int32)), .val (.int (0 : Int32)), .val (.int (1 : Int32)), .val (.int vc), .val (.int n1), .val (.int n2), .val (.int x0), .val (.int x1), .val (.int y0), .val (.int y1), .val (.ref sb6), .val .null, .val (.ref b7), .val (.int (if vr = (0 : Int32) then (0 : Int32) else (0 : Int32))), .val (.int rf), .unset] [(.int (0 : Int32))])) _
            refine XS.istore X9.here hx rfl (hb hby at_261) rfl (l' := #[.val (.int p1), .val (.int p2), .val (.int p3), .val (.int vr), .val (.int (0 : Int32)), .val (.int (0 : Int32)), .val (.int (1 : Int32)), .val (.int vc), .val (.int n1), .val (.int n2), .val (.int x0), .val (.int x1), .val (.int y0), .val (.int y1), .val (.ref sb6), .val .null, .val (.ref b7), .val (.int (if vr = (0 : Int32) then (0 : Int32) else (0 : Int32))), .val (.int rf), .val (.int (0 : Int32))]) rfl ?_
            show Steps p.tables e below (T9.setTop (mkF m 263 #[.val (.int p1), .val (.int p2), .val (.int p3), .val (.int vr), .val (.int (0 : Int32)), .val (.int (0 : Int32)), .val (.int (1 : Int32)), .val (.int vc), .val (.int n1), .val (.int n2), .val (.int x0), .val (.int x1), .val (.int y0), .val (.int y1), .val (.ref sb6), .val .null, .val (.ref b7), .val (.int (if vr = (0 : Int32) then (0 : Int32) else (0 : Int32))), .val (.int rf), .val (.int (0 : Int32))] [])) _
            refine XS.goto X9.here hx rfl (pc0 := 263) (pc' := 313) rfl (hb hby at_263) (by decide) (by decide) ?_
            show Steps p.tables e below (T9.setTop (mkF m 313 #[.val (.int p1), .val (.int p2), .val (.int p3), .val (.int vr), .val (.int (0 : Int32)), .val (.int (0 : Int32)), .val (.int (1 : Int32)), .val (.int vc), .val (.int n1), .val (.int n2), .val (.int x0), .val (.int x1), .val (.int y0), .val (.int y1), .val (.ref sb6), .val .null, .val (.ref b7), .val (.int (if vr = (0 : Int32) then (0 : Int32) else (0 : Int32))), .val (.int rf), .val (.int (0 : Int32))] [])) _
            first | exact kt | (simp only [if_pos hq257]; exact kt)
          · refine XS.ifYes X9.here hx rfl (pc0 := 257) (pc' := 266) rfl (hb hby at_257) rfl ((if0 _ _).trans (feq hq257).2) (by decide) (by decide) ?_
            show Steps p.tables e below (T9.setTop (mkF m 266 #[.val (.int p1), .val (.int p2), .val (.int p3), .val (.int vr), .val (.int (0 : Int32)), .val (.int (0 : Int32)), .val (.int (1 : Int32)), .val (.int vc), .val (.int n1), .val (.int n2), .val (.int x0), .val (.int x1), .val (.int y0), .val (.int y1), .val (.ref sb6), .val .null, .val (.ref b7), .val (.int (if vr = (0 : Int32) then (0 : Int32) else (0 : Int32))), .val (.int rf), .unset] [])) _
            refine XS.iload X9.here hx rfl (hb hby at_266) rfl ?_
            show Steps p.tables e below (T9.setTop (mkF m 268 #[.val (.int p1), .val (.int p2), .val (.int p3), .val (.int vr), .val (.int (0 : Int32)), .val (.int (0 : Int32)), .val (.int (1 : Int32)), .val (.int vc), .val (.int n1), .val (.int n2), .val (.int x0), .val (.int x1), .val (.int y0), .val (.int y1), .val (.ref sb6), .val .null, .val (.ref b7), .val (.int (if vr = (0 : Int32) then (0 : Int32) else (0 : Int32))), .val (.int rf), .unset] [(.int (0 : Int32))])) _
            refine XS.ifYes X9.here hx rfl (pc0 := 268) (pc' := 291) rfl (hb hby at_268) rfl ((if0 _ _).trans (teq (by decide)).1) (by decide) (by decide) ?_
            show Steps p.tables e below (T9.setTop (mkF m 291 #[.val (.int p1), .val (.int p2), .val (.int p3), .val (.int vr), .val (.int (0 : Int32)), .val (.int (0 : Int32)), .val (.int (1 : Int32)), .val (.int vc), .val (.int n1), .val (.int n2), .val (.int x0), .val (.int x1), .val (.int y0), .val (.int y1), .val (.ref sb6), .val .null, .val (.ref b7), .val (.int (if vr = (0 : Int32) then (0 : Int32) else (0 : Int32))), .val (.int rf), .unset] [])) _
            refine XS.iload X9.here hx rfl (hb hby at_291) rfl ?_
            show Steps p.tables e below (T9.setTop (mkF m 293 #[.val (.int p1), .val (.int p2), .val (.int p3), .val (.int vr), .val (.int (0 : Int32)), .val (.int (0 : Int32)), .val (.int (1 : Int32)), .val (.int vc), .val (.int n1), .val (.int n2), .val (.int x0), .val (.int x1), .val (.int y0), .val (.int y1), .val (.ref sb6), .val .null, .val (.ref b7), .val (.int (if vr = (0 : Int32) then (0 : Int32) else (0 : Int32))), .val (.int rf), .unset] [(.int (0 : Int32))])) _
            refine XS.ifYes X9.here hx rfl (pc0 := 293) (pc' := 310) rfl (hb hby at_293) rfl ((if0 _ _).trans (teq (by decide)).1) (by decide) (by decide) ?_
            show Steps p.tables e below (T9.setTop (mkF m 310 #[.val (.int p1), .val (.int p2), .val (.int p3), .val (.int vr), .val (.int (0 : Int32)), .val (.int (0 : Int32)), .val (.int (1 : Int32)), .val (.int vc), .val (.int n1), .val (.int n2), .val (.int x0), .val (.int x1), .val (.int y0), .val (.int y1), .val (.ref sb6), .val .null, .val (.ref b7), .val (.int (if vr = (0 : Int32) then (0 : Int32) else (0 : Int32))), .val (.int rf), .unset] [])) _
            refine XS.iconst X9.here hx rfl (hb hby at_310) ?_
            show Steps p.tables e below (T9.setTop (mkF m 311 #[.val (.int p1), .val (.int p2), .val (.int p3), .val (.int vr), .val (.int (0 : Int32)), .val (.int (0 : Int32)), .val (.int (1 : Int32)), .val (.int vc), .val (.int n1), .val (.int n2), .val (.int x0), .val (.int x1), .val (.int y0), .val (.int y1), .val (.ref sb6), .val .null, .val (.ref b7), .val (.int (if vr = (0 : Int32) then (0 : Int32) else (0 : Int32))), .val (.int rf), .unset] [(.int (0 : Int32))])) _
            refine XS.istore X9.here hx rfl (hb hby at_311) rfl (l' := #[.val (.int p1), .val (.int p2), .val (.int p3), .val (.int vr), .val (.int (0 : Int32)), .val (.int (0 : Int32)), .val (.int (1 : Int32)), .val (.int vc), .val (.int n1), .val (.int n2), .val (.int x0), .val (.int x1), .val (.int y0), .val (.int y1), .val (.ref sb6), .val .null, .val (.ref b7), .val (.int (if vr = (0 : Int32) then (0 : Int32) else (0 : Int32))), .val (.int rf), .val (.int (0 : Int32))]) rfl ?_
            show Steps p.tables e below (T9.setTop (mkF m 313 #[.val (.int p1), .val (.int p2), .val (.int p3), .val (.int vr), .val (.int (0 : Int32)), .val (.int (0 : Int32)), .val (.int (1 : Int32)), .val (.int vc), .val (.int n1), .val (.int n2), .val (.int x0), .val (.int x1), .val (.int y0), .val (.int y1), .val (.ref sb6), .val .null, .val (.ref b7), .val (.int (if vr = (0 : Int32) then (0 : Int32) else (0 : Int32))), .val (.int rf), .val (.int (0 : Int32))] [])) _
            first | exact kt | (simp only [if_neg hq257]; exact kt)
        show Goes p e below _ T9 (mkF m 313 #[.val (.int p1), .val (.int p2), .val (.int p3), .val (.int vr), .val (.int (0 : Int32)), .val (.int (0 : Int32)), .val (.int (1 : Int32)), .val (.int vc), .val (.int n1), .val (.int n2), .val (.int x0), .val (.int x1), .val (.int y0), .val (.int y1), .val (.ref sb6), .val .null, .val (.ref b7), .val (.int (if vr = (0 : Int32) then (0 : Int32) else (0 : Int32))), .val (.int rf), .val (.int (0 : Int32))] [])
        refine Goes.of (fun _ => XS.iload X9.here hx rfl (hb hby at_313) rfl) ?_
        show Goes p e below _ T9 (mkF m 315 #[.val (.int p1), .val (.int p2), .val (.int p3), .val (.int vr), .val (.int (0 : Int32)), .val (.int (0 : Int32)), .val (.int (1 : Int32)), .val (.int vc), .val (.int n1), .val (.int n2), .val (.int x0), .val (.int x1), .val (.int y0), .val (.int y1), .val (.ref sb6), .val .null, .val (.ref b7), .val (.int (if vr = (0 : Int32) then (0 : Int32) else (0 : Int32))), .val (.int rf), .val (.int (0 : Int32))] [(.int (if vr = (0 : Int32) then (0 : Int32) else (0 : Int32)))])
        refine Goes.of (fun _ => XS.iload X9.here hx rfl (hb hby at_315) rfl) ?_
        show Goes p e below _ T9 (mkF m 317 #[.val (.int p1), .val (.int p2), .val (.int p3), .val (.int vr), .val (.int (0 : Int32)), .val (.int (0 : Int32)), .val (.int (1 : Int32)), .val (.int vc), .val (.int n1), .val (.int n2), .val (.int x0), .val (.int x1), .val (.int y0), .val (.int y1), .val (.ref sb6), .val .null, .val (.ref b7), .val (.int (if vr = (0 : Int32) then (0 : Int32) else (0 : Int32))), .val (.int rf), .val (.int (0 : Int32))] [(.int (0 : Int32)), (.int (if vr = (0 : Int32) then (0 : Int32) else (0 : Int32)))])
        refine Goes.of (fun _ => XS.icmpNo X9.here hx rfl (hb hby at_317) rfl (teq (by first | rfl | (split <;> rfl) | (rw [eq_fin n1 n2 x0 x1 y0 y1 hn1 hn2, erf]; done) | (simp only [eq_fin n1 n2 x0 x1 y0 y1 hn1 hn2, erf]; done))).2) ?_
        show Goes p e below _ T9 (mkF m 320 #[.val (.int p1), .val (.int p2), .val (.int p3), .val (.int vr), .val (.int (0 : Int32)), .val (.int (0 : Int32)), .val (.int (1 : Int32)), .val (.int vc), .val (.int n1), .val (.int n2), .val (.int x0), .val (.int x1), .val (.int y0), .val (.int y1), .val (.ref sb6), .val .null, .val (.ref b7), .val (.int (if vr = (0 : Int32) then (0 : Int32) else (0 : Int32))), .val (.int rf), .val (.int (0 : Int32))] [])
        refine Goes.of (fun _ => XS.iconst X9.here hx rfl (hb hby at_320)) ?_
        show Goes p e below _ T9 (mkF m 321 #[.val (.int p1), .val (.int p2), .val (.int p3), .val (.int vr), .val (.int (0 : Int32)), .val (.int (0 : Int32)), .val (.int (1 : Int32)), .val (.int vc), .val (.int n1), .val (.int n2), .val (.int x0), .val (.int x1), .val (.int y0), .val (.int y1), .val (.ref sb6), .val .null, .val (.ref b7), .val (.int (if vr = (0 : Int32) then (0 : Int32) else (0 : Int32))), .val (.int rf), .val (.int (0 : Int32))] [(.int (1 : Int32))])
        refine Goes.of (fun _ => XS.goto X9.here hx rfl (pc0 := 321) (pc' := 325) rfl (hb hby at_321) (by decide) (by decide)) ?_
        show Goes p e below _ T9 (mkF m 325 #[.val (.int p1), .val (.int p2), .val (.int p3), .val (.int vr), .val (.int (0 : Int32)), .val (.int (0 : Int32)), .val (.int (1 : Int32)), .val (.int vc), .val (.int n1), .val (.int n2), .val (.int x0), .val (.int x1), .val (.int y0), .val (.int y1), .val (.ref sb6), .val .null, .val (.ref b7), .val (.int (if vr = (0 : Int32) then (0 : Int32) else (0 : Int32))), .val (.int rf), .val (.int (0 : Int32))] [(.int (1 : Int32))])
        exact retZW (t := .boolean) X9 hS hk hZ hEL HC hx hret hlk (by simp) (hb hby at_325) eT9 (by decide) (by decide) ⟨rfl, N9⟩
    · show Goes p e below _ T (mkF m 153 #[.val (.int p1), .val (.int p2), .val (.int p3), .val (.int vr), .val (.int (0 : Int32)), .val (.int (1 : Int32)), .val (.int vi), .val (.int vc), .val (.int n1), .val (.int n2), .val (.int x0), .val (.int x1), .val (.int y0), .val (.int y1), .unset, .unset, .unset, .unset, .unset, .unset] [])
      rcases hvi with rfl | rfl
      · show Goes p e below _ T (mkF m 153 #[.val (.int p1), .val (.int p2), .val (.int p3), .val (.int vr), .val (.int (0 : Int32)), .val (.int (1 : Int32)), .val (.int (0 : Int32)), .val (.int vc), .val (.int n1), .val (.int n2), .val (.int x0), .val (.int x1), .val (.int y0), .val (.int y1), .unset, .unset, .unset, .unset, .unset, .unset] [])
        refine Goes.of (fun _ => XS.iload X.here hx rfl (hb hby at_153) rfl) ?_
        show Goes p e below _ T (mkF m 155 #[.val (.int p1), .val (.int p2), .val (.int p3), .val (.int vr), .val (.int (0 : Int32)), .val (.int (1 : Int32)), .val (.int (0 : Int32)), .val (.int vc), .val (.int n1), .val (.int n2), .val (.int x0), .val (.int x1), .val (.int y0), .val (.int y1), .unset, .unset, .unset, .unset, .unset, .unset] [(.int (1 : Int32))])
        refine Goes.of (fun _ => XS.ifNo X.here hx rfl (hb hby at_155) rfl ((if0 _ _).trans (feq (by decide)).1)) ?_
        show Goes p e below _ T (mkF m 158 #[.val (.int p1), .val (.int p2), .val (.int p3), .val (.int vr), .val (.int (0 : Int32)), .val (.int (1 : Int32)), .val (.int (0 : Int32)), .val (.int vc), .val (.int n1), .val (.int n2), .val (.int x0), .val (.int x1), .val (.int y0), .val (.int y1), .unset, .unset, .unset, .unset, .unset, .unset] [])
        refine Goes.of (fun _ => XS.aconstNull X.here hx rfl (hb hby at_158)) ?_
        show Goes p e below _ T (mkF m 159 #[.val (.int p1), .val (.int p2), .val (.int p3), .val (.int vr), .val (.int (0 : Int32)), .val (.int (1 : Int32)), .val (.int (0 : Int32)), .val (.int vc), .val (.int n1), .val (.int n2), .val (.int x0), .val (.int x1), .val (.int y0), .val (.int y1), .unset, .unset, .unset, .unset, .unset, .unset] [.null])
        refine Goes.of (fun _ => XS.goto X.here hx rfl (pc0 := 159) (pc' := 171) rfl (hb hby at_159) (by decide) (by decide)) ?_
        show Goes p e below _ T (mkF m 171 #[.val (.int p1), .val (.int p2), .val (.int p3), .val (.int vr), .val (.int (0 : Int32)), .val (.int (1 : Int32)), .val (.int (0 : Int32)), .val (.int vc), .val (.int n1), .val (.int n2), .val (.int x0), .val (.int x1), .val (.int y0), .val (.int y1), .unset, .unset, .unset, .unset, .unset, .unset] [.null])
        refine Goes.of (fun _ => XS.astore X.here hx rfl (hb hby at_171) rfl rfl (l' := #[.val (.int p1), .val (.int p2), .val (.int p3), .val (.int vr), .val (.int (0 : Int32)), .val (.int (1 : Int32)), .val (.int (0 : Int32)), .val (.int vc), .val (.int n1), .val (.int n2), .val (.int x0), .val (.int x1), .val (.int y0), .val (.int y1), .val .null, .unset, .unset, .unset, .unset, .unset]) rfl) ?_
        show Goes p e below _ T (mkF m 173 #[.val (.int p1), .val (.int p2), .val (.int p3), .val (.int vr), .val (.int (0 : Int32)), .val (.int (1 : Int32)), .val (.int (0 : Int32)), .val (.int vc), .val (.int n1), .val (.int n2), .val (.int x0), .val (.int x1), .val (.int y0), .val (.int y1), .val .null, .unset, .unset, .unset, .unset, .unset] [])
        refine Goes.of (fun _ => XS.iload X.here hx rfl (hb hby at_173) rfl) ?_
        show Goes p e below _ T (mkF m 175 #[.val (.int p1), .val (.int p2), .val (.int p3), .val (.int vr), .val (.int (0 : Int32)), .val (.int (1 : Int32)), .val (.int (0 : Int32)), .val (.int vc), .val (.int n1), .val (.int n2), .val (.int x0), .val (.int x1), .val (.int y0), .val (.int y1), .val .null, .unset, .unset, .unset, .unset, .unset] [(.int (0 : Int32))])
        refine Goes.of (fun _ => XS.ifYes X.here hx rfl (pc0 := 175) (pc' := 182) rfl (hb hby at_175) rfl ((if0 _ _).trans (teq (by decide)).1) (by decide) (by decide)) ?_
        show Goes p e below _ T (mkF m 182 #[.val (.int p1), .val (.int p2), .val (.int p3), .val (.int vr), .val (.int (0 : Int32)), .val (.int (1 : Int32)), .val (.int (0 : Int32)), .val (.int vc), .val (.int n1), .val (.int n2), .val (.int x0), .val (.int x1), .val (.int y0), .val (.int y1), .val .null, .unset, .unset, .unset, .unset, .unset] [])
        refine Goes.of (fun _ => XS.iload X.here hx rfl (hb hby at_182) rfl) ?_
        show Goes p e below _ T (mkF m 184 #[.val (.int p1), .val (.int p2), .val (.int p3), .val (.int vr), .val (.int (0 : Int32)), .val (.int (1 : Int32)), .val (.int (0 : Int32)), .val (.int vc), .val (.int n1), .val (.int n2), .val (.int x0), .val (.int x1), .val (.int y0), .val (.int y1), .val .null, .unset, .unset, .unset, .unset, .unset] [(.int n2)])
        refine Goes.of (fun _ => XS.iload X.here hx rfl (hb hby at_184) rfl) ?_
        show Goes p e below _ T (mkF m 186 #[.val (.int p1), .val (.int p2), .val (.int p3), .val (.int vr), .val (.int (0 : Int32)), .val (.int (1 : Int32)), .val (.int (0 : Int32)), .val (.int vc), .val (.int n1), .val (.int n2), .val (.int x0), .val (.int x1), .val (.int y0), .val (.int y1), .val .null, .unset, .unset, .unset, .unset, .unset] [(.int y0), (.int n2)])
        refine Goes.of (fun _ => XS.iload X.here hx rfl (hb hby at_186) rfl) ?_
        show Goes p e below _ T (mkF m 188 #[.val (.int p1), .val (.int p2), .val (.int p3), .val (.int vr), .val (.int (0 : Int32)), .val (.int (1 : Int32)), .val (.int (0 : Int32)), .val (.int vc), .val (.int n1), .val (.int n2), .val (.int x0), .val (.int x1), .val (.int y0), .val (.int y1), .val .null, .unset, .unset, .unset, .unset, .unset] [(.int y1), (.int y0), (.int n2)])
        refine goStaticW 0 X hS hk hEL HC hx hZ hown (hw _ (List.mem_of_getElem? (i := 0) rfl)) (hw _ (List.mem_of_getElem? (i := 1) rfl)) (hw _ (List.mem_of_getElem? (i := 2) rfl)) (hw _ (List.mem_of_getElem? (i := 3) rfl)) (by decide) (rm_str l Z a0 hw n2 y0 y1 cz h0 n0 O0 Sc hcz hy0 hy1) eT0 (g := (mkF m 188 #[.val (.int p1), .val (.int p2), .val (.int p3), .val (.int vr), .val (.int (0 : Int32)), .val (.int (1 : Int32)), .val (.int (0 : Int32)), .val (.int vc), .val (.int n1), .val (.int n2), .val (.int x0), .val (.int x1), .val (.int y0), .val (.int y1), .val .null, .unset, .unset, .unset, .unset, .unset] [(.int y1), (.int y0), (.int n2)])) rfl (by rw [hml]; rfl) [(.int n2), (.int y0), (.int y1)] [] (lenOf pd__ICC_Ljava_lang_String_ rfl) rfl rfl (by show 2 * 0 + _ ≤ _; exact Nat.le_of_eq rfl) (hb hby at_188) (by decide) (by decide) (by decide) (by decide) ?_
        intro v10 T10 L10 kk10 X10 hS hk hZ hown HC q10
        obtain ⟨sb10, rfl, Nq10, Kq10, g_sb10, S10⟩ := q10
        have N10 := Fr.app N0 Nq10
        have O0 := O0.keep Kq10 all0
        show Goes p e below _ T10 (mkF m 191 #[.val (.int p1), .val (.int p2), .val (.int p3), .val (.int vr), .val (.int (0 : Int32)), .val (.int (1 : Int32)), .val (.int (0 : Int32)), .val (.int vc), .val (.int n1), .val (.int n2), .val (.int x0), .val (.int x1), .val (.int y0), .val (.int y1), .val .null, .unset, .unset, .unset, .unset, .unset] [(.ref sb10)])
        refine Goes.of (fun _ => XS.astore X10.here hx rfl (hb hby at_191) rfl rfl (l' := #[.val (.int p1), .val (.int p2), .val (.int p3), .val (.int vr), .val (.int (0 : Int32)), .val (.int (1 : Int32)), .val (.int (0 : Int32)), .val (.int vc), .val (.int n1), .val (.int n2), .val (.int x0), .val (.int x1), .val (.int y0), .val (.int y1), .val .null, .val (.ref sb10), .unset, .unset, .unset, .unset]) rfl) ?_
        show Goes p e below _ T10 (mkF m 193 #[.val (.int p1), .val (.int p2), .val (.int p3), .val (.int vr), .val (.int (0 : Int32)), .val (.int (1 : Int32)), .val (.int (0 : Int32)), .val (.int vc), .val (.int n1), .val (.int n2), .val (.int x0), .val (.int x1), .val (.int y0), .val (.int y1), .val .null, .val (.ref sb10), .unset, .unset, .unset, .unset] [])
        refine goNew X10 hx hZ hown (hw _ (List.mem_of_getElem? (i := 26) rfl)) (hw _ (List.mem_of_getElem? (i := 27) rfl)) (hw _ (List.mem_of_getElem? (i := 28) rfl)) (rfl : T10.heap = _) (g := (mkF m 193 #[.val (.int p1), .val (.int p2), .val (.int p3), .val (.int vr), .val (.int (0 : Int32)), .val (.int (1 : Int32)), .val (.int (0 : Int32)), .val (.int vc), .val (.int n1), .val (.int n2), .val (.int x0), .val (.int x1), .val (.int y0), .val (.int y1), .val .null, .val (.ref sb10), .unset, .unset, .unset, .unset] [])) rfl (hb hby at_193) (by decide) (by decide) ?_
        intro T11 h11 b11 X11 eT11 E11 hb11 A11 D11
        have g_b11 : n0 ≤ b11 := Nat.le_trans (oldLe O0) hb11
        have ne_sb10_b11 : sb10 ≠ b11 := Nat.ne_of_lt (Nat.lt_of_lt_of_le S10.lt hb11)
        have S10 := S10.ext E11
        have hk := Nat.le_trans hk E11.1
        have HC := HC.trans (CHr.ext E11 HC.1)
        have O0 := O0.ext E11
        have F11_id : Fld Z h11 b11 "com/example/latchwork/latchwork/store/RedisRun$Origin" "id" "Ljava/lang/String;" .null := D11 (Or.inr (hw _ (List.mem_of_getElem? (i := 39) rfl))) (ty := (.object "java/lang/String")) (by decide)
        have F11_wroteEveryChange : Fld Z h11 b11 "com/example/latchwork/latchwork/store/RedisRun$Origin" "wroteEveryChange" "Z" (.int (0 : Int32)) := D11 (Or.inr (hw _ (List.mem_of_getElem? (i := 41) rfl))) (ty := .boolean) (by decide)
        show Goes p e below _ T11 (mkF m 196 #[.val (.int p1), .val (.int p2), .val (.int p3), .val (.int vr), .val (.int (0 : Int32)), .val (.int (1 : Int32)), .val (.int (0 : Int32)), .val (.int vc), .val (.int n1), .val (.int n2), .val (.int x0), .val (.int x1), .val (.int y0), .val (.int y1), .val .null, .val (.ref sb10), .unset, .unset, .unset, .unset] [(.ref b11)])
        refine Goes.of (fun _ => XS.dup X11.here hx rfl (hb hby at_196) rfl rfl) ?_
        show Goes p e below _ T11 (mkF m 197 #[.val (.int p1), .val (.int p2), .val (.int p3), .val (.int vr), .val (.int (0 : Int32)), .val (.int (1 : Int32)), .val (.int (0 : Int32)), .val (.int vc), .val (.int n1), .val (.int n2), .val (.int x0), .val (.int x1), .val (.int y0), .val (.int y1), .val .null, .val (.ref sb10), .unset, .unset, .unset, .unset] [(.ref b11), (.ref b11)])
        refine Goes.of (fun _ => XS.aload X11.here hx rfl (hb hby at_197) rfl rfl) ?_
        show Goes p e below _ T11 (mkF m 199 #[.val (.int p1), .val (.int p2), .val (.int p3), .val (.int vr), .val (.int (0 : Int32)), .val (.int (1 : Int32)), .val (.int (0 : Int32)), .val (.int vc), .val (.int n1), .val (.int n2), .val (.int x0), .val (.int x1), .val (.int y0), .val (.int y1), .val .null, .val (.ref sb10), .unset, .unset, .unset, .unset] [(.ref sb10), (.ref b11), (.ref b11)])
        refine Goes.of (fun _ => XS.iload X11.here hx rfl (hb hby at_199) rfl) ?_
        show Goes p e below _ T11 (mkF m 201 #[.val (.int p1), .val (.int p2), .val (.int p3), .val (.int vr), .val (.int (0 : Int32)), .val (.int (1 : Int32)), .val (.int (0 : Int32)), .val (.int vc), .val (.int n1), .val (.int n2), .val (.int x0), .val (.int x1), .val (.int y0), .val (.int y1), .val .null, .val (.ref sb10), .unset, .unset, .unset, .unset] [(.int (0 : Int32)), (.ref sb10), (.ref b11), (.ref b11)])
        have Sf_b11 : Safe Z EL _ h11 b11 := Safe.exa hZ.alike A11 (by decide) (by decide)
        refine goSpecial 1 X11 hx hZ rfl hown (hw _ (List.mem_of_getElem? (i := 29) rfl)) (hw _ (List.mem_of_getElem? (i := 30) rfl)) (hw _ (List.mem_of_getElem? (i := 28) rfl)) (hw _ (List.mem_of_getElem? (i := 31) rfl)) (by decide) (rm_init00 l Z a0 hw b11 sb10 h11 n0 O0 g_b11 A11 F11_id F11_wroteEveryChange) eT11 (g := (mkF m 201 #[.val (.int p1), .val (.int p2), .val (.int p3), .val (.int vr), .val (.int (0 : Int32)), .val (.int (1 : Int32)), .val (.int (0 : Int32)), .val (.int vc), .val (.int n1), .val (.int n2), .val (.int x0), .val (.int x1), .val (.int y0), .val (.int y1), .val .null, .val (.ref sb10), .unset, .unset, .unset, .unset] [(.int (0 : Int32)), (.ref sb10), (.ref b11), (.ref b11)])) rfl (by rw [hml]; rfl) b11 [(.ref sb10), (.int (0 : Int32))] [(.ref b11)] (lenOf pd__Ljava_lang_String_Z_V rfl) rfl rfl (by show 2 * 0 + _ ≤ _; exact Nat.le_of_eq rfl) (hb hby at_201) (by decide) (by decide) (by decide) (by decide) ?_
        intro v12 T12 L12 X12 q12
        obtain ⟨rfl, Nq12, Kq12, H0_12, H1_12⟩ := q12
        have N12 := Fr.app N10 Nq12
        have S10 := S10.keep1 Kq12 ne_sb10_b11 A11 (hw _ (List.mem_of_getElem? (i := 27) rfl))
        have A11 := A11.keep Kq12
        have HC := HC.trans (CHr.keep Kq12 (sfS Sf_b11 sf0) HC.1)
        have hk := Nat.le_trans hk Kq12.1
        have O0 := O0.keep Kq12 (allS g_b11 all0)
        show Goes p e below _ T12 (mkF m 204 #[.val (.int p1), .val (.int p2), .val (.int p3), .val (.int vr), .val (.int (0 : Int32)), .val (.int (1 : Int32)), .val (.int (0 : Int32)), .val (.int vc), .val (.int n1), .val (.int n2), .val (.int x0), .val (.int x1), .val (.int y0), .val (.int y1), .val .null, .val (.ref sb10), .unset, .unset, .unset, .unset] [(.ref b11)])
        refine Goes.of (fun _ => XS.astore X12.here hx rfl (hb hby at_204) rfl rfl (l' := #[.val (.int p1), .val (.int p2), .val (.int p3), .val (.int vr), .val (.int (0 : Int32)), .val (.int (1 : Int32)), .val (.int (0 : Int32)), .val (.int vc), .val (.int n1), .val (.int n2), .val (.int x0), .val (.int x1), .val (.int y0), .val (.int y1), .val .null, .val (.ref sb10), .val (.ref b11), .unset, .unset, .unset]) rfl) ?_
        show Goes p e below _ T12 (mkF m 206 #[.val (.int p1), .val (.int p2), .val (.int p3), .val (.int vr), .val (.int (0 : Int32)), .val (.int (1 : Int32)), .val (.int (0 : Int32)), .val (.int vc), .val (.int n1), .val (.int n2), .val (.int x0), .val (.int x1), .val (.int y0), .val (.int y1), .val .null, .val (.ref sb10), .val (.ref b11), .unset, .unset, .unset] [])
        refine Goes.of (fun _ => XS.aload X12.here hx rfl (hb hby at_206) rfl rfl) ?_
        show Goes p e below _ T12 (mkF m 208 #[.val (.int p1), .val (.int p2), .val (.int p3), .val (.int vr), .val (.int (0 : Int32)), .val (.int (1 : Int32)), .val (.int (0 : Int32)), .val (.int vc), .val (.int n1), .val (.int n2), .val (.int x0), .val (.int x1), .val (.int y0), .val (.int y1), .val .null, .val (.ref sb10), .val (.ref b11), .unset, .unset, .unset] [.null])
        refine Goes.of (fun _ => XS.aload X12.here hx rfl (hb hby at_208) rfl rfl) ?_
        show Goes p e below _ T12 (mkF m 210 #[.val (.int p1), .val (.int p2), .val (.int p3), .val (.int vr), .val (.int (0 : Int32)), .val (.int (1 : Int32)), .val (.int (0 : Int32)), .val (.int vc), .val (.int n1), .val (.int n2), .val (.int x0), .val (.int x1), .val (.int y0), .val (.int y1), .val .null, .val (.ref sb10), .val (.ref b11), .unset, .unset, .unset] [(.ref b11), .null])
        refine Goes.of (fun _ => XS.iloadN X12.here hx rfl (hb hby at_210) rfl) ?_
        show Goes p e below _ T12 (mkF m 211 #[.val (.int p1), .val (.int p2), .val (.int p3), .val (.int vr), .val (.int (0 : Int32)), .val (.int (1 : Int32)), .val (.int (0 : Int32)), .val (.int vc), .val (.int n1), .val (.int n2), .val (.int x0), .val (.int x1), .val (.int y0), .val (.int y1), .val .null, .val (.ref sb10), .val (.ref b11), .unset, .unset, .unset] [(.int vr), (.ref b11), .null])
        refine goStatic 0 X12 hx hZ hown (hw _ (List.mem_of_getElem? (i := 42) rfl)) (hw _ (List.mem_of_getElem? (i := 43) rfl)) (hw _ (List.mem_of_getElem? (i := 44) rfl)) (hw _ (List.mem_of_getElem? (i := 45) rfl)) (by decide) (rm_kept100 l Z a0 hw b11  sb10 vr [] (strL n2 y0 y1) cz T12.heap n0 O0 Sc hcz A11 H0_12 H1_12  S10) (rfl : T12.heap = _) (g := (mkF m 211 #[.val (.int p1), .val (.int p2), .val (.int p3), .val (.int vr), .val (.int (0 : Int32)), .val (.int (1 : Int32)), .val (.int (0 : Int32)), .val (.int vc), .val (.int n1), .val (.int n2), .val (.int x0), .val (.int x1), .val (.int y0), .val (.int y1), .val .null, .val (.ref sb10), .val (.ref b11), .unset, .unset, .unset] [(.int vr), (.ref b11), .null])) rfl (by rw [hml]; rfl) [.null, (.ref b11), (.int vr)] [] (lenOf pd__Ljava_lang_String_Lcom_example_latchwork_latchwork_store_RedisRun_Origin_Z_Z rfl) rfl rfl (by show 2 * 0 + _ ≤ _; exact Nat.le_of_eq rfl) (hb hby at_211) (by decide) (by decide) (by decide) (by decide) ?_
        intro v13 T13 L13 X13 q13
        obtain ⟨rfl, Nq13, eT13⟩ := q13
        have N13 := Fr.app N12 Nq13
        show Goes p e below _ T13 (mkF m 214 #[.val (.int p1), .val (.int p2), .val (.int p3), .val (.int vr), .val (.int (0 : Int32)), .val (.int (1 : Int32)), .val (.int (0 : Int32)), .val (.int vc), .val (.int n1), .val (.int n2), .val (.int x0), .val (.int x1), .val (.int y0), .val (.int y1), .val .null, .val (.ref sb10), .val (.ref b11), .unset, .unset, .unset] [(.int (if vr = (0 : Int32) then (0 : Int32) else (0 : Int32)))])
        refine Goes.of (fun _ => XS.istore X13.here hx rfl (hb hby at_214) rfl (l' := #[.val (.int p1), .val (.int p2), .val (.int p3), .val (.int vr), .val (.int (0 : Int32)), .val (.int (1 : Int32)), .val (.int (0 : Int32)), .val (.int vc), .val (.int n1), .val (.int n2), .val (.int x0), .val (.int x1), .val (.int y0), .val (.int y1), .val .null, .val (.ref sb10), .val (.ref b11), .val (.int (if vr = (0 : Int32) then (0 : Int32) else (0 : Int32))), .unset, .unset]) rfl) ?_
        show Goes p e below _ T13 (mkF m 216 #[.val (.int p1), .val (.int p2), .val (.int p3), .val (.int vr), .val (.int (0 : Int32)), .val (.int (1 : Int32)), .val (.int (0 : Int32)), .val (.int vc), .val (.int n1), .val (.int n2), .val (.int x0), .val (.int x1), .val (.int y0), .val (.int y1), .val .null, .val (.ref sb10), .val (.ref b11), .val (.int (if vr = (0 : Int32) then (0 : Int32) else (0 : Int32))), .unset, .unset] [])
        refine Goes.of (fun _ => XS.iload X13.here hx rfl (hb hby at_216) rfl) ?_
        show Goes p e below _ T13 (mkF m 218 #[.val (.int p1), .val (.int p2), .val (.int p3), .val (.int vr), .val (.int (0 : Int32)), .val (.int (1 : Int32)), .val (.int (0 : Int32)), .val (.int vc), .val (.int n1), .val (.int n2), .val (.int x0), .val (.int x1), .val (.int y0), .val (.int y1), .val .null, .val (.ref sb10), .val (.ref b11), .val (.int (if vr = (0 : Int32) then (0 : Int32) else (0 : Int32))), .unset, .unset] [(.int n1)])
        refine Goes.of (fun _ => XS.iload X13.here hx rfl (hb hby at_218) rfl) ?_
        show Goes p e below _ T13 (mkF m 220 #[.val (.int p1), .val (.int p2), .val (.int p3), .val (.int vr), .val (.int (0 : Int32)), .val (.int (1 : Int32)), .val (.int (0 : Int32)), .val (.int vc), .val (.int n1), .val (.int n2), .val (.int x0), .val (.int x1), .val (.int y0), .val (.int y1), .val .null, .val (.ref sb10), .val (.ref b11), .val (.int (if vr = (0 : Int32) then (0 : Int32) else (0 : Int32))), .unset, .unset] [(.int n2), (.int n1)])
        refine Goes.of (T' := T13) (f' := (mkF m 254 #[.val (.int p1), .val (.int p2), .val (.int p3), .val (.int vr), .val (.int (0 : Int32)), .val (.int (1 : Int32)), .val (.int (0 : Int32)), .val (.int vc), .val (.int n1), .val (.int n2), .val (.int x0), .val (.int x1), .val (.int y0), .val (.int y1), .val .null, .val (.ref sb10), .val (.ref b11), .val (.int (if vr = (0 : Int32) then (0 : Int32) else (0 : Int32))), .unset, .unset] [(.int (if n1 = n2 then (if n1 < (1 : Int32) then (if n1 < (2 : Int32) then (1 : Int32) else (if x1 = y1 then (1 : Int32) else (0 : Int32))) else (if x0 = y0 then (if n1 < (2 : Int32) then (1 : Int32) else (if x1 = y1 then (1 : Int32) else (0 : Int32))) else (0 : Int32))) else (0 : Int32)))])) (fun t kt => ?_) ?_
        · show Steps p.tables e below (T13.setTop (mkF m 220 #[.val (.int p1), .val (.int p2), .val (.int p3), .val (.int vr), .val (.int (0 : Int32)), .val (.int (1 : Int32)), .val (.int (0 : Int32)), .val (.int vc), .val (.int n1), .val (.int n2), .val (.int x0), .val (.int x1), .val (.int y0), .val (.int y1), .val .null, .val (.ref sb10), .val (.ref b11), .val (.int (if vr = (0 : Int32) then (0 : Int32) else (0 : Int32))), .unset, .unset] [(.int n2), (.int n1)])) _
          by_cases hq220 : n1 = n2
          · simp only [if_pos hq220] at kt
            refine XS.icmpNo X13.here hx rfl (hb hby at_220) rfl (teq hq220).2 ?_
            show Steps p.tables e below (T13.setTop (mkF m 223 #[.val (.int p1), .val (.int p2), .val (.int p3), .val (.int vr), .val (.int (0 : Int32)), .val (.int (1 : Int32)), .val (.int (0 : Int32)), .val (.int vc), .val (.int n1), .val (.int n2), .val (.int x0), .val (.int x1), .val (.int y0), .val (.int y1), .val .null, .val (.ref sb10), .val (.ref b11), .val (.int (if vr = (0 : Int32) then (0 : Int32) else (0 : Int32))), .unset, .unset] [])) _
            refine XS.iload X13.here hx rfl (hb hby at_223) rfl ?_
            show Steps p.tables e below (T13.setTop (mkF m 225 #[.val (.int p1), .val (.int p2), .val (.int p3), .val (.int vr), .val (.int (0 : Int32)), .val (.int (1 : Int32)), .val (.int (0 : Int32)), .val (.int vc), .val (.int n1), .val (.int n2), .val (.int x0), .val (.int x1), .val (.int y0), .val (.int y1), .val .null, .val (.ref sb10), .val (.ref b11), .val (.int (if vr = (0 : Int32) then (0 : Int32) else (0 : Int32))), .unset, .unset] [(.int n1)])) _
            refine XS.iconst X13.here hx rfl (hb hby at_225) ?_
            show Steps p.tables e below (T13.setTop (mkF m 226 #[.val (.int p1), .val (.int p2), .val (.int p3), .val (.int vr), .val (.int (0 : Int32)), .val (.int (1 : Int32)), .val (.int (0 : Int32)), .val (.int vc), .val (.int n1), .val (.int n2), .val (.int x0), .val (.int x1), .val (.int y0), .val (.int y1), .val .null, .val (.ref sb10), .val (.ref b11), .val (.int (if vr = (0 : Int32) then (0 : Int32) else (0 : Int32))), .unset, .unset] [(.int (1 : Int32)), (.int n1)])) _
            by_cases hq226 : n1 < (1 : Int32)
            · simp only [if_pos hq226] at kt
              refine XS.icmpYes X13.here hx rfl (pc0 := 226) (pc' := 236) rfl (hb hby at_226) rfl (tlt hq226).1 (by decide) (by decide) ?_
              show Steps p.tables e below (T13.setTop (mkF m 236 #[.val (.int p1), .val (.int p2), .val (.int p3), .val (.int vr), .val (.int (0 : Int32)), .val (.int (1 : Int32)), .val (.int (0 : Int32)), .val (.int vc), .val (.int n1), .val (.int n2), .val (.int x0), .val (.int x1), .val (.int y0), .val (.int y1), .val .null, .val (.ref sb10), .val (.ref b11), .val (.int (if vr = (0 : Int32) then (0 : Int32) else (0 : Int32))), .unset, .unset] [])) _
              refine XS.iload X13.here hx rfl (hb hby at_236) rfl ?_
              show Steps p.tables e below (T13.setTop (mkF m 238 #[.val (.int p1), .val (.int p2), .val (.int p3), .val (.int vr), .val (.int (0 : Int32)), .val (.int (1 : Int32)), .val (.int (0 : Int32)), .val (.int vc), .val (.int n1), .val (.int n2), .val (.int x0), .val (.int x1), .val (.int y0), .val (.int y1), .val .null, .val (.ref sb10), .val (.ref b11), .val (.int (if vr = (0 : Int32) then (0 : Int32) else (0 : Int32))), .unset, .unset] [(.int n1)])) _
              refine XS.iconst X13.here hx rfl (hb hby at_238) ?_
              show Steps p.tables e below (T13.setTop (mkF m 239 #[.val (.int p1), .val (.int p2), .val (.int p3), .val (.int vr), .val (.int (0 : Int32)), .val (.int (1 : Int32)), .val (.int (0 : Int32)), .val (.int vc), .val (.int n1), .val (.int n2), .val (.int x0), .val (.int x1), .val (.int y0), .val (.int y1), .val .null, .val (.ref sb10), .val (.ref b11), .val (.int (if vr = (0 : Int32) then (0 : Int32) else (0 : Int32))), .unset, .unset] [(.int (2 : Int32)), (.int n1)])) _
              by_cases hq239 : n1 < (2 : Int32)
              · simp only [if_pos hq239] at kt
                refine XS.icmpYes X13.here hx rfl (pc0 := 239) (pc' := 249) rfl (hb hby at_239) rfl (tlt hq239).1 (by decide) (by decide) ?_
                show Steps p.tables e below (T13.setTop (mkF m 249 #[.val (.int p1), .val (.int p2), .val (.int p3), .val (.int vr), .val (.int (0 : Int32)), .val (.int (1 : Int32)), .val (.int (0 : Int32)), .val (.int vc), .val (.int n1), .val (.int n2), .val (.int x0), .val (.int x1), .val (.int y0), .val (.int y1), .val .null, .val (.ref sb10), .val (.ref b11), .val (.int (if vr = (0 : Int32) then (0 : Int32) else (0 : Int32))), .unset, .unset] [])) _
                refine XS.iconst X13.here hx rfl (hb hby at_249) ?_
                show Steps p.tables e below (T13.setTop (mkF m 250 #[.val (.int p1), .val (.int p2), .val (.int p3), .val (.int vr), .val (.int (0 : Int32)), .val (.int (1 : Int32)), .val (.int (0 : Int32)), .val (.int vc), .val (.int n1), .val (.int n2), .val (.int x0), .val (.int x1), .val (.int y0), .val (.int y1), .val .null, .val (.ref sb10), .val (.ref b11), .val (.int (if vr = (0 : Int32) then (0 : Int32) else (0 : Int32))), .unset, .unset] [(.int (1 : Int32))])) _
                refine XS.goto X13.here hx rfl (pc0 := 250) (pc' := 254) rfl (hb hby at_250) (by decide) (by decide) ?_
                show Steps p.tables e below (T13.setTop (mkF m 254 #[.val (.int p1), .val (.int p2), .val (.int p3), .val (.int vr), .val (.int (0 : Int32)), .val (.int (1 : Int32)), .val (.int (0 : Int32)), .val (.int vc), .val (.int n1), .val (.int n2), .val (.int x0), .val (.int x1), .val (.int y0), .val (.int y1), .val .null, .val (.ref sb10), .val (.ref b11), .val (.int (if vr = (0 : Int32) then (0 : Int32) else (0 : Int32))), .unset, .unset] [(.int (1 : Int32))])) _
                first | exact kt | (simp only [if_pos hq220, if_pos hq226, if_pos hq239]; exact kt)
              · simp only [if_neg hq239] at kt
                refine XS.icmpNo X13.here hx rfl (hb hby at_239) rfl (flt hq239).1 ?_
                show Steps p.tables e below (T13.setTop (mkF m 242 #[.val (.int p1), .val (.int p2), .val (.int p3), .val (.int vr), .val (.int (0 : Int32)), .val (.int (1 : Int32)), .val (.int (0 : Int32)), .val (.int vc), .val (.int n1), .val (.int n2), .val (.int x0), .val (.int x1), .val (.int y0), .val (.int y1), .val .null, .val (.ref sb10), .val (.ref b11), .val (.int (if vr = (0 : Int32) then (0 : Int32) else (0 : Int32))), .unset, .unset] [])) _
                refine XS.iload X13.here hx rfl (hb hby at_242) rfl ?_
                show Steps p.tables e below (T13.setTop (mkF m 244 #[.val (.int p1), .val (.int p2), .val (.int p3), .val (.int vr), .val (.int (0 : Int32)), .val (.int (1 : Int32)), .val (.int (0 : Int32)), .val (.int vc), .val (.int n1), .val (.int n2), .val (.int x0), .val (.int x1), .val (.int y0), .val (.int y1), .val .null, .val (.ref sb10), .val (.ref b11), .val (.int (if vr = (0 : Int32) then (0 : Int32) else (0 : Int32))), .unset, .unset] [(.int x1)])) _
                refine XS.iload X13.here hx rfl (hb hby at_244) rfl ?_
                show Steps p.tables e below (T13.setTop (mkF m 246 #[.val (.int p1), .val (.int p2), .val (.int p3), .val (.int vr), .val (.int (0 : Int32)), .val (.int (1 : Int32)), .val (.int (0 : Int32)), .val (.int vc), .val (.int n1), .val (.int n2), .val (.int x0), .val (.int x1), .val (.int y0), .val (.int y1), .val .null, .val (.ref sb10), .val (.ref b11), .val (.int (if vr = (0 : Int32) then (0 : Int32) else (0 : Int32))), .unset, .unset] [(.int y1), (.int x1)])) _
                by_cases hq246 : x1 = y1
                · simp only [if_pos hq246] at kt
                  refine XS.icmpNo X13.here hx rfl (hb hby at_246) rfl (teq hq246).2 ?_
                  show Steps p.tables e below (T13.setTop (mkF m 249 #[.val (.int p1), .val (.int p2), .val (.int p3), .val (.int vr), .val (.int (0 : Int32)), .val (.int (1 : Int32)), .val (.int (0 : Int32)), .val (.int vc), .val (.int n1), .val (.int n2), .val (.int x0), .val (.int x1), .val (.int y0), .val (.int y1), .val .null, .val (.ref sb10), .val (.ref b11), .val (.int (if vr = (0 : Int32) then (0 : Int32) else (0 : Int32))), .unset, .unset] [])) _
                  refine XS.iconst X13.here hx rfl (hb hby at_249) ?_
                  show Steps p.tables e below (T13.setTop (mkF m 250 #[.val (.int p1), .val (.int p2), .val (.int p3), .val (.int vr), .val (.int (0 : Int32)), .val (.int (1 : Int32)), .val (.int (0 : Int32)), .val (.int vc), .val (.int n1), .val (.int n2), .val (.int x0), .val (.int x1), .val (.int y0), .val (.int y1), .val .null, .val (.ref sb10), .val (.ref b11), .val (.int (if vr = (0 : Int32) then (0 : Int32) else (0 : Int32))), .unset, .unset] [(.int (1 : Int32))])) _
                  refine XS.goto X13.here hx rfl (pc0 := 250) (pc' := 254) rfl (hb hby at_250) (by decide) (by decide) ?_
                  show Steps p.tables e below (T13.setTop (mkF m 254 #[.val (.int p1), .val (.int p2), .val (.int p3), .val (.int vr), .val (.int (0 : Int32)), .val (.int (1 : Int32)), .val (.int (0 : Int32)), .val (.int vc), .val (.int n1), .val (.int n2), .val (.int x0), .val (.int x1), .val (.int y0), .val (.int y1), .val .null, .val (.ref sb10), .val (.ref b11), .val (.int (if vr = (0 : Int32) then (0 : Int32) else (0 : Int32))), .unset, .unset] [(.int (1 : Int32))])) _
                  first | exact kt | (simp only [if_pos hq220, if_pos hq226, if_neg hq239, if_pos hq246]; exact kt)
                · simp only [if_neg hq246] at kt
                  refine XS.icmpYes X13.here hx rfl (pc0 := 246) (pc' := 253) rfl (hb hby at_246) rfl (feq hq246).2 (by decide) (by decide) ?_
                  show Steps p.tables e below (T13.setTop (mkF m 253 #[.val (.int p1), .val (.int p2), .val (.int p3), .val (.int vr), .val (.int (0 : Int32)), .val (.int (1 : Int32)), .val (.int (0 : Int32)), .val (.int vc), .val (.int n1), .val (.int n2), .val (.int x0), .val (.int x1), .val (.int y0), .val (.int y1), .val .null, .val (.ref sb10), .val (.ref b11), .val (.int (if vr = (0 : Int32) then (0 : Int32) else (0 : Int32))), .unset, .unset] [])) _
                  refine XS.iconst X13.here hx rfl (hb hby at_253) ?_
                  show Steps p.tables e below (T13.setTop (mkF m 254 #[.val (.int p1), .val (.int p2), .val (.int p3), .val (.int vr), .val (.int (0 : Int32)), .val (.int (1 : Int32)), .val (.int (0 : Int32)), .val (.int vc), .val (.int n1), .val (.int n2), .val (.int x0), .val (.int x1), .val (.int y0), .val (.int y1), .val .null, .val (.ref sb10), .val (.ref b11), .val (.int (if vr = (0 : Int32) then (0 : Int32) else (0 : Int32))), .unset, .unset] [(.int (0 : Int32))])) _
                  first | exact kt | (simp only [if_pos hq220, if_pos hq226, if_neg hq239, if_neg hq246]; exact kt)
            · simp only [if_neg hq226] at kt
              refine XS.icmpNo X13.here hx rfl (hb hby at_226) rfl (flt hq226).1 ?_
              show Steps p.tables e below (T13.setTop (mkF m 229 #[.val (.int p1), .val (.int p2), .val (.int p3), .val (.int vr), .val (.int (0 : Int32)), .val (.int (1 : Int32)), .val (.int (0 : Int32)), .val (.int vc), .val (.int n1), .val (.int n2), .val (.int x0), .val (.int x1), .val (.int y0), .val (.int y1), .val .null, .val (.ref sb10), .val (.ref b11), .val (.int (if vr = (0 : Int32) then (0 : Int32) else (0 : Int32))), .unset, .unset] [])) _
              refine XS.iload X13.here hx rfl (hb hby at_229) rfl ?_
              show Steps p.tables e below (T13.setTop (mkF m 231 #[.val (.int p1), .val (.int p2), .val (.int p3), .val (.int vr), .val (.int (0 : Int32)), .val (.int (1 : Int32)), .val (.int (0 : Int32)), .val (.int vc), .val (.int n1), .val (.int n2), .val (.int x0), .val (.int x1), .val (.int y0), .val (.int y1), .val .null, .val (.ref sb10), .val (.ref b11), .val (.int (if vr = (0 : Int32) then (0 : Int32) else (0 : Int32))), .unset, .unset] [(.int x0)])) _
              refine XS.iload X13.here hx rfl (hb hby at_231) rfl ?_
              show Steps p.tables e below (T13.setTop (mkF m 233 #[.val (.int p1), .val (.int p2), .val (.int p3), .val (.int vr), .val (.int (0 : Int32)), .val (.int (1 : Int32)), .val (.int (0 : Int32)), .val (.int vc), .val (.int n1), .val (.int n2), .val (.int x0), .val (.int x1), .val (.int y0), .val (.int y1), .val .null, .val (.ref sb10), .val (.ref b11), .val (.int (if vr = (0 : Int32) then (0 : Int32) else (0 : Int32))), .unset, .unset] [(.int y0), (.int x0)])) _
              by_cases hq233 : x0 = y0
              · simp only [if_pos hq233] at kt
                refine XS.icmpNo X13.here hx rfl (hb hby at_233) rfl (teq hq233).2 ?_
                show Steps p.tables e below (T13.setTop (mkF m 236 #[.val (.int p1), .val (.int p2), .val (.int p3), .val (.int vr), .val (.int (0 : Int32)), .val (.int (1 : Int32)), .val (.int (0 : Int32)), .val (.int vc), .val (.int n1), .val (.int n2), .val (.int x0), .val (.int x1), .val (.int y0), .val (.int y1), .val .null, .val (.ref sb10), .val (.ref b11), .val (.int (if vr = (0 : Int32) then (0 : Int32) else (0 : Int32))), .unset, .unset] [])) _
                refine XS.iload X13.here hx rfl (hb hby at_236) rfl ?_
                show Steps p.tables e below (T13.setTop (mkF m 238 #[.val (.int p1), .val (.int p2), .val (.int p3), .val (.int vr), .val (.int (0 : Int32)), .val (.int (1 : Int32)), .val (.int (0 : Int32)), .val (.int vc), .val (.int n1), .val (.int n2), .val (.int x0), .val (.int x1), .val (.int y0), .val (.int y1), .val .null, .val (.ref sb10), .val (.ref b11), .val (.int (if vr = (0 : Int32) then (0 : Int32) else (0 : Int32))), .unset, .unset] [(.int n1)])) _
                refine XS.iconst X13.here hx rfl (hb hby at_238) ?_
                show Steps p.tables e below (T13.setTop (mkF m 239 #[.val (.int p1), .val (.int p2), .val (.int p3), .val (.int vr), .val (.int (0 : Int32)), .val (.int (1 : Int32)), .val (.int (0 : Int32)), .val (.int vc), .val (.int n1), .val (.int n2), .val (.int x0), .val (.int x1), .val (.int y0), .val (.int y1), .val .null, .val (.ref sb10), .val (.ref b11), .val (.int (if vr = (0 : Int32) then (0 : Int32) else (0 : Int32))), .unset, .unset] [(.int (2 : Int32)), (.int n1)])) _
                by_cases hq239 : n1 < (2 : Int32)
                · simp only [if_pos hq239] at kt
                  refine XS.icmpYes X13.here hx rfl (pc0 := 239) (pc' := 249) rfl (hb hby at_239) rfl (tlt hq239).1 (by decide) (by decide) ?_
                  show Steps p.tables e below (T13.setTop (mkF m 249 #[.val (.int p1), .val (.int p2), .val (.int p3), .val (.int vr), .val (.int (0 : Int32)), .val (.int (1 : Int32)), .val (.int (0 : Int32)), .val (.int vc), .val (.int n1), .val (.int n2), .val (.int x0), .val (.int x1), .val (.int y0), .val (.int y1), .val .null, .val (.ref sb10), .val (.ref b11), .val (.int (if vr = (0 : Int32) then (0 : Int32) else (0 : Int32))), .unset, .unset] [])) _
                  refine XS.iconst X13.here hx rfl (hb hby at_249) ?_
                  show Steps p.tables e below (T13.setTop (mkF m 250 #[.val (.int p1), .val (.int p2), .val (.int p3), .val (.int vr), .val (.int (0 : Int32)), .val (.int (1 : Int32)), .val (.int (0 : Int32)), .val (.int vc), .val (.int n1), .val (.int n2), .val (.int x0), .val (.int x1), .val (.int y0), .val (.int y1), .val .null, .val (.ref sb10), .val (.ref b11), .val (.int (if vr = (0 : Int32) then (0 : Int32) else (0 : Int32))), .unset, .unset] [(.int (1 : Int32))])) _
                  refine XS.goto X13.here hx rfl (pc0 := 250) (pc' := 254) rfl (hb hby at_250) (by decide) (by decide) ?_
                  show Steps p.tables e below (T13.setTop (mkF m 254 #[.val (.int p1), .val (.int p2), .val (.int p3), .val (.int vr), .val (.int (0 : Int32)), .val (.int (1 : Int32)), .val (.int (0 : Int32)), .val (.int vc), .val (.int n1), .val (.int n2), .val (.int x0), .val (.int x1), .val (.int y0), .val (.int y1), .val .null, .val (.ref sb10), .val (.ref b11), .val (.int (if vr = (0 : Int32) then (0 : Int32) else (0 : Int32))), .unset, .unset] [(.int (1 : Int32))])) _
                  first | exact kt | (simp only [if_pos hq220, if_neg hq226, if_pos hq233, if_pos hq239]; exact kt)
                · simp only [if_neg hq239] at kt
                  refine XS.icmpNo X13.here hx rfl (hb hby at_239) rfl (flt hq239).1 ?_
                  show Steps p.tables e below (T13.setTop (mkF m 242 #[.val (.int p1), .val (.int p2), .val (.int p3), .val (.int vr), .val (.int (0 : Int32)), .val (.int (1 : Int32)), .val (.int (0 : Int32)), .val (.int vc), .val (.int n1), .val (.int n2), .val (.int x0), .val (.int x1), .val (.int y0), .val (.int y1), .val .null, .val (.ref sb10), .val (.ref b11), .val (.int (if vr = (0 : Int32) then (0 : Int32) else (0 : Int32))), .unset, .unset] [])) _
                  refine XS.iload X13.here hx rfl (hb hby at_242) rfl ?_
                  show Steps p.tables e below (T13.setTop (mkF m 244 #[.val (.int p1), .val (.int p2), .val (.int p3), .val (.int vr), .val (.int (0 : Int32)), .val (.int (1 : Int32)), .val (.int (0 : Int32)), .val (.int vc), .val (.int n1), .val (.int n2), .val (.int x0), .val (.int x1), .val (.int y0), .val (.int y1), .val .null, .val (.ref sb10), .val (.ref b11), .val (.int (if vr = (0 : Int32) then (0 : Int32) else (0 : Int32))), .unset, .unset] [(.int x1)])) _
                  refine XS.iload X13.here hx rfl (hb hby at_244) rfl ?_
                  show Steps p.tables e below (T13.setTop (mkF m 246 #[.val (.int p1), .val (.int p2), .val (.int p3), .val (.int vr), .val (.int (0 : Int32)), .val (.int (1 : Int32)), .val (.int (0 : Int32)), .val (.int vc), .val (.int n1), .val (.int n2), .val (.int x0), .val (.int x1), .val (.int y0), .val (.int y1), .val .null, .val (.ref sb10), .val (.ref b11), .val (.int (if vr = (0 : Int32) then (0 : Int32) else (0 : Int32))), .unset, .unset] [(.int y1), (.int x1)])) _
                  by_cases hq246 : x1 = y1
                  · simp only [if_pos hq246] at kt
                    refine XS.icmpNo X13.here hx rfl (hb hby at_246) rfl (teq hq246).2 ?_
                    show Steps p.tables e below (T13.setTop (mkF m 249 #[.val (.int p1), .val (.int p2), .val (.int p3), .val (.int vr), .val (.int (0 : Int32)), .val (.int (1 : Int32)), .val (.int (0 : Int32)), .val (.int vc), .val (.int n1), .val (.int n2), .val (.int x0), .val (.int x1), .val (.int y0), .val (.int y1), .val .null, .val (.ref sb10), .val (.ref b11), .val (.int (if vr = (0 : Int32) then (0 : Int32) else (0 : Int32))), .unset, .unset] [])) _
                    refine XS.iconst X13.here hx rfl (hb hby at_249) ?_
                    show Steps p.tables e below (T13.setTop (mkF m 250 #[.val (.int p1), .val (.int p2), .val (.int p3), .val (.int vr), .val (.int (0 : Int32)), .val (.int (1 : Int32)), .val (.int (0 : Int32)), .val (.int vc), .val (.int n1), .val (.int n2), .val (.int x0), .val (.int x1), .val (.int y0), .val (.int y1), .val .null, .val (.ref sb10), .val (.ref b11), .val (.int (if vr = (0 : Int32) then (0 : Int32) else (0 : Int32))), .unset, .unset] [(.int (1 : Int32))])) _
                    refine XS.goto X13.here hx rfl (pc0 := 250) (pc' := 254) rfl (hb hby at_250) (by decide) (by decide) ?_
                    show Steps p.tables e below (T13.setTop (mkF m 254 #[.val (.int p1), .val (.int p2), .val (.int p3), .val (.int vr), .val (.int (0 : Int32)), .val (.int (1 : Int32)), .val (.int (0 : Int32)), .val (.int vc), .val (.int n1), .val (.int n2), .val (.int x0), .val (.int x1), .val (.int y0), .val (.int y1), .val .null, .val (.ref sb10), .val (.ref b11), .val (.int (if vr = (0 : Int32) then (0 : Int32) else (0 : Int32))), .unset, .unset] [(.int (1 : Int32))])) _
                    first | exact kt | (simp only [if_pos hq220, if_neg hq226, if_pos hq233, if_neg hq239, if_pos hq246]; exact kt)
                  · simp only [if_neg hq246] at kt
                    refine XS.icmpYes X13.here hx rfl (pc0 := 246) (pc' := 253) rfl (hb hby at_246) rfl (feq hq246).2 (by decide) (by decide) ?_
                    show Steps p.tables e below (T13.setTop (mkF m 253 #[.val (.int p1), .val (.int p2), .val (.int p3), .val (.int vr), .val (.int (0 : Int32)), .val (.int (1 : Int32)), .val (.int (0 : Int32)), .val (.int vc), .val (.int n1), .val (.int n2), .val (.int x0), .val (.int x1), .val (.int y0), .val (.int y1), .val .null, .val (.ref sb10), .val (.ref b11), .val (.int (if vr = (0 : Int32) then (0 : Int32) else (0 : Int32))), .unset, .unset] [])) _
                    refine XS.iconst X13.here hx rfl (hb hby at_253) ?_
                    show Steps p.tables e below (T13.setTop (mkF m 254 #[.val (.int p1), .val (.int p2), .val (.int p3), .val (.int vr), .val (.int (0 : Int32)), .val (.int (1 : Int32)), .val (.int (0 : Int32)), .val (.int vc), .val (.int n1), .val (.int n2), .val (.int x0), .val (.int x1), .val (.int y0), .val (.int y1), .val .null, .val (.ref sb10), .val (.ref b11), .val (.int (if vr = (0 : Int32) then (0 : Int32) else (0 : Int32))), .unset, .unset] [(.int (0 : Int32))])) _
                    first | exact kt | (simp only [if_pos hq220, if_neg hq226, if_pos hq233, if_neg hq239, if_neg hq246]; exact kt)
              · simp only [if_neg hq233] at kt
                refine XS.icmpYes X13.here hx rfl (pc0 := 233) (pc' := 253) rfl (hb hby at_233) rfl (feq hq233).2 (by decide) (by decide) ?_
                show Steps p.tables e below (T13.setTop (mkF m 253 #[.val (.int p1), .val (.int p2), .val (.int p3), .val (.int vr), .val (.int (0 : Int32)), .val (.int (1 : Int32)), .val (.int (0 : Int32)), .val (.int vc), .val (.int n1), .val (.int n2), .val (.int x0), .val (.int x1), .val (.int y0), .val (.int y1), .val .null, .val (.ref sb10), .val (.ref b11), .val (.int (if vr = (0 : Int32) then (0 : Int32) else (0 : Int32))), .unset, .unset] [])) _
                refine XS.iconst X13.here hx rfl (hb hby at_253) ?_
                show Steps p.tables e below (T13.setTop (mkF m 254 #[.val (.int p1), .val (.int p2), .val (.int p3), .val (.int vr), .val (.int (0 : Int32)), .val (.int (1 : Int32)), .val (.int (0 : Int32)), .val (.int vc), .val (.int n1), .val (.int n2), .val (.int x0), .val (.int x1), .val (.int y0), .val (.int y1), .val .null, .val (.ref sb10), .val (.ref b11), .val (.int (if vr = (0 : Int32) then (0 : Int32) else (0 : Int32))), .unset, .unset] [(.int (0 : Int32))])) _
                first | exact kt | (simp only [if_pos hq220, if_neg hq226, if_neg hq233]; exact kt)
          · simp only [if_neg hq220] at kt
            refine XS.icmpYes X13.here hx rfl (pc0 := 220) (pc' := 253) rfl (hb hby at_220) rfl (feq hq220).2 (by decide) (by decide) ?_
            show Steps p.tables e below (T13.setTop (mkF m 253 #[.val (.int p1), .val (.int p2), .val (.int p3), .val (.int vr), .val (.int (0 : Int32)), .val (.int (1 : Int32)), .val (.int (0 : Int32)), .val (.int vc), .val (.int n1), .val (.int n2), .val (.int x0), .val (.int x1), .val (.int y0), .val (.int y1), .val .null, .val (.ref sb10), .val (.ref b11), .val (.int (if vr = (0 : Int32) then (0 : Int32) else (0 : Int32))), .unset, .unset] [])) _
            refine XS.iconst X13.here hx rfl (hb hby at_253) ?_
            show Steps p.tables e below (T13.setTop (mkF m 254 #[.val (.int p1), .val (.int p2), .val (.int p3), .val (.int vr), .val (.int (0 : Int32)), .val (.int (1 : Int32)), .val (.int (0 : Int32)), .val (.int vc), .val (.int n1), .val (.int n2), .val (.int x0), .val (.int x1), .val (.int y0), .val (.int y1), .val .null, .val (.ref sb10), .val (.ref b11), .val (.int (if vr = (0 : Int32) then (0 : Int32) else (0 : Int32))), .unset, .unset] [(.int (0 : Int32))])) _
            first | exact kt | (simp only [if_neg hq220]; exact kt)
        show Goes p e below _ T13 (mkF m 254 #[.val (.int p1), .val (.int p2), .val (.int p3), .val (.int vr), .val (.int (0 : Int32)), .val (.int (1 : Int32)), .val (.int (0 : Int32)), .val (.int vc), .val (.int n1), .val (.int n2), .val (.int x0), .val (.int x1), .val (.int y0), .val (.int y1), .val .null, .val (.ref sb10), .val (.ref b11), .val (.int (if vr = (0 : Int32) then (0 : Int32) else (0 : Int32))), .unset, .unset] [(.int (if n1 = n2 then (if n1 < (1 : Int32) then (if n1 < (2 : Int32) then (1 : Int32) else (if x1 = y1 then (1 : Int32) else (0 : Int32))) else (if x0 = y0 then (if n1 < (2 : Int32) then (1 : Int32) else (if x1 = y1 then (1 : Int32) else (0 : Int32))) else (0 : Int32))) else (0 : Int32)))])
        refine Goes.of (fun _ => XS.istore X13.here hx rfl (hb hby at_254) rfl (l' := #[.val (.int p1), .val (.int p2), .val (.int p3), .val (.int vr), .val (.int (0 : Int32)), .val (.int (1 : Int32)), .val (.int (0 : Int32)), .val (.int vc), .val (.int n1), .val (.int n2), .val (.int x0), .val (.int x1), .val (.int y0), .val (.int y1), .val .null, .val (.ref sb10), .val (.ref b11), .val (.int (if vr = (0 : Int32) then (0 : Int32) else (0 : Int32))), .val (.int (if n1 = n2 then (if n1 < (1 : Int32) then (if n1 < (2 : Int32) then (1 : Int32) else (if x1 = y1 then (1 : Int32) else (0 : Int32))) else (if x0 = y0 then (if n1 < (2 : Int32) then (1 : Int32) else (if x1 = y1 then (1 : Int32) else (0 : Int32))) else (0 : Int32))) else (0 : Int32))), .unset]) rfl) ?_
        show Goes p e below _ T13 (mkF m 256 #[.val (.int p1), .val (.int p2), .val (.int p3), .val (.int vr), .val (.int (0 : Int32)), .val (.int (1 : Int32)), .val (.int (0 : Int32)), .val (.int vc), .val (.int n1), .val (.int n2), .val (.int x0), .val (.int x1), .val (.int y0), .val (.int y1), .val .null, .val (.ref sb10), .val (.ref b11), .val (.int (if vr = (0 : Int32) then (0 : Int32) else (0 : Int32))), .val (.int (if n1 = n2 then (if n1 < (1 : Int32) then (if n1 < (2 : Int32) then (1 : Int32) else (if x1 = y1 then (1 : Int32) else (0 : Int32))) else (if x0 = y0 then (if n1 < (2 : Int32) then (1 : Int32) else (if x1 = y1 then (1 : Int32) else (0 : Int32))) else (0 : Int32))) else (0 : Int32))), .unset] [])
        generalize erf : (if n1 = n2 then (if n1 < (1 : Int32) then (if n1 < (2 : Int32) then (1 : Int32) else (if x1 = y1 then (1 : Int32) else (0 : Int32))) else (if x0 = y0 then (if n1 < (2 : Int32) then (1 : Int32) else (if x1 = y1 then (1 : Int32) else (0 : Int32))) else (0 : Int32))) else (0 : Int32)) = rf
        show Goes p e below _ T13 (mkF m 256 #[.val (.int p1), .val (.int p2), .val (.int p3), .val (.int vr), .val (.int (0 : Int32)), .val (.int (1 : Int32)), .val (.int (0 : Int32)), .val (.int vc), .val (.int n1), .val (.int n2), .val (.int x0), .val (.int x1), .val (.int y0), .val (.int y1), .val .null, .val (.ref sb10), .val (.ref b11), .val (.int (if vr = (0 : Int32) then (0 : Int32) else (0 : Int32))), .val (.int rf), .unset] [])
        refine Goes.of (fun _ => XS.iloadN X13.here hx rfl (hb hby at_256) rfl) ?_
        show Goes p e below _ T13 (mkF m 257 #[.val (.int p1), .val (.int p2), .val (.int p3), .val (.int vr), .val (.int (0 : Int32)), .val (.int (1 : Int32)), .val (.int (0 : Int32)), .val (.int vc), .val (.int n1), .val (.int n2), .val (.int x0), .val (.int x1), .val (.int y0), .val (.int y1), .val .null, .val (.ref sb10), .val (.ref b11), .val (.int (if vr = (0 : Int32) then (0 : Int32) else (0 : Int32))), .val (.int rf), .unset] [(.int vr)])
        refine Goes.of (T' := T13) (f' := (mkF m 313 #[.val (.int p1), .val (.int p2), .val (.int p3), .val (.int vr), .val (.int (0 : Int32)), .val (.int (1 : Int32)), .val (.int (0 : Int32)), .val (.int vc), .val (.int n1), .val (.int n2), .val (.int x0), .val (.int x1), .val (.int y0), .val (.int y1), .val .null, .val (.ref sb10), .val (.ref b11), .val (.int (if vr = (0 : Int32) then (0 : Int32) else (0 : Int32))), .val (.int rf), .val (.int (0 : Int32))] [])) (fun t kt => ?_) ?_
        · show Steps p.tables e below (T13.setTop (mkF m 257 #[.val (.int p1), .val (.int p2), .val (.int p3), .val (.int vr), .val (.int (0 : Int32)), .val (.int (1 : Int32)), .val (.int (0 : Int32)), .val (.int vc), .val (.int n1), .val (.int n2), .val (.int x0), .val (.int x1), .val (.int y0), .val (.int y1), .val .null, .val (.ref sb10), .val (.ref b11), .val (.int (if vr = (0 : Int32) then (0 : Int32) else (0 : Int32))), .val (.int rf), .unset] [(.int vr)])) _
          by_cases hq257 : vr = (0 : Int32)
          · refine XS.ifNo X13.here hx rfl (hb hby at_257) rfl ((if0 _ _).trans (teq hq257).2) ?_
            show Steps p.tables e below (T13.setTop (mkF m 260 #[.val (.int p1), .val (.int p2), .val (.int p3), .val (.int vr), .val (.int (0 : Int32)), .val (.int (1 : Int32)), .val (.int (0 : Int32)), .val (.int vc), .val (.int n1), .val (.int n2), .val (.int x0), .val (.int x1), .val (.int y0), .val (.int y1), .val .null, .val (.ref sb10), .val (.ref b11), .val (.int (if vr = (0 : Int32) then (0 : Int32) else (0 : Int32))), .val (.int rf), .unset] [])) _
            refine XS.iconst X13.here hx rfl (hb hby at_260) ?_
            show Steps p.tables e below (T13.setTop (mkF m 261 #[.val (.int p1), .val (.int p2), .val (.int p3), .val (.int vr), .val (.int (0 : Int32)), .val (.int (1 : Int32)), .val (.int (0 : Int32)), .val (.int vc), .val (.int n1), .val (.int n2), .val (.int x0), .val (.int x1), .val (.int y0), .val (.int y1), .val .null, .val (.ref sb10), .val (.ref b11), .val (.int (if vr = (0 : Int32) then (0 : Int32) else (0 : Int32))), .val (.int rf), .unset] [(.int (0 : Int32))])) _
            refine XS.istore X13.here hx rfl (hb hby at_261) rfl (l' := #[.val (.int p1), .val (.int p2), .val (.int p3), .val (.int vr), .val (.int (0 : Int32)), .val (.int (1 : Int32)), .val (.int (0 : Int32)), .val (.int vc), .val (.int n1), .val (.int n2), .val (.int x0), .val (.int x1), .val (.int y0), .val (.int y1), .val .null, .val (.ref sb10), .val (.ref b11), .val (.int (if vr = (0 : Int32) then (0 : Int32) else (0 : Int32))), .val (.int rf), .val (.int (0 : Int32))]) rfl ?_
            show Steps p.tables e below (T13.setTop (mkF m 263 #[.val (.int p1), .val (.int p2), .val (.int p3), .val (.int vr), .val (.int (0 : Int32)), .val (.int (1 : Int32)), .val (.int (0 : Int32)), .val (.int vc), .val (.int n1), .val (.int n2), .val (.int x0), .val (.int x1), .val (.int y0), .val (.int y1), .val .null, .val (.ref sb10), .val (.ref b11), .val (.int (if vr = (0 : Int32) then (0 : Int32) else (0 : Int32))), .val (.int rf), .val (.int (0 : Int32))] [])) _
            refine XS.goto X13.here hx rfl (pc0 := 263) (pc' := 313) rfl (hb hby at_263) (by decide) (by decide) ?_
            show Steps p.tables e below (T13.setTop (mkF m 313 #[.val (.int p1), .val (.int p2), .val (.int p3), .val (.int vr), .val (.int (0 : Int32)), .val (.int (1 : Int32)), .val (.int (0 : Int32)), .val (.int vc), .val (.int n1), .val (.int n2), .val (.int x0), .val (.int x1), .val (.int y0), .val (.int y1), .val .null, .val (.ref sb10), .val (.ref b11), .val (.int (if vr = (0 : Int32) then (0 : Int32) else (0 : Int32))), .val (.int rf), .val (.int (0 : Int32))] [])) _
            first | exact kt | (simp only [if_pos hq257]; exact kt)
          · refine XS.ifYes X13.here hx rfl (pc0 := 257) (pc' := 266) rfl (hb hby at_257) rfl ((if0 _ _).trans (feq hq257).2) (by decide) (by decide) ?_
            show Steps p.tables e below (T13.setTop (mkF m 266 #[.val (.int p1), .val (.int p2), .val (.int p3), .val (.int vr), .val (.int (0 : Int32)), .val (.int (1 : Int32)), .val (.int (0 : Int32)), .val (.int vc), .val (.int n1), .val (.int n2), .val (.int x0), .val (.int x1), .val (.int y0), .val (.int y1), .val .null, .val (.ref sb10), .val (.ref b11), .val (.int (if vr = (0 : Int32) then (0 : Int32) else (0 : Int32))), .val (.int rf), .unset] [])) _
            refine XS.iload X13.here hx rfl (hb hby at_266) rfl ?_
            show Steps p.tables e below (T13.setTop (mkF m 268 #[.val (.int p1), .val (.int p2), .val (.int p3), .val (.int vr), .val (.int (0 : Int32)), .val (.int (1 : Int32)), .val (.int (0 : Int32)), .val (.int vc), .val (.int n1), .val (.int n2), .val (.int x0), .val (.int x1), .val (.int y0), .val (.int y1), .val .null, .val (.ref sb10), .val (.ref b11), .val (.int (if vr = (0 : Int32) then (0 : Int32) else (0 : Int32))), .val (.int rf), .unset] [(.int (1 : Int32))])) _
            refine XS.ifNo X13.here hx rfl (hb hby at_268) rfl ((if0 _ _).trans (feq (by decide)).1) ?_
            show Steps p.tables e below (T13.setTop (mkF m 271 #[.val (.int p1), .val (.int p2), .val (.int p3), .val (.int vr), .val (.int (0 : Int32)), .val (.int (1 : Int32)), .val (.int (0 : Int32)), .val (.int vc), .val (.int n1), .val (.int n2), .val (.int x0), .val (.int x1), .val (.int y0), .val (.int y1), .val .null, .val (.ref sb10), .val (.ref b11), .val (.int (if vr = (0 : Int32) then (0 : Int32) else (0 : Int32))), .val (.int rf), .unset] [])) _
            refine XS.iload X13.here hx rfl (hb hby at_271) rfl ?_
            show Steps p.tables e below (T13.setTop (mkF m 273 #[.val (.int p1), .val (.int p2), .val (.int p3), .val (.int vr), .val (.int (0 : Int32)), .val (.int (1 : Int32)), .val (.int (0 : Int32)), .val (.int vc), .val (.int n1), .val (.int n2), .val (.int x0), .val (.int x1), .val (.int y0), .val (.int y1), .val .null, .val (.ref sb10), .val (.ref b11), .val (.int (if vr = (0 : Int32) then (0 : Int32) else (0 : Int32))), .val (.int rf), .unset] [(.int (0 : Int32))])) _
            refine XS.ifNo X13.here hx rfl (hb hby at_273) rfl ((if0 _ _).trans (teq (by decide)).2) ?_
            show Steps p.tables e below (T13.setTop (mkF m 276 #[.val (.int p1), .val (.int p2), .val (.int p3), .val (.int vr), .val (.int (0 : Int32)), .val (.int (1 : Int32)), .val (.int (0 : Int32)), .val (.int vc), .val (.int n1), .val (.int n2), .val (.int x0), .val (.int x1), .val (.int y0), .val (.int y1), .val .null, .val (.ref sb10), .val (.ref b11), .val (.int (if vr = (0 : Int32) then (0 : Int32) else (0 : Int32))), .val (.int rf), .unset] [])) _
            refine XS.iload X13.here hx rfl (hb hby at_276) rfl ?_
            show Steps p.tables e below (T13.setTop (mkF m 278 #[.val (.int p1), .val (.int p2), .val (.int p3), .val (.int vr), .val (.int (0 : Int32)), .val (.int (1 : Int32)), .val (.int (0 : Int32)), .val (.int vc), .val (.int n1), .val (.int n2), .val (.int x0), .val (.int x1), .val (.int y0), .val (.int y1), .val .null, .val (.ref sb10), .val (.ref b11), .val (.int (if vr = (0 : Int32) then (0 : Int32) else (0 : Int32))), .val (.int rf), .unset] [(.int (0 : Int32))])) _
            refine XS.ifYes X13.here hx rfl (pc0 := 278) (pc' := 285) rfl (hb hby at_278) rfl ((if0 _ _).trans (teq (by decide)).1) (by decide) (by decide) ?_
            show Steps p.tables e below (T13.setTop (mkF m 285 #[.val (.int p1), .val (.int p2), .val (.int p3), .val (.int vr), .val (.int (0 : Int32)), .val (.int (1 : Int32)), .val (.int (0 : Int32)), .val (.int vc), .val (.int n1), .val (.int n2), .val (.int x0), .val (.int x1), .val (.int y0), .val (.int y1), .val .null, .val (.ref sb10), .val (.ref b11), .val (.int (if vr = (0 : Int32) then (0 : Int32) else (0 : Int32))), .val (.int rf), .unset] [])) _
            refine XS.iconst X13.here hx rfl (hb hby at_285) ?_
            show Steps p.tables e below (T13.setTop (mkF m 286 #[.val (.int p1), .val (.int p2), .val (.int p3), .val (.int vr), .val (.int (0 : Int32)), .val (.int (1 : Int32)), .val (.int (0 : Int32)), .val (.int vc), .val (.int n1), .val (.int n2), .val (.int x0), .val (.int x1), .val (.int y0), .val (.int y1), .val .null, .val (.ref sb10), .val (.ref b11), .val (.int (if vr = (0 : Int32) then (0 : Int32) else (0 : Int32))), .val (.int rf), .unset] [(.int (0 : Int32))])) _
            refine XS.istore X13.here hx rfl (hb hby at_286) rfl (l' := #[.val (.int p1), .val (.int p2), .val (.int p3), .val (.int vr), .val (.int (0 : Int32)), .val (.int (1 : Int32)), .val (.int (0 : Int32)), .val (.int vc), .val (.int n1), .val (.int n2), .val (.int x0), .val (.int x1), .val (.int y0), .val (.int y1), .val .null, .val (.ref sb10), .val (.ref b11), .val (.int (if vr = (0 : Int32) then (0 : Int32) else (0 : Int32))), .val (.int rf), .val (.int (0 : Int32))]) rfl ?_
            show Steps p.tables e below (T13.setTop (mkF m 288 #[.val (.int p1), .val (.int p2), .val (.int p3), .val (.int vr), .val (.int (0 : Int32)), .val (.int (1 : Int32)), .val (.int (0 : Int32)), .val (.int vc), .val (.int n1), .val (.int n2), .val (.int x0), .val (.int x1), .val (.int y0), .val (.int y1), .val .null, .val (.ref sb10), .val (.ref b11), .val (.int (if vr = (0 : Int32) then (0 : Int32) else (0 : Int32))), .val (.int rf), .val (.int (0 : Int32))] [])) _
            refine XS.goto X13.here hx rfl (pc0 := 288) (pc' := 313) rfl (hb hby at_288) (by decide) (by decide) ?_
            show Steps p.tables e below (T13.setTop (mkF m 313 #[.val (.int p1), .val (.int p2), .val (.int p3), .val (.int vr), .val (.int (0 : Int32)), .val (.int (1 : Int32)), .val (.int (0 : Int32)), .val (.int vc), .val (.int n1), .val (.int n2), .val (.int x0), .val (.int x1), .val (.int y0), .val (.int y1), .val .null, .val (.ref sb10), .val (.ref b11), .val (.int (if vr = (0 : Int32) then (0 : Int32) else (0 : Int32))), .val (.int rf), .val (.int (0 : Int32))] [])) _
            first | exact kt | (simp only [if_neg hq257]; exact kt)
        show Goes p e below _ T13 (mkF m 313 #[.val (.int p1), .val (.int p2), .val (.int p3), .val (.int vr), .val (.int (0 : Int32)), .val (.int (1 : Int32)), .val (.int (0 : Int32)), .val (.int vc), .val (.int n1), .val (.int n2), .val (.int x0), .val (.int x1), .val (.int y0), .val (.int y1), .val .null, .val (.ref sb10), .val (.ref b11), .val (.int (if vr = (0 : Int32) then (0 : Int32) else (0 : Int32))), .val (.int rf), .val (.int (0 : Int32))] [])
        refine Goes.of (fun _ => XS.iload X13.here hx rfl (hb hby at_313) rfl) ?_
        show Goes p e below _ T13 (mkF m 315 #[.val (.int p1), .val (.int p2), .val (.int p3), .val (.int vr), .val (.int (0 : Int32)), .val (.int (1 : Int32)), .val (.int (0 : Int32)), .val (.int vc), .val (.int n1), .val (.int n2), .val (.int x0), .val (.int x1), .val (.int y0), .val (.int y1), .val .null, .val (.ref sb10), .val (.ref b11), .val (.int (if vr = (0 : Int32) then (0 : Int32) else (0 : Int32))), .val (.int rf), .val (.int (0 : Int32))] [(.int (if vr = (0 : Int32) then (0 : Int32) else (0 : Int32)))])
        refine Goes.of (fun _ => XS.iload X13.here hx rfl (hb hby at_315) rfl) ?_
        show Goes p e below _ T13 (mkF m 317 #[.val (.int p1), .val (.int p2), .val (.int p3), .val (.int vr), .val (.int (0 : Int32)), .val (.int (1 : Int32)), .val (.int (0 : Int32)), .val (.int vc), .val (.int n1), .val (.int n2), .val (.int x0), .val (.int x1), .val (.int y0), .val (.int y1), .val .null, .val (.ref sb10), .val (.ref b11), .val (.int (if vr = (0 : Int32) then (0 : Int32) else (0 : Int32))), .val (.int rf), .val (.int (0 : Int32))] [(.int (0 : Int32)), (.int (if vr = (0 : Int32) then (0 : Int32) else (0 : Int32)))])
        refine Goes.of (fun _ => XS.icmpNo X13.here hx rfl (hb hby at_317) rfl (teq (by first | rfl | (split <;> rfl) | (rw [eq_fin n1 n2 x0 x1 y0 y1 hn1 hn2, erf]; done) | (simp only [eq_fin n1 n2 x0 x1 y0 y1 hn1 hn2, erf]; done))).2) ?_
        show Goes p e below _ T13 (mkF m 320 #[.val (.int p1), .val (.int p2), .val (.int p3), .val (.int vr), .val (.int (0 : Int32)), .val (.int (1 : Int32)), .val (.int (0 : Int32)), .val (.int vc), .val (.int n1), .val (.int n2), .val (.int x0), .val (.int x1), .val (.int y0), .val (.int y1), .val .null, .val (.ref sb10), .val (.ref b11), .val (.int (if vr = (0 : Int32) then (0 : Int32) else (0 : Int32))), .val (.int rf), .val (.int (0 : Int32))] [])
        refine Goes.of (fun _ => XS.iconst X13.here hx rfl (hb hby at_320)) ?_
        show Goes p e below _ T13 (mkF m 321 #[.val (.int p1), .val (.int p2), .val (.int p3), .val (.int vr), .val (.int (0 : Int32)), .val (.int (1 : Int32)), .val (.int (0 : Int32)), .val (.int vc), .val (.int n1), .val (.int n2), .val (.int x0), .val (.int x1), .val (.int y0), .val (.int y1), .val .null, .val (.ref sb10), .val (.ref b11), .val (.int (if vr = (0 : Int32) then (0 : Int32) else (0 : Int32))), .val (.int rf), .val (.int (0 : Int32))] [(.int (1 : Int32))])
        refine Goes.of (fun _ => XS.goto X13.here hx rfl (pc0 := 321) (pc' := 325) rfl (hb hby at_321) (by decide) (by decide)) ?_
        show Goes p e below _ T13 (mkF m 325 #[.val (.int p1), .val (.int p2), .val (.int p3), .val (.int vr), .val (.int (0 : Int32)), .val (.int (1 : Int32)), .val (.int (0 : Int32)), .val (.int vc), .val (.int n1), .val (.int n2), .val (.int x0), .val (.int x1), .val (.int y0), .val (.int y1), .val .null, .val (.ref sb10), .val (.ref b11), .val (.int (if vr = (0 : Int32) then (0 : Int32) else (0 : Int32))), .val (.int rf), .val (.int (0 : Int32))] [(.int (1 : Int32))])
        exact retZW (t := .boolean) X13 hS hk hZ hEL HC hx hret hlk (by simp) (hb hby at_325) eT13 (by decide) (by decide) ⟨rfl, N13⟩
      · show Goes p e below _ T (mkF m 153 #[.val (.int p1), .val (.int p2), .val (.int p3), .val (.int vr), .val (.int (0 : Int32)), .val (.int (1 : Int32)), .val (.int (1 : Int32)), .val (.int vc), .val (.int n1), .val (.int n2), .val (.int x0), .val (.int x1), .val (.int y0), .val (.int y1), .unset, .unset, .unset, .unset, .unset, .unset] [])
        refine Goes.of (fun _ => XS.iload X.here hx rfl (hb hby at_153) rfl) ?_
        show Goes p e below _ T (mkF m 155 #[.val (.int p1), .val (.int p2), .val (.int p3), .val (.int vr), .val (.int (0 : Int32)), .val (.int (1 : Int32)), .val (.int (1 : Int32)), .val (.int vc), .val (.int n1), .val (.int n2), .val (.int x0), .val (.int x1), .val (.int y0), .val (.int y1), .unset, .unset, .unset, .unset, .unset, .unset] [(.int (1 : Int32))])
        refine Goes.of (fun _ => XS.ifNo X.here hx rfl (hb hby at_155) rfl ((if0 _ _).trans (feq (by decide)).1)) ?_
        show Goes p e below _ T (mkF m 158 #[.val (.int p1), .val (.int p2), .val (.int p3), .val (.int vr), .val (.int (0 : Int32)), .val (.int (1 : Int32)), .val (.int (1 : Int32)), .val (.int vc), .val (.int n1), .val (.int n2), .val (.int x0), .val (.int x1), .val (.int y0), .val (.int y1), .unset, .unset, .unset, .unset, .unset, .unset] [])
        refine Goes.of (fun _ => XS.aconstNull X.here hx rfl (hb hby at_158)) ?_
        show Goes p e below _ T (mkF m 159 #[.val (.int p1), .val (.int p2), .val (.int p3), .val (.int vr), .val (.int (0 : Int32)), .val (.int (1 : Int32)), .val (.int (1 : Int32)), .val (.int vc), .val (.int n1), .val (.int n2), .val (.int x0), .val (.int x1), .val (.int y0), .val (.int y1), .unset, .unset, .unset, .unset, .unset, .unset] [.null])
        refine Goes.of (fun _ => XS.goto X.here hx rfl (pc0 := 159) (pc' := 171) rfl (hb hby at_159) (by decide) (by decide)) ?_
        show Goes p e below _ T (mkF m 171 #[.val (.int p1), .val (.int p2), .val (.int p3), .val (.int vr), .val (.int (0 : Int32)), .val (.int (1 : Int32)), .val (.int (1 : Int32)), .val (.int vc), .val (.int n1), .val (.int n2), .val (.int x0), .val (.int x1), .val (.int y0), .val (.int y1), .unset, .unset, .unset, .unset, .unset, .unset] [.null])
        refine Goes.of (fun _ => XS.astore X.here hx rfl (hb hby at_171) rfl rfl (l' := #[.val (.int p1), .val (.int p2), .val (.int p3), .val (.int vr), .val (.int (0 : Int32)), .val (.int (1 : Int32)), .val (.int (1 : Int32)), .val (.int vc), .val (.int n1), .val (.int n2), .val (.int x0), .val (.int x1), .val (.int y0), .val (.int y1), .val .null, .unset, .unset, .unset, .unset, .unset]) rfl) ?_
        show Goes p e below _ T (mkF m 173 #[.val (.int p1), .val (.int p2), .val (.int p3), .val (.int vr), .val (.int (0 : Int32)), .val (.int (1 : Int32)), .val (.int (1 : Int32)), .val (.int vc), .val (.int n1), .val (.int n2), .val (.int x0), .val (.int x1), .val (.int y0), .val (.int y1), .val .null, .unset, .unset, .unset, .unset, .unset] [])
        refine Goes.of (fun _ => XS.iload X.here hx rfl (hb hby at_173) rfl) ?_
        show Goes p e below _ T (mkF m 175 #[.val (.int p1), .val (.int p2), .val (.int p3), .val (.int vr), .val (.int (0 : Int32)), .val (.int (1 : Int32)), .val (.int (1 : Int32)), .val (.int vc), .val (.int n1), .val (.int n2), .val (.int x0), .val (.int x1), .val (.int y0), .val (.int y1), .val .null, .unset, .unset, .unset, .unset, .unset] [(.int (1 : Int32))])
        refine Goes.of (fun _ => XS.ifNo X.here hx rfl (hb hby at_175) rfl ((if0 _ _).trans (feq (by decide)).1)) ?_
        show Goes p e below _ T (mkF m 178 #[.val (.int p1), .val (.int p2), .val (.int p3), .val (.int vr), .val (.int (0 : Int32)), .val (.int (1 : Int32)), .val (.int (1 : Int32)), .val (.int vc), .val (.int n1), .val (.int n2), .val (.int x0), .val (.int x1), .val (.int y0), .val (.int y1), .val .null, .unset, .unset, .unset, .unset, .unset] [])
        refine Goes.of (fun _ => XS.aconstNull X.here hx rfl (hb hby at_178)) ?_
        show Goes p e below _ T (mkF m 179 #[.val (.int p1), .val (.int p2), .val (.int p3), .val (.int vr), .val (.int (0 : Int32)), .val (.int (1 : Int32)), .val (.int (1 : Int32)), .val (.int vc), .val (.int n1), .val (.int n2), .val (.int x0), .val (.int x1), .val (.int y0), .val (.int y1), .val .null, .unset, .unset, .unset, .unset, .unset] [.null])
        refine Goes.of (fun _ => XS.goto X.here hx rfl (pc0 := 179) (pc' := 191) rfl (hb hby at_179) (by decide) (by decide)) ?_
        show Goes p e below _ T (mkF m 191 #[.val (.int p1), .val (.int p2), .val (.int p3), .val (.int vr), .val (.int (0 : Int32)), .val (.int (1 : Int32)), .val (.int (1 : Int32)), .val (.int vc), .val (.int n1), .val (.int n2), .val (.int x0), .val (.int x1), .val (.int y0), .val (.int y1), .val .null, .unset, .unset, .unset, .unset, .unset] [.null])
        refine Goes.of (fun _ => XS.astore X.here hx rfl (hb hby at_191) rfl rfl (l' := #[.val (.int p1), .val (.int p2), .val (.int p3), .val (.int vr), .val (.int (0 : Int32)), .val (.int (1 : Int32)), .val (.int (1 : Int32)), .val (.int vc), .val (.int n1), .val (.int n2), .val (.int x0), .val (.int x1), .val (.int y0), .val (.int y1), .val .null, .val .null, .unset, .unset, .unset, .unset]) rfl) ?_
        show Goes p e below _ T (mkF m 193 #[.val (.int p1), .val (.int p2), .val (.int p3), .val (.int vr), .val (.int (0 : Int32)), .val (.int (1 : Int32)), .val (.int (1 : Int32)), .val (.int vc), .val (.int n1), .val (.int n2), .val (.int x0), .val (.int x1), .val (.int y0), .val (.int y1), .val .null, .val .null, .unset, .unset, .unset, .unset] [])
        refine goNew X hx hZ hown (hw _ (List.mem_of_getElem? (i := 26) rfl)) (hw _ (List.mem_of_getElem? (i := 27) rfl)) (hw _ (List.mem_of_getElem? (i := 28) rfl)) eT0 (g := (mkF m 193 #[.val (.int p1), .val (.int p2), .val (.int p3), .val (.int vr), .val (.int (0 : Int32)), .val (.int (1 : Int32)), .val (.int (1 : Int32)), .val (.int vc), .val (.int n1), .val (.int n2), .val (.int x0), .val (.int x1), .val (.int y0), .val (.int y1), .val .null, .val .null, .unset, .unset, .unset, .unset] [])) rfl (hb hby at_193) (by decide) (by decide) ?_
        intro T14 h14 b14 X14 eT14 E14 hb14 A14 D14
        have g_b14 : n0 ≤ b14 := Nat.le_trans (oldLe O0) hb14
        have hk := Nat.le_trans hk E14.1
        have HC := HC.trans (CHr.ext E14 HC.1)
        have O0 := O0.ext E14
        have F14_id : Fld Z h14 b14 "com/example/latchwork/latchwork/store/RedisRun$Origin" "id" "Ljava/lang/String;" .null := D14 (Or.inr (hw _ (List.mem_of_getElem? (i := 39) rfl))) (ty := (.object "java/lang/String")) (by decide)
        have F14_wroteEveryChange : Fld Z h14 b14 "com/example/latchwork/latchwork/store/RedisRun$Origin" "wroteEveryChange" "Z" (.int (0 : Int32)) := D14 (Or.inr (hw _ (List.mem_of_getElem? (i := 41) rfl))) (ty := .boolean) (by decide)
        show Goes p e below _ T14 (mkF m 196 #[.val (.int p1), .val (.int p2), .val (.int p3), .val (.int vr), .val (.int (0 : Int32)), .val (.int (1 : Int32)), .val (.int (1 : Int32)), .val (.int vc), .val (.int n1), .val (.int n2), .val (.int x0), .val (.int x1), .val (.int y0), .val (.int y1), .val .null, .val .null, .unset, .unset, .unset, .unset] [(.ref b14)])
        refine Goes.of (fun _ => XS.dup X14.here hx rfl (hb hby at_196) rfl rfl) ?_
        show Goes p e below _ T14 (mkF m 197 #[.val (.int p1), .val (.int p2), .val (.int p3), .val (.int vr), .val (.int (0 : Int32)), .val (.int (1 : Int32)), .val (.int (1 : Int32)), .val (.int vc), .val (.int n1), .val (.int n2), .val (.int x0), .val (.int x1), .val (.int y0), .val (.int y1), .val .null, .val .null, .unset, .unset, .unset, .unset] [(.ref b14), (.ref b14)])
        refine Goes.of (fun _ => XS.aload X14.here hx rfl (hb hby at_197) rfl rfl) ?_
        show Goes p e below _ T14 (mkF m 199 #[.val (.int p1), .val (.int p2), .val (.int p3), .val (.int vr), .val (.int (0 : Int32)), .val (.int (1 : Int32)), .val (.int (1 : Int32)), .val (.int vc), .val (.int n1), .val (.int n2), .val (.int x0), .val (.int x1), .val (.int y0), .val (.int y1), .val .null, .val .null, .unset, .unset, .unset, .unset] [.null, (.ref b14), (.ref b14)])
        refine Goes.of (fun _ => XS.iload X14.here hx rfl (hb hby at_199) rfl) ?_
        show Goes p e below _ T14 (mkF m 201 #[.val (.int p1), .val (.int p2), .val (.int p3), .val (.int vr), .val (.int (0 : Int32)), .val (.int (1 : Int32)), .val (.int (1 : Int32)), .val (.int vc), .val (.int n1), .val (.int n2), .val (.int x0), .val (.int x1), .val (.int y0), .val (.int y1), .val .null, .val .null, .unset, .unset, .unset, .unset] [(.int (0 : Int32)), .null, (.ref b14), (.ref b14)])
        have Sf_b14 : Safe Z EL _ h14 b14 := Safe.exa hZ.alike A14 (by decide) (by decide)
        refine goSpecial 1 X14 hx hZ rfl hown (hw _ (List.mem_of_getElem? (i := 29) rfl)) (hw _ (List.mem_of_getElem? (i := 30) rfl)) (hw _ (List.mem_of_getElem? (i := 28) rfl)) (hw _ (List.mem_of_getElem? (i := 31) rfl)) (by decide) (rm_init10 l Z a0 hw b14  h14 n0 O0 g_b14 A14 F14_id F14_wroteEveryChange) eT14 (g := (mkF m 201 #[.val (.int p1), .val (.int p2), .val (.int p3), .val (.int vr), .val (.int (0 : Int32)), .val (.int (1 : Int32)), .val (.int (1 : Int32)), .val (.int vc), .val (.int n1), .val (.int n2), .val (.int x0), .val (.int x1), .val (.int y0), .val (.int y1), .val .null, .val .null, .unset, .unset, .unset, .unset] [(.int (0 : Int32)), .null, (.ref b14), (.ref b14)])) rfl (by rw [hml]; rfl) b14 [.null, (.int (0 : Int32))] [(.ref b14)] (lenOf pd__Ljava_lang_String_Z_V rfl) rfl rfl (by show 2 * 0 + _ ≤ _; exact Nat.le_of_eq rfl) (hb hby at_201) (by decide) (by decide) (by decide) (by decide) ?_
        intro v15 T15 L15 X15 q15
        obtain ⟨rfl, Nq15, Kq15, H0_15, H1_15⟩ := q15
        have N15 := Fr.app N0 Nq15
        have A14 := A14.keep Kq15
        have HC := HC.trans (CHr.keep Kq15 (sfS Sf_b14 sf0) HC.1)
        have hk := Nat.le_trans hk Kq15.1
        have O0 := O0.keep Kq15 (allS g_b14 all0)
        show Goes p e below _ T15 (mkF m 204 #[.val (.int p1), .val (.int p2), .val (.int p3), .val (.int vr), .val (.int (0 : Int32)), .val (.int (1 : Int32)), .val (.int (1 : Int32)), .val (.int vc), .val (.int n1), .val (.int n2), .val (.int x0), .val (.int x1), .val (.int y0), .val (.int y1), .val .null, .val .null, .unset, .unset, .unset, .unset] [(.ref b14)])
        refine Goes.of (fun _ => XS.astore X15.here hx rfl (hb hby at_204) rfl rfl (l' := #[.val (.int p1), .val (.int p2), .val (.int p3), .val (.int vr), .val (.int (0 : Int32)), .val (.int (1 : Int32)), .val (.int (1 : Int32)), .val (.int vc), .val (.int n1), .val (.int n2), .val (.int x0), .val (.int x1), .val (.int y0), .val (.int y1), .val .null, .val .null, .val (.ref b14), .unset, .unset, .unset]) rfl) ?_
        show Goes p e below _ T15 (mkF m 206 #[.val (.int p1), .val (.int p2), .val (.int p3), .val (.int vr), .val (.int (0 : Int32)), .val (.int (1 : Int32)), .val (.int (1 : Int32)), .val (.int vc), .val (.int n1), .val (.int n2), .val (.int x0), .val (.int x1), .val (.int y0), .val (.int y1), .val .null, .val .null, .val (.ref b14), .unset, .unset, .unset] [])
        refine Goes.of (fun _ => XS.aload X15.here hx rfl (hb hby at_206) rfl rfl) ?_
        show Goes p e below _ T15 (mkF m 208 #[.val (.int p1), .val (.int p2), .val (.int p3), .val (.int vr), .val (.int (0 : Int32)), .val (.int (1 : Int32)), .val (.int (1 : Int32)), .val (.int vc), .val (.int n1), .val (.int n2), .val (.int x0), .val (.int x1), .val (.int y0), .val (.int y1), .val .null, .val .null, .val (.ref b14), .unset, .unset, .unset] [.null])
        refine Goes.of (fun _ => XS.aload X15.here hx rfl (hb hby at_208) rfl rfl) ?_
        show Goes p e below _ T15 (mkF m 210 #[.val (.int p1), .val (.int p2), .val (.int p3), .val (.int vr), .val (.int (0 : Int32)), .val (.int (1 : Int32)), .val (.int (1 : Int32)), .val (.int vc), .val (.int n1), .val (.int n2), .val (.int x0), .val (.int x1), .val (.int y0), .val (.int y1), .val .null, .val .null, .val (.ref b14), .unset, .unset, .unset] [(.ref b14), .null])
        refine Goes.of (fun _ => XS.iloadN X15.here hx rfl (hb hby at_210) rfl) ?_
        show Goes p e below _ T15 (mkF m 211 #[.val (.int p1), .val (.int p2), .val (.int p3), .val (.int vr), .val (.int (0 : Int32)), .val (.int (1 : Int32)), .val (.int (1 : Int32)), .val (.int vc), .val (.int n1), .val (.int n2), .val (.int x0), .val (.int x1), .val (.int y0), .val (.int y1), .val .null, .val .null, .val (.ref b14), .unset, .unset, .unset] [(.int vr), (.ref b14), .null])
        refine goStatic 0 X15 hx hZ hown (hw _ (List.mem_of_getElem? (i := 42) rfl)) (hw _ (List.mem_of_getElem? (i := 43) rfl)) (hw _ (List.mem_of_getElem? (i := 44) rfl)) (hw _ (List.mem_of_getElem? (i := 45) rfl)) (by decide) (rm_kept110 l Z a0 hw b14   vr [] [] cz T15.heap n0 O0 Sc hcz A14 H0_15 H1_15  ) (rfl : T15.heap = _) (g := (mkF m 211 #[.val (.int p1), .val (.int p2), .val (.int p3), .val (.int vr), .val (.int (0 : Int32)), .val (.int (1 : Int32)), .val (.int (1 : Int32)), .val (.int vc), .val (.int n1), .val (.int n2), .val (.int x0), .val (.int x1), .val (.int y0), .val (.int y1), .val .null, .val .null, .val (.ref b14), .unset, .unset, .unset] [(.int vr), (.ref b14), .null])) rfl (by rw [hml]; rfl) [.null, (.ref b14), (.int vr)] [] (lenOf pd__Ljava_lang_String_Lcom_example_latchwork_latchwork_store_RedisRun_Origin_Z_Z rfl) rfl rfl (by show 2 * 0 + _ ≤ _; exact Nat.le_of_eq rfl) (hb hby at_211) (by decide) (by decide) (by decide) (by decide) ?_
        intro v16 T16 L16 X16 q16
        obtain ⟨rfl, Nq16, eT16⟩ := q16
        have N16 := Fr.app N15 Nq16
        show Goes p e below _ T16 (mkF m 214 #[.val (.int p1), .val (.int p2), .val (.int p3), .val (.int vr), .val (.int (0 : Int32)), .val (.int (1 : Int32)), .val (.int (1 : Int32)), .val (.int vc), .val (.int n1), .val (.int n2), .val (.int x0), .val (.int x1), .val (.int y0), .val (.int y1), .val .null, .val .null, .val (.ref b14), .unset, .unset, .unset] [(.int (if vr = (0 : Int32) then (0 : Int32) else (1 : Int32)))])
        refine Goes.of (fun _ => XS.istore X16.here hx rfl (hb hby at_214) rfl (l' := #[.val (.int p1), .val (.int p2), .val (.int p3), .val (.int vr), .val (.int (0 : Int32)), .val (.int (1 : Int32)), .val (.int (1 : Int32)), .val (.int vc), .val (.int n1), .val (.int n2), .val (.int x0), .val (.int x1), .val (.int y0), .val (.int y1), .val .null, .val .null, .val (.ref b14), .val (.int (if vr = (0 : Int32) then (0 : Int32) else (1 : Int32))), .unset, .unset]) rfl) ?_
        show Goes p e below _ T16 (mkF m 216 #[.val (.int p1), .val (.int p2), .val (.int p3), .val (.int vr), .val (.int (0 : Int32)), .val (.int (1 : Int32)), .val (.int (1 : Int32)), .val (.int vc), .val (.int n1), .val (.int n2), .val (.int x0), .val (.int x1), .val (.int y0), .val (.int y1), .val .null, .val .null, .val (.ref b14), .val (.int (if vr = (0 : Int32) then (0 : Int32) else (1 : Int32))), .unset, .unset] [])
        refine Goes.of (fun _ => XS.iload X16.here hx rfl (hb hby at_216) rfl) ?_
        show Goes p e below _ T16 (mkF m 218 #[.val (.int p1), .val (.int p2), .val (.int p3), .val (.int vr), .val (.int (0 : Int32)), .val (.int (1 : Int32)), .val (.int (1 : Int32)), .val (.int vc), .val (.int n1), .val (.int n2), .val (.int x0), .val (.int x1), .val (.int y0), .val (.int y1), .val .null, .val .null, .val (.ref b14), .val (.int (if vr = (0 : Int32) then (0 : Int32) else (1 : Int32))), .unset, .unset] [(.int n1)])
        refine Goes.of (fun _ => XS.iload X16.here hx rfl (hb hby at_218) rfl) ?_
        show Goes p e below _ T16 (mkF m 220 #[.val (.int p1), .val (.int p2), .val (.int p3), .val (.int vr), .val (.int (0 : Int32)), .val (.int (1 : Int32)), .val (.int (1 : Int32)), .val (.int vc), .val (.int n1), .val (.int n2), .val (.int x0), .val (.int x1), .val (.int y0), .val (.int y1), .val .null, .val .null, .val (.ref b14), .val (.int (if vr = (0 : Int32) then (0 : Int32) else (1 : Int32))), .unset, .unset] [(.int n2), (.int n1)])
        refine Goes.of (T' := T16) (f' := (mkF m 254 #[.val (.int p1), .val (.int p2), .val (.int p3), .val (.int vr), .val (.int (0 : Int32)), .val (.int (1 : Int32)), .val (.int (1 : Int32)), .val (.int vc), .val (.int n1), .val (.int n2), .val (.int x0), .val (.int x1), .val (.int y0), .val (.int y1), .val .null, .val .null, .val (.ref b14), .val (.int (if vr = (0 : Int32) then (0 : Int32) else (1 : Int32))), .unset, .unset] [(.int (if n1 = n2 then (if n1 < (1 : Int32) then (if n1 < (2 : Int32) then (1 : Int32) else (if x1 = y1 then (1 : Int32) else (0 : Int32))) else (if x0 = y0 then (if n1 < (2 : Int32) then (1 : Int32) else (if x1 = y1 then (1 : Int32) else (0 : Int32))) else (0 : Int32))) else (0 : Int32)))])) (fun t kt => ?_) ?_
        · show Steps p.tables e below (T16.setTop (mkF m 220 #[.val (.int p1), .val (.int p2), .val (.int p3), .val (.int vr), .val (.int (0 : Int32)), .val (.int (1 : Int32)), .val (.int (1 : Int32)), .val (.int vc), .val (.int n1), .val (.int n2), .val (.int x0), .val (.int x1), .val (.int y0), .val (.int y1), .val .null, .val .null, .val (.ref b14), .val (.int (if vr = (0 : Int32) then (0 : Int32) else (1 : Int32))), .unset, .unset] [(.int n2), (.int n1)])) _
          by_cases hq220 : n1 = n2
          · simp only [if_pos hq220] at kt
            refine XS.icmpNo X16.here hx rfl (hb hby at_220) rfl (teq hq220).2 ?_
            show Steps p.tables e below (T16.setTop (mkF m 223 #[.val (.int p1), .val (.int p2), .val (.int p3), .val (.int vr), .val (.int (0 : Int32)), .val (.int (1 : Int32)), .val (.int (1 : Int32)), .val (.int vc), .val (.int n1), .val (.int n2), .val (.int x0), .val (.int x1), .val (.int y0), .val (.int y1), .val .null, .val .null, .val (.ref b14), .val (.int (if vr = (0 : Int32) then (0 : Int32) else (1 : Int32))), .unset, .unset] [])) _
            refine XS.iload X16.here hx rfl (hb hby at_223) rfl ?_
            show Steps p.tables e below (T16.setTop (mkF m 225 #[.val (.int p1), .val (.int p2), .val (.int p3), .val (.int vr), .val (.int (0 : Int32)), .val (.int (1 : Int32)), .val (.int (1 : Int32)), .val (.int vc), .val (.int n1), .val (.int n2), .val (.int x0), .val (.int x1), .val (.int y0), .val (.int y1), .val .null, .val .null, .val (.ref b14), .val (.int (if vr = (0 : Int32) then (0 : Int32) else (1 : Int32))), .unset, .unset] [(.int n1)])) _
            refine XS.iconst X16.here hx rfl (hb hby at_225) ?_
            show Steps p.tables e below (T16.setTop (mkF m 226 #[.val (.int p1), .val (.int p2), .val (.int p3), .val (.int vr), .val (.int (0 : Int32)), .val (.int (1 : Int32)), .val (.int (1 : Int32)), .val (.int vc), .val (.int n1), .val (.int n2), .val (.int x0), .val (.int x1), .val (.int y0), .val (.int y1), .val .null, .val .null, .val (.ref b14), .val (.int (if vr = (0 : Int32) then (0 : Int32) else (1 : Int32))), .unset, .unset] [(.int (1 : Int32)), (.int n1)])) _
            by_cases hq226 : n1 < (1 : Int32)
            · simp only [if_pos hq226] at kt
              refine XS.icmpYes X16.here hx rfl (pc0 := 226) (pc' := 236) rfl (hb hby at_226) rfl (tlt hq226).1 (by decide) (by decide) ?_
              show Steps p.tables e below (T16.setTop (mkF m 236 #[.val (.int p1), .val (.int p2), .val (.int p3), .val (.int vr), .val (.int (0 : Int32)), .val (.int (1 : Int32)), .val (.int (1 : Int32)), .val (.int vc), .val (.int n1), .val (.int n2), .val (.int x0), .val (.int x1), .val (.int y0), .val (.int y1), .val .null, .val .null, .val (.ref b14), .val (.int (if vr = (0 : Int32) then (0 : Int32) else (1 : Int32))), .unset, .unset] [])) _
              refine XS.iload X16.here hx rfl (hb hby at_236) rfl ?_
              show Steps p.tables e below (T16.setTop (mkF m 238 #[.val (.int p1), .val (.int p2), .val (.int p3), .val (.int vr), .val (.int (0 : Int32)), .val (.int (1 : Int32)), .val (.int (1 : Int32)), .val (.int vc), .val (.int n1), .val (.int n2), .val (.int x0), .val (.int x1), .val (.int y0), .val (.int y1), .val .null, .val .null, .val (.ref b14), .val (.int (if vr = (0 : Int32) then (0 : Int32) else (1 : Int32))), .unset, .unset] [(.int n1)])) _
              refine XS.iconst X16.here hx rfl (hb hby at_238) ?_
              show Steps p.tables e below (T16.setTop (mkF m 239 #[.val (.int p1), .val (.int p2), .val (.int p3), .val (.int vr), .val (.int (0 : Int32)), .val (.int (1 : Int32)), .val (.int (1 : Int32)), .val (.int vc), .val (.int n1), .val (.int n2), .val (.int x0), .val (.int x1), .val (.int y0), .val (.int y1), .val .null, .val .null, .val (.ref b14), .val (.int (if vr = (0 : Int32) then (0 : Int32) else (1 : Int32))), .unset, .unset] [(.int (2 : Int32)), (.int n1)])) _
              by_cases hq239 : n1 < (2 : Int32)
              · simp only [if_pos hq239] at kt
                refine XS.icmpYes X16.here hx rfl (pc0 := 239) (pc' := 249) rfl (hb hby at_239) rfl (tlt hq239).1 (by decide) (by decide) ?_
                show Steps p.tables e below (T16.setTop (mkF m 249 #[.val (.int p1), .val (.int p2), .val (.int p3), .val (.int vr), .val (.int (0 : Int32)), .val (.int (1 : Int32)), .val (.int (1 : Int32)), .val (.int vc), .val (.int n1), .val (.int n2), .val (.int x0), .val (.int x1), .val (.int y0), .val (.int y1), .val .null, .val .null, .val (.ref b14), .val (.int (if vr = (0 : Int32) then (0 : Int32) else (1 : Int32))), .unset, .unset] [])) _
                refine XS.iconst X16.here hx rfl (hb hby at_249) ?_
                show Steps p.tables e below (T16.setTop (mkF m 250 #[.val (.int p1), .val (.int p2), .val (.int p3), .val (.int vr), .val (.int (0 : Int32)), .val (.int (1 : Int32)), .val (.int (1 : Int32)), .val (.int vc), .val (.int n1), .val (.int n2), .val (.int x0), .val (.int x1), .val (.int y0), .val (.int y1), .val .null, .val .null, .val (.ref b14), .val (.int (if vr = (0 : Int32) then (0 : Int32) else (1 : Int32))), .unset, .unset] [(.int (1 : Int32))])) _
                refine XS.goto X16.here hx rfl (pc0 := 250) (pc' := 254) rfl (hb hby at_250) (by decide) (by decide) ?_
                show Steps p.tables e below (T16.setTop (mkF m 254 #[.val (.int p1), .val (.int p2), .val (.int p3), .val (.int vr), .val (.int (0 : Int32)), .val (.int (1 : Int32)), .val (.int (1 : Int32)), .val (.int vc), .val (.int n1), .val (.int n2), .val (.int x0), .val (.int x1), .val (.int y0), .val (.int y1), .val .null, .val .null, .val (.ref b14), .val (.int (if vr = (0 : Int32) then (0 : Int32) else (1 : Int32))), .unset, .unset] [(.int (1 : Int32))])) _
                first | exact kt | (simp only [if_pos hq220, if_pos hq226, if_pos hq239]; exact kt)
              · simp only [if_neg hq239] at kt
                refine XS.icmpNo X16.here hx rfl (hb hby at_239) rfl (flt hq239).1 ?_
                show Steps p.tables e below (T16.setTop (mkF m 242 #[.val (.int p1), .val (.int p2), .val (.int p3), .val (.int vr), .val (.int (0 : Int32)), .val (.int (1 : Int32)), .val (.int (1 : Int32)), .val (.int vc), .val (.int n1), .val (.int n2), .val (.int x0), .val (.int x1), .val (.int y0), .val (.int y1), .val .null, .val .null, .val (.ref b14), .val (.int (if vr = (0 : Int32) then (0 : Int32) else (1 : Int32))), .unset, .unset] [])) _
                refine XS.iload X16.here hx rfl (hb hby at_242) rfl ?_
                show Steps p.tables e below (T16.setTop (mkF m 244 #[.val (.int p1), .val (.int p2), .val (.int p3), .val (.int vr), .val (.int (0 : Int32)), .val (.int (1 : Int32)), .val (.int (1 : Int32)), .val (.int vc), .val (.int n1), .val (.int n2), .val (.int x0), .val (.int x1), .val (.int y0), .val (.int y1), .val .null, .val .null, .val (.ref b14), .val (.int (if vr = (0 : Int32) then (0 : Int32) else (1 : Int32))), .unset, .unset] [(.int x1)])) _
                refine XS.iload X16.here hx rfl (hb hby at_244) rfl ?_
                show Steps p.tables e below (T16.setTop (mkF m 246 #[.val (.int p1), .val (.int p2), .val (.int p3), .val (.int vr), .val (.int (0 : Int32)), .val (.int (1 : Int32)), .val (.int (1 : Int32)), .val (.int vc), .val (.int n1), .val (.int n2), .val (.int x0), .val (.int x1), .val (.int y0), .val (.int y1), .val .null, .val .null, .val (.ref b14), .val (.int (if vr = (0 : Int32) then (0 : Int32) else (1 : Int32))), .unset, .unset] [(.int y1), (.int x1)])) _
                by_cases hq246 : x1 = y1
                · simp only [if_pos hq246] at kt
                  refine XS.icmpNo X16.here hx rfl (hb hby at_246) rfl (teq hq246).2 ?_
                  show Steps p.tables e below (T16.setTop (mkF m 249 #[.val (.int p1), .val (.int p2), .val (.int p3), .val (.int vr), .val (.int (0 : Int32)), .val (.int (1 : Int32)), .val (.int (1 : Int32)), .val (.int vc), .val (.int n1), .val (.int n2), .val (.int x0), .val (.int x1), .val (.int y0), .val (.int y1), .val .null, .val .null, .val (.ref b14), .val (.int (if vr = (0 : Int32) then (0 : Int32) else (1 : Int32))), .unset, .unset] [])) _
                  refine XS.iconst X16.here hx rfl (hb hby at_249) ?_
                  show Steps p.tables e below (T16.setTop (mkF m 250 #[.val (.int p1), .val (.int p2), .val (.int p3), .val (.int vr), .val (.int (0 : Int32)), .val (.int (1 : Int32)), .val (.int (1 : Int32)), .val (.int vc), .val (.int n1), .val (.int n2), .val (.int x0), .val (.int x1), .val (.int y0), .val (.int y1), .val .null, .val .null, .val (.ref b14), .val (.int (if vr = (0 : Int32) then (0 : Int32) else (1 : Int32))), .unset, .unset] [(.int (1 : Int32))])) _
                  refine XS.goto X16.here hx rfl (pc0 := 250) (pc' := 254) rfl (hb hby at_250) (by decide) (by decide) ?_
                  show Steps p.tables e below (T16.setTop (mkF m 254 #[.val (.int p1), .val (.int p2), .val (.int p3), .val (.int vr), .val (.int (0 : Int32)), .val (.int (1 : Int32)), .val (.int (1 : Int32)), .val (.int vc), .val (.int n1), .val (.int n2), .val (.int x0), .val (.int x1), .val (.int y0), .val (.int y1), .val .null, .val .null, .val (.ref b14), .val (.int (if vr = (0 : Int32) then (0 : Int32) else (1 : Int32))), .unset, .unset] [(.int (1 : Int32))])) _
                  first | exact kt | (simp only [if_pos hq220, if_pos hq226, if_neg hq239, if_pos hq246]; exact kt)
                · simp only [if_neg hq246] at kt
                  refine XS.icmpYes X16.here hx rfl (pc0 := 246) (pc' := 253) rfl (hb hby at_246) rfl (feq hq246).2 (by decide) (by decide) ?_
                  show Steps p.tables e below (T16.setTop (mkF m 253 #[.val (.int p1), .val (.int p2), .val (.int p3), .val (.int vr), .val (.int (0 : Int32)), .val (.int (1 : Int32)), .val (.int (1 : Int32)), .val (.int vc), .val (.int n1), .val (.int n2), .val (.int x0), .val (.int x1), .val (.int y0), .val (.int y1), .val .null, .val .null, .val (.ref b14), .val (.int (if vr = (0 : Int32) then (0 : Int32) else (1 : Int32))), .unset, .unset] [])) _
                  refine XS.iconst X16.here hx rfl (hb hby at_253) ?_
                  show Steps p.tables e below (T16.setTop (mkF m 254 #[.val (.int p1), .val (.int p2), .val (.int p3), .val (.int vr), .val (.int (0 : Int32)), .val (.int (1 : Int32)), .val (.int (1 : Int32)), .val (.int vc), .val (.int n1), .val (.int n2), .val (.int x0), .val (.int x1), .val (.int y0), .val (.int y1), .val .null, .val .null, .val (.ref b14), .val (.int (if vr = (0 : Int32) then (0 : Int32) else (1 : Int32))), .unset, .unset] [(.int (0 : Int32))])) _
                  first | exact kt | (simp only [if_pos hq220, if_pos hq226, if_neg hq239, if_neg hq246]; exact kt)
            · simp only [if_neg hq226] at kt
              refine XS.icmpNo X16.here hx rfl (hb hby at_226) rfl (flt hq226).1 ?_
              show Steps p.tables e below (T16.setTop (mkF m 229 #[.val (.int p1), .val (.int p2), .val (.int p3), .val (.int vr), .val (.int (0 : Int32)), .val (.int (1 : Int32)), .val (.int (1 : Int32)), .val (.int vc), .val (.int n1), .val (.int n2), .val (.int x0), .val (.int x1), .val (.int y0), .val (.int y1), .val .null, .val .null, .val (.ref b14), .val (.int (if vr = (0 : Int32) then (0 : Int32) else (1 : Int32))), .unset, .unset] [])) _
              refine XS.iload X16.here hx rfl (hb hby at_229) rfl ?_
              show Steps p.tables e below (T16.setTop (mkF m 231 #[.val (.int p1), .val (.int p2), .val (.int p3), .val (.int vr), .val (.int (0 : Int32)), .val (.int (1 : Int32)), .val (.int (1 : Int32)), .val (.int vc), .val (.int n1), .val (.int n2), .val (.int x0), .val (.int x1), .val (.int y0), .val (.int y1), .val .null, .val .null, .val (.ref b14), .val (.int (if vr = (0 : Int32) then (0 : Int32) else (1 : Int32))), .unset, .unset] [(.int x0)])) _
              refine XS.iload X16.here hx rfl (hb hby at_231) rfl ?_
              show Steps p.tables e below (T16.setTop (mkF m 233 #[.val (.int p1), .val (.int p2), .val (.int p3), .val (.int vr), .val (.int (0 : Int32)), .val (.int (1 : Int32)), .val (.int (1 : Int32)), .val (.int vc), .val (.int n1), .val (.int n2), .val (.int x0), .val (.int x1), .val (.int y0), .val (.int y1), .val .null, .val .null, .val (.ref b14), .val (.int (if vr = (0 : Int32) then (0 : Int32) else (1 : Int32))), .unset, .unset] [(.int y0), (.int x0)])) _
              by_cases hq233 : x0 = y0
              · simp only [if_pos hq233] at kt
                refine XS.icmpNo X16.here hx rfl (hb hby at_233) rfl (teq hq233).2 ?_
                show Steps p.tables e below (T16.setTop (mkF m 236 #[.val (.int p1), .val (.int p2), .val (.int p3), .val (.int vr), .val (.int (0 : Int32)), .val (.int (1 : Int32)), .val (.int (1 : Int32)), .val (.int vc), .val (.int n1), .val (.int n2), .val (.int x0), .val (.int x1), .val (.int y0), .val (.int y1), .val .null, .val .null, .val (.ref b14), .val (.int (if vr = (0 : Int32) then (0 : Int32) else (1 : Int32))), .unset, .unset] [])) _
                refine XS.iload X16.here hx rfl (hb hby at_236) rfl ?_
                show Steps p.tables e below (T16.setTop (mkF m 238 #[.val (.int p1), .val (.int p2), .val (.int p3), .val (.int vr), .val (.int (0 : Int32)), .val (.int (1 : Int32)), .val (.int (1 : Int32)), .val (.int vc), .val (.int n1), .val (.int n2), .val (.int x0), .val (.int x1), .val (.int y0), .val (.int y1), .val .null, .val .null, .val (.ref b14), .val (.int (if vr = (0 : Int32) then (0 : Int32) else (1 : Int32))), .unset, .unset] [(.int n1)])) _
                refine XS.iconst X16.here hx rfl (hb hby at_238) ?_
                show Steps p.tables e below (T16.setTop (mkF m 239 #[.val (.int p1), .val (.int p2), .val (.int p3), .val (.int vr), .val (.int (0 : Int32)), .val (.int (1 : Int32)), .val (.int (1 : Int32)), .val (.int vc), .val (.int n1), .val (.int n2), .val (.int x0), .val (.int x1), .val (.int y0), .val (.int y1), .val .null, .val .null, .val (.ref b14), .val (.int (if vr = (0 : Int32) then (0 : Int32) else (1 : Int32))), .unset, .unset] [(.int (2 : Int32)), (.int n1)])) _
                by_cases hq239 : n1 < (2 : Int32)
                · simp only [if_pos hq239] at kt
                  refine XS.icmpYes X16.here hx rfl (pc0 := 239) (pc' := 249) rfl (hb hby at_239) rfl (tlt hq239).1 (by decide) (by decide) ?_
                  show Steps p.tables e below (T16.setTop (mkF m 249 #[.val (.int p1), .val (.int p2), .val (.int p3), .val (.int vr), .val (.int (0 : Int32)), .val (.int (1 : Int32)), .val (.int (1 : Int32)), .val (.int vc), .val (.int n1), .val (.int n2), .val (.int x0), .val (.int x1), .val (.int y0), .val (.int y1), .val .null, .val .null, .val (.ref b14), .val (.int (if vr = (0 : Int32) then (0 : Int32) else (1 : Int32))), .unset, .unset] [])) _
                  refine XS.iconst X16.here hx rfl (hb hby at_249) ?_
                  show Steps p.tables e below (T16.setTop (mkF m 250 #[.val (.int p1), .val (.int p2), .val (.int p3), .val (.int vr), .val (.int (0 : Int32)), .val (.int (1 : Int32)), .val (.int (1 : Int32)), .val (.int vc), .val (.int n1), .val (.int n2), .val (.int x0), .val (.int x1), .val (.int y0), .val (.int y1), .val .null, .val .null, .val (.ref b14), .val (.int (if vr = (0 : Int32) then (0 : Int32) else (1 : Int32))), .unset, .unset] [(.int (1 : Int32))])) _
                  refine XS.goto X16.here hx rfl (pc0 := 250) (pc' := 254) rfl (hb hby at_250) (by decide) (by decide) ?_
                  show Steps p.tables e below (T16.setTop (mkF m 254 #[.val (.int p1), .val (.int p2), .val (.int p3), .val (.int vr), .val (.int (0 : Int32)), .val (.int (1 : Int32)), .val (.int (1 : Int32)), .val (.int vc), .val (.int n1), .val (.int n2), .val (.int x0), .val (.int x1), .val (.int y0), .val (.int y1), .val .null, .val .null, .val (.ref b14), .val (.int (if vr = (0 : Int32) then (0 : Int32) else (1 : Int32))), .unset, .unset] [(.int (1 : Int32))])) _
                  first | exact kt | (simp only [if_pos hq220, if_neg hq226, if_pos hq233, if_pos hq239]; exact kt)
                · simp only [if_neg hq239] at kt
                  refine XS.icmpNo X16.here hx rfl (hb hby at_239) rfl (flt hq239).1 ?_
                  show Steps p.tables e below (T16.setTop (mkF m 242 #[.val (.int p1), .val (.int p2), .val (.int p3), .val (.int vr), .val (.int (0 : Int32)), .val (.int (1 : Int32)), .val (.int (1 : Int32)), .val (.int vc), .val (.int n1), .val (.int n2), .val (.int x0), .val (.int x1), .val (.int y0), .val (.int y1), .val .null, .val .null, .val (.ref b14), .val (.int (if vr = (0 : Int32) then (0 : Int32) else (1 : Int32))), .unset, .unset] [])) _
                  refine XS.iload X16.here hx rfl (hb hby at_242) rfl ?_
                  show Steps p.tables e below (T16.setTop (mkF m 244 #[.val (.int p1), .val (.int p2), .val (.int p3), .val (.int vr), .val (.int (0 : Int32)), .val (.int (1 : Int32)), .val (.int (1 : Int32)), .val (.int vc), .val (.int n1), .val (.int n2), .val (.int x0), .val (.int x1), .val (.int y0), .val (.int y1), .val .null, .val .null, .val (.ref b14), .val (.int (if vr = (0 : Int32) then (0 : Int32) else (1 : Int32))), .unset, .unset] [(.int x1)])) _
                  refine XS.iload X16.here hx rfl (hb hby at_244) rfl ?_
                  show Steps p.tables e below (T16.setTop (mkF m 246 #[.val (.int p1), .val (.int p2), .val (.int p3), .val (.int vr), .val (.int (0 : Int32)), .val (.int (1 : Int32)), .val (.int (1 : Int32)), .val (.int vc), .val (.int n1), .val (.int n2), .val (.int x0), .val (.int x1), .val (.int y0), .val (.int y1), .val .null, .val .null, .val (.ref b14), .val (.int (if vr = (0 : Int32) then (0 : Int32) else (1 : Int32))), .unset, .unset] [(.int y1), (.int x1)])) _
                  by_cases hq246 : x1 = y1
                  · simp only [if_pos hq246] at kt
                    refine XS.icmpNo X16.here hx rfl (hb hby at_246) rfl (teq hq246).2 ?_
                    show Steps p.tables e below (T16.setTop (mkF m 249 #[.val (.int p1), .val (.int p2), .val (.int p3), .val (.int vr), .val (.int (0 : Int32)), .val (.int (1 : Int32)), .val (.int (1 : Int32)), .val (.int vc), .val (.int n1), .val (.int n2), .val (.int x0), .val (.int x1), .val (.int y0), .val (.int y1), .val .null, .val .null, .val (.ref b14), .val (.int (if vr = (0 : Int32) then (0 : Int32) else (1 : Int32))), .unset, .unset] [])) _
                    refine XS.iconst X16.here hx rfl (hb hby at_249) ?_
                    show Steps p.tables e below (T16.setTop (mkF m 250 #[.val (.int p1), .val (.int p2), .val (.int p3), .val (.int vr), .val (.int (0 : Int32)), .val (.int (1 : Int32)), .val (.int (1 : Int32)), .val (.int vc), .val (.int n1), .val (.int n2), .val (.int x0), .val (.int x1), .val (.int y0), .val (.int y1), .val .null, .val .null, .val (.ref b14), .val (.int (if vr = (0 : Int32) then (0 : Int32) else (1 : Int32))), .unset, .unset] [(.int (1 : Int32))])) _
                    refine XS.goto X16.here hx rfl (pc0 := 250) (pc' := 254) rfl (hb hby at_250) (by decide) (by decide) ?_
                    show Steps p.tables e below (T16.setTop (mkF m 254 #[.val (.int p1), .val (.int p2), .val (.int p3), .val (.int vr), .val (.int (0 : Int32)), .val (.int (1 : Int32)), .val (.int (1 : Int32)), .val (.int vc), .val (.int n1), .val (.int n2), .val (.int x0), .val (.int x1), .val (.int y0), .val (.int y1), .val .null, .val .null, .val (.ref b14), .val (.int (if vr = (0 : Int32) then (0 : Int32) else (1 : Int32))), .unset, .unset] [(.int (1 : Int32))])) _
                    first | exact kt | (simp only [if_pos hq220, if_neg hq226, if_pos hq233, if_neg hq239, if_pos hq246]; exact kt)
                  · simp only [if_neg hq246] at kt
                    refine XS.icmpYes X16.here hx rfl (pc0 := 246) (pc' := 253) rfl (hb hby at_246) rfl (feq hq246).2 (by decide) (by decide) ?_
                    show Steps p.tables e below (T16.setTop (mkF m 253 #[.val (.int p1), .val (.int p2), .val (.int p3), .val (.int vr), .val (.int (0 : Int32)), .val (.int (1 : Int32)), .val (.int (1 : Int32)), .val (.int vc), .val (.int n1), .val (.int n2), .val (.int x0), .val (.int x1), .val (.int y0), .val (.int y1), .val .null, .val .null, .val (.ref b14), .val (.int (if vr = (0 : Int32) then (0 : Int32) else (1 : Int32))), .unset, .unset] [])) _
                    refine XS.iconst X16.here hx rfl (hb hby at_253) ?_
                    show Steps p.tables e below (T16.setTop (mkF m 254 #[.val (.int p1), .val (.int p2), .val (.int p3), .val (.int vr), .val (.int (0 : Int32)), .val (.int (1 : Int32)), .val (.int (1 : Int32)), .val (.int vc), .val (.int n1), .val (.int n2), .val (.int x0), .val (.int x1), .val (.int y0), .val (.int y1), .val .null, .val .null, .val (.ref b14), .val (.int (if vr = (0 : Int32) then (0 : Int32) else (1 : Int32))), .unset, .unset] [(.int (0 : Int32))])) _
                    first | exact kt | (simp only [if_pos hq220, if_neg hq226, if_pos hq233, if_neg hq239, if_neg hq246]; exact kt)
              · simp only [if_neg hq233] at kt
                refine XS.icmpYes X16.here hx rfl (pc0 := 233) (pc' := 253) rfl (hb hby at_233) rfl (feq hq233).2 (by decide) (by decide) ?_
                show Steps p.tables e below (T16.setTop (mkF m 253 #[.val (.int p1), .val (.int p2), .val (.int p3), .val (.int vr), .val (.int (0 : Int32)), .val (.int (1 : Int32)), .val (.int (1 : Int32)), .val (.int vc), .val (.int n1), .val (.int n2), .val (.int x0), .val (.int x1), .val (.int y0), .val (.int y1), .val .null, .val .null, .val (.ref b14), .val (.int (if vr = (0 : Int32) then (0 : Int32) else (1 : Int32))), .unset, .unset] [])) _
                refine XS.iconst X16.here hx rfl (hb hby at_253) ?_
                show Steps p.tables e below (T16.setTop (mkF m 254 #[.val (.int p1), .val (.int p2), .val (.int p3), .val (.int vr), .val (.int (0 : Int32)), .val (.int (1 : Int32)), .val (.int (1 : Int32)), .val (.int vc), .val (.int n1), .val (.int n2), .val (.int x0), .val (.int x1), .val (.int y0), .val (.int y1), .val .null, .val .null, .val (.ref b14), .val (.int (if vr = (0 : Int32) then (0 : Int32) else (1 : Int32))), .unset, .unset] [(.int (0 : Int32))])) _
                first | exact kt | (simp only [if_pos hq220, if_neg hq226, if_neg hq233]; exact kt)
          · simp only [if_neg hq220] at kt
            refine XS.icmpYes X16.here hx rfl (pc0 := 220) (pc' := 253) rfl (hb hby at_220) rfl (feq hq220).2 (by decide) (by decide) ?_
            show Steps p.tables e below (T16.setTop (mkF m 253 #[.val (.int p1), .val (.int p2), .val (.int p3), .val (.int vr), .val (.int (0 : Int32)), .val (.int (1 : Int32)), .val (.int (1 : Int32)), .val (.int vc), .val (.int n1), .val (.int n2), .val (.int x0), .val (.int x1), .val (.int y0), .val (.int y1), .val .null, .val .null, .val (.ref b14), .val (.int (if vr = (0 : Int32) then (0 : Int32) else (1 : Int32))), .unset, .unset] [])) _
            refine XS.iconst X16.here hx rfl (hb hby at_253) ?_
            show Steps p.tables e below (T16.setTop (mkF m 254 #[.val (.int p1), .val (.int p2), .val (.int p3), .val (.int vr), .val (.int (0 : Int32)), .val (.int (1 : Int32)), .val (.int (1 : Int32)), .val (.int vc), .val (.int n1), .val (.int n2), .val (.int x0), .val (.int x1), .val (.int y0), .val (.int y1), .val .null, .val .null, .val (.ref b14), .val (.int (if vr = (0 : Int32) then (0 : Int32) else (1 : Int32))), .unset, .unset] [(.int (0 : Int32))])) _
            first | exact kt | (simp only [if_neg hq220]; exact kt)
        show Goes p e below _ T16 (mkF m 254 #[.val (.int p1), .val (.int p2), .val (.int p3), .val (.int vr), .val (.int (0 : Int32)), .val (.int (1 : Int32)), .val (.int (1 : Int32)), .val (.int vc), .val (.int n1), .val (.int n2), .val (.int x0), .val (.int x1), .val (.int y0), .val (.int y1), .val .null, .val .null, .val (.ref b14), .val (.int (if vr = (0 : Int32) then (0 : Int32) else (1 : Int32))), .unset, .unset] [(.int (if n1 = n2 then (if n1 < (1 : Int32) then (if n1 < (2 : Int32) then (1 : Int32) else (if x1 = y1 then (1 : Int32) else (0 : Int32))) else (if x0 = y0 then (if n1 < (2 : Int32) then (1 : Int32) else (if x1 = y1 then (1 : Int32) else (0 : Int32))) else (0 : Int32))) else (0 : Int32)))])
        refine Goes.of (fun _ => XS.istore X16.here hx rfl (hb hby at_254) rfl (l' := #[.val (.int p1), .val (.int p2), .val (.int p3), .val (.int vr), .val (.int (0 : Int32)), .val (.int (1 : Int32)), .val (.int (1 : Int32)), .val (.int vc), .val (.int n1), .val (.int n2), .val (.int x0), .val (.int x1), .val (.int y0), .val (.int y1), .val .null, .val .null, .val (.ref b14), .val (.int (if vr = (0 : Int32) then (0 : Int32) else (1 : Int32))), .val (.int (if n1 = n2 then (if n1 < (1 : Int32) then (if n1 < (2 : Int32) then (1 : Int32) else (if x1 = y1 then (1 : Int32) else (0 : Int32))) else (if x0 = y0 then (if n1 < (2 : Int32) then (1 : Int32) else (if x1 = y1 then (1 : Int32) else (0 : Int32))) else (0 : Int32))) else (0 : Int32))), .unset]) rfl) ?_
        show Goes p e below _ T16 (mkF m 256 #[.val (.int p1), .val (.int p2), .val (.int p3), .val (.int vr), .val (.int (0 : Int32)), .val (.int (1 : Int32)), .val (.int (1 : Int32)), .val (.int vc), .val (.int n1), .val (.int n2), .val (.int x0), .val (.int x1), .val (.int y0), .val (.int y1), .val .null, .val .null, .val (.ref b14), .val (.int (if vr = (0 : Int32) then (0 : Int32) else (1 : Int32))), .val (.int (if n1 = n2 then (if n1 < (1 : Int32) then (if n1 < (2 : Int32) then (1 : Int32) else (if x1 = y1 then (1 : Int32) else (0 : Int32))) else (if x0 = y0 then (if n1 < (2 : Int32) then (1 : Int32) else (if x1 = y1 then (1 : Int32) else (0 : Int32))) else (0 : Int32))) else (0 : Int32))), .unset] [])
        generalize erf : (if n1 = n2 then (if n1 < (1 : Int32) then (if n1 < (2 : Int32) then (1 : Int32) else (if x1 = y1 then (1 : Int32) else (0 : Int32))) else (if x0 = y0 then (if n1 < (2 : Int32) then (1 : Int32) else (if x1 = y1 then (1 : Int32) else (0 : Int32))) else (0 : Int32))) else (0 : Int32)) = rf
        show Goes p e below _ T16 (mkF m 256 #[.val (.int p1), .val (.int p2), .val (.int p3), .val (.int vr), .val (.int (0 : Int32)), .val (.int (1 : Int32)), .val (.int (1 : Int32)), .val (.int vc), .val (.int n1), .val (.int n2), .val (.int x0), .val (.int x1), .val (.int y0), .val (.int y1), .val .null, .val .null, .val (.ref b14), .val (.int (if vr = (0 : Int32) then (0 : Int32) else (1 : Int32))), .val (.int rf), .unset] [])
        refine Goes.of (fun _ => XS.iloadN X16.here hx rfl (hb hby at_256) rfl) ?_
        show Goes p e below _ T16 (mkF m 257 #[.val (.int p1), .val (.int p2), .val (.int p3), .val (.int vr), .val (.int (0 : Int32)), .val (.int (1 : Int32)), .val (.int (1 : Int32)), .val (.int vc), .val (.int n1), .val (.int n2), .val (.int x0), .val (.int x1), .val (.int y0), .val (.int y1), .val .null, .val .null, .val (.ref b14), .val (.int (if vr = (0 : Int32) then (0 : Int32) else (1 : Int32))), .val (.int rf), .unset] [(.int vr)])
        refine Goes.of (T' := T16) (f' := (mkF m 313 #[.val (.int p1), .val (.int p2), .val (.int p3), .val (.int vr), .val (.int (0 : Int32)), .val (.int (1 : Int32)), .val (.int (1 : Int32)), .val (.int vc), .val (.int n1), .val (.int n2), .val (.int x0), .val (.int x1), .val (.int y0), .val (.int y1), .val .null, .val .null, .val (.ref b14), .val (.int (if vr = (0 : Int32) then (0 : Int32) else (1 : Int32))), .val (.int rf), .val (.int (if vr = (0 : Int32) then (0 : Int32) else (1 : Int32)))] [])) (fun t kt => ?_) ?_
        · show Steps p.tables e below (T16.setTop (mkF m 257 #[.val (.int p1), .val (.int p2), .val (.int p3), .val (.int vr), .val (.int (0 : Int32)), .val (.int (1 : Int32)), .val (.int (1 : Int32)), .val (.int vc), .val (.int n1), .val (.int n2), .val (.int x0), .val (.int x1), .val (.int y0), .val (.int y1), .val .null, .val .null, .val (.ref b14), .val (.int (if vr = (0 : Int32) then (0 : Int32) else (1 : Int32))), .val (.int rf), .unset] [(.int vr)])) _
          by_cases hq257 : vr = (0 : Int32)
          · simp only [if_pos hq257] at kt
            refine XS.ifNo X16.here hx rfl (hb hby at_257) rfl ((if0 _ _).trans (teq hq257).2) ?_
            show Steps p.tables e below (T16.setTop (mkF m 260 #[.val (.int p1), .val (.int p2), .val (.int p3), .val (.int vr), .val (.int (0 : Int32)), .val (.int (1 : Int32)), .val (.int (1 : Int32)), .val (.int vc), .val (.int n1), .val (.int n2), .val (.int x0), .val (.int x1), .val (.int y0), .val (.int y1), .val .null, .val .null, .val (.ref b14), .val (.int (if vr = (0 : Int32) then (0 : Int32) else (1 : Int32))), .val (.int rf), .unset] [])) _
            refine XS.iconst X16.here hx rfl (hb hby at_260) ?_
            show Steps p.tables e below (T16.setTop (mkF m 261 #[.val (.int p1), .val (.int p2), .val (.int p3), .val (.int vr), .val (.int (0 : Int32)), .val (.int (1 : Int32)), .val (.int (1 : Int32)), .val (.int vc), .val (.int n1), .val (.int n2), .val (.int x0), .val (.int x1), .val (.int y0), .val (.int y1), .val .null, .val .null, .val (.ref b14), .val (.int (if vr = (0 : Int32) then (0 : Int32) else (1 : Int32))), .val (.int rf), .unset] [(.int (0 : Int32))])) _
            refine XS.istore X16.here hx rfl (hb hby at_261) rfl (l' := #[.val (.int p1), .val (.int p2), .val (.int p3), .val (.int vr), .val (.int (0 : Int32)), .val (.int (1 : Int32)), .val (.int (1 : Int32)), .val (.int vc), .val (.int n1), .val (.int n2), .val (.int x0), .val (.int x1), .val (.int y0), .val (.int y1), .val .null, .val .null, .val (.ref b14), .val (.int (if vr = (0 : Int32) then (0 : Int32) else (1 : Int32))), .val (.int rf), .val (.int (0 : Int32))]) rfl ?_
            show Steps p.tables e below (T16.setTop (mkF m 263 #[.val (.int p1), .val (.int p2), .val (.int p3), .val (.int vr), .val (.int (0 : Int32)), .val (.int (1 : Int32)), .val (.int (1 : Int32)), .val (.int vc), .val (.int n1), .val (.int n2), .val (.int x0), .val (.int x1), .val (.int y0), .val (.int y1), .val .null, .val .null, .val (.ref b14), .val (.int (if vr = (0 : Int32) then (0 : Int32) else (1 : Int32))), .val (.int rf), .val (.int (0 : Int32))] [])) _
            refine XS.goto X16.here hx rfl (pc0 := 263) (pc' := 313) rfl (hb hby at_263) (by decide) (by decide) ?_
            show Steps p.tables e below (T16.setTop (mkF m 313 #[.val (.int p1), .val (.int p2), .val (.int p3), .val (.int vr), .val (.int (0 : Int32)), .val (.int (1 : Int32)), .val (.int (1 : Int32)), .val (.int vc), .val (.int n1), .val (.int n2), .val (.int x0), .val (.int x1), .val (.int y0), .val (.int y1), .val .null, .val .null, .val (.ref b14), .val (.int (if vr = (0 : Int32) then (0 : Int32) else (1 : Int32))), .val (.int rf), .val (.int (0 : Int32))] [])) _
            first | exact kt | (simp only [if_pos hq257]; exact kt)
          · simp only [if_neg hq257] at kt
            refine XS.ifYes X16.here hx rfl (pc0 := 257) (pc' := 266) rfl (hb hby at_257) rfl ((if0 _ _).trans (feq hq257).2) (by decide) (by decide) ?_
            show Steps p.tables e below (T16.setTop (mkF m 266 #[.val (.int p1), .val (.int p2), .val (.int p3), .val (.int vr), .val (.int (0 : Int32)), .val (.int (1 : Int32)), .val (.int (1 : Int32)), .val (.int vc), .val (.int n1), .val (.int n2), .val (.int x0), .val (.int x1), .val (.int y0), .val (.int y1), .val .null, .val .null, .val (.ref b14), .val (.int (if vr = (0 : Int32) then (0 : Int32) else (1 : Int32))), .val (.int rf), .unset] [])) _
            refine XS.iload X16.here hx rfl (hb hby at_266) rfl ?_
            show Steps p.tables e below (T16.setTop (mkF m 268 #[.val (.int p1), .val (.int p2), .val (.int p3), .val (.int vr), .val (.int (0 : Int32)), .val (.int (1 : Int32)), .val (.int (1 : Int32)), .val (.int vc), .val (.int n1), .val (.int n2), .val (.int x0), .val (.int x1), .val (.int y0), .val (.int y1), .val .null, .val .null, .val (.ref b14), .val (.int (if vr = (0 : Int32) then (0 : Int32) else (1 : Int32))), .val (.int rf), .unset] [(.int (1 : Int32))])) _
            refine XS.ifNo X16.here hx rfl (hb hby at_268) rfl ((if0 _ _).trans (feq (by decide)).1) ?_
            show Steps p.tables e below (T16.setTop (mkF m 271 #[.val (.int p1), .val (.int p2), .val (.int p3), .val (.int vr), .val (.int (0 : Int32)), .val (.int (1 : Int32)), .val (.int (1 : Int32)), .val (.int vc), .val (.int n1), .val (.int n2), .val (.int x0), .val (.int x1), .val (.int y0), .val (.int y1), .val .null, .val .null, .val (.ref b14), .val (.int (if vr = (0 : Int32) then (0 : Int32) else (1 : Int32))), .val (.int rf), .unset] [])) _
            refine XS.iload X16.here hx rfl (hb hby at_271) rfl ?_
            show Steps p.tables e below (T16.setTop (mkF m 273 #[.val (.int p1), .val (.int p2), .val (.int p3), .val (.int vr), .val (.int (0 : Int32)), .val (.int (1 : Int32)), .val (.int (1 : Int32)), .val (.int vc), .val (.int n1), .val (.int n2), .val (.int x0), .val (.int x1), .val (.int y0), .val (.int y1), .val .null, .val .null, .val (.ref b14), .val (.int (if vr = (0 : Int32) then (0 : Int32) else (1 : Int32))), .val (.int rf), .unset] [(.int (1 : Int32))])) _
            refine XS.ifYes X16.here hx rfl (pc0 := 273) (pc' := 281) rfl (hb hby at_273) rfl ((if0 _ _).trans (feq (by decide)).2) (by decide) (by decide) ?_
            show Steps p.tables e below (T16.setTop (mkF m 281 #[.val (.int p1), .val (.int p2), .val (.int p3), .val (.int vr), .val (.int (0 : Int32)), .val (.int (1 : Int32)), .val (.int (1 : Int32)), .val (.int vc), .val (.int n1), .val (.int n2), .val (.int x0), .val (.int x1), .val (.int y0), .val (.int y1), .val .null, .val .null, .val (.ref b14), .val (.int (if vr = (0 : Int32) then (0 : Int32) else (1 : Int32))), .val (.int rf), .unset] [])) _
            refine XS.iconst X16.here hx rfl (hb hby at_281) ?_
            show Steps p.tables e below (T16.setTop (mkF m 282 #[.val (.int p1), .val (.int p2), .val (.int p3), .val (.int vr), .val (.int (0 : Int32)), .val (.int (1 : Int32)), .val (.int (1 : Int32)), .val (.int vc), .val (.int n1), .val (.int n2), .val (.int x0), .val (.int x1), .val (.int y0), .val (.int y1), .val .null, .val .null, .val (.ref b14), .val (.int (if vr = (0 : Int32) then (0 : Int32) else (1 : Int32))), .val (.int rf), .unset] [(.int (1 : Int32))])) _
            refine XS.goto X16.here hx rfl (pc0 := 282) (pc' := 286) rfl (hb hby at_282) (by decide) (by decide) ?_
            show Steps p.tables e below (T16.setTop (mkF m 286 #[.val (.int p1), .val (.int p2), .val (.int p3), .val (.int vr), .val (.int (0 : Int32)), .val (.int (1 : Int32)), .val (.int (1 : Int32)), .val (.int vc), .val (.int n1), .val (.int n2), .val (.int x0), .val (.int x1), .val (.int y0), .val (.int y1), .val .null, .val .null, .val (.ref b14), .val (.int (if vr = (0 : Int32) then (0 : Int32) else (1 : Int32))), .val (.int rf), .unset] [(.int (1 : Int32))])) _
            refine XS.istore X16.here hx rfl (hb hby at_286) rfl (l' := #[.val (.int p1), .val (.int p2), .val (.int p3), .val (.int vr), .val (.int (0 : Int32)), .val (.int (1 : Int32)), .val (.int (1 : Int32)), .val (.int vc), .val (.int n1), .val (.int n2), .val (.int x0), .val (.int x1), .val (.int y0), .val (.int y1), .val .null, .val .null, .val (.ref b14), .val (.int (if vr = (0 : Int32) then (0 : Int32) else (1 : Int32))), .val (.int rf), .val (.int (1 : Int32))]) rfl ?_
            show Steps p.tables e below (T16.setTop (mkF m 288 #[.val (.int p1), .val (.int p2), .val (.int p3), .val (.int vr), .val (.int (0 : Int32)), .val (.int (1 : Int32)), .val (.int (1 : Int32)), .val (.int vc), .val (.int n1), .val (.int n2), .val (.int x0), .val (.int x1), .val (.int y0), .val (.int y1), .val .null, .val .null, .val (.ref b14), .val (.int (if vr = (0 : Int32) then (0 : Int32) else (1 : Int32))), .val (.int rf), .val (.int (1 : Int32))] [])) _
            refine XS.goto X16.here hx rfl (pc0 := 288) (pc' := 313) rfl (hb hby at_288) (by decide) (by decide) ?_
            show Steps p.tables e below (T16.setTop (mkF m 313 #[.val (.int p1), .val (.int p2), .val (.int p3), .val (.int vr), .val (.int (0 : Int32)), .val (.int (1 : Int32)), .val (.int (1 : Int32)), .val (.int vc), .val (.int n1), .val (.int n2), .val (.int x0), .val (.int x1), .val (.int y0), .val (.int y1), .val .null, .val .null, .val (.ref b14), .val (.int (if vr = (0 : Int32) then (0 : Int32) else (1 : Int32))), .val (.int rf), .val (.int (1 : Int32))] [])) _
            first | exact kt | (simp only [if_neg hq257]; exact kt)
        show Goes p e below _ T16 (mkF m 313 #[.val (.int p1), .val (.int p2), .val (.int p3), .val (.int vr), .val (.int (0 : Int32)), .val (.int (1 : Int32)), .val (.int (1 : Int32)), .val (.int vc), .val (.int n1), .val (.int n2), .val (.int x0), .val (.int x1), .val (.int y0), .val (.int y1), .val .null, .val .null, .val (.ref b14), .val (.int (if vr = (0 : Int32) then (0 : Int32) else (1 : Int32))), .val (.int rf), .val (.int (if vr = (0 : Int32) then (0 : Int32) else (1 : Int32)))] [])
        refine Goes.of (fun _ => XS.iload X16.here hx rfl (hb hby at_313) rfl) ?_
        show Goes p e below _ T16 (mkF m 315 #[.val (.int p1), .val (.int p2), .val (.int p3), .val (.int vr), .val (.int (0 : Int32)), .val (.int (1 : Int32)), .val (.int (1 : Int32)), .val (.int vc), .val (.int n1), .val (.int n2), .val (.int x0), .val (.int x1), .val (.int y0), .val (.int y1), .val .null, .val .null, .val (.ref b14), .val (.int (if vr = (0 : Int32) then (0 : Int32) else (1 : Int32))), .val (.int rf), .val (.int (if vr = (0 : Int32) then (0 : Int32) else (1 : Int32)))] [(.int (if vr = (0 : Int32) then (0 : Int32) else (1 : Int32)))])
        refine Goes.of (fun _ => XS.iload X16.here hx rfl (hb hby at_315) rfl) ?_
        show Goes p e below _ T16 (mkF m 317 #[.val (.int p1), .val (.int p2), .val (.int p3), .val (.int vr), .val (.int (0 : Int32)), .val (.int (1 : Int32)), .val (.int (1 : Int32)), .val (.int vc), .val (.int n1), .val (.int n2), .val (.int x0), .val (.int x1), .val (.int y0), .val (.int y1), .val .null, .val .null, .val (.ref b14), .val (.int (if vr = (0 : Int32) then (0 : Int32) else (1 : Int32))), .val (.int rf), .val (.int (if vr = (0 : Int32) then (0 : Int32) else (1 : Int32)))] [(.int (if vr = (0 : Int32) then (0 : Int32) else (1 : Int32))), (.int (if vr = (0 : Int32) then (0 : Int32) else (1 : Int32)))])
        refine Goes.of (fun _ => XS.icmpNo X16.here hx rfl (hb hby at_317) rfl (teq rfl).2) ?_
        show Goes p e below _ T16 (mkF m 320 #[.val (.int p1), .val (.int p2), .val (.int p3), .val (.int vr), .val (.int (0 : Int32)), .val (.int (1 : Int32)), .val (.int (1 : Int32)), .val (.int vc), .val (.int n1), .val (.int n2), .val (.int x0), .val (.int x1), .val (.int y0), .val (.int y1), .val .null, .val .null, .val (.ref b14), .val (.int (if vr = (0 : Int32) then (0 : Int32) else (1 : Int32))), .val (.int rf), .val (.int (if vr = (0 : Int32) then (0 : Int32) else (1 : Int32)))] [])
        refine Goes.of (fun _ => XS.iconst X16.here hx rfl (hb hby at_320)) ?_
        show Goes p e below _ T16 (mkF m 321 #[.val (.int p1), .val (.int p2), .val (.int p3), .val (.int vr), .val (.int (0 : Int32)), .val (.int (1 : Int32)), .val (.int (1 : Int32)), .val (.int vc), .val (.int n1), .val (.int n2), .val (.int x0), .val (.int x1), .val (.int y0), .val (.int y1), .val .null, .val .null, .val (.ref b14), .val (.int (if vr = (0 : Int32) then (0 : Int32) else (1 : Int32))), .val (.int rf), .val (.int (if vr = (0 : Int32) then (0 : Int32) else (1 : Int32)))] [(.int (1 : Int32))])
        refine Goes.of (fun _ => XS.goto X16.here hx rfl (pc0 := 321) (pc' := 325) rfl (hb hby at_321) (by decide) (by decide)) ?_
        show Goes p e below _ T16 (mkF m 325 #[.val (.int p1), .val (.int p2), .val (.int p3), .val (.int vr), .val (.int (0 : Int32)), .val (.int (1 : Int32)), .val (.int (1 : Int32)), .val (.int vc), .val (.int n1), .val (.int n2), .val (.int x0), .val (.int x1), .val (.int y0), .val (.int y1), .val .null, .val .null, .val (.ref b14), .val (.int (if vr = (0 : Int32) then (0 : Int32) else (1 : Int32))), .val (.int rf), .val (.int (if vr = (0 : Int32) then (0 : Int32) else (1 : Int32)))] [(.int (1 : Int32))])
        exact retZW (t := .boolean) X16 hS hk hZ hEL HC hx hret hlk (by simp) (hb hby at_325) eT16 (by decide) (by decide) ⟨rfl, N16⟩
  · show Goes p e below _ T (mkF m 153 #[.val (.int p1), .val (.int p2), .val (.int p3), .val (.int vr), .val (.int (1 : Int32)), .val (.int vb), .val (.int vi), .val (.int vc), .val (.int n1), .val (.int n2), .val (.int x0), .val (.int x1), .val (.int y0), .val (.int y1), .unset, .unset, .unset, .unset, .unset, .unset] [])
    rcases hvb with rfl | rfl
    · show Goes p e below _ T (mkF m 153 #[.val (.int p1), .val (.int p2), .val (.int p3), .val (.int vr), .val (.int (1 : Int32)), .val (.int (0 : Int32)), .val (.int vi), .val (.int vc), .val (.int n1), .val (.int n2), .val (.int x0), .val (.int x1), .val (.int y0), .val (.int y1), .unset, .unset, .unset, .unset, .unset, .unset] [])
      rcases hvi with rfl | rfl
      · show Goes p e below _ T (mkF m 153 #[.val (.int p1), .val (.int p2), .val (.int p3), .val (.int vr), .val (.int (1 : Int32)), .val (.int (0 : Int32)), .val (.int (0 : Int32)), .val (.int vc), .val (.int n1), .val (.int n2), .val (.int x0), .val (.int x1), .val (.int y0), .val (.int y1), .unset, .unset, .unset, .unset, .unset, .unset] [])
        refine Goes.of (fun _ => XS.iload X.here hx rfl (hb hby at_153) rfl) ?_
        show Goes p e below _ T (mkF m 155 #[.val (.int p1), .val (.int p2), .val (.int p3), .val (.int vr), .val (.int (1 : Int32)), .val (.int (0 : Int32)), .val (.int (0 : Int32)), .val (.int vc), .val (.int n1), .val (.int n2), .val (.int x0), .val (.int x1), .val (.int y0), .val (.int y1), .unset, .unset, .unset, .unset, .unset, .unset] [(.int (0 : Int32))])
        refine Goes.of (fun _ => XS.ifYes X.here hx rfl (pc0 := 155) (pc' := 162) rfl (hb hby at_155) rfl ((if0 _ _).trans (teq (by decide)).1) (by decide) (by decide)) ?_
        show Goes p e below _ T (mkF m 162 #[.val (.int p1), .val (.int p2), .val (.int p3), .val (.int vr), .val (.int (1 : Int32)), .val (.int (0 : Int32)), .val (.int (0 : Int32)), .val (.int vc), .val (.int n1), .val (.int n2), .val (.int x0), .val (.int x1), .val (.int y0), .val (.int y1), .unset, .unset, .unset, .unset, .unset, .unset] [])
        refine Goes.of (fun _ => XS.iload X.here hx rfl (hb hby at_162) rfl) ?_
        show Goes p e below _ T (mkF m 164 #[.val (.int p1), .val (.int p2), .val (.int p3), .val (.int vr), .val (.int (1 : Int32)), .val (.int (0 : Int32)), .val (.int (0 : Int32)), .val (.int vc), .val (.int n1), .val (.int n2), .val (.int x0), .val (.int x1), .val (.int y0), .val (.int y1), .unset, .unset, .unset, .unset, .unset, .unset] [(.int n1)])
        refine Goes.of (fun _ => XS.iload X.here hx rfl (hb hby at_164) rfl) ?_
        show Goes p e below _ T (mkF m 166 #[.val (.int p1), .val (.int p2), .val (.int p3), .val (.int vr), .val (.int (1 : Int32)), .val (.int (0 : Int32)), .val (.int (0 : Int32)), .val (.int vc), .val (.int n1), .val (.int n2), .val (.int x0), .val (.int x1), .val (.int y0), .val (.int y1), .unset, .unset, .unset, .unset, .unset, .unset] [(.int x0), (.int n1)])
        refine Goes.of (fun _ => XS.iload X.here hx rfl (hb hby at_166) rfl) ?_
        show Goes p e below _ T (mkF m 168 #[.val (.int p1), .val (.int p2), .val (.int p3), .val (.int vr), .val (.int (1 : Int32)), .val (.int (0 : Int32)), .val (.int (0 : Int32)), .val (.int vc), .val (.int n1), .val (.int n2), .val (.int x0), .val (.int x1), .val (.int y0), .val (.int y1), .unset, .unset, .unset, .unset, .unset, .unset] [(.int x1), (.int x0), (.int n1)])
        refine goStaticW 0 X hS hk hEL HC hx hZ hown (hw _ (List.mem_of_getElem? (i := 0) rfl)) (hw _ (List.mem_of_getElem? (i := 1) rfl)) (hw _ (List.mem_of_getElem? (i := 2) rfl)) (hw _ (List.mem_of_getElem? (i := 3) rfl)) (by decide) (rm_str l Z a0 hw n1 x0 x1 cz h0 n0 O0 Sc hcz hx0 hx1) eT0 (g := (mkF m 168 #[.val (.int p1), .val (.int p2), .val (.int p3), .val (.int vr), .val (.int (1 : Int32)), .val (.int (0 : Int32)), .val (.int (0 : Int32)), .val (.int vc), .val (.int n1), .val (.int n2), .val (.int x0), .val (.int x1), .val (.int y0), .val (.int y1), .unset, .unset, .unset, .unset, .unset, .unset] [(.int x1), (.int x0), (.int n1)])) rfl (by rw [hml]; rfl) [(.int n1), (.int x0), (.int x1)] [] (lenOf pd__ICC_Ljava_lang_String_ rfl) rfl rfl (by show 2 * 0 + _ ≤ _; exact Nat.le_of_eq rfl) (hb hby at_168) (by decide) (by decide) (by decide) (by decide) ?_
        intro v17 T17 L17 kk17 X17 hS hk hZ hown HC q17
        obtain ⟨sb17, rfl, Nq17, Kq17, g_sb17, S17⟩ := q17
        have N17 := Fr.app N0 Nq17
        have O0 := O0.keep Kq17 all0
        show Goes p e below _ T17 (mkF m 171 #[.val (.int p1), .val (.int p2), .val (.int p3), .val (.int vr), .val (.int (1 : Int32)), .val (.int (0 : Int32)), .val (.int (0 : Int32)), .val (.int vc), .val (.int n1), .val (.int n2), .val (.int x0), .val (.int x1), .val (.int y0), .val (.int y1), .unset, .unset, .unset, .unset, .unset, .unset] [(.ref sb17)])
        refine Goes.of (fun _ => XS.astore X17.here hx rfl (hb hby at_171) rfl rfl (l' := #[.val (.int p1), .val (.int p2), .val (.int p3), .val (.int vr), .val (.int (1 : Int32)), .val (.int (0 : Int32)), .val (.int (0 : Int32)), .val (.int vc), .val (.int n1), .val (.int n2), .val (.int x0), .val (.int x1), .val (.int y0), .val (.int y1), .val (.ref sb17), .unset, .unset, .unset, .unset, .unset]) rfl) ?_
        show Goes p e below _ T17 (mkF m 173 #[.val (.int p1), .val (.int p2), .val (.int p3), .val (.int vr), .val (.int (1 : Int32)), .val (.int (0 : Int32)), .val (.int (0 : Int32)), .val (.int vc), .val (.int n1), .val (.int n2), .val (.int x0), .val (.int x1), .val (.int y0), .val (.int y1), .val (.ref sb17), .unset, .unset, .unset, .unset, .unset] [])
        refine Goes.of (fun _ => XS.iload X17.here hx rfl (hb hby at_173) rfl) ?_
        show Goes p e below _ T17 (mkF m 175 #[.val (.int p1), .val (.int p2), .val (.int p3), .val (.int vr), .val (.int (1 : Int32)), .val (.int (0 : Int32)), .val (.int (0 : Int32)), .val (.int vc), .val (.int n1), .val (.int n2), .val (.int x0), .val (.int x1), .val (.int y0), .val (.int y1), .val (.ref sb17), .unset, .unset, .unset, .unset, .unset] [(.int (0 : Int32))])
        refine Goes.of (fun _ => XS.ifYes X17.here hx rfl (pc0 := 175) (pc' := 182) rfl (hb hby at_175) rfl ((if0 _ _).trans (teq (by decide)).1) (by decide) (by decide)) ?_
        show Goes p e below _ T17 (mkF m 182 #[.val (.int p1), .val (.int p2), .val (.int p3), .val (.int vr), .val (.int (1 : Int32)), .val (.int (0 : Int32)), .val (.int (0 : Int32)), .val (.int vc), .val (.int n1), .val (.int n2), .val (.int x0), .val (.int x1), .val (.int y0), .val (.int y1), .val (.ref sb17), .unset, .unset, .unset, .unset, .unset] [])
        refine Goes.of (fun _ => XS.iload X17.here hx rfl (hb hby at_182) rfl) ?_
        show Goes p e below _ T17 (mkF m 184 #[.val (.int p1), .val (.int p2), .val (.int p3), .val (.int vr), .val (.int (1 : Int32)), .val (.int (0 : Int32)), .val (.int (0 : Int32)), .val (.int vc), .val (.int n1), .val (.int n2), .val (.int x0), .val (.int x1), .val (.int y0), .val (.int y1), .val (.ref sb17), .unset, .unset, .unset, .unset, .unset] [(.int n2)])
        refine Goes.of (fun _ => XS.iload X17.here hx rfl (hb hby at_184) rfl) ?_
        show Goes p e below _ T17 (mkF m 186 #[.val (.int p1), .val (.int p2), .val (.int p3), .val (.int vr), .val (.int (1 : Int32)), .val (.int (0 : Int32)), .val (.int (0 : Int32)), .val (.int vc), .val (.int n1), .val (.int n2), .val (.int x0), .val (.int x1), .val (.int y0), .val (.int y1), .val (.ref sb17), .unset, .unset, .unset, .unset, .unset] [(.int y0), (.int n2)])
        refine Goes.of (fun _ => XS.iload X17.here hx rfl (hb hby at_186) rfl) ?_
        show Goes p e below _ T17 (mkF m 188 #[.val (.int p1), .val (.int p2), .val (.int p3), .val (.int vr), .val (.int (1 : Int32)), .val (.int (0 : Int32)), .val (.int (0 : Int32)), .val (.int vc), .val (.int n1), .val (.int n2), .val (.int x0), .val (.int x1), .val (.int y0), .val (.int y1), .val (.ref sb17), .unset, .unset, .unset, .unset, .unset] [(.int y1), (.int y0), (.int n2)])
        refine goStaticW 0 X17 hS hk hEL HC hx hZ hown (hw _ (List.mem_of_getElem? (i := 0) rfl)) (hw _ (List.mem_of_getElem? (i := 1) rfl)) (hw _ (List.mem_of_getElem? (i := 2) rfl)) (hw _ (List.mem_of_getElem? (i := 3) rfl)) (by decide) (rm_str l Z a0 hw n2 y0 y1 cz T17.heap n0 O0 Sc hcz hy0 hy1) (rfl : T17.heap = _) (g := (mkF m 188 #[.val (.int p1), .val (.int p2), .val (.int p3), .val (.int vr), .val (.int (1 : Int32)), .val (.int (0 : Int32)), .val (.int (0 : Int32)), .val (.int vc), .val (.int n1), .val (.int n2), .val (.int x0), .val (.int x1), .val (.int y0), .val (.int y1), .val (.ref sb17), .unset, .unset, .unset, .unset, .unset] [(.int y1), (.int y0), (.int n2)])) rfl (by rw [hml]; rfl) [(.int n2), (.int y0), (.int y1)] [] (lenOf pd__ICC_Ljava_lang_String_ rfl) rfl rfl (by show 2 * 0 + _ ≤ _; exact Nat.le_of_eq rfl) (hb hby at_188) (by decide) (by decide) (by decide) (by decide) ?_
        intro v18 T18 L18 kk18 X18 hS hk hZ hown HC q18
        obtain ⟨sb18, rfl, Nq18, Kq18, g_sb18, S18⟩ := q18
        have N18 := Fr.app N17 Nq18
        have S17 := S17.keep0 Kq18
        have O0 := O0.keep Kq18 all0
        show Goes p e below _ T18 (mkF m 191 #[.val (.int p1), .val (.int p2), .val (.int p3), .val (.int vr), .val (.int (1 : Int32)), .val (.int (0 : Int32)), .val (.int (0 : Int32)), .val (.int vc), .val (.int n1), .val (.int n2), .val (.int x0), .val (.int x1), .val (.int y0), .val (.int y1), .val (.ref sb17), .unset, .unset, .unset, .unset, .unset] [(.ref sb18)])
        refine Goes.of (fun _ => XS.astore X18.here hx rfl (hb hby at_191) rfl rfl (l' := #[.val (.int p1), .val (.int p2), .val (.int p3), .val (.int vr), .val (.int (1 : Int32)), .val (.int (0 : Int32)), .val (.int (0 : Int32)), .val (.int vc), .val (.int n1), .val (.int n2), .val (.int x0), .val (.int x1), .val (.int y0), .val (.int y1), .val (.ref sb17), .val (.ref sb18), .unset, .unset, .unset, .unset]) rfl) ?_
        show Goes p e below _ T18 (mkF m 193 #[.val (.int p1), .val (.int p2), .val (.int p3), .val (.int vr), .val (.int (1 : Int32)), .val (.int (0 : Int32)), .val (.int (0 : Int32)), .val (.int vc), .val (.int n1), .val (.int n2), .val (.int x0), .val (.int x1), .val (.int y0), .val (.int y1), .val (.ref sb17), .val (.ref sb18), .unset, .unset, .unset, .unset] [])
        refine goNew X18 hx hZ hown (hw _ (List.mem_of_getElem? (i := 26) rfl)) (hw _ (List.mem_of_getElem? (i := 27) rfl)) (hw _ (List.mem_of_getElem? (i := 28) rfl)) (rfl : T18.heap = _) (g := (mkF m 193 #[.val (.int p1), .val (.int p2), .val (.int p3), .val (.int vr), .val (.int (1 : Int32)), .val (.int (0 : Int32)), .val (.int (0 : Int32)), .val (.int vc), .val (.int n1), .val (.int n2), .val (.int x0), .val (.int x1), .val (.int y0), .val (.int y1), .val (.ref sb17), .val (.ref sb18), .unset, .unset, .unset, .unset] [])) rfl (hb hby at_193) (by decide) (by decide) ?_
        intro T19 h19 b19 X19 eT19 E19 hb19 A19 D19
        have g_b19 : n0 ≤ b19 := Nat.le_trans (oldLe O0) hb19
        have ne_sb17_b19 : sb17 ≠ b19 := Nat.ne_of_lt (Nat.lt_of_lt_of_le S17.lt hb19)
        have ne_sb18_b19 : sb18 ≠ b19 := Nat.ne_of_lt (Nat.lt_of_lt_of_le S18.lt hb19)
        have S17 := S17.ext E19
        have S18 := S18.ext E19
        have hk := Nat.le_trans hk E19.1
        have HC := HC.trans (CHr.ext E19 HC.1)
        have O0 := O0.ext E19
        have F19_id : Fld Z h19 b19 "com/example/latchwork/latchwork/store/RedisRun$Origin" "id" "Ljava/lang/String;" .null := D19 (Or.inr (hw _ (List.mem_of_getElem? (i := 39) rfl))) (ty := (.object "java/lang/String")) (by decide)
        have F19_wroteEveryChange : Fld Z h19 b19 "com/example/latchwork/latchwork/store/RedisRun$Origin" "wroteEveryChange" "Z" (.int (0 : Int32)) := D19 (Or.inr (hw _ (List.mem_of_getElem? (i := 41) rfl))) (ty := .boolean) (by decide)
        show Goes p e below _ T19 (mkF m 196 #[.val (.int p1), .val (.int p2), .val (.int p3), .val (.int vr), .val (.int (1 : Int32)), .val (.int (0 : Int32)), .val (.int (0 : Int32)), .val (.int vc), .val (.int n1), .val (.int n2), .val (.int x0), .val (.int x1), .val (.int y0), .val (.int y1), .val (.ref sb17), .val (.ref sb18), .unset, .unset, .unset, .unset] [(.ref b19)])
        refine Goes.of (fun _ => XS.dup X19.here hx rfl (hb hby at_196) rfl rfl) ?_
        show Goes p e below _ T19 (mkF m 197 #[.val (.int p1), .val (.int p2), .val (.int p3), .val (.int vr), .val (.int (1 : Int32)), .val (.int (0 : Int32)), .val (.int (0 : Int32)), .val (.int vc), .val (.int n1), .val (.int n2), .val (.int x0), .val (.int x1), .val (.int y0), .val (.int y1), .val (.ref sb17), .val (.ref sb18), .unset, .unset, .unset, .unset] [(.ref b19), (.ref b19)])
        refine Goes.of (fun _ => XS.aload X19.here hx rfl (hb hby at_197) rfl rfl) ?_
        show Goes p e below _ T19 (mkF m 199 #[.val (.int p1), .val (.int p2), .val (.int p3), .val (.int vr), .val (.int (1 : Int32)), .val (.int (0 : Int32)), .val (.int (0 : Int32)), .val (.int vc), .val (.int n1), .val (.int n2), .val (.int x0), .val (.int x1), .val (.int y0), .val (.int y1), .val (.ref sb17), .val (.ref sb18), .unset, .unset, .unset, .unset] [(.ref sb18), (.ref b19), (.ref b19)])
        refine Goes.of (fun _ => XS.iload X19.here hx rfl (hb hby at_199) rfl) ?_
        show Goes p e below _ T19 (mkF m 201 #[.val (.int p1), .val (.int p2), .val (.int p3), .val (.int vr), .val (.int (1 : Int32)), .val (.int (0 : Int32)), .val (.int (0 : Int32)), .val (.int vc), .val (.int n1), .val (.int n2), .val (.int x0), .val (.int x1), .val (.int y0), .val (.int y1), .val (.ref sb17), .val (.ref sb18), .unset, .unset, .unset, .unset] [(.int (1 : Int32)), (.ref sb18), (.ref b19), (.ref b19)])
        have Sf_b19 : Safe Z EL _ h19 b19 := Safe.exa hZ.alike A19 (by decide) (by decide)
        refine goSpecial 1 X19 hx hZ rfl hown (hw _ (List.mem_of_getElem? (i := 29) rfl)) (hw _ (List.mem_of_getElem? (i := 30) rfl)) (hw _ (List.mem_of_getElem? (i := 28) rfl)) (hw _ (List.mem_of_getElem? (i := 31) rfl)) (by decide) (rm_init01 l Z a0 hw b19 sb18 h19 n0 O0 g_b19 A19 F19_id F19_wroteEveryChange) eT19 (g := (mkF m 201 #[.val (.int p1), .val (.int p2), .val (.int p3), .val (.int vr), .val (.int (1 : Int32)), .val (.int (0 : Int32)), .val (.int (0 : Int32)), .val (.int vc), .val (.int n1), .val (.int n2), .val (.int x0), .val (.int x1), .val (.int y0), .val (.int y1), .val (.ref sb17), .val (.ref sb18), .unset, .unset, .unset, .unset] [(.int (1 : Int32)), (.ref sb18), (.ref b19), (.ref b19)])) rfl (by rw [hml]; rfl) b19 [(.ref sb18), (.int (1 : Int32))] [(.ref b19)] (lenOf pd__Ljava_lang_String_Z_V rfl) rfl rfl (by show 2 * 0 + _ ≤ _; exact Nat.le_of_eq rfl) (hb hby at_201) (by decide) (by decide) (by decide) (by decide) ?_
        intro v20 T20 L20 X20 q20
        obtain ⟨rfl, Nq20, Kq20, H0_20, H1_20⟩ := q20
        have N20 := Fr.app N18 Nq20
        have S17 := S17.keep1 Kq20 ne_sb17_b19 A19 (hw _ (List.mem_of_getElem? (i := 27) rfl))
        have S18 := S18.keep1 Kq20 ne_sb18_b19 A19 (hw _ (List.mem_of_getElem? (i := 27) rfl))
        have A19 := A19.keep Kq20
        have HC := HC.trans (CHr.keep Kq20 (sfS Sf_b19 sf0) HC.1)
        have hk := Nat.le_trans hk Kq20.1
        have O0 := O0.keep Kq20 (allS g_b19 all0)
        show Goes p e below _ T20 (mkF m 204 #[.val (.int p1), .val (.int p2), .val (.int p3), .val (.int vr), .val (.int (1 : Int32)), .val (.int (0 : Int32)), .val (.int (0 : Int32)), .val (.int vc), .val (.int n1), .val (.int n2), .val (.int x0), .val (.int x1), .val (.int y0), .val (.int y1), .val (.ref sb17), .val (.ref sb18), .unset, .unset, .unset, .unset] [(.ref b19)])
        refine Goes.of (fun _ => XS.astore X20.here hx rfl (hb hby at_204) rfl rfl (l' := #[.val (.int p1), .val (.int p2), .val (.int p3), .val (.int vr), .val (.int (1 : Int32)), .val (.int (0 : Int32)), .val (.int (0 : Int32)), .val (.int vc), .val (.int n1), .val (.int n2), .val (.int x0), .val (.int x1), .val (.int y0), .val (.int y1), .val (.ref sb17), .val (.ref sb18), .val (.ref b19), .unset, .unset, .unset]) rfl) ?_
        show Goes p e below _ T20 (mkF m 206 #[.val (.int p1), .val (.int p2), .val (.int p3), .val (.int vr), .val (.int (1 : Int32)), .val (.int (0 : Int32)), .val (.int (0 : Int32)), .val (.int vc), .val (.int n1), .val (.int n2), .val (.int x0), .val (.int x1), .val (.int y0), .val (.int y1), .val (.ref sb17), .val (.ref sb18), .val (.ref b19), .unset, .unset, .unset] [])
        refine Goes.of (fun _ => XS.aload X20.here hx rfl (hb hby at_206) rfl rfl) ?_
        show Goes p e below _ T20 (mkF m 208 #[.val (.int p1), .val (.int p2), .val (.int p3), .val (.int vr), .val (.int (1 : Int32)), .val (.int (0 : Int32)), .val (.int (0 : Int32)), .val (.int vc), .val (.int n1), .val (.int n2), .val (.int x0), .val (.int x1), .val (.int y0), .val (.int y1), .val (.ref sb17), .val (.ref sb18), .val (.ref b19), .unset, .unset, .unset] [(.ref sb17)])
        refine Goes.of (fun _ => XS.aload X20.here hx rfl (hb hby at_208) rfl rfl) ?_
        show Goes p e below _ T20 (mkF m 210 #[.val (.int p1), .val (.int p2), .val (.int p3), .val (.int vr), .val (.int (1 : Int32)), .val (.int (0 : Int32)), .val (.int (0 : Int32)), .val (.int vc), .val (.int n1), .val (.int n2), .val (.int x0), .val (.int x1), .val (.int y0), .val (.int y1), .val (.ref sb17), .val (.ref sb18), .val (.ref b19), .unset, .unset, .unset] [(.ref b19), (.ref sb17)])
        refine Goes.of (fun _ => XS.iloadN X20.here hx rfl (hb hby at_210) rfl) ?_
        show Goes p e below _ T20 (mkF m 211 #[.val (.int p1), .val (.int p2), .val (.int p3), .val (.int vr), .val (.int (1 : Int32)), .val (.int (0 : Int32)), .val (.int (0 : Int32)), .val (.int vc), .val (.int n1), .val (.int n2), .val (.int x0), .val (.int x1), .val (.int y0), .val (.int y1), .val (.ref sb17), .val (.ref sb18), .val (.ref b19), .unset, .unset, .unset] [(.int vr), (.ref b19), (.ref sb17)])
        refine goStatic 0 X20 hx hZ hown (hw _ (List.mem_of_getElem? (i := 42) rfl)) (hw _ (List.mem_of_getElem? (i := 43) rfl)) (hw _ (List.mem_of_getElem? (i := 44) rfl)) (hw _ (List.mem_of_getElem? (i := 45) rfl)) (by decide) (rm_kept001 l Z a0 hw b19 sb17 sb18 vr (strL n1 x0 x1) (strL n2 y0 y1) cz T20.heap n0 O0 Sc hcz A19 H0_20 H1_20 S17 S18) (rfl : T20.heap = _) (g := (mkF m 211 #[.val (.int p1), .val (.int p2), .val (.int p3), .val (.int vr), .val (.int (1 : Int32)), .val (.int (0 : Int32)), .val (.int (0 : Int32)), .val (.int vc), .val (.int n1), .val (.int n2), .val (.int x0), .val (.int x1), .val (.int y0), .val (.int y1), .val (.ref sb17), .val (.ref sb18), .val (.ref b19), .unset, .unset, .unset] [(.int vr), (.ref b19), (.ref sb17)])) rfl (by rw [hml]; rfl) [(.ref sb17), (.ref b19), (.int vr)] [] (lenOf pd__Ljava_lang_String_Lcom_example_latchwork_latchwork_store_RedisRun_Origin_Z_Z rfl) rfl rfl (by show 2 * 0 + _ ≤ _; exact Nat.le_of_eq rfl) (hb hby at_211) (by decide) (by decide) (by decide) (by decide) ?_
        intro v21 T21 L21 X21 q21
        obtain ⟨rfl, Nq21, eT21⟩ := q21
        have N21 := Fr.app N20 Nq21
        show Goes p e below _ T21 (mkF m 214 #[.val (.int p1), .val (.int p2), .val (.int p3), .val (.int vr), .val (.int (1 : Int32)), .val (.int (0 : Int32)), .val (.int (0 : Int32)), .val (.int vc), .val (.int n1), .val (.int n2), .val (.int x0), .val (.int x1), .val (.int y0), .val (.int y1), .val (.ref sb17), .val (.ref sb18), .val (.ref b19), .unset, .unset, .unset] [(.int (if vr = (0 : Int32) then (0 : Int32) else (if (if (strL n1 x0 x1) = (strL n2 y0 y1) then (1 : Int32) else (0 : Int32)) = (0 : Int32) then (0 : Int32) else (1 : Int32))))])
        refine Goes.of (fun _ => XS.istore X21.here hx rfl (hb hby at_214) rfl (l' := #[.val (.int p1), .val (.int p2), .val (.int p3), .val (.int vr), .val (.int (1 : Int32)), .val (.int (0 : Int32)), .val (.int (0 : Int32)), .val (.int vc), .val (.int n1), .val (.int n2), .val (.int x0), .val (.int x1), .val (.int y0), .val (.int y1), .val (.ref sb17), .val (.ref sb18), .val (.ref b19), .val (.int (if vr = (0 : Int32) then (0 : Int32) else (if (if (strL n1 x0 x1) = (strL n2 y0 y1) then (1 : Int32) else (0 : Int32)) = (0 : Int32) then (0 : Int32) else (1 : Int32)))), .unset, .unset]) rfl) ?_
        show Goes p e below _ T21 (mkF m 216 #[.val (.int p1), .val (.int p2), .val (.int p3), .val (.int vr), .val (.int (1 : Int32)), .val (.int (0 : Int32)), .val (.int (0 : Int32)), .val (.int vc), .val (.int n1), .val (.int n2), .val (.int x0), .val (.int x1), .val (.int y0), .val (.int y1), .val (.ref sb17), .val (.ref sb18), .val (.ref b19), .val (.int (if vr = (0 : Int32) then (0 : Int32) else (if (if (strL n1 x0 x1) = (strL n2 y0 y1) then (1 : Int32) else (0 : Int32)) = (0 : Int32) then (0 : Int32) else (1 : Int32)))), .unset, .unset] [])
        refine Goes.of (fun _ => XS.iload X21.here hx rfl (hb hby at_216) rfl) ?_
        show Goes p e below _ T21 (mkF m 218 #[.val (.int p1), .val (.int p2), .val (.int p3), .val (.int vr), .val (.int (1 : Int32)), .val (.int (0 : Int32)), .val (.int (0 : Int32)), .val (.int vc), .val (.int n1), .val (.int n2), .val (.int x0), .val (.int x1), .val (.int y0), .val (.int y1), .val (.ref sb17), .val (.ref sb18), .val (.ref b19), .val (.int (if vr = (0 : Int32) then (0 : Int32) else (if (if (strL n1 x0 x1) = (strL n2 y0 y1) then (1 : Int32) else (0 : Int32)) = (0 : Int32) then (0 : Int32) else (1 : Int32)))), .unset, .unset] [(.int n1)])
        refine Goes.of (fun _ => XS.iload X21.here hx rfl (hb hby at_218) rfl) ?_
        show Goes p e below _ T21 (mkF m 220 #[.val (.int p1), .val (.int p2), .val (.int p3), .val (.int vr), .val (.int (1 : Int32)), .val (.int (0 : Int32)), .val (.int (0 : Int32)), .val (.int vc), .val (.int n1), .val (.int n2), .val (.int x0), .val (.int x1), .val (.int y0), .val (.int y1), .val (.ref sb17), .val (.ref sb18), .val (.ref b19), .val (.int (if vr = (0 : Int32) then (0 : Int32) else (if (if (strL n1 x0 x1) = (strL n2 y0 y1) then (1 : Int32) else (0 : Int32)) = (0 : Int32) then (0 : Int32) else (1 : Int32)))), .unset, .unset] [(.int n2), (.int n1)])
        refine Goes.of (T' := T21) (f' := (mkF m 254 #[.val (.int p1), .val (.int p2), .val (.int p3), .val (.int vr), .val (.int (1 : Int32)), .val (.int (0 : Int32)), .val (.int (0 : Int32)), .val (.int vc), .val (.int n1), .val (.int n2), .val (.int x0), .val (.int x1), .val (.int y0), .val (.int y1), .val (.ref sb17), .val (.ref sb18), .val (.ref b19), .val (.int (if vr = (0 : Int32) then (0 : Int32) else (if (if (strL n1 x0 x1) = (strL n2 y0 y1) then (1 : Int32) else (0 : Int32)) = (0 : Int32) then (0 : Int32) else (1 : Int32)))), .unset, .unset] [(.int (if n1 = n2 then (if n1 < (1 : Int32) then (if n1 < (2 : Int32) then (1 : Int32) else (if x1 = y1 then (1 : Int32) else (0 : Int32))) else (if x0 = y0 then (if n1 < (2 : Int32) then (1 : Int32) else (if x1 = y1 then (1 : Int32) else (0 : Int32))) else (0 : Int32))) else (0 : Int32)))])) (fun t kt => ?_) ?_
        · show Steps p.tables e below (T21.setTop (mkF m 220 #[.val (.int p1), .val (.int p2), .val (.int p3), .val (.int vr), .val (.int (1 : Int32)), .val (.int (0 : Int32)), .val (.int (0 : Int32)), .val (.int vc), .val (.int n1), .val (.int n2), .val (.int x0), .val (.int x1), .val (.int y0), .val (.int y1), .val (.ref sb17), .val (.ref sb18), .val (.ref b19), .val (.int (if vr = (0 : Int32) then (0 : Int32) else (if (if (strL n1 x0 x1) = (strL n2 y0 y1) then (1 : Int32) else (0 : Int32)) = (0 : Int32) then (0 : Int32) else (1 : Int32)))), .unset, .unset] [(.int n2), (.int n1)])) _
          by_cases hq220 : n1 = n2
          · simp only [if_pos hq220] at kt
            refine XS.icmpNo X21.here hx rfl (hb hby at_220) rfl (teq hq220).2 ?_
            show Steps p.tables e below (T21.setTop (mkF m 223 #[.val (.int p1), .val (.int p2), .val (.int p3), .val (.int vr), .val (.int (1 : Int32)), .val (.int (0 : Int32)), .val (.int (0 : Int32)), .val (.int vc), .val (.int n1), .val (.int n2), .val (.int x0), .val (.int x1), .val (.int y0), .val (.int y1), .val (.ref sb17), .val (.ref sb18), .val (.ref b19), .val (.int (if vr = (0 : Int32) then (0 : Int32) else (if (if (strL n1 x0 x1) = (strL n2 y0 y1) then (1 : Int32) else (0 : Int32)) = (0 : Int32) then (0 : Int32) else (1 : Int32)))), .unset, .unset] [])) _
            refine XS.iload X21.here hx rfl (hb hby at_223) rfl ?_
            show Steps p.tables e below (T21.setTop (mkF m 225 #[.val (.int p1), .val (.int p2), .val (.int p3), .val (.int vr), .val (.int (1 : Int32)), .val (.int (0 : Int32)), .val (.int (0 : Int32)), .val (.int vc), .val (.int n1), .val (.int n2), .val (.int x0), .val (.int x1), .val (.int y0), .val (.int y1), .val (.ref sb17), .val (.ref sb18), .val (.ref b19), .val (.int (if vr = (0 : Int32) then (0 : Int32) else (if (if (strL n1 x0 x1) = (strL n2 y0 y1) then (1 : Int32) else (0 : Int32)) = (0 : Int32) then (0 : Int32) else (1 : Int32)))), .unset, .unset] [(.int n1)])) _
            refine XS.iconst X21.here hx rfl (hb hby at_225) ?_
            show Steps p.tables e below (T21.setTop (mkF m 226 #[.val (.int p1), .val (.int p2), .val (.int p3), .val (.int vr), .val (.int (1 : Int32)), .val (.int (0 : Int32)), .val (.int (0 : Int32)), .val (.int vc), .val (.int n1), .val (.int n2), .val (.int x0), .val (.int x1), .val (.int y0), .val (.int y1), .val (.ref sb17), .val (.ref sb18), .val (.ref b19), .val (.int (if vr = (0 : Int32) then (0 : Int32) else (if (if (strL n1 x0 x1) = (strL n2 y0 y1) then (1 : Int32) else (0 : Int32)) = (0 : Int32) then (0 : Int32) else (1 : Int32)))), .unset, .unset] [(.int (1 : Int32)), (.int n1)])) _
            by_cases hq226 : n1 < (1 : Int32)
            · simp only [if_pos hq226] at kt
              refine XS.icmpYes X21.here hx rfl (pc0 := 226) (pc' := 236) rfl (hb hby at_226) rfl (tlt hq226).1 (by decide) (by decide) ?_
              show Steps p.tables e below (T21.setTop (mkF m 236 #[.val (.int p1), .val (.int p2), .val (.int p3), .val (.int vr), .val (.int (1 : Int32)), .val (.int (0 : Int32)), .val (.int (0 : Int32)), .val (.int vc), .val (.int n1), .val (.int n2), .val (.int x0), .val (.int x1), .val (.int y0), .val (.int y1), .val (.ref sb17), .val (.ref sb18), .val (.ref b19), .val (.int (if vr = (0 : Int32) then (0 : Int32) else (if (if (strL n1 x0 x1) = (strL n2 y0 y1) then (1 : Int32) else (0 : Int32)) = (0 : Int32) then (0 : Int32) else (1 : Int32)))), .unset, .unset] [])) _
              refine XS.iload X21.here hx rfl (hb hby at_236) rfl ?_
              show Steps p.tables e below (T21.setTop (mkF m 238 #[.val (.int p1), .val (.int p2), .val (.int p3), .val (.int vr), .val (.int (1 : Int32)), .val (.int (0 : Int32)), .val (.int (0 : Int32)), .val (.int vc), .val (.int n1), .val (.int n2), .val (.int x0), .val (.int x1), .val (.int y0), .val (.int y1), .val (.ref sb17), .val (.ref sb18), .val (.ref b19), .val (.int (if vr = (0 : Int32) then (0 : Int32) else (if (if (strL n1 x0 x1) = (strL n2 y0 y1) then (1 : Int32) else (0 : Int32)) = (0 : Int32) then (0 : Int32) else (1 : Int32)))), .unset, .unset] [(.int n1)])) _
              refine XS.iconst X21.here hx rfl (hb hby at_238) ?_
              show Steps p.tables e below (T21.setTop (mkF m 239 #[.val (.int p1), .val (.int p2), .val (.int p3), .val (.int vr), .val (.int (1 : Int32)), .val (.int (0 : Int32)), .val (.int (0 : Int32)), .val (.int vc), .val (.int n1), .val (.int n2), .val (.int x0), .val (.int x1), .val (.int y0), .val (.int y1), .val (.ref sb17), .val (.ref sb18), .val (.ref b19), .val (.int (if vr = (0 : Int32) then (0 : Int32) else (if (if (strL n1 x0 x1) = (strL n2 y0 y1) then (1 : Int32) else (0 : Int32)) = (0 : Int32) then (0 : Int32) else (1 : Int32)))), .unset, .unset] [(.int (2 : Int32)), (.int n1)])) _
              by_cases hq239 : n1 < (2 : Int32)
              · simp only [if_pos hq239] at kt
                refine XS.icmpYes X21.here hx rfl (pc0 := 239) (pc' := 249) rfl (hb hby at_239) rfl (tlt hq239).1 (by decide) (by decide) ?_
                show Steps p.tables e below (T21.setTop (mkF m 249 #[.val (.int p1), .val (.int p2), .val (.int p3), .val (.int vr), .val (.int (1 : Int32)), .val (.int (0 : Int32)), .val (.int (0 : Int32)), .val (.int vc), .val (.int n1), .val (.int n2), .val (.int x0), .val (.int x1), .val (.int y0), .val (.int y1), .val (.ref sb17), .val (.ref sb18), .val (.ref b19), .val (.int (if vr = (0 : Int32) then (0 : Int32) else (if (if (strL n1 x0 x1) = (strL n2 y0 y1) then (1 : Int32) else (0 : Int32)) = (0 : Int32) then (0 : Int32) else (1 : Int32)))), .unset, .unset] [])) _
                refine XS.iconst X21.here hx rfl (hb hby at_249) ?_
                show Steps p.tables e below (T21.setTop (mkF m 250 #[.val (.int p1), .val (.int p2), .val (.int p3), .val (.int vr), .val (.int (1 : Int32)), .val (.int (0 : Int32)), .val (.int (0 : Int32)), .val (.int vc), .val (.int n1), .val (.int n2), .val (.int x0), .val (.int x1), .val (.int y0), .val (.int y1), .val (.ref sb17), .val (.ref sb18), .val (.ref b19), .val (.int (if vr = (0 : Int32) then (0 : Int32) else (if (if (strL n1 x0 x1) = (strL n2 y0 y1) then (1 : Int32) else (0 : Int32)) = (0 : Int32) then (0 : Int32) else (1 : Int32)))), .unset, .unset] [(.int (1 : Int32))])) _
                refine XS.goto X21.here hx rfl (pc0 := 250) (pc' := 254) rfl (hb hby at_250) (by decide) (by decide) ?_
                show Steps p.tables e below (T21.setTop (mkF m 254 #[.val (.int p1), .val (.int p2), .val (.int p3), .val (.int vr), .val (.int (1 : Int32)), .val (.int (0 : Int32)), .val (.int (0 : Int32)), .val (.int vc), .val (.int n1), .val (.int n2), .val (.int x0), .val (.int x1), .val (.int y0), .val (.int y1), .val (.ref sb17), .val (.ref sb18), .val (.ref b19), .val (.int (if vr = (0 : Int32) then (0 : Int32) else (if (if (strL n1 x0 x1) = (strL n2 y0 y1) then (1 : Int32) else (0 : Int32)) = (0 : Int32) then (0 : Int32) else (1 : Int32)))), .unset, .unset] [(.int (1 : Int32))])) _
                first | exact kt | (simp only [if_pos hq220, if_pos hq226, if_pos hq239]; exact kt)
              · simp only [if_neg hq239] at kt
                refine XS.icmpNo X21.here hx rfl (hb hby at_239) rfl (flt hq239).1 ?_
                show Steps p.tables e below (T21.setTop (mkF m 242 #[.val (.int p1), .val (.int p2), .val (.int p3), .val (.int vr), .val (.int (1 : Int32)), .val (.int (0 : Int32)), .val (.int (0 : Int32)), .val (.int vc), .val (.int n1), .val (.int n2), .val (.int x0), .val (.int x1), .val (.int y0), .val (.int y1), .val (.ref sb17), .val (.ref sb18), .val (.ref b19), .val (.int (if vr = (0 : Int32) then (0 : Int32) else (if (if (strL n1 x0 x1) = (strL n2 y0 y1) then (1 : Int32) else (0 : Int32)) = (0 : Int32) then (0 : Int32) else (1 : Int32)))), .unset, .unset] [])) _
                refine XS.iload X21.here hx rfl (hb hby at_242) rfl ?_
                show Steps p.tables e below (T21.setTop (mkF m 244 #[.val (.int p1), .val (.int p2), .val (.int p3), .val (.int vr), .val (.int (1 : Int32)), .val (.int (0 : Int32)), .val (.int (0 : Int32)), .val (.int vc), .val (.int n1), .val (.int n2), .val (.int x0), .val (.int x1), .val (.int y0), .val (.int y1), .val (.ref sb17), .val (.ref sb18), .val (.ref b19), .val (.int (if vr = (0 : Int32) then (0 : Int32) else (if (if (strL n1 x0 x1) = (strL n2 y0 y1) then (1 : Int32) else (0 : Int32)) = (0 : Int32) then (0 : Int32) else (1 : Int32)))), .unset, .unset] [(.int x1)])) _
                refine XS.iload X21.here hx rfl (hb hby at_244) rfl ?_
                show Steps p.tables e below (T21.setTop (mkF m 246 #[.val (.int p1), .val (.int p2), .val (.int p3), .val (.int vr), .val (.int (1 : Int32)), .val (.int (0 : Int32)), .val (.int (0 : Int32)), .val (.int vc), .val (.int n1), .val (.int n2), .val (.int x0), .val (.int x1), .val (.int y0), .val (.int y1), .val (.ref sb17), .val (.ref sb18), .val (.ref b19), .val (.int (if vr = (0 : Int32) then (0 : Int32) else (if (if (strL n1 x0 x1) = (strL n2 y0 y1) then (1 : Int32) else (0 : Int32)) = (0 : Int32) then (0 : Int32) else (1 : Int32)))), .unset, .unset] [(.int y1), (.int x1)])) _
                by_cases hq246 : x1 = y1
                · simp only [if_pos hq246] at kt
                  refine XS.icmpNo X21.here hx rfl (hb hby at_246) rfl (teq hq246).2 ?_
                  show Steps p.tables e below (T21.setTop (mkF m 249 #[.val (.int p1), .val (.int p2), .val (.int p3), .val (.int vr), .val (.int (1 : Int32)), .val (.int (0 : Int32)), .val (.int (0 : Int32)), .val (.int vc), .val (.int n1), .val (.int n2), .val (.int x0), .val (.int x1), .val (.int y0), .val (.int y1), .val (.ref sb17), .val (.ref sb18), .val (.ref b19), .val (.int (if vr = (0 : Int32) then (0 : Int32) else (if (if (strL n1 x0 x1) = (strL n2 y0 y1) then (1 : Int32) else (0 : Int32)) = (0 : Int32) then (0 : Int32) else (1 : Int32)))), .unset, .unset] [])) _
                  refine XS.iconst X21.here hx rfl (hb hby at_249) ?_
                  show Steps p.tables e below (T21.setTop (mkF m 250 #[.val (.int p1), .val (.int p2), .val (.int p3), .val (.int vr), .val (.int (1 : Int32)), .val (.int (0 : Int32)), .val (.int (0 : Int32)), .val (.int vc), .val (.int n1), .val (.int n2), .val (.int x0), .val (.int x1), .val (.int y0), .val (.int y1), .val (.ref sb17), .val (.ref sb18), .val (.ref b19), .val (.int (if vr = (0 : Int32) then (0 : Int32) else (if (if (strL n1 x0 x1) = (strL n2 y0 y1) then (1 : Int32) else (0 : Int32)) = (0 : Int32) then (0 : Int32) else (1 : Int32)))), .unset, .unset] [(.int (1 : Int32))])) _
                  refine XS.goto X21.here hx rfl (pc0 := 250) (pc' := 254) rfl (hb hby at_250) (by decide) (by decide) ?_
                  show Steps p.tables e below (T21.setTop (mkF m 254 #[.val (.int p1), .val (.int p2), .val (.int p3), .val (.int vr), .val (.int (1 : Int32)), .val (.int (0 : Int32)), .val (.int (0 : Int32)), .val (.int vc), .val (.int n1), .val (.int n2), .val (.int x0), .val (.int x1), .val (.int y0), .val (.int y1), .val (.ref sb17), .val (.ref sb18), .val (.ref b19), .val (.int (if vr = (0 : Int32) then (0 : Int32) else (if (if (strL n1 x0 x1) = (strL n2 y0 y1) then (1 : Int32) else (0 : Int32)) = (0 : Int32) then (0 : Int32) else (1 : Int32)))), .unset, .unset] [(.int (1 : Int32))])) _
                  first | exact kt | (simp only [if_pos hq220, if_pos hq226, if_neg hq239, if_pos hq246]; exact kt)
                · simp only [if_neg hq246] at kt
                  refine XS.icmpYes X21.here hx rfl (pc0 := 246) (pc' := 253) rfl (hb hby at_246) rfl (feq hq246).2 (by decide) (by decide) ?_
                  show Steps p.tables e below (T21.setTop (mkF m 253 #[.val (.int p1), .val (.int p2), .val (.int p3), .val (.int vr), .val (.int (1 : Int32)), .val (.int (0 : Int32)), .val (.int (0 : Int32)), .val (.int vc), .val (.int n1), .val (.int n2), .val (.int x0), .val (.int x1), .val (.int y0), .val (.int y1), .val (.ref sb17), .val (.ref sb18), .val (.ref b19), .val (.int (if vr = (0 : Int32) then (0 : Int32) else (if (if (strL n1 x0 x1) = (strL n2 y0 y1) then (1 : Int32) else (0 : Int32)) = (0 : Int32) then (0 : Int32) else (1 : Int32)))), .unset, .unset] [])) _
                  refine XS.iconst X21.here hx rfl (hb hby at_253) ?_
                  show Steps p.tables e below (T21.setTop (mkF m 254 #[.val (.int p1), .val (.int p2), .val (.int p3), .val (.int vr), .val (.int (1 : Int32)), .val (.int (0 : Int32)), .val (.int (0 : Int32)), .val (.int vc), .val (.int n1), .val (.int n2), .val (.int x0), .val (.int x1), .val (.int y0), .val (.int y1), .val (.ref sb17), .val (.ref sb18), .val (.ref b19), .val (.int (if vr = (0 : Int32) then (0 : Int32) else (if (if (strL n1 x0 x1) = (strL n2 y0 y1) then (1 : Int32) else (0 : Int32)) = (0 : Int32) then (0 : Int32) else (1 : Int32)))), .unset, .unset] [(.int (0 : Int32))])) _
                  first | exact kt | (simp only [if_pos hq220, if_pos hq226, if_neg hq239, if_neg hq246]; exact kt)
            · simp only [if_neg hq226] at kt
              refine XS.icmpNo X21.here hx rfl (hb hby at_226) rfl (flt hq226).1 ?_
              show Steps p.tables e below (T21.setTop (mkF m 229 #[.val (.int p1), .val (.int p2), .val (.int p3), .val (.int vr), .val (.int (1 : Int32)), .val (.int (0 : Int32)), .val (.int (0 : Int32)), .val (.int vc), .val (.int n1), .val (.int n2), .val (.int x0), .val (.int x1), .val (.int y0), .val (.int y1), .val (.ref sb17), .val (.ref sb18), .val (.ref b19), .val (.int (if vr = (0 : Int32) then (0 : Int32) else (if (if (strL n1 x0 x1) = (strL n2 y0 y1) then (1 : Int32) else (0 : Int32)) = (0 : Int32) then (0 : Int32) else (1 : Int32)))), .unset, .unset] [])) _
              refine XS.iload X21.here hx rfl (hb hby at_229) rfl ?_
              show Steps p.tables e below (T21.setTop (mkF m 231 #[.val (.int p1), .val (.int p2), .val (.int p3), .val (.int vr), .val (.int (1 : Int32)), .val (.int (0 : Int32)), .val (.int (0 : Int32)), .val (.int vc), .val (.int n1), .val (.int n2), .val (.int x0), .val (.int x1), .val (.int y0), .val (.int y1), .val (.ref sb17), .val (.ref sb18), .val (.ref b19), .val (.int (if vr = (0 : Int32) then (0 : Int32) else (if (if (strL n1 x0 x1) = (strL n2 y0 y1) then (1 : Int32) else (0 : Int32)) = (0 : Int32) then (0 : Int32) else (1 : Int32)))), .unset, .unset] [(.int x0)])) _
              refine XS.iload X21.here hx rfl (hb hby at_231) rfl ?_
              show Steps p.tables e below (T21.setTop (mkF m 233 #[.val (.int p1), .val (.int p2), .val (.int p3), .val (.int vr), .val (.int (1 : Int32)), .val (.int (0 : Int32)), .val (.int (0 : Int32)), .val (.int vc), .val (.int n1), .val (.int n2), .val (.int x0), .val (.int x1), .val (.int y0), .val (.int y1), .val (.ref sb17), .val (.ref sb18), .val (.ref b19), .val (.int (if vr = (0 : Int32) then (0 : Int32) else (if (if (strL n1 x0 x1) = (strL n2 y0 y1) then (1 : Int32) else (0 : Int32)) = (0 : Int32) then (0 : Int32) else (1 : Int32)))), .unset, .unset] [(.int y0), (.int x0)])) _
              by_cases hq233 : x0 = y0
              · simp only [if_pos hq233] at kt
                refine XS.icmpNo X21.here hx rfl (hb hby at_233) rfl (teq hq233).2 ?_
                show Steps p.tables e below (T21.setTop (mkF m 236 #[.val (.int p1), .val (.int p2), .val (.int p3), .val (.int vr), .val (.int (1 : Int32)), .val (.int (0 : Int32)), .val (.int (0 : Int32)), .val (.int vc), .val (.int n1), .val (.int n2), .val (.int x0), .val (.int x1), .val (.int y0), .val (.int y1), .val (.ref sb17), .val (.ref sb18), .val (.ref b19), .val (.int (if vr = (0 : Int32) then (0 : Int32) else (if (if (strL n1 x0 x1) = (strL n2 y0 y1) then (1 : Int32) else (0 : Int32)) = (0 : Int32) then (0 : Int32) else (1 : Int32)))), .unset, .unset] [])) _
                refine XS.iload X21.here hx rfl (hb hby at_236) rfl ?_
                show Steps p.tables e below (T21.setTop (mkF m 238 #[.val (.int p1), .val (.int p2), .val (.int p3), .val (.int vr), .val (.int (1 : Int32)), .val (.int (0 : Int32)), .val (.int (0 : Int32)), .val (.int vc), .val (.int n1), .val (.int n2), .val (.int x0), .val (.int x1), .val (.int y0), .val (.int y1), .val (.ref sb17), .val (.ref sb18), .val (.ref b19), .val (.int (if vr = (0 : Int32) then (0 : Int32) else (if (if (strL n1 x0 x1) = (strL n2 y0 y1) then (1 : Int32) else (0 : Int32)) = (0 : Int32) then (0 : Int32) else (1 : Int32)))), .unset, .unset] [(.int n1)])) _
                refine XS.iconst X21.here hx rfl (hb hby at_238) ?_
                show Steps p.tables e below (T21.setTop (mkF m 239 #[.val (.int p1), .val (.int p2), .val (.int p3), .val (.int vr), .val (.int (1 : Int32)), .val (.int (0 : Int32)), .val (.int (0 : Int32)), .val (.int vc), .val (.int n1), .val (.int n2), .val (.int x0), .val (.int x1), .val (.int y0), .val (.int y1), .val (.ref sb17), .val (.ref sb18), .val (.ref b19), .val (.int (if vr = (0 : Int32) then (0 : Int32) else (if (if (strL n1 x0 x1) = (strL n2 y0 y1) then (1 : Int32) else (0 : Int32)) = (0 : Int32) then (0 : Int32) else (1 : Int32)))), .unset, .unset] [(.int (2 : Int32)), (.int n1)])) _
                by_cases hq239 : n1 < (2 : Int32)
                · simp only [if_pos hq239] at kt
                  refine XS.icmpYes X21.here hx rfl (pc0 := 239) (pc' := 249) rfl (hb hby at_239) rfl (tlt hq239).1 (by decide) (by decide) ?_
                  show Steps p.tables e below (T21.setTop (mkF m 249 #[.val (.int p1), .val (.int p2), .val (.int p3), .val (.int vr), .val (.int (1 : Int32)), .val (.int (0 : Int32)), .val (.int (0 : Int32)), .val (.int vc), .val (.int n1), .val (.int n2), .val (.int x0), .val (.int x1), .val (.int y0), .val (.int y1), .val (.ref sb17), .val (.ref sb18), .val (.ref b19), .val (.int (if vr = (0 : Int32) then (0 : Int32) else (if (if (strL n1 x0 x1) = (strL n2 y0 y1) then (1 : Int32) else (0 : Int32)) = (0 : Int32) then (0 : Int32) else (1 : Int32)))), .unset, .unset] [])) _
                  refine XS.iconst X21.here hx rfl (hb hby at_249) ?_
                  show Steps p.tables e below (T21.setTop (mkF m 250 #[.val (.int p1), .val (.int p2), .val (.int p3), .val (.int vr), .val (.int (1 : Int32)), .val (.int (0 : Int32)), .val (.int (0 : Int32)), .val (.int vc), .val (.int n1), .val (.int n2), .val (.int x0), .val (.int x1), .val (.int y0), .val (.int y1), .val (.ref sb17), .val (.ref sb18), .val (.ref b19), .val (.int (if vr = (0 : Int32) then (0 : Int32) else (if (if (strL n1 x0 x1) = (strL n2 y0 y1) then (1 : Int32) else (0 : Int32)) = (0 : Int32) then (0 : Int32) else (1 : Int32)))), .unset, .unset] [(.int (1 : Int32))])) _
                  refine XS.goto X21.here hx rfl (pc0 := 250) (pc' := 254) rfl (hb hby at_250) (by decide) (by decide) ?_
                  show Steps p.tables e below (T21.setTop (mkF m 254 #[.val (.int p1), .val (.int p2), .val (.int p3), .val (.int vr), .val (.int (1 : Int32)), .val (.int (0 : Int32)), .val (.int (0 : Int32)), .val (.int vc), .val (.int n1), .val (.int n2), .val (.int x0), .val (.int x1), .val (.int y0), .val (.int y1), .val (.ref sb17), .val (.ref sb18), .val (.ref b19), .val (.int (if vr = (0 : Int32) then (0 : Int32) else (if (if (strL n1 x0 x1) = (strL n2 y0 y1) then (1 : Int32) else (0 : Int32)) = (0 : Int32) then (0 : Int32) else (1 : Int32)))), .unset, .unset] [(.int (1 : Int32))])) _
                  first | exact kt | (simp only [if_pos hq220, if_neg hq226, if_pos hq233, if_pos hq239]; exact kt)
                · simp only [if_neg hq239] at kt
                  refine XS.icmpNo X21.here hx rfl (hb hby at_239) rfl (flt hq239).1 ?_
                  show Steps p.tables e below (T21.setTop (mkF m 242 #[.val (.int p1), .val (.int p2), .val (.int p3), .val (.int vr), .val (.int (1 : Int32)), .val (.int (0 : Int32)), .val (.int (0 : Int32)), .val (.int vc), .val (.int n1), .val (.int n2), .val (.int x0), .val (.int x1), .val (.int y0), .val (.int y1), .val (.ref sb17), .val (.ref sb18), .val (.ref b19), .val (.int (if vr = (0 : Int32) then (0 : Int32) else (if (if (strL n1 x0 x1) = (strL n2 y0 y1) then (1 : Int32) else (0 : Int32)) = (0 : Int32) then (0 : Int32) else (1 : Int32)))), .unset, .unset] [])) _
                  refine XS.iload X21.here hx rfl (hb hby at_242) rfl ?_
                  show Steps p.tables e below (T21.setTop (mkF m 244 #[.val (.int p1), .val (.int p2), .val (.int p3), .val (.int vr), .val (.int (1 : Int32)), .val (.int (0 : Int32)), .val (.int (0 : Int32)), .val (.int vc), .val (.int n1), .val (.int n2), .val (.int x0), .val (.int x1), .val (.int y0), .val (.int y1), .val (.ref sb17), .val (.ref sb18), .val (.ref b19), .val (.int (if vr = (0 : Int32) then (0 : Int32) else (if (if (strL n1 x0 x1) = (strL n2 y0 y1) then (1 : Int32) else (0 : Int32)) = (0 : Int32) then (0 : Int32) else (1 : Int32)))), .unset, .unset] [(.int x1)])) _
                  refine XS.iload X21.here hx rfl (hb hby at_244) rfl ?_
                  show Steps p.tables e below (T21.setTop (mkF m 246 #[.val (.int p1), .val (.int p2), .val (.int p3), .val (.int vr), .val (.int (1 : Int32)), .val (.int (0 : Int32)), .val (.int (0 : Int32)), .val (.int vc), .val (.int n1), .val (.int n2), .val (.int x0), .val (.int x1), .val (.int y0), .val (.int y1), .val (.ref sb17), .val (.ref sb18), .val (.ref b19), .val (.int (if vr = (0 : Int32) then (0 : Int32) else (if (if (strL n1 x0 x1) = (strL n2 y0 y1) then (1 : Int32) else (0 : Int32)) = (0 : Int32) then (0 : Int32) else (1 : Int32)))), .unset, .unset] [(.int y1), (.int x1)])) _
                  by_cases hq246 : x1 = y1
                  · simp only [if_pos hq246] at kt
                    refine XS.icmpNo X21.here hx rfl (hb hby at_246) rfl (teq hq246).2 ?_
                    show Steps p.tables e below (T21.setTop (mkF m 249 #[.val (.int p1), .val (.int p2), .val (.int p3), .val (.int vr), .val (.int (1 : Int32)), .val (.int (0 : Int32)), .val (.int (0 : Int32)), .val (.int vc), .val (.int n1), .val (.int n2), .val (.int x0), .val (.int x1), .val (.int y0), .val (.int y1), .val (.ref sb17), .val (.ref sb18), .val (.ref b19), .val (.int (if vr = (0 : Int32) then (0 : Int32) else (if (if (strL n1 x0 x1) = (strL n2 y0 y1) then (1 : Int32) else (0 : Int32)) = (0 : Int32) then (0 : Int32) else (1 : Int32)))), .unset, .unset] [])) _
                    refine XS.iconst X21.here hx rfl (hb hby at_249) ?_
                    show Steps p.tables e below (T21.setTop (mkF m 250 #[.val (.int p1), .val (.int p2), .val (.int p3), .val (.int vr), .val (.int (1 : Int32)), .val (.int (0 : Int32)), .val (.int (0 : Int32)), .val (.int vc), .val (.int n1), .val (.int n2), .val (.int x0), .val (.int x1), .val (.int y0), .val (.int y1), .val (.ref sb17), .val (.ref sb18), .val (.ref b19), .val (.int (if vr = (0 : Int32) then (0 : Int32) else (if (if (strL n1 x0 x1) = (strL n2 y0 y1) then (1 : Int32) else (0 : Int32)) = (0 : Int32) then (0 : Int32) else (1 : Int32)))), .unset, .unset] [(.int (1 : Int32))])) _
                    refine XS.goto X21.here hx rfl (pc0 := 250) (pc' := 254) rfl (hb hby at_250) (by decide) (by decide) ?_
                    show Steps p.tables e below (T21.setTop (mkF m 254 #[.val (.int p1), .val (.int p2), .val (.int p3), .val (.int vr), .val (.int (1 : Int32)), .val (.int (0 : Int32)), .val (.int (0 : Int32)), .val (.int vc), .val (.int n1), .val (.int n2), .val (.int x0), .val (.int x1), .val (.int y0), .val (.int y1), .val (.ref sb17), .val (.ref sb18), .val (.ref b19), .val (.int (if vr = (0 : Int32) then (0 : Int32) else (if (if (strL n1 x0 x1) = (strL n2 y0 y1) then (1 : Int32) else (0 : Int32)) = (0 : Int32) then (0 : Int32) else (1 : Int32)))), .unset, .unset] [(.int (1 : Int32))])) _
                    first | exact kt | (simp only [if_pos hq220, if_neg hq226, if_pos hq233, if_neg hq239, if_pos hq246]; exact kt)
                  · simp only [if_neg hq246] at kt
                    refine XS.icmpYes X21.here hx rfl (pc0 := 246) (pc' := 253) rfl (hb hby at_246) rfl (feq hq246).2 (by decide) (by decide) ?_
                    show Steps p.tables e below (T21.setTop (mkF m 253 #[.val (.int p1), .val (.int p2), .val (.int p3), .val (.int vr), .val (.int (1 : Int32)), .val (.int (0 : Int32)), .val (.int (0 : Int32)), .val (.int vc), .val (.int n1), .val (.int n2), .val (.int x0), .val (.int x1), .val (.int y0), .val (.int y1), .val (.ref sb17), .val (.ref sb18), .val (.ref b19), .val (.int (if vr = (0 : Int32) then (0 : Int32) else (if (if (strL n1 x0 x1) = (strL n2 y0 y1) then (1 : Int32) else (0 : Int32)) = (0 : Int32) then (0 : Int32) else (1 : Int32)))), .unset, .unset] [])) _
                    refine XS.iconst X21.here hx rfl (hb hby at_253) ?_
                    show Steps p.tables e below (T21.setTop (mkF m 254 #[.val (.int p1), .val (.int p2), .val (.int p3), .val (.int vr), .val (.int (1 : Int32)), .val (.int (0 : Int32)), .val (.int (0 : Int32)), .val (.int vc), .val (.int n1), .val (.int n2), .val (.int x0), .val (.int x1), .val (.int y0), .val (.int y1), .val (.ref sb17), .val (.ref sb18), .val (.ref b19), .val (.int (if vr = (0 : Int32) then (0 : Int32) else (if (if (strL n1 x0 x1) = (strL n2 y0 y1) then (1 : Int32) else (0 : Int32)) = (0 : Int32) then (0 : Int32) else (1 : Int32)))), .unset, .unset] [(.int (0 : Int32))])) _
                    first | exact kt | (simp only [if_pos hq220, if_neg hq226, if_pos hq233, if_neg hq239, if_neg hq246]; exact kt)
              · simp only [if_neg hq233] at kt
                refine XS.icmpYes X21.here hx rfl (pc0 := 233) (pc' := 253) rfl (hb hby at_233) rfl (feq hq233).2 (by decide) (by decide) ?_
                show Steps p.tables e below (T21.setTop (mkF m 253 #[.val (.int p1), .val (.int p2), .val (.int p3), .val (.int vr), .val (.int (1 : Int32)), .val (.int (0 : Int32)), .val (.int (0 : Int32)), .val (.int vc), .val (.int n1), .val (.int n2), .val (.int x0), .val (.int x1), .val (.int y0), .val (.int y1), .val (.ref sb17), .val (.ref sb18), .val (.ref b19), .val (.int (if vr = (0 : Int32) then (0 : Int32) else (if (if (strL n1 x0 x1) = (strL n2 y0 y1) then (1 : Int32) else (0 : Int32)) = (0 : Int32) then (0 : Int32) else (1 : Int32)))), .unset, .unset] [])) _
                refine XS.iconst X21.here hx rfl (hb hby at_253) ?_
                show Steps p.tables e below (T21.setTop (mkF m 254 #[.val (.int p1), .val (.int p2), .val (.int p3), .val (.int vr), .val (.int (1 : Int32)), .val (.int (0 : Int32)), .val (.int (0 : Int32)), .val (.int vc), .val (.int n1), .val (.int n2), .val (.int x0), .val (.int x1), .val (.int y0), .val (.int y1), .val (.ref sb17), .val (.ref sb18), .val (.ref b19), .val (.int (if vr = (0 : Int32) then (0 : Int32) else (if (if (strL n1 x0 x1) = (strL n2 y0 y1) then (1 : Int32) else (0 : Int32)) = (0 : Int32) then (0 : Int32) else (1 : Int32)))), .unset, .unset] [(.int (0 : Int32))])) _
                first | exact kt | (simp only [if_pos hq220, if_neg hq226, if_neg hq233]; exact kt)
          · simp only [if_neg hq220] at kt
            refine XS.icmpYes X21.here hx rfl (pc0 := 220) (pc' := 253) rfl (hb hby at_220) rfl (feq hq220).2 (by decide) (by decide) ?_
            show Steps p.tables e below (T21.setTop (mkF m 253 #[.val (.int p1), .val (.int p2), .val (.int p3), .val (.int vr), .val (.int (1 : Int32)), .val (.int (0 : Int32)), .val (.int (0 : Int32)), .val (.int vc), .val (.int n1), .val (.int n2), .val (.int x0), .val (.int x1), .val (.int y0), .val (.int y1), .val (.ref sb17), .val (.ref sb18), .val (.ref b19), .val (.int (if vr = (0 : Int32) then (0 : Int32) else (if (if (strL n1 x0 x1) = (strL n2 y0 y1) then (1 : Int32) else (0 : Int32)) = (0 : Int32) then (0 : Int32) else (1 : Int32)))), .unset, .unset] [])) _
            refine XS.iconst X21.here hx rfl (hb hby at_253) ?_
            show Steps p.tables e below (T21.setTop (mkF m 254 #[.val (.int p1), .val (.int p2), .val (.int p3), .val (.int vr), .val (.int (1 : Int32)), .val (.int (0 : Int32)), .val (.int (0 : Int32)), .val (.int vc), .val (.int n1), .val (.int n2), .val (.int x0), .val (.int x1), .val (.int y0), .val (.int y1), .val (.ref sb17), .val (.ref sb18), .val (.ref b19), .val (.int (if vr = (0 : Int32) then (0 : Int32) else (if (if (strL n1 x0 x1) = (strL n2 y0 y1) then (1 : Int32) else (0 : Int32)) = (0 : Int32) then (0 : Int32) else (1 : Int32)))), .unset, .unset] [(.int (0 : Int32))])) _
            first | exact kt | (simp only [if_neg hq220]; exact kt)
        show Goes p e below _ T21 (mkF m 254 #[.val (.int p1), .val (.int p2), .val (.int p3), .val (.int vr), .val (.int (1 : Int32)), .val (.int (0 : Int32)), .val (.int (0 : Int32)), .val (.int vc), .val (.int n1), .val (.int n2), .val (.int x0), .val (.int x1), .val (.int y0), .val (.int y1), .val (.ref sb17), .val (.ref sb18), .val (.ref b19), .val (.int (if vr = (0 : Int32) then (0 : Int32) else (if (if (strL n1 x0 x1) = (strL n2 y0 y1) then (1 : Int32) else (0 : Int32)) = (0 : Int32) then (0 : Int32) else (1 : Int32)))), .unset, .unset] [(.int (if n1 = n2 then (if n1 < (1 : Int32) then (if n1 < (2 : Int32) then (1 : Int32) else (if x1 = y1 then (1 : Int32) else (0 : Int32))) else (if x0 = y0 then (if n1 < (2 : Int32) then (1 : Int32) else (if x1 = y1 then (1 : Int32) else (0 : Int32))) else (0 : Int32))) else (0 : Int32)))])
        refine Goes.of (fun _ => XS.istore X21.here hx rfl (hb hby at_254) rfl (l' := #[.val (.int p1), .val (.int p2), .val (.int p3), .val (.int vr), .val (.int (1 : Int32)), .val (.int (0 : Int32)), .val (.int (0 : Int32)), .val (.int vc), .val (.int n1), .val (.int n2), .val (.int x0), .val (.int x1), .val (.int y0), .val (.int y1), .val (.ref sb17), .val (.ref sb18), .val (.ref b19), .val (.int (if vr = (0 : Int32) then (0 : Int32) else (if (if (strL n1 x0 x1) = (strL n2 y0 y1) then (1 : Int32) else (0 : Int32)) = (0 : Int32) then (0 : Int32) else (1 : Int32)))), .val (.int (if n1 = n2 then (if n1 < (1 : Int32) then (if n1 < (2 : Int32) then (1 : Int32) else (if x1 = y1 then (1 : Int32) else (0 : Int32))) else (if x0 = y0 then (if n1 < (2 : Int32) then (1 : Int32) else (if x1 = y1 then (1 : Int32) else (0 : Int32))) else (0 : Int32))) else (0 : Int32))), .unset]) rfl) ?_
        show Goes p e below _ T21 (mkF m 256 #[.val (.int p1), .val (.int p2), .val (.int p3), .val (.int vr), .val (.int (1 : Int32)), .val (.int (0 : Int32)), .val (.int (0 : Int32)), .val (.int vc), .val (.int n1), .val (.int n2), .val (.int x0), .val (.int x1), .val (.int y0), .val (.int y1), .val (.ref sb17), .val (.ref sb18), .val (.ref b19), .val (.int (if vr = (0 : Int32) then (0 : Int32) else (if (if (strL n1 x0 x1) = (strL n2 y0 y1) then (1 : Int32) else (0 : Int32)) = (0 : Int32) then (0 : Int32) else (1 : Int32)))), .val (.int (if n1 = n2 then (if n1 < (1 : Int32) then (if n1 < (2 : Int32) then (1 : Int32) else (if x1 = y1 then (1 : Int32) else (0 : Int32))) else (if x0 = y0 then (if n1 < (2 : Int32) then (1 : Int32) else (if x1 = y1 then (1 : Int32) else (0 : Int32))) else (0 : Int32))) else (0 : Int32))), .unset] [])
        generalize erf : (if n1 = n2 then (if n1 < (1 : Int32) then (if n1 < (2 : Int32) then (1 : Int32) else (if x1 = y1 then (1 : Int32) else (0 : Int32))) else (if x0 = y0 then (if n1 < (2 : Int32) then (1 : Int32) else (if x1 = y1 then (1 : Int32) else (0 : Int32))) else (0 : Int32))) else (0 : Int32)) = rf
        show Goes p e below _ T21 (mkF m 256 #[.val (.int p1), .val (.int p2), .val (.int p3), .val (.int vr), .val (.int (1 : Int32)), .val (.int (0 : Int32)), .val (.int (0 : Int32)), .val (.int vc), .val (.int n1), .val (.int n2), .val (.int x0), .val (.int x1), .val (.int y0), .val (.int y1), .val (.ref sb17), .val (.ref sb18), .val (.ref b19), .val (.int (if vr = (0 : Int32) then (0 : Int32) else (if (if (strL n1 x0 x1) = (strL n2 y0 y1) then (1 : Int32) else (0 : Int32)) = (0 : Int32) then (0 : Int32) else (1 : Int32)))), .val (.int rf), .unset] [])
        refine Goes.of (fun _ => XS.iloadN X21.here hx rfl (hb hby at_256) rfl) ?_
        show Goes p e below _ T21 (mkF m 257 #[.val (.int p1), .val (.int p2), .val (.int p3), .val (.int vr), .val (.int (1 : Int32)), .val (.int (0 : Int32)), .val (.int (0 : Int32)), .val (.int vc), .val (.int n1), .val (.int n2), .val (.int x0), .val (.int x1), .val (.int y0), .val (.int y1), .val (.ref sb17), .val (.ref sb18), .val (.ref b19), .val (.int (if vr = (0 : Int32) then (0 : Int32) else (if (if (strL n1 x0 x1) = (strL n2 y0 y1) then (1 : Int32) else (0 : Int32)) = (0 : Int32) then (0 : Int32) else (1 : Int32)))), .val (.int rf), .unset] [(.int vr)])
        refine Goes.of (T' := T21) (f' := (mkF m 313 #[.val (.int p1), .val (.int p2), .val (.int p3), .val (.int vr), .val (.int (1 : Int32)), .val (.int (0 : Int32)), .val (.int (0 : Int32)), .val (.int vc), .val (.int n1), .val (.int n2), .val (.int x0), .val (.int x1), .val (.int y0), .val (.int y1), .val (.ref sb17), .val (.ref sb18), .val (.ref b19), .val (.int (if vr = (0 : Int32) then (0 : Int32) else (if (if (strL n1 x0 x1) = (strL n2 y0 y1) then (1 : Int32) else (0 : Int32)) = (0 : Int32) then (0 : Int32) else (1 : Int32)))), .val (.int rf), .val (.int (if vr = (0 : Int32) then (0 : Int32) else (if rf = (0 : Int32) then (0 : Int32) else (1 : Int32))))] [])) (fun t kt => ?_) ?_
        · show Steps p.tables e below (T21.setTop (mkF m 257 #[.val (.int p1), .val (.int p2), .val (.int p3), .val (.int vr), .val (.int (1 : Int32)), .val (.int (0 : Int32)), .val (.int (0 : Int32)), .val (.int vc), .val (.int n1), .val (.int n2), .val (.int x0), .val (.int x1), .val (.int y0), .val (.int y1), .val (.ref sb17), .val (.ref sb18), .val (.ref b19), .val (.int (if vr = (0 : Int32) then (0 : Int32) else (if (if (strL n1 x0 x1) = (strL n2 y0 y1) then (1 : Int32) else (0 : Int32)) = (0 : Int32) then (0 : Int32) else (1 : Int32)))), .val (.int rf), .unset] [(.int vr)])) _
          by_cases hq257 : vr = (0 : Int32)
          · simp only [if_pos hq257] at kt
            refine XS.ifNo X21.here hx rfl (hb hby at_257) rfl ((if0 _ _).trans (teq hq257).2) ?_
            show Steps p.tables e below (T21.setTop (mkF m 260 #[.val (.int p1), .val (.int p2), .val (.int p3), .val (.int vr), .val (.int (1 : Int32)), .val (.int (0 : Int32)), .val (.int (0 : Int32)), .val (.int vc), .val (.int n1), .val (.int n2), .val (.int x0), .val (.int x1), .val (.int y0), .val (.int y1), .val (.ref sb17), .val (.ref sb18), .val (.ref b19), .val (.int (if vr = (0 : Int32) then (0 : Int32) else (if (if (strL n1 x0 x1) = (strL n2 y0 y1) then (1 : Int32) else (0 : Int32)) = (0 : Int32) then (0 : Int32) else (1 : Int32)))), .val (.int rf), .unset] [])) _
            refine XS.iconst X21.here hx rfl (hb hby at_260) ?_
            show Steps p.tables e below (T21.setTop (mkF m 261 #[.val (.int p1), .val (.int p2), .val (.int p3), .val (.int vr), .val (.int (1 : Int32)), .val (.int (0 : Int32)), .val (.int (0 : Int32)), .val (.int vc), .val (.int n1), .val (.int n2), .val (.int x0), .val (.int x1), .val (.int y0), .val (.int y1), .val (.ref sb17), .val (.ref sb18), .val (.ref b19), .val (.int (if vr = (0 : Int32) then (0 : Int32) else (if (if (strL n1 x0 x1) = (strL n2 y0 y1) then (1 : Int32) else (0 : Int32)) = (0 : Int32) then (0 : Int32) else (1 : Int32)))), .val (.int rf), .unset] [(.int (0 : Int32))])) _
            refine XS.istore X21.here hx rfl (hb hby at_261) rfl (l' := #[.val (.int p1), .val (.int p2), .val (.int p3), .val (.int vr), .val (.int (1 : Int32)), .val (.int (0 : Int32)), .val (.int (0 : Int32)), .val (.int vc), .val (.int n1), .val (.int n2), .val (.int x0), .val (.int x1), .val (.int y0), .val (.int y1), .val (.ref sb17), .val (.ref sb18), .val (.ref b19), .val (.int (if vr = (0 : Int32) then (0 : Int32) else (if (if (strL n1 x0 x1) = (strL n2 y0 y1) then (1 : Int32) else (0 : Int32)) = (0 : Int32) then (0 : Int32) else (1 : Int32)))), .val (.int rf), .val (.int (0 : Int32))]) rfl ?_
            show Steps p.tables e below (T21.setTop (mkF m 263 #[.val (.int p1), .val (.int p2), .val (.int p3), .val (.int vr), .val (.int (1 : Int32)), .val (.int (0 : Int32)), .val (.int (0 : Int32)), .val (.int vc), .val (.int n1), .val (.int n2), .val (.int x0), .val (.int x1), .val (.int y0), .val (.int y1), .val (.ref sb17), .val (.ref sb18), .val (.ref b19), .val (.int (if vr = (0 : Int32) then (0 : Int32) else (if (if (strL n1 x0 x1) = (strL n2 y0 y1) then (1 : Int32) else (0 : Int32)) = (0 : Int32) then (0 : Int32) else (1 : Int32)))), .val (.int rf), .val (.int (0 : Int32))] [])) _
            refine XS.goto X21.here hx rfl (pc0 := 263) (pc' := 313) rfl (hb hby at_263) (by decide) (by decide) ?_
            show Steps p.tables e below (T21.setTop (mkF m 313 #[.val (.int p1), .val (.int p2), .val (.int p3), .val (.int vr), .val (.int (1 : Int32)), .val (.int (0 : Int32)), .val (.int (0 : Int32)), .val (.int vc), .val (.int n1), .val (.int n2), .val (.int x0), .val (.int x1), .val (.int y0), .val (.int y1), .val (.ref sb17), .val (.ref sb18), .val (.ref b19), .val (.int (if vr = (0 : Int32) then (0 : Int32) else (if (if (strL n1 x0 x1) = (strL n2 y0 y1) then (1 : Int32) else (0 : Int32)) = (0 : Int32) then (0 : Int32) else (1 : Int32)))), .val (.int rf), .val (.int (0 : Int32))] [])) _
            first | exact kt | (simp only [if_pos hq257]; exact kt)
          · simp only [if_neg hq257] at kt
            refine XS.ifYes X21.here hx rfl (pc0 := 257) (pc' := 266) rfl (hb hby at_257) rfl ((if0 _ _).trans (feq hq257).2) (by decide) (by decide) ?_
            show Steps p.tables e below (T21.setTop (mkF m 266 #[.val (.int p1), .val (.int p2), .val (.int p3), .val (.int vr), .val (.int (1 : Int32)), .val (.int (0 : Int32)), .val (.int (0 : Int32)), .val (.int vc), .val (.int n1), .val (.int n2), .val (.int x0), .val (.int x1), .val (.int y0), .val (.int y1), .val (.ref sb17), .val (.ref sb18), .val (.ref b19), .val (.int (if vr = (0 : Int32) then (0 : Int32) else (if (if (strL n1 x0 x1) = (strL n2 y0 y1) then (1 : Int32) else (0 : Int32)) = (0 : Int32) then (0 : Int32) else (1 : Int32)))), .val (.int rf), .unset] [])) _
            refine XS.iload X21.here hx rfl (hb hby at_266) rfl ?_
            show Steps p.tables e below (T21.setTop (mkF m 268 #[.val (.int p1), .val (.int p2), .val (.int p3), .val (.int vr), .val (.int (1 : Int32)), .val (.int (0 : Int32)), .val (.int (0 : Int32)), .val (.int vc), .val (.int n1), .val (.int n2), .val (.int x0), .val (.int x1), .val (.int y0), .val (.int y1), .val (.ref sb17), .val (.ref sb18), .val (.ref b19), .val (.int (if vr = (0 : Int32) then (0 : Int32) else (if (if (strL n1 x0 x1) = (strL n2 y0 y1) then (1 : Int32) else (0 : Int32)) = (0 : Int32) then (0 : Int32) else (1 : Int32)))), .val (.int rf), .unset] [(.int (0 : Int32))])) _
            refine XS.ifYes X21.here hx rfl (pc0 := 268) (pc' := 291) rfl (hb hby at_268) rfl ((if0 _ _).trans (teq (by decide)).1) (by decide) (by decide) ?_
            show Steps p.tables e below (T21.setTop (mkF m 291 #[.val (.int p1), .val (.int p2), .val (.int p3), .val (.int vr), .val (.int (1 : Int32)), .val (.int (0 : Int32)), .val (.int (0 : Int32)), .val (.int vc), .val (.int n1), .val (.int n2), .val (.int x0), .val (.int x1), .val (.int y0), .val (.int y1), .val (.ref sb17), .val (.ref sb18), .val (.ref b19), .val (.int (if vr = (0 : Int32) then (0 : Int32) else (if (if (strL n1 x0 x1) = (strL n2 y0 y1) then (1 : Int32) else (0 : Int32)) = (0 : Int32) then (0 : Int32) else (1 : Int32)))), .val (.int rf), .unset] [])) _
            refine XS.iload X21.here hx rfl (hb hby at_291) rfl ?_
            show Steps p.tables e below (T21.setTop (mkF m 293 #[.val (.int p1), .val (.int p2), .val (.int p3), .val (.int vr), .val (.int (1 : Int32)), .val (.int (0 : Int32)), .val (.int (0 : Int32)), .val (.int vc), .val (.int n1), .val (.int n2), .val (.int x0), .val (.int x1), .val (.int y0), .val (.int y1), .val (.ref sb17), .val (.ref sb18), .val (.ref b19), .val (.int (if vr = (0 : Int32) then (0 : Int32) else (if (if (strL n1 x0 x1) = (strL n2 y0 y1) then (1 : Int32) else (0 : Int32)) = (0 : Int32) then (0 : Int32) else (1 : Int32)))), .val (.int rf), .unset] [(.int (1 : Int32))])) _
            refine XS.ifNo X21.here hx rfl (hb hby at_293) rfl ((if0 _ _).trans (feq (by decide)).1) ?_
            show Steps p.tables e below (T21.setTop (mkF m 296 #[.val (.int p1), .val (.int p2), .val (.int p3), .val (.int vr), .val (.int (1 : Int32)), .val (.int (0 : Int32)), .val (.int (0 : Int32)), .val (.int vc), .val (.int n1), .val (.int n2), .val (.int x0), .val (.int x1), .val (.int y0), .val (.int y1), .val (.ref sb17), .val (.ref sb18), .val (.ref b19), .val (.int (if vr = (0 : Int32) then (0 : Int32) else (if (if (strL n1 x0 x1) = (strL n2 y0 y1) then (1 : Int32) else (0 : Int32)) = (0 : Int32) then (0 : Int32) else (1 : Int32)))), .val (.int rf), .unset] [])) _
            refine XS.iload X21.here hx rfl (hb hby at_296) rfl ?_
            show Steps p.tables e below (T21.setTop (mkF m 298 #[.val (.int p1), .val (.int p2), .val (.int p3), .val (.int vr), .val (.int (1 : Int32)), .val (.int (0 : Int32)), .val (.int (0 : Int32)), .val (.int vc), .val (.int n1), .val (.int n2), .val (.int x0), .val (.int x1), .val (.int y0), .val (.int y1), .val (.ref sb17), .val (.ref sb18), .val (.ref b19), .val (.int (if vr = (0 : Int32) then (0 : Int32) else (if (if (strL n1 x0 x1) = (strL n2 y0 y1) then (1 : Int32) else (0 : Int32)) = (0 : Int32) then (0 : Int32) else (1 : Int32)))), .val (.int rf), .unset] [(.int (0 : Int32))])) _
            refine XS.ifNo X21.here hx rfl (hb hby at_298) rfl ((if0 _ _).trans (teq (by decide)).2) ?_
            show Steps p.tables e below (T21.setTop (mkF m 301 #[.val (.int p1), .val (.int p2), .val (.int p3), .val (.int vr), .val (.int (1 : Int32)), .val (.int (0 : Int32)), .val (.int (0 : Int32)), .val (.int vc), .val (.int n1), .val (.int n2), .val (.int x0), .val (.int x1), .val (.int y0), .val (.int y1), .val (.ref sb17), .val (.ref sb18), .val (.ref b19), .val (.int (if vr = (0 : Int32) then (0 : Int32) else (if (if (strL n1 x0 x1) = (strL n2 y0 y1) then (1 : Int32) else (0 : Int32)) = (0 : Int32) then (0 : Int32) else (1 : Int32)))), .val (.int rf), .unset] [])) _
            refine XS.iload X21.here hx rfl (hb hby at_301) rfl ?_
            show Steps p.tables e below (T21.setTop (mkF m 303 #[.val (.int p1), .val (.int p2), .val (.int p3), .val (.int vr), .val (.int (1 : Int32)), .val (.int (0 : Int32)), .val (.int (0 : Int32)), .val (.int vc), .val (.int n1), .val (.int n2), .val (.int x0), .val (.int x1), .val (.int y0), .val (.int y1), .val (.ref sb17), .val (.ref sb18), .val (.ref b19), .val (.int (if vr = (0 : Int32) then (0 : Int32) else (if (if (strL n1 x0 x1) = (strL n2 y0 y1) then (1 : Int32) else (0 : Int32)) = (0 : Int32) then (0 : Int32) else (1 : Int32)))), .val (.int rf), .unset] [(.int rf)])) _
            by_cases hq303 : rf = (0 : Int32)
            · simp only [if_pos hq303] at kt
              refine XS.ifYes X21.here hx rfl (pc0 := 303) (pc' := 310) rfl (hb hby at_303) rfl ((if0 _ _).trans (teq hq303).1) (by decide) (by decide) ?_
              show Steps p.tables e below (T21.setTop (mkF m 310 #[.val (.int p1), .val (.int p2), .val (.int p3), .val (.int vr), .val (.int (1 : Int32)), .val (.int (0 : Int32)), .val (.int (0 : Int32)), .val (.int vc), .val (.int n1), .val (.int n2), .val (.int x0), .val (.int x1), .val (.int y0), .val (.int y1), .val (.ref sb17), .val (.ref sb18), .val (.ref b19), .val (.int (if vr = (0 : Int32) then (0 : Int32) else (if (if (strL n1 x0 x1) = (strL n2 y0 y1) then (1 : Int32) else (0 : Int32)) = (0 : Int32) then (0 : Int32) else (1 : Int32)))), .val (.int rf), .unset] [])) _
              refine XS.iconst X21.here hx rfl (hb hby at_310) ?_
              show Steps p.tables e below (T21.setTop (mkF m 311 #[.val (.int p1), .val (.int p2), .val (.int p3), .val (.int vr), .val (.int (1 : Int32)), .val (.int (0 : Int32)), .val (.int (0 : Int32)), .val (.int vc), .val (.int n1), .val (.int n2), .val (.int x0), .val (.int x1), .val (.int y0), .val (.int y1), .val (.ref sb17), .val (.ref sb18), .val (.ref b19), .val (.int (if vr = (0 : Int32) then (0 : Int32) else (if (if (strL n1 x0 x1) = (strL n2 y0 y1) then (1 : Int32) else (0 : Int32)) = (0 : Int32) then (0 : Int32) else (1 : Int32)))), .val (.int rf), .unset] [(.int (0 : Int32))])) _
              refine XS.istore X21.here hx rfl (hb hby at_311) rfl (l' := #[.val (.int p1), .val (.int p2), .val (.int p3), .val (.int vr), .val (.int (1 : Int32)), .val (.int (0 : Int32)), .val (.int (0 : Int32)), .val (.int vc), .val (.int n1), .val (.int n2), .val (.int x0), .val (.int x1), .val (.int y0), .val (.int y1), .val (.ref sb17), .val (.ref sb18), .val (.ref b19), .val (.int (if vr = (0 : Int32) then (0 : Int32) else (if (if (strL n1 x0 x1) = (strL n2 y0 y1) then (1 : Int32) else (0 : Int32)) = (0 : Int32) then (0 : Int32) else (1 : Int32)))), .val (.int rf), .val (.int (0 : Int32))]) rfl ?_
              show Steps p.tables e below (T21.setTop (mkF m 313 #[.val (.int p1), .val (.int p2), .val (.int p3), .val (.int vr), .val (.int (1 : Int32)), .val (.int (0 : Int32)), .val (.int (0 : Int32)), .val (.int vc), .val (.int n1), .val (.int n2), .val (.int x0), .val (.int x1), .val (.int y0), .val (.int y1), .val (.ref sb17), .val (.ref sb18), .val (.ref b19), .val (.int (if vr = (0 : Int32) then (0 : Int32) else (if (if (strL n1 x0 x1) = (strL n2 y0 y1) then (1 : Int32) else (0 : Int32)) = (0 : Int32) then (0 : Int32) else (1 : Int32)))), .val (.int rf), .val (.int (0 : Int32))] [])) _
              first | exact kt | (simp only [if_neg hq257, if_pos hq303]; exact kt)
            · simp only [if_neg hq303] at kt
              refine XS.ifNo X21.here hx rfl (hb hby at_303) rfl ((if0 _ _).trans (feq hq303).1) ?_
              show Steps p.tables e below (T21.setTop (mkF m 306 #[.val (.int p1), .val (.int p2), .val (.int p3), .val (.int vr), .val (.int (1 : Int32)), .val (.int (0 : Int32)), .val (.int (0 : Int32)), .val (.int vc), .val (.int n1), .val (.int n2), .val (.int x0), .val (.int x1), .val (.int y0), .val (.int y1), .val (.ref sb17), .val (.ref sb18), .val (.ref b19), .val (.int (if vr = (0 : Int32) then (0 : Int32) else (if (if (strL n1 x0 x1) = (strL n2 y0 y1) then (1 : Int32) else (0 : Int32)) = (0 : Int32) then (0 : Int32) else (1 : Int32)))), .val (.int rf), .unset] [])) _
              refine XS.iconst X21.here hx rfl (hb hby at_306) ?_
              show Steps p.tables e below (T21.setTop (mkF m 307 #[.val (.int p1), .val (.int p2), .val (.int p3), .val (.int vr), .val (.int (1 : Int32)), .val (.int (0 : Int32)), .val (.int (0 : Int32)), .val (.int vc), .val (.int n1), .val (.int n2), .val (.int x0), .val (.int x1), .val (.int y0), .val (.int y1), .val (.ref sb17), .val (.ref sb18), .val (.ref b19), .val (.int (if vr = (0 : Int32) then (0 : Int32) else (if (if (strL n1 x0 x1) = (strL n2 y0 y1) then (1 : Int32) else (0 : Int32)) = (0 : Int32) then (0 : Int32) else (1 : Int32)))), .val (.int rf), .unset] [(.int (1 : Int32))])) _
              refine XS.goto X21.here hx rfl (pc0 := 307) (pc' := 311) rfl (hb hby at_307) (by decide) (by decide) ?_
              show Steps p.tables e below (T21.setTop (mkF m 311 #[.val (.int p1), .val (.int p2), .val (.int p3), .val (.int vr), .val (.int (1 : Int32)), .val (.int (0 : Int32)), .val (.int (0 : Int32)), .val (.int vc), .val (.int n1), .val (.int n2), .val (.int x0), .val (.int x1), .val (.int y0), .val (.int y1), .val (.ref sb17), .val (.ref sb18), .val (.ref b19), .val (.int (if vr = (0 : Int32) then (0 : Int32) else (if (if (strL n1 x0 x1) = (strL n2 y0 y1) then (1 : Int32) else (0 : Int32)) = (0 : Int32) then (0 : Int32) else (1 : Int32)))), .val (.int rf), .unset] [(.int (1 : Int32))])) _
              refine XS.istore X21.here hx rfl (hb hby at_311) rfl (l' := #[.val (.int p1), .val (.int p2), .val (.int p3), .val (.int vr), .val (.int (1 : Int32)), .val (.int (0 : Int32)), .val (.int (0 : Int32)), .val (.int vc), .val (.int n1), .val (.int n2), .val (.int x0), .val (.int x1), .val (.int y0), .val (.int y1), .val (.ref sb17), .val (.ref sb18), .val (.ref b19), .val (.int (if vr = (0 : Int32) then (0 : Int32) else (if (if (strL n1 x0 x1) = (strL n2 y0 y1) then (1 : Int32) else (0 : Int32)) = (0 : Int32) then (0 : Int32) else (1 : Int32)))), .val (.int rf), .val (.int (1 : Int32))]) rfl ?_
              show Steps p.tables e below (T21.setTop (mkF m 313 #[.val (.int p1), .val (.int p2), .val (.int p3), .val (.int vr), .val (.int (1 : Int32)), .val (.int (0 : Int32)), .val (.int (0 : Int32)), .val (.int vc), .val (.int n1), .val (.int n2), .val (.int x0), .val (.int x1), .val (.int y0), .val (.int y1), .val (.ref sb17), .val (.ref sb18), .val (.ref b19), .val (.int (if vr = (0 : Int32) then (0 : Int32) else (if (if (strL n1 x0 x1) = (strL n2 y0 y1) then (1 : Int32) else (0 : Int32)) = (0 : Int32) then (0 : Int32) else (1 : Int32)))), .val (.int rf), .val (.int (1 : Int32))] [])) _
              first | exact kt | (simp only [if_neg hq257, if_neg hq303]; exact kt)
        show Goes p e below _ T21 (mkF m 313 #[.val (.int p1), .val (.int p2), .val (.int p3), .val (.int vr), .val (.int (1 : Int32)), .val (.int (0 : Int32)), .val (.int (0 : Int32)), .val (.int vc), .val (.int n1), .val (.int n2), .val (.int x0), .val (.int x1), .val (.int y0), .val (.int y1), .val (.ref sb17), .val (.ref sb18), .val (.ref b19), .val (.int (if vr = (0 : Int32) then (0 : Int32) else (if (if (strL n1 x0 x1) = (strL n2 y0 y1) then (1 : Int32) else (0 : Int32)) = (0 : Int32) then (0 : Int32) else (1 : Int32)))), .val (.int rf), .val (.int (if vr = (0 : Int32) then (0 : Int32) else (if rf = (0 : Int32) then (0 : Int32) else (1 : Int32))))] [])
        refine Goes.of (fun _ => XS.iload X21.here hx rfl (hb hby at_313) rfl) ?_
        show Goes p e below _ T21 (mkF m 315 #[.val (.int p1), .val (.int p2), .val (.int p3), .val (.int vr), .val (.int (1 : Int32)), .val (.int (0 : Int32)), .val (.int (0 : Int32)), .val (.int vc), .val (.int n1), .val (.int n2), .val (.int x0), .val (.int x1), .val (.int y0), .val (.int y1), .val (.ref sb17), .val (.ref sb18), .val (.ref b19), .val (.int (if vr = (0 : Int32) then (0 : Int32) else (if (if (strL n1 x0 x1) = (strL n2 y0 y1) then (1 : Int32) else (0 : Int32)) = (0 : Int32) then (0 : Int32) else (1 : Int32)))), .val (.int rf), .val (.int (if vr = (0 : Int32) then (0 : Int32) else (if rf = (0 : Int32) then (0 : Int32) else (1 : Int32))))] [(.int (if vr = (0 : Int32) then (0 : Int32) else (if (if (strL n1 x0 x1) = (strL n2 y0 y1) then (1 : Int32) else (0 : Int32)) = (0 : Int32) then (0 : Int32) else (1 : Int32))))])
        refine Goes.of (fun _ => XS.iload X21.here hx rfl (hb hby at_315) rfl) ?_
        show Goes p e below _ T21 (mkF m 317 #[.val (.int p1), .val (.int p2), .val (.int p3), .val (.int vr), .val (.int (1 : Int32)), .val (.int (0 : Int32)), .val (.int (0 : Int32)), .val (.int vc), .val (.int n1), .val (.int n2), .val (.int x0), .val (.int x1), .val (.int y0), .val (.int y1), .val (.ref sb17), .val (.ref sb18), .val (.ref b19), .val (.int (if vr = (0 : Int32) then (0 : Int32) else (if (if (strL n1 x0 x1) = (strL n2 y0 y1) then (1 : Int32) else (0 : Int32)) = (0 : Int32) then (0 : Int32) else (1 : Int32)))), .val (.int rf), .val (.int (if vr = (0 : Int32) then (0 : Int32) else (if rf = (0 : Int32) then (0 : Int32) else (1 : Int32))))] [(.int (if vr = (0 : Int32) then (0 : Int32) else (if rf = (0 : Int32) then (0 : Int32) else (1 : Int32)))), (.int (if vr = (0 : Int32) then (0 : Int32) else (if (if (strL n1 x0 x1) = (strL n2 y0 y1) then (1 : Int32) else (0 : Int32)) = (0 : Int32) then (0 : Int32) else (1 : Int32))))])
        refine Goes.of (fun _ => XS.icmpNo X21.here hx rfl (hb hby at_317) rfl (teq (by first | rfl | (split <;> rfl) | (rw [eq_fin n1 n2 x0 x1 y0 y1 hn1 hn2, erf]; done) | (simp only [eq_fin n1 n2 x0 x1 y0 y1 hn1 hn2, erf]; done))).2) ?_
        show Goes p e below _ T21 (mkF m 320 #[.val (.int p1), .val (.int p2), .val (.int p3), .val (.int vr), .val (.int (1 : Int32)), .val (.int (0 : Int32)), .val (.int (0 : Int32)), .val (.int vc), .val (.int n1), .val (.int n2), .val (.int x0), .val (.int x1), .val (.int y0), .val (.int y1), .val (.ref sb17), .val (.ref sb18), .val (.ref b19), .val (.int (if vr = (0 : Int32) then (0 : Int32) else (if (if (strL n1 x0 x1) = (strL n2 y0 y1) then (1 : Int32) else (0 : Int32)) = (0 : Int32) then (0 : Int32) else (1 : Int32)))), .val (.int rf), .val (.int (if vr = (0 : Int32) then (0 : Int32) else (if rf = (0 : Int32) then (0 : Int32) else (1 : Int32))))] [])
        refine Goes.of (fun _ => XS.iconst X21.here hx rfl (hb hby at_320)) ?_
        show Goes p e below _ T21 (mkF m 321 #[.val (.int p1), .val (.int p2), .val (.int p3), .val (.int vr), .val (.int (1 : Int32)), .val (.int (0 : Int32)), .val (.int (0 : Int32)), .val (.int vc), .val (.int n1), .val (.int n2), .val (.int x0), .val (.int x1), .val (.int y0), .val (.int y1), .val (.ref sb17), .val (.ref sb18), .val (.ref b19), .val (.int (if vr = (0 : Int32) then (0 : Int32) else (if (if (strL n1 x0 x1) = (strL n2 y0 y1) then (1 : Int32) else (0 : Int32)) = (0 : Int32) then (0 : Int32) else (1 : Int32)))), .val (.int rf), .val (.int (if vr = (0 : Int32) then (0 : Int32) else (if rf = (0 : Int32) then (0 : Int32) else (1 : Int32))))] [(.int (1 : Int32))])
        refine Goes.of (fun _ => XS.goto X21.here hx rfl (pc0 := 321) (pc' := 325) rfl (hb hby at_321) (by decide) (by decide)) ?_
        show Goes p e below _ T21 (mkF m 325 #[.val (.int p1), .val (.int p2), .val (.int p3), .val (.int vr), .val (.int (1 : Int32)), .val (.int (0 : Int32)), .val (.int (0 : Int32)), .val (.int vc), .val (.int n1), .val (.int n2), .val (.int x0), .val (.int x1), .val (.int y0), .val (.int y1), .val (.ref sb17), .val (.ref sb18), .val (.ref b19), .val (.int (if vr = (0 : Int32) then (0 : Int32) else (if (if (strL n1 x0 x1) = (strL n2 y0 y1) then (1 : Int32) else (0 : Int32)) = (0 : Int32) then (0 : Int32) else (1 : Int32)))), .val (.int rf), .val (.int (if vr = (0 : Int32) then (0 : Int32) else (if rf = (0 : Int32) then (0 : Int32) else (1 : Int32))))] [(.int (1 : Int32))])
        exact retZW (t := .boolean) X21 hS hk hZ hEL HC hx hret hlk (by simp) (hb hby at_325) eT21 (by decide) (by decide) ⟨rfl, N21⟩
      · show Goes p e below _ T (mkF m 153 #[.val (.int p1), .val (.int p2), .val (.int p3), .val (.int vr), .val (.int (1 : Int32)), .val (.int (0 : Int32)), .val (.int (1 : Int32)), .val (.int vc), .val (.int n1), .val (.int n2), .val (.int x0), .val (.int x1), .val (.int y0), .val (.int y1), .unset, .unset, .unset, .unset, .unset, .unset] [])
        refine Goes.of (fun _ => XS.iload X.here hx rfl (hb hby at_153) rfl) ?_
        show Goes p e below _ T (mkF m 155 #[.val (.int p1), .val (.int p2), .val (.int p3), .val (.int vr), .val (.int (1 : Int32)), .val (.int (0 : Int32)), .val (.int (1 : Int32)), .val (.int vc), .val (.int n1), .val (.int n2), .val (.int x0), .val (.int x1), .val (.int y0), .val (.int y1), .unset, .unset, .unset, .unset, .unset, .unset] [(.int (0 : Int32))])
        refine Goes.of (fun _ => XS.ifYes X.here hx rfl (pc0 := 155) (pc' := 162) rfl (hb hby at_155) rfl ((if0 _ _).trans (teq (by decide)).1) (by decide) (by decide)) ?_
        show Goes p e below _ T (mkF m 162 #[.val (.int p1), .val (.int p2), .val (.int p3), .val (.int vr), .val (.int (1 : Int32)), .val (.int (0 : Int32)), .val (.int (1 : Int32)), .val (.int vc), .val (.int n1), .val (.int n2), .val (.int x0), .val (.int x1), .val (.int y0), .val (.int y1), .unset, .unset, .unset, .unset, .unset, .unset] [])
        refine Goes.of (fun _ => XS.iload X.here hx rfl (hb hby at_162) rfl) ?_
        show Goes p e below _ T (mkF m 164 #[.val (.int p1), .val (.int p2), .val (.int p3), .val (.int vr), .val (.int (1 : Int32)), .val (.int (0 : Int32)), .val (.int (1 : Int32)), .val (.int vc), .val (.int n1), .val (.int n2), .val (.int x0), .val (.int x1), .val (.int y0), .val (.int y1), .unset, .unset, .unset, .unset, .unset, .unset] [(.int n1)])
        refine Goes.of (fun _ => XS.iload X.here hx rfl (hb hby at_164) rfl) ?_
        show Goes p e below _ T (mkF m 166 #[.val (.int p1), .val (.int p2), .val (.int p3), .val (.int vr), .val (.int (1 : Int32)), .val (.int (0 : Int32)), .val (.int (1 : Int32)), .val (.int vc), .val (.int n1), .val (.int n2), .val (.int x0), .val (.int x1), .val (.int y0), .val (.int y1), .unset, .unset, .unset, .unset, .unset, .unset] [(.int x0), (.int n1)])
        refine Goes.of (fun _ => XS.iload X.here hx rfl (hb hby at_166) rfl) ?_
        show Goes p e below _ T (mkF m 168 #[.val (.int p1), .val (.int p2), .val (.int p3), .val (.int vr), .val (.int (1 : Int32)), .val (.int (0 : Int32)), .val (.int (1 : Int32)), .val (.int vc), .val (.int n1), .val (.int n2), .val (.int x0), .val (.int x1), .val (.int y0), .val (.int y1), .unset, .unset, .unset, .unset, .unset, .unset] [(.int x1), (.int x0), (.int n1)])
        refine goStaticW 0 X hS hk hEL HC hx hZ hown (hw _ (List.mem_of_getElem? (i := 0) rfl)) (hw _ (List.mem_of_getElem? (i := 1) rfl)) (hw _ (List.mem_of_getElem? (i := 2) rfl)) (hw _ (List.mem_of_getElem? (i := 3) rfl)) (by decide) (rm_str l Z a0 hw n1 x0 x1 cz h0 n0 O0 Sc hcz hx0 hx1) eT0 (g := (mkF m 168 #[.val (.int p1), .val (.int p2), .val (.int p3), .val (.int vr), .val (.int (1 : Int32)), .val (.int (0 : Int32)), .val (.int (1 : Int32)), .val (.int vc), .val (.int n1), .val (.int n2), .val (.int x0), .val (.int x1), .val (.int y0), .val (.int y1), .unset, .unset, .unset, .unset, .unset, .unset] [(.int x1), (.int x0), (.int n1)])) rfl (by rw [hml]; rfl) [(.int n1), (.int x0), (.int x1)] [] (lenOf pd__ICC_Ljava_lang_String_ rfl) rfl rfl (by show 2 * 0 + _ ≤ _; exact Nat.le_of_eq rfl) (hb hby at_168) (by decide) (by decide) (by decide) (by decide) ?_
        intro v22 T22 L22 kk22 X22 hS hk hZ hown HC q22
        obtain ⟨sb22, rfl, Nq22, Kq22, g_sb22, S22⟩ := q22
        have N22 := Fr.app N0 Nq22
        have O0 := O0.keep Kq22 all0
        show Goes p e below _ T22 (mkF m 171 #[.val (.int p1), .val (.int p2), .val (.int p3), .val (.int vr), .val (.int (1 : Int32)), .val (.int (0 : Int32)), .val (.int (1 : Int32)), .val (.int vc), .val (.int n1), .val (.int n2), .val (.int x0), .val (.int x1), .val (.int y0), .val (.int y1), .unset, .unset, .unset, .unset, .unset, .unset] [(.ref sb22)])
        refine Goes.of (fun _ => XS.astore X22.here hx rfl (hb hby at_171) rfl rfl (l' := #[.val (.int p1), .val (.int p2), .val (.int p3), .val (.int vr), .val (.int (1 : Int32)), .val (.int (0 : Int32)), .val (.int (1 : Int32)), .val (.int vc), .val (.int n1), .val (.int n2), .val (.int x0), .val (.int x1), .val (.int y0), .val (.int y1), .val (.ref sb22), .unset, .unset, .unset, .unset, .unset]) rfl) ?_
        show Goes p e below _ T22 (mkF m 173 #[.val (.int p1), .val (.int p2), .val (.int p3), .val (.int vr), .val (.int (1 : Int32)), .val (.int (0 : Int32)), .val (.int (1 : Int32)), .val (.int vc), .val (.int n1), .val (.int n2), .val (.int x0), .val (.int x1), .val (.int y0), .val (.int y1), .val (.ref sb22), .unset, .unset, .unset, .unset, .unset] [])
        refine Goes.of (fun _ => XS.iload X22.here hx rfl (hb hby at_173) rfl) ?_
        show Goes p e below _ T22 (mkF m 175 #[.val (.int p1), .val (.int p2), .val (.int p3), .val (.int vr), .val (.int (1 : Int32)), .val (.int (0 : Int32)), .val (.int (1 : Int32)), .val (.int vc), .val (.int n1), .val (.int n2), .val (.int x0), .val (.int x1), .val (.int y0), .val (.int y1), .val (.ref sb22), .unset, .unset, .unset, .unset, .unset] [(.int (1 : Int32))])
        refine Goes.of (fun _ => XS.ifNo X22.here hx rfl (hb hby at_175) rfl ((if0 _ _).trans (feq (by decide)).1)) ?_
        show Goes p e below _ T22 (mkF m 178 #[.val (.int p1), .val (.int p2), .val (.int p3), .val (.int vr), .val (.int (1 : Int32)), .val (.int (0 : Int32)), .val (.int (1 : Int32)), .val (.int vc), .val (.int n1), .val (.int n2), .val (.int x0), .val (.int x1), .val (.int y0), .val (.int y1), .val (.ref sb22), .unset, .unset, .unset, .unset, .unset] [])
        refine Goes.of (fun _ => XS.aconstNull X22.here hx rfl (hb hby at_178)) ?_
        show Goes p e below _ T22 (mkF m 179 #[.val (.int p1), .val (.int p2), .val (.int p3), .val (.int vr), .val (.int (1 : Int32)), .val (.int (0 : Int32)), .val (.int (1 : Int32)), .val (.int vc), .val (.int n1), .val (.int n2), .val (.int x0), .val (.int x1), .val (.int y0), .val (.int y1), .val (.ref sb22), .unset, .unset, .unset, .unset, .unset] [.null])
        refine Goes.of (fun _ => XS.goto X22.here hx rfl (pc0 := 179) (pc' := 191) rfl (hb hby at_179) (by decide) (by decide)) ?_
        show Goes p e below _ T22 (mkF m 191 #[.val (.int p1), .val (.int p2), .val (.int p3), .val (.int vr), .val (.int (1 : Int32)), .val (.int (0 : Int32)), .val (.int (1 : Int32)), .val (.int vc), .val (.int n1), .val (.int n2), .val (.int x0), .val (.int x1), .val (.int y0), .val (.int y1), .val (.ref sb22), .unset, .unset, .unset, .unset, .unset] [.null])
        refine Goes.of (fun _ => XS.astore X22.here hx rfl (hb hby at_191) rfl rfl (l' := #[.val (.int p1), .val (.int p2), .val (.int p3), .val (.int vr), .val (.int (1 : Int32)), .val (.int (0 : Int32)), .val (.int (1 : Int32)), .val (.int vc), .val (.int n1), .val (.int n2), .val (.int x0), .val (.int x1), .val (.int y0), .val (.int y1), .val (.ref sb22), .val .null, .unset, .unset, .unset, .unset]) rfl) ?_
        show Goes p e below _ T22 (mkF m 193 #[.val (.int p1), .val (.int p2), .val (.int p3), .val (.int vr), .val (.int (1 : Int32)), .val (.int (0 : Int32)), .val (.int (1 : Int32)), .val (.int vc), .val (.int n1), .val (.int n2), .val (.int x0), .val (.int x1), .val (.int y0), .val (.int y1), .val (.ref sb22), .val .null, .unset, .unset, .unset, .unset] [])
        refine goNew X22 hx hZ hown (hw _ (List.mem_of_getElem? (i := 26) rfl)) (hw _ (List.mem_of_getElem? (i := 27) rfl)) (hw _ (List.mem_of_getElem? (i := 28) rfl)) (rfl : T22.heap = _) (g := (mkF m 193 #[.val (.int p1), .val (.int p2), .val (.int p3), .val (.int vr), .val (.int (1 : Int32)), .val (.int (0 : Int32)), .val (.int (1 : Int32)), .val (.int vc), .val (.int n1), .val (.int n2), .val (.int x0), .val (.int x1), .val (.int y0), .val (.int y1), .val (.ref sb22), .val .null, .unset, .unset, .unset, .unset] [])) rfl (hb hby at_193) (by decide) (by decide) ?_
        intro T23 h23 b23 X23 eT23 E23 hb23 A23 D23
        have g_b23 : n0 ≤ b23 := Nat.le_trans (oldLe O0) hb23
        have ne_sb22_b23 : sb22 ≠ b23 := Nat.ne_of_lt (Nat.lt_of_lt_of_le S22.lt hb23)
        have S22 := S22.ext E23
        have hk := Nat.le_trans hk E23.1
        have HC := HC.trans (CHr.ext E23 HC.1)
        have O0 := O0.ext E23
        have F23_id : Fld Z h23 b23 "com/example/latchwork/latchwork/store/RedisRun$Origin" "id" "Ljava/lang/String;" .null := D23 (Or.inr (hw _ (List.mem_of_getElem? (i := 39) rfl))) (ty := (.object "java/lang/String")) (by decide)
        have F23_wroteEveryChange : Fld Z h23 b23 "com/example/latchwork/latchwork/store/RedisRun$Origin" "wroteEveryChange" "Z" (.int (0 : Int32)) := D23 (Or.inr (hw _ (List.mem_of_getElem? (i := 41) rfl))) (ty := .boolean) (by decide)
        show Goes p e below _ T23 (mkF m 196 #[.val (.int p1), .val (.int p2), .val (.int p3), .val (.int vr), .val (.int (1 : Int32)), .val (.int (0 : Int32)), .val (.int (1 : Int32)), .val (.int vc), .val (.int n1), .val (.int n2), .val (.int x0), .val (.int x1), .val (.int y0), .val (.int y1), .val (.ref sb22), .val .null, .unset, .unset, .unset, .unset] [(.ref b23)])
        refine Goes.of (fun _ => XS.dup X23.here hx rfl (hb hby at_196) rfl rfl) ?_
        show Goes p e below _ T23 (mkF m 197 #[.val (.int p1), .val (.int p2), .val (.int p3), .val (.int vr), .val (.int (1 : Int32)), .val (.int (0 : Int32)), .val (.int (1 : Int32)), .val (.int vc), .val (.int n1), .val (.int n2), .val (.int x0), .val (.int x1), .val (.int y0), .val (.int y1), .val (.ref sb22), .val .null, .unset, .unset, .unset, .unset] [(.ref b23), (.ref b23)])
        refine Goes.of (fun _ => XS.aload X23.here hx rfl (hb hby at_197) rfl rfl) ?_
        show Goes p e below _ T23 (mkF m 199 #[.val (.int p1), .val (.int p2), .val (.int p3), .val (.int vr), .val (.int (1 : Int32)), .val (.int (0 : Int32)), .val (.int (1 : Int32)), .val (.int vc), .val (.int n1), .val (.int n2), .val (.int x0), .val (.int x1), .val (.int y0), .val (.int y1), .val (.ref sb22), .val .null, .unset, .unset, .unset, .unset] [.null, (.ref b23), (.ref b23)])
        refine Goes.of (fun _ => XS.iload X23.here hx rfl (hb hby at_199) rfl) ?_
        show Goes p e below _ T23 (mkF m 201 #[.val (.int p1), .val (.int p2), .val (.int p3), .val (.int vr), .val (.int (1 : Int32)), .val (.int (0 : Int32)), .val (.int (1 : Int32)), .val (.int vc), .val (.int n1), .val (.int n2), .val (.int x0), .val (.int x1), .val (.int y0), .val (.int y1), .val (.ref sb22), .val .null, .unset, .unset, .unset, .unset] [(.int (1 : Int32)), .null, (.ref b23), (.ref b23)])
        have Sf_b23 : Safe Z EL _ h23 b23 := Safe.exa hZ.alike A23 (by decide) (by decide)
        refine goSpecial 1 X23 hx hZ rfl hown (hw _ (List.mem_of_getElem? (i := 29) rfl)) (hw _ (List.mem_of_getElem? (i := 30) rfl)) (hw _ (List.mem_of_getElem? (i := 28) rfl)) (hw _ (List.mem_of_getElem? (i := 31) rfl)) (by decide) (rm_init11 l Z a0 hw b23  h23 n0 O0 g_b23 A23 F23_id F23_wroteEveryChange) eT23 (g := (mkF m 201 #[.val (.int p1), .val (.int p2), .val (.int p3), .val (.int vr), .val (.int (1 : Int32)), .val (.int (0 : Int32)), .val (.int (1 : Int32)), .val (.int vc), .val (.int n1), .val (.int n2), .val (.int x0), .val (.int x1), .val (.int y0), .val (.int y1), .val (.ref sb22), .val .null, .unset, .unset, .unset, .unset] [(.int (1 : Int32)), .null, (.ref b23), (.ref b23)])) rfl (by rw [hml]; rfl) b23 [.null, (.int (1 : Int32))] [(.ref b23)] (lenOf pd__Ljava_lang_String_Z_V rfl) rfl rfl (by show 2 * 0 + _ ≤ _; exact Nat.le_of_eq rfl) (hb hby at_201) (by decide) (by decide) (by decide) (by decide) ?_
        intro v24 T24 L24 X24 q24
        obtain ⟨rfl, Nq24, Kq24, H0_24, H1_24⟩ := q24
        have N24 := Fr.app N22 Nq24
        have S22 := S22.keep1 Kq24 ne_sb22_b23 A23 (hw _ (List.mem_of_getElem? (i := 27) rfl))
        have A23 := A23.keep Kq24
        have HC := HC.trans (CHr.keep Kq24 (sfS Sf_b23 sf0) HC.1)
        have hk := Nat.le_trans hk Kq24.1
        have O0 := O0.keep Kq24 (allS g_b23 all0)
        show Goes p e below _ T24 (mkF m 204 #[.val (.int p1), .val (.int p2), .val (.int p3), .val (.int vr), .val (.int (1 : Int32)), .val (.int (0 : Int32)), .val (.int (1 : Int32)), .val (.int vc), .val (.int n1), .val (.int n2), .val (.int x0), .val (.int x1), .val (.int y0), .val (.int y1), .val (.ref sb22), .val .null, .unset, .unset, .unset, .unset] [(.ref b23)])
        refine Goes.of (fun _ => XS.astore X24.here hx rfl (hb hby at_204) rfl rfl (l' := #[.val (.int p1), .val (.int p2), .val (.int p3), .val (.int vr), .val (.int (1 : Int32)), .val (.int (0 : Int32)), .val (.int (1 : Int32)), .val (.int vc), .val (.int n1), .val (.int n2), .val (.int x0), .val (.int x1), .val (.int y0), .val (.int y1), .val (.ref sb22), .val .null, .val (.ref b23), .unset, .unset, .unset]) rfl) ?_
        show Goes p e below _ T24 (mkF m 206 #[.val (.int p1), .val (.int p2), .val (.int p3), .val (.int vr), .val (.int (1 : Int32)), .val (.int (0 : Int32)), .val (.int (1 : Int32)), .val (.int vc), .val (.int n1), .val (.int n2), .val (.int x0), .val (.int x1), .val (.int y0), .val (.int y1), .val (.ref sb22), .val .null, .val (.ref b23), .unset, .unset, .unset] [])
        refine Goes.of (fun _ => XS.aload X24.here hx rfl (hb hby at_206) rfl rfl) ?_
        show Goes p e below _ T24 (mkF m 208 #[.val (.int p1), .val (.int p2), .val (.int p3), .val (.int vr), .val (.int (1 : Int32)), .val (.int (0 : Int32)), .val (.int (1 : Int32)), .val (.int vc), .val (.int n1), .val (.int n2), .val (.int x0), .val (.int x1), .val (.int y0), .val (.int y1), .val (.ref sb22), .val .null, .val (.ref b23), .unset, .unset, .unset] [(.ref sb22)])
        refine Goes.of (fun _ => XS.aload X24.here hx rfl (hb hby at_208) rfl rfl) ?_
        show Goes p e below _ T24 (mkF m 210 #[.val (.int p1), .val (.int p2), .val (.int p3), .val (.int vr), .val (.int (1 : Int32)), .val (.int (0 : Int32)), .val (.int (1 : Int32)), .val (.int vc), .val (.int n1), .val (.int n2), .val (.int x0), .val (.int x1), .val (.int y0), .val (.int y1), .val (.ref sb22), .val .null, .val (.ref b23), .unset, .unset, .unset] [(.ref b23), (.ref sb22)])
        refine Goes.of (fun _ => XS.iloadN X24.here hx rfl (hb hby at_210) rfl) ?_
        show Goes p e below _ T24 (mkF m 211 #[.val (.int p1), .val (.int p2), .val (.int p3), .val (.int vr), .val (.int (1 : Int32)), .val (.int (0 : Int32)), .val (.int (1 : Int32)), .val (.int vc), .val (.int n1), .val (.int n2), .val (.int x0), .val (.int x1), .val (.int y0), .val (.int y1), .val (.ref sb22), .val .null, .val (.ref b23), .unset, .unset, .unset] [(.int vr), (.ref b23), (.ref sb22)])
        refine goStatic 0 X24 hx hZ hown (hw _ (List.mem_of_getElem? (i := 42) rfl)) (hw _ (List.mem_of_getElem? (i := 43) rfl)) (hw _ (List.mem_of_getElem? (i := 44) rfl)) (hw _ (List.mem_of_getElem? (i := 45) rfl)) (by decide) (rm_kept011 l Z a0 hw b23 sb22  vr (strL n1 x0 x1) [] cz T24.heap n0 O0 Sc hcz A23 H0_24 H1_24 S22 ) (rfl : T24.heap = _) (g := (mkF m 211 #[.val (.int p1), .val (.int p2), .val (.int p3), .val (.int vr), .val (.int (1 : Int32)), .val (.int (0 : Int32)), .val (.int (1 : Int32)), .val (.int vc), .val (.int n1), .val (.int n2), .val (.int x0), .val (.int x1), .val (.int y0), .val (.int y1), .val (.ref sb22), .val .null, .val (.ref b23), .unset, .unset, .unset] [(.int vr), (.ref b23), (.ref sb22)])) rfl (by rw [hml]; rfl) [(.ref sb22), (.ref b23), (.int vr)] [] (lenOf pd__Ljava_lang_String_Lcom_example_latchwork_latchwork_store_RedisRun_Origin_Z_Z rfl) rfl rfl (by show 2 * 0 + _ ≤ _; exact Nat.le_of_eq rfl) (hb hby at_211) (by decide) (by decide) (by decide) (by decide) ?_
        intro v25 T25 L25 X25 q25
        obtain ⟨rfl, Nq25, eT25⟩ := q25
        have N25 := Fr.app N24 Nq25
        show Goes p e below _ T25 (mkF m 214 #[.val (.int p1), .val (.int p2), .val (.int p3), .val (.int vr), .val (.int (1 : Int32)), .val (.int (0 : Int32)), .val (.int (1 : Int32)), .val (.int vc), .val (.int n1), .val (.int n2), .val (.int x0), .val (.int x1), .val (.int y0), .val (.int y1), .val (.ref sb22), .val .null, .val (.ref b23), .unset, .unset, .unset] [(.int (if vr = (0 : Int32) then (0 : Int32) else (0 : Int32)))])
        refine Goes.of (fun _ => XS.istore X25.here hx rfl (hb hby at_214) rfl (l' := #[.val (.int p1), .val (.int p2), .val (.int p3), .val (.int vr), .val (.int (1 : Int32)), .val (.int (0 : Int32)), .val (.int (1 : Int32)), .val (.int vc), .val (.int n1), .val (.int n2), .val (.int x0), .val (.int x1), .val (.int y0), .val (.int y1), .val (.ref sb22), .val .null, .val (.ref b23), .val (.int (if vr = (0 : Int32) then (0 : Int32) else (0 : Int32))), .unset, .unset]) rfl) ?_
        show Goes p e below _ T25 (mkF m 216 #[.val (.int p1), .val (.int p2), .val (.int p3), .val (.int vr), .val (.int (1 : Int32)), .val (.int (0 : Int32)), .val (.int (1 : Int32)), .val (.int vc), .val (.int n1), .val (.int n2), .val (.int x0), .val (.int x1), .val (.int y0), .val (.int y1), .val (.ref sb22), .val .null, .val (.ref b23), .val (.int (if vr = (0 : Int32) then (0 : Int32) else (0 : Int32))), .unset, .unset] [])
        refine Goes.of (fun _ => XS.iload X25.here hx rfl (hb hby at_216) rfl) ?_
        show Goes p e below _ T25 (mkF m 218 #[.val (.int p1), .val (.int p2), .val (.int p3), .val (.int vr), .val (.int (1 : Int32)), .val (.int (0 : Int32)), .val (.int (1 : Int32)), .val (.int vc), .val (.int n1), .val (.int n2), .val (.int x0), .val (.int x1), .val (.int y0), .val (.int y1), .val (.ref sb22), .val .null, .val (.ref b23), .val (.int (if vr = (0 : Int32) then (0 : Int32) else (0 : Int32))), .unset, .unset] [(.int n1)])
        refine Goes.of (fun _ => XS.iload X25.here hx rfl (hb hby at_218) rfl) ?_
        show Goes p e below _ T25 (mkF m 220 #[.val (.int p1), .val (.int p2), .val (.int p3), .val (.int vr), .val (.int (1 : Int32)), .val (.int (0 : Int32)), .val (.int (1 : Int32)), .val (.int vc), .val (.int n1), .val (.int n2), .val (.int x0), .val (.int x1), .val (.int y0), .val (.int y1), .val (.ref sb22), .val .null, .val (.ref b23), .val (.int (if vr = (0 : Int32) then (0 : Int32) else (0 : Int32))), .unset, .unset] [(.int n2), (.int n1)])
        refine Goes.of (T' := T25) (f' := (mkF m 254 #[.val (.int p1), .val (.int p2), .val (.int p3), .val (.int vr), .val (.int (1 : Int32)), .val (.int (0 : Int32)), .val (.int (1 : Int32)), .val (.int vc), .val (.int n1), .val (.int n2), .val (.int x0), .val (.int x1), .val (.int y0), .val (.int y1), .val (.ref sb22), .val .null, .val (.ref b23), .val (.int (if vr = (0 : Int32) then (0 : Int32) else (0 : Int32))), .unset, .unset] [(.int (if n1 = n2 then (if n1 < (1 : Int32) then (if n1 < (2 : Int32) then (1 : Int32) else (if x1 = y1 then (1 : Int32) else (0 : Int32))) else (if x0 = y0 then (if n1 < (2 : Int32) then (1 : Int32) else (if x1 = y1 then (1 : Int32) else (0 : Int32))) else (0 : Int32))) else (0 : Int32)))])) (fun t kt => ?_) ?_
        · show Steps p.tables e below (T25.setTop (mkF m 220 #[.val (.int p1), .val (.int p2), .val (.int p3), .val (.int vr), .val (.int (1 : Int32)), .val (.int (0 : Int32)), .val (.int (1 : Int32)), .val (.int vc), .val (.int n1), .val (.int n2), .val (.int x0), .val (.int x1), .val (.int y0), .val (.int y1), .val (.ref sb22), .val .null, .val (.ref b23), .val (.int (if vr = (0 : Int32) then (0 : Int32) else (0 : Int32))), .unset, .unset] [(.int n2), (.int n1)])) _
          by_cases hq220 : n1 = n2
          · simp only [if_pos hq220] at kt
            refine XS.icmpNo X25.here hx rfl (hb hby at_220) rfl (teq hq220).2 ?_
            show Steps p.tables e below (T25.setTop (mkF m 223 #[.val (.int p1), .val (.int p2), .val (.int p3), .val (.int vr), .val (.int (1 : Int32)), .val (.int (0 : Int32)), .val (.int (1 : Int32)), .val (.int vc), .val (.int n1), .val (.int n2), .val (.int x0), .val (.int x1), .val (.int y0), .val (.int y1), .val (.ref sb22), .val .null, .val (.ref b23), .val (.int (if vr = (0 : Int32) then (0 : Int32) else (0 : Int32))), .unset, .unset] [])) _
            refine XS.iload X25.here hx rfl (hb hby at_223) rfl ?_
            show Steps p.tables e below (T25.setTop (mkF m 225 #[.val (.int p1), .val (.int p2), .val (.int p3), .val (.int vr), .val (.int (1 : Int32)), .val (.int (0 : Int32)), .val (.int (1 : Int32)), .val (.int vc), .val (.int n1), .val (.int n2), .val (.int x0), .val (.int x1), .val (.int y0), .val (.int y1), .val (.ref sb22), .val .null, .val (.ref b23), .val (.int (if vr = (0 : Int32) then (0 : Int32) else (0 : Int32))), .unset, .unset] [(.int n1)])) _
            refine XS.iconst X25.here hx rfl (hb hby at_225) ?_
            show Steps p.tables e below (T25.setTop (mkF m 226 #[.val (.int p1), .val (.int p2), .val (.int p3), .val (.int vr), .val (.int (1 : Int32)), .val (.int (0 : Int32)), .val (.int (1 : Int32)), .val (.int vc), .val (.int n1), .val (.int n2), .val (.int x0), .val (.int x1), .val (.int y0), .val (.int y1), .val (.ref sb22), .val .null, .val (.ref b23), .val (.int (if vr = (0 : Int32) then (0 : Int32) else (0 : Int32))), .unset, .unset] [(.int (1 : Int32)), (.int n1)])) _
            by_cases hq226 : n1 < (1 : Int32)
            · simp only [if_pos hq226] at kt
              refine XS.icmpYes X25.here hx rfl (pc0 := 226) (pc' := 236) rfl (hb hby at_226) rfl (tlt hq226).1 (by decide) (by decide) ?_
              show Steps p.tables e below (T25.setTop (mkF m 236 #[.val (.int p1), .val (.int p2), .val (.int p3), .val (.int vr), .val (.int (1 : Int32)), .val (.int (0 : Int32)), .val (.int (1 : Int32)), .val (.int vc), .val (.int n1), .val (.int n2), .val (.int x0), .val (.int x1), .val (.int y0), .val (.int y1), .val (.ref sb22), .val .null, .val (.ref b23), .val (.int (if vr = (0 : Int32) then (0 : Int32) else (0 : Int32))), .unset, .unset] [])) _
              refine XS.iload X25.here hx rfl (hb hby at_236) rfl ?_
              show Steps p.tables e below (T25.setTop (mkF m 238 #[.val (.int p1), .val (.int p2), .val (.int p3), .val (.int vr), .val (.int (1 : Int32)), .val (.int (0 : Int32)), .val (.int (1 : Int32)), .val (.int vc), .val (.int n1), .val (.int n2), .val (.int x0), .val (.int x1), .val (.int y0), .val (.int y1), .val (.ref sb22), .val .null, .val (.ref b23), .val (.int (if vr = (0 : Int32) then (0 : Int32) else (0 : Int32))), .unset, .unset] [(.int n1)])) _
              refine XS.iconst X25.here hx rfl (hb hby at_238) ?_
              show Steps p.tables e below (T25.setTop (mkF m 239 #[.val (.int p1), .val (.int p2), .val (.int p3), .val (.int vr), .val (.int (1 : Int32)), .val (.int (0 : Int32)), .val (.int (1 : Int32)), .val (.int vc), .val (.int n1), .val (.int n2), .val (.int x0), .val (.int x1), .val (.int y0), .val (.int y1), .val (.ref sb22), .val .null, .val (.ref b23), .val (.int (if vr = (0 : Int32) then (0 : Int32) else (0 : Int32))), .unset, .unset] [(.int (2 : Int32)), (.int n1)])) _
              by_cases hq239 : n1 < (2 : Int32)
              · simp only [if_pos hq239] at kt
                refine XS.icmpYes X25.here hx rfl (pc0 := 239) (pc' := 249) rfl (hb hby at_239) rfl (tlt hq239).1 (by decide) (by decide) ?_
                show Steps p.tables e below (T25.setTop (mkF m 249 #[.val (.int p1), .val (.int p2), .val (.int p3), .val (.int vr), .val (.int (1 : Int32)), .val (.int (0 : Int32)), .val (.int (1 : Int32)), .val (.int vc), .val (.int n1), .val (.int n2), .val (.int x0), .val (.int x1), .val (.int y0), .val (.int y1), .val (.ref sb22), .val .null, .val (.ref b23), .val (.int (if vr = (0 : Int32) then (0 : Int32) else (0 : Int32))), .unset, .unset] [])) _
                refine XS.iconst X25.here hx rfl (hb hby at_249) ?_
                show Steps p.tables e below (T25.setTop (mkF m 250 #[.val (.int p1), .val (.int p2), .val (.int p3), .val (.int vr), .val (.int (1 : Int32)), .val (.int (0 : Int32)), .val (.int (1 : Int32)), .val (.int vc), .val (.int n1), .val (.int n2), .val (.int x0), .val (.int x1), .val (.int y0), .val (.int y1), .val (.ref sb22), .val .null, .val (.ref b23), .val (.int (if vr = (0 : Int32) then (0 : Int32) else (0 : Int32))), .unset, .unset] [(.int (1 : Int32))])) _
                refine XS.goto X25.here hx rfl (pc0 := 250) (pc' := 254) rfl (hb hby at_250) (by decide) (by decide) ?_
                show Steps p.tables e below (T25.setTop (mkF m 254 #[.val (.int p1), .val (.int p2), .val (.int p3), .val (.int vr), .val (.int (1 : Int32)), .val (.int (0 : Int32)), .val (.int (1 : Int32)), .val (.int vc), .val (.int n1), .val (.int n2), .val (.int x0), .val (.int x1), .val (.int y0), .val (.int y1), .val (.ref sb22), .val .null, .val (.ref b23), .val (.int (if vr = (0 : Int32) then (0 : Int32) else (0 : Int32))), .unset, .unset] [(.int (1 : Int32))])) _
                first | exact kt | (simp only [if_pos hq220, if_pos hq226, if_pos hq239]; exact kt)
              · simp only [if_neg hq239] at kt
                refine XS.icmpNo X25.here hx rfl (hb hby at_239) rfl (flt hq239).1 ?_
                show Steps p.tables e below (T25.setTop (mkF m 242 #[.val (.int p1), .val (.int p2), .val (.int p3), .val (.int vr), .val (.int (1 : Int32)), .val (.int (0 : Int32)), .val (.int (1 : Int32)), .val (.int vc), .val (.int n1), .val (.int n2), .val (.int x0), .val (.int x1), .val (.int y0), .val (.int y1), .val (.ref sb22), .val .null, .val (.ref b23), .val (.int (if vr = (0 : Int32) then (0 : Int32) else (0 : Int32))), .unset, .unset] [])) _
                refine XS.iload X25.here hx rfl (hb hby at_242) rfl ?_
                show Steps p.tables e below (T25.setTop (mkF m 244 #[.val (.int p1), .val (.int p2), .val (.int p3), .val (.int vr), .val (.int (1 : Int32)), .val (.int (0 : Int32)), .val (.int (1 : Int32)), .val (.int vc), .val (.int n1), .val (.int n2), .val (.int x0), .val (.int x1), .val (.int y0), .val (.int y1), .val (.ref sb22), .val .null, .val (.ref b23), .val (.int (if vr = (0 : Int32) then (0 : Int32) else (0 : Int32))), .unset, .unset] [(.int x1)])) _
                refine XS.iload X25.here hx rfl (hb hby at_244) rfl ?_
                show Steps p.tables e below (T25.setTop (mkF m 246 #[.val (.int p1), .val (.int p2), .val (.int p3), .val (.int vr), .val (.int (1 : Int32)), .val (.int (0 : Int32)), .val (.int (1 : Int32)), .val (.int vc), .val (.int n1), .val (.int n2), .val (.int x0), .val (.int x1), .val (.int y0), .val (.int y1), .val (.ref sb22), .val .null, .val (.ref b23), .val (.int (if vr = (0 : Int32) then (0 : Int32) else (0 : Int32))), .unset, .unset] [(.int y1), (.int x1)])) _
                by_cases hq246 : x1 = y1
                · simp only [if_pos hq246] at kt
                  refine XS.icmpNo X25.here hx rfl (hb hby at_246) rfl (teq hq246).2 ?_
                  show Steps p.tables e below (T25.setTop (mkF m 249 #[.val (.int p1), .val (.int p2), .val (.int p3), .val (.int vr), .val (.int (1 : Int32)), .val (.int (0 : Int32)), .val (.int (1 : Int32)), .val (.int vc), .val (.int n1), .val (.int n2), .val (.int x0), .val (.int x1), .val (.int y0), .val (.int y1), .val (.ref sb22), .val .null, .val (.ref b23), .val (.int (if vr = (0 : Int32) then (0 : Int32) else (0 : Int32))), .unset, .unset] [])) _
                  refine XS.iconst X25.here hx rfl (hb hby at_249) ?_
                  show Steps p.tables e below (T25.setTop (mkF m 250 #[.val (.int p1), .val (.int p2), .val (.int p3), .val (.int vr), .val (.int (1 : Int32)), .val (.int (0 : Int32)), .val (.int (1 : Int32)), .val (.int vc), .val (.int n1), .val (.int n2), .val (.int x0), .val (.int x1), .val (.int y0), .val (.int y1), .val (.ref sb22), .val .null, .val (.ref b23), .val (.int (if vr = (0 : Int32) then (0 : Int32) else (0 : Int32))), .unset, .unset] [(.int (1 : Int32))])) _
                  refine XS.goto X25.here hx rfl (pc0 := 250) (pc' := 254) rfl (hb hby at_250) (by decide) (by decide) ?_
                  show Steps p.tables e below (T25.setTop (mkF m 254 #[.val (.int p1), .val (.int p2), .val (.int p3), .val (.int vr), .val (.int (1 : Int32)), .val (.int (0 : Int32)), .val (.int (1 : Int32)), .val (.int vc), .val (.int n1), .val (.int n2), .val (.int x0), .val (.int x1), .val (.int y0), .val (.int y1), .val (.ref sb22), .val .null, .val (.ref b23), .val (.int (if vr = (0 : Int32) then (0 : Int32) else (0 : Int32))), .unset, .unset] [(.int (1 : Int32))])) _
                  first | exact kt | (simp only [if_pos hq220, if_pos hq226, if_neg hq239, if_pos hq246]; exact kt)
                · simp only [if_neg hq246] at kt
                  refine XS.icmpYes X25.here hx rfl (pc0 := 246) (pc' := 253) rfl (hb hby at_246) rfl (feq hq246).2 (by decide) (by decide) ?_
                  show Steps p.tables e below (T25.setTop (mkF m 253 #[.val (.int p1), .val (.int p2), .val (.int p3), .val (.int vr), .val (.int (1 : Int32)), .val (.int (0 : Int32)), .val (.int (1 : Int32)), .val (.int vc), .val (.int n1), .val (.int n2), .val (.int x0), .val (.int x1), .val (.int y0), .val (.int y1), .val (.ref sb22), .val .null, .val (.ref b23), .val (.int (if vr = (0 : Int32) then (0 : Int32) else (0 : Int32))), .unset, .unset] [])) _
                  refine XS.iconst X25.here hx rfl (hb hby at_253) ?_
                  show Steps p.tables e below (T25.setTop (mkF m 254 #[.val (.int p1), .val (.int p2), .val (.int p3), .val (.int vr), .val (.int (1 : Int32)), .val (.int (0 : Int32)), .val (.int (1 : Int32)), .val (.int vc), .val (.int n1), .val (.int n2), .val (.int x0), .val (.int x1), .val (.int y0), .val (.int y1), .val (.ref sb22), .val .null, .val (.ref b23), .val (.int (if vr = (0 : Int32) then (0 : Int32) else (0 : Int32))), .unset, .unset] [(.int (0 : Int32))])) _
                  first | exact kt | (simp only [if_pos hq220, if_pos hq226, if_neg hq239, if_neg hq246]; exact kt)
            · simp only [if_neg hq226] at kt
              refine XS.icmpNo X25.here hx rfl (hb hby at_226) rfl (flt hq226).1 ?_
              show Steps p.tables e below (T25.setTop (mkF m 229 #[.val (.int p1), .val (.int p2), .val (.int p3), .val (.int vr), .val (.int (1 : Int32)), .val (.int (0 : Int32)), .val (.int (1 : Int32)), .val (.int vc), .val (.int n1), .val (.int n2), .val (.int x0), .val (.int x1), .val (.int y0), .val (.int y1), .val (.ref sb22), .val .null, .val (.ref b23), .val (.int (if vr = (0 : Int32) then (0 : Int32) else (0 : Int32))), .unset, .unset] [])) _
              refine XS.iload X25.here hx rfl (hb hby at_229) rfl ?_
              show Steps p.tables e below (T25.setTop (mkF m 231 #[.val (.int p1), .val (.int p2), .val (.int p3), .val (.int vr), .val (.int (1 : Int32)), .val (.int (0 : Int32)), .val (.int (1 : Int32)), .val (.int vc), .val (.int n1), .val (.int n2), .val (.int x0), .val (.int x1), .val (.int y0), .val (.int y1), .val (.ref sb22), .val .null, .val (.ref b23), .val (.int (if vr = (0 : Int32) then (0 : Int32) else (0 : Int32))), .unset, .unset] [(.int x0)])) _
              refine XS.iload X25.here hx rfl (hb hby at_231) rfl ?_
              show Steps p.tables e below (T25.setTop (mkF m 233 #[.val (.int p1), .val (.int p2), .val (.int p3), .val (.int vr), .val (.int (1 : Int32)), .val (.int (0 : Int32)), .val (.int (1 : Int32)), .val (.int vc), .val (.int n1), .val (.int n2), .val (.int x0), .val (.int x1), .val (.int y0), .val (.int y1), .val (.ref sb22), .val .null, .val (.ref b23), .val (.int (if vr = (0 : Int32) then (0 : Int32) else (0 : Int32))), .unset, .unset] [(.int y0), (.int x0)])) _
              by_cases hq233 : x0 = y0
              · simp only [if_pos hq233] at kt
                refine XS.icmpNo X25.here hx rfl (hb hby at_233) rfl (teq hq233).2 ?_
                show Steps p.tables e below (T25.setTop (mkF m 236 #[.val (.int p1), .val (.int p2), .val (.int p3), .val (.int vr), .val (.int (1 : Int32)), .val (.int (0 : Int32)), .val (.int (1 : Int32)), .val (.int vc), .val (.int n1), .val (.int n2), .val (.int x0), .val (.int x1), .val (.int y0), .val (.int y1), .val (.ref sb22), .val .null, .val (.ref b23), .val (.int (if vr = (0 : Int32) then (0 : Int32) else (0 : Int32))), .unset, .unset] [])) _
                refine XS.iload X25.here hx rfl (hb hby at_236) rfl ?_
                show Steps p.tables e below (T25.setTop (mkF m 238 #[.val (.int p1), .val (.int p2), .val (.int p3), .val (.int vr), .val (.int (1 : Int32)), .val (.int (0 : Int32)), .val (.int (1 : Int32)), .val (.int vc), .val (.int n1), .val (.int n2), .val (.int x0), .val (.int x1), .val (.int y0), .val (.int y1), .val (.ref sb22), .val .null, .val (.ref b23), .val (.int (if vr = (0 : Int32) then (0 : Int32) else (0 : Int32))), .unset, .unset] [(.int n1)])) _
                refine XS.iconst X25.here hx rfl (hb hby at_238) ?_
                show Steps p.tables e below (T25.setTop (mkF m 239 #[.val (.int p1), .val (.int p2), .val (.int p3), .val (.int vr), .val (.int (1 : Int32)), .val (.int (0 : Int32)), .val (.int (1 : Int32)), .val (.int vc), .val (.int n1), .val (.int n2), .val (.int x0), .val (.int x1), .val (.int y0), .val (.int y1), .val (.ref sb22), .val .null, .val (.ref b23), .val (.int (if vr = (0 : Int32) then (0 : Int32) else (0 : Int32))), .unset, .unset] [(.int (2 : Int32)), (.int n1)])) _
                by_cases hq239 : n1 < (2 : Int32)
                · simp only [if_pos hq239] at kt
                  refine XS.icmpYes X25.here hx rfl (pc0 := 239) (pc' := 249) rfl (hb hby at_239) rfl (tlt hq239).1 (by decide) (by decide) ?_
                  show Steps p.tables e below (T25.setTop (mkF m 249 #[.val (.int p1), .val (.int p2), .val (.int p3), .val (.int vr), .val (.int (1 : Int32)), .val (.int (0 : Int32)), .val (.int (1 : Int32)), .val (.int vc), .val (.int n1), .val (.int n2), .val (.int x0), .val (.int x1), .val (.int y0), .val (.int y1), .val (.ref sb22), .val .null, .val (.ref b23), .val (.int (if vr = (0 : Int32) then (0 : Int32) else (0 : Int32))), .unset, .unset] [])) _
                  refine XS.iconst X25.here hx rfl (hb hby at_249) ?_
                  show Steps p.tables e below (T25.setTop (mkF m 250 #[.val (.int p1), .val (.int p2), .val (.int p3), .val (.int vr), .val (.int (1 : Int32)), .val (.int (0 : Int32)), .val (.int (1 : Int32)), .val (.int vc), .val (.int n1), .val (.int n2), .val (.int x0), .val (.int x1), .val (.int y0), .val (.int y1), .val (.ref sb22), .val .null, .val (.ref b23), .val (.int (if vr = (0 : Int32) then (0 : Int32) else (0 : Int32))), .unset, .unset] [(.int (1 : Int32))])) _
                  refine XS.goto X25.here hx rfl (pc0 := 250) (pc' := 254) rfl (hb hby at_250) (by decide) (by decide) ?_
                  show Steps p.tables e below (T25.setTop (mkF m 254 #[.val (.int p1), .val (.int p2), .val (.int p3), .val (.int vr), .val (.int (1 : Int32)), .val (.int (0 : Int32)), .val (.int (1 : Int32)), .val (.int vc), .val (.int n1), .val (.int n2), .val (.int x0), .val (.int x1), .val (.int y0), .val (.int y1), .val (.ref sb22), .val .null, .val (.ref b23), .val (.int (if vr = (0 : Int32) then (0 : Int32) else (0 : Int32))), .unset, .unset] [(.int (1 : Int32))])) _
                  first | exact kt | (simp only [if_pos hq220, if_neg hq226, if_pos hq233, if_pos hq239]; exact kt)
                · simp only [if_neg hq239] at kt
                  refine XS.icmpNo X25.here hx rfl (hb hby at_239) rfl (flt hq239).1 ?_
                  show Steps p.tables e below (T25.setTop (mkF m 242 #[.val (.int p1), .val (.int p2), .val (.int p3), .val (.int vr), .val (.int (1 : Int32)), .val (.int (0 : Int32)), .val (.int (1 : Int32)), .val (.int vc), .val (.int n1), .val (.int n2), .val (.int x0), .val (.int x1), .val (.int y0), .val (.int y1), .val (.ref sb22), .val .null, .val (.ref b23), .val (.int (if vr = (0 : Int32) then (0 : Int32) else (0 : Int32))), .unset, .unset] [])) _
                  refine XS.iload X25.here hx rfl (hb hby at_242) rfl ?_
                  show Steps p.tables e below (T25.setTop (mkF m 244 #[.val (.int p1), .val (.int p2), .val (.int p3), .val (.int vr), .val (.int (1 : Int32)), .val (.int (0 : Int32)), .val (.int (1 : Int32)), .val (.int vc), .val (.int n1), .val (.int n2), .val (.int x0), .val (.int x1), .val (.int y0), .val (.int y1), .val (.ref sb22), .val .null, .val (.ref b23), .val (.int (if vr = (0 : Int32) then (0 : Int32) else (0 : Int32))), .unset, .unset] [(.int x1)])) _
                  refine XS.iload X25.here hx rfl (hb hby at_244) rfl ?_
                  show Steps p.tables e below (T25.setTop (mkF m 246 #[.val (.int p1), .val (.int p2), .val (.int p3), .val (.int vr), .val (.int (1 : Int32)), .val (.int (0 : Int32)), .val (.int (1 : Int32)), .val (.int vc), .val (.int n1), .val (.int n2), .val (.int x0), .val (.int x1), .val (.int y0), .val (.int y1), .val (.ref sb22), .val .null, .val (.ref b23), .val (.int (if vr = (0 : Int32) then (0 : Int32) else (0 : Int32))), .unset, .unset] [(.int y1), (.int x1)])) _
                  by_cases hq246 : x1 = y1
                  · simp only [if_pos hq246] at kt
                    refine XS.icmpNo X25.here hx rfl (hb hby at_246) rfl (teq hq246).2 ?_
                    show Steps p.tables e below (T25.setTop (mkF m 249 #[.val (.int p1), .val (.int p2), .val (.int p3), .val (.int vr), .val (.int (1 : Int32)), .val (.int (0 : Int32)), .val (.int (1 : Int32)), .val (.int vc), .val (.int n1), .val (.int n2), .val (.int x0), .val (.int x1), .val (.int y0), .val (.int y1), .val (.ref sb22), .val .null, .val (.ref b23), .val (.int (if vr = (0 : Int32) then (0 : Int32) else (0 : Int32))), .unset, .unset] [])) _
                    refine XS.iconst X25.here hx rfl (hb hby at_249) ?_
                    show Steps p.tables e below (T25.setTop (mkF m 250 #[.val (.int p1), .val (.int p2), .val (.int p3), .val (.int vr), .val (.int (1 : Int32)), .val (.int (0 : Int32)), .val (.int (1 : Int32)), .val (.int vc), .val (.int n1), .val (.int n2), .val (.int x0), .val (.int x1), .val (.int y0), .val (.int y1), .val (.ref sb22), .val .null, .val (.ref b23), .val (.int (if vr = (0 : Int32) then (0 : Int32) else (0 : Int32))), .unset, .unset] [(.int (1 : Int32))])) _
                    refine XS.goto X25.here hx rfl (pc0 := 250) (pc' := 254) rfl (hb hby at_250) (by decide) (by decide) ?_
                    show Steps p.tables e below (T25.setTop (mkF m 254 #[.val (.int p1), .val (.int p2), .val (.int p3), .val (.int vr), .val (.int (1 : Int32)), .val (.int (0 : Int32)), .val (.int (1 : Int32)), .val (.int vc), .val (.int n1), .val (.int n2), .val (.int x0), .val (.int x1), .val (.int y0), .val (.int y1), .val (.ref sb22), .val .null, .val (.ref b23), .val (.int (if vr = (0 : Int32) then (0 : Int32) else (0 : Int32))), .unset, .unset] [(.int (1 : Int32))])) _
                    first | exact kt | (simp only [if_pos hq220, if_neg hq226, if_pos hq233, if_neg hq239, if_pos hq246]; exact kt)
                  · simp only [if_neg hq246] at kt
                    refine XS.icmpYes X25.here hx rfl (pc0 := 246) (pc' := 253) rfl (hb hby at_246) rfl (feq hq246).2 (by decide) (by decide) ?_
                    show Steps p.tables e below (T25.setTop (mkF m 253 #[.val (.int p1), .val (.int p2), .val (.int p3), .val (.int vr), .val (.int (1 : Int32)), .val (.int (0 : Int32)), .val (.int (1 : Int32)), .val (.int vc), .val (.int n1), .val (.int n2), .val (.int x0), .val (.int x1), .val (.int y0), .val (.int y1), .val (.ref sb22), .val .null, .val (.ref b23), .val (.int (if vr = (0 : Int32) then (0 : Int32) else (0 : Int32))), .unset, .unset] [])) _
                    refine XS.iconst X25.here hx rfl (hb hby at_253) ?_
                    show Steps p.tables e below (T25.setTop (mkF m 254 #[.val (.int p1), .val (.int p2), .val (.int p3), .val (.int vr), .val (.int (1 : Int32)), .val (.int (0 : Int32)), .val (.int (1 : Int32)), .val (.int vc), .val (.int n1), .val (.int n2), .val (.int x0), .val (.int x1), .val (.int y0), .val (.int y1), .val (.ref sb22), .val .null, .val (.ref b23), .val (.int (if vr = (0 : Int32) then (0 : Int32) else (0 : Int32))), .unset, .unset] [(.int (0 : Int32))])) _
                    first | exact kt | (simp only [if_pos hq220, if_neg hq226, if_pos hq233, if_neg hq239, if_neg hq246]; exact kt)
              · simp only [if_neg hq233] at kt
                refine XS.icmpYes X25.here hx rfl (pc0 := 233) (pc' := 253) rfl (hb hby at_233) rfl (feq hq233).2 (by decide) (by decide) ?_
                show Steps p.tables e below (T25.setTop (mkF m 253 #[.val (.int p1), .val (.int p2), .val (.int p3), .val (.int vr), .val (.int (1 : Int32)), .val (.int (0 : Int32)), .val (.int (1 : Int32)), .val (.int vc), .val (.int n1), .val (.int n2), .val (.int x0), .val (.int x1), .val (.int y0), .val (.int y1), .val (.ref sb22), .val .null, .val (.ref b23), .val (.int (if vr = (0 : Int32) then (0 : Int32) else (0 : Int32))), .unset, .unset] [])) _
                refine XS.iconst X25.here hx rfl (hb hby at_253) ?_
                show Steps p.tables e below (T25.setTop (mkF m 254 #[.val (.int p1), .val (.int p2), .val (.int p3), .val (.int vr), .val (.int (1 : Int32)), .val (.int (0 : Int32)), .val (.int (1 : Int32)), .val (.int vc), .val (.int n1), .val (.int n2), .val (.int x0), .val (.int x1), .val (.int y0), .val (.int y1), .val (.ref sb22), .val .null, .val (.ref b23), .val (.int (if vr = (0 : Int32) then (0 : Int32) else (0 : Int32))), .unset, .unset] [(.int (0 : Int32))])) _
                first | exact kt | (simp only [if_pos hq220, if_neg hq226, if_neg hq233]; exact kt)
          · simp only [if_neg hq220] at kt
            refine XS.icmpYes X25.here hx rfl (pc0 := 220) (pc' := 253) rfl (hb hby at_220) rfl (feq hq220).2 (by decide) (by decide) ?_
            show Steps p.tables e below (T25.setTop (mkF m 253 #[.val (.int p1), .val (.int p2), .val (.int p3), .val (.int vr), .val (.int (1 : Int32)), .val (.int (0 : Int32)), .val (.int (1 : Int32)), .val (.int vc), .val (.int n1), .val (.int n2), .val (.int x0), .val (.int x1), .val (.int y0), .val (.int y1), .val (.ref sb22), .val .null, .val (.ref b23), .val (.int (if vr = (0 : Int32) then (0 : Int32) else (0 : Int32))), .unset, .unset] [])) _
            refine XS.iconst X25.here hx rfl (hb hby at_253) ?_
            show Steps p.tables e below (T25.setTop (mkF m 254 #[.val (.int p1), .val (.int p2), .val (.int p3), .val (.int vr), .val (.int (1 : Int32)), .val (.int (0 : Int32)), .val (.int (1 : Int32)), .val (.int vc), .val (.int n1), .val (.int n2), .val (.int x0), .val (.int x1), .val (.int y0), .val (.int y1), .val (.ref sb22), .val .null, .val (.ref b23), .val (.int (if vr = (0 : Int32) then (0 : Int32) else (0 : Int32))), .unset, .unset] [(.int (0 : Int32))])) _
            first | exact kt | (simp only [if_neg hq220]; exact kt)
        show Goes p e below _ T25 (mkF m 254 #[.val (.int p1), .val (.int p2), .val (.int p3), .val (.int vr), .val (.int (1 : Int32)), .val (.int (0 : Int32)), .val (.int (1 : Int32)), .val (.int vc), .val (.int n1), .val (.int n2), .val (.int x0), .val (.int x1), .val (.int y0), .val (.int y1), .val (.ref sb22), .val .null, .val (.ref b23), .val (.int (if vr = (0 : Int32) then (0 : Int32) else (0 : Int32))), .unset, .unset] [(.int (if n1 = n2 then (if n1 < (1 : Int32) then (if n1 < (2 : Int32) then (1 : Int32) else (if x1 = y1 then (1 : Int32) else (0 : Int32))) else (if x0 = y0 then (if n1 < (2 : Int32) then (1 : Int32) else (if x1 = y1 then (1 : Int32) else (0 : Int32))) else (0 : Int32))) else (0 : Int32)))])
        refine Goes.of (fun _ => XS.istore X25.here hx rfl (hb hby at_254) rfl (l' := #[.val (.int p1), .val (.int p2), .val (.int p3), .val (.int vr), .val (.int (1 : Int32)), .val (.int (0 : Int32)), .val (.int (1 : Int32)), .val (.int vc), .val (.int n1), .val (.int n2), .val (.int x0), .val (.int x1), .val (.int y0), .val (.int y1), .val (.ref sb22), .val .null, .val (.ref b23), .val (.int (if vr = (0 : Int32) then (0 : Int32) else (0 : Int32))), .val (.int (if n1 = n2 then (if n1 < (1 : Int32) then (if n1 < (2 : Int32) then (1 : Int32) else (if x1 = y1 then (1 : Int32) else (0 : Int32))) else (if x0 = y0 then (if n1 < (2 : Int32) then (1 : Int32) else (if x1 = y1 then (1 : Int32) else (0 : Int32))) else (0 : Int32))) else (0 : Int32))), .unset]) rfl) ?_
        show Goes p e below _ T25 (mkF m 256 #[.val (.int p1), .val (.int p2), .val (.int p3), .val (.int vr), .val (.int (1 : Int32)), .val (.int (0 : Int32)), .val (.int (1 : Int32)), .val (.int vc), .val (.int n1), .val (.int n2), .val (.int x0), .val (.int x1), .val (.int y0), .val (.int y1), .val (.ref sb22), .val .null, .val (.ref b23), .val (.int (if vr = (0 : Int32) then (0 : Int32) else (0 : Int32))), .val (.int (if n1 = n2 then (if n1 < (1 : Int32) then (if n1 < (2 : Int32) then (1 : Int32) else (if x1 = y1 then (1 : Int32) else (0 : Int32))) else (if x0 = y0 then (if n1 < (2 : Int32) then (1 : Int32) else (if x1 = y1 then (1 : Int32) else (0 : Int32))) else (0 : Int32))) else (0 : Int32))), .unset] [])
        generalize erf : (if n1 = n2 then (if n1 < (1 : Int32) then (if n1 < (2 : Int32) then (1 : Int32) else (if x1 = y1 then (1 : Int32) else (0 : Int32))) else (if x0 = y0 then (if n1 < (2 : Int32) then (1 : Int32) else (if x1 = y1 then (1 : Int32) else (0 : Int32))) else (0 : Int32))) else (0 : Int32)) = rf
        show Goes p e below _ T25 (mkF m 256 #[.val (.int p1), .val (.int p2), .val (.int p3), .val (.int vr), .val (.int (1 : Int32)), .val (.int (0 : Int32)), .val (.int (1 : Int32)), .val (.int vc), .val (.int n1), .val (.int n2), .val (.int x0), .val (.int x1), .val (.int y0), .val (.int y1), .val (.ref sb22), .val .null, .val (.ref b23), .val (.int (if vr = (0 : Int32) then (0 : Int32) else (0 : Int32))), .val (.int rf), .unset] [])
        refine Goes.of (fun _ => XS.iloadN X25.here hx rfl (hb hby at_256) rfl) ?_
        show Goes p e below _ T25 (mkF m 257 #[.val (.int p1), .val (.int p2), .val (.int p3), .val (.int vr), .val (.int (1 : Int32)), .val (.int (0 : Int32)), .val (.int (1 : Int32)), .val (.int vc), .val (.int n1), .val (.int n2), .val (.int x0), .val (.int x1), .val (.int y0), .val (.int y1), .val (.ref sb22), .val .null, .val (.ref b23), .val (.int (if vr = (0 : Int32) then (0 : Int32) else (0 : Int32))), .val (.int rf), .unset] [(.int vr)])
        refine Goes.of (T' := T25) (f' := (mkF m 313 #[.val (.int p1), .val (.int p2), .val (.int p3), .val (.int vr), .val (.int (1 : Int32)), .val (.int (0 : Int32)), .val (.int (1 : Int32)), .val (.int vc), .val (.int n1), .val (.int n2), .val (.int x0), .val (.int x1), .val (.int y0), .val (.int y1), .val (.ref sb22), .val .null, .val (.ref b23), .val (.int (if vr = (0 : Int32) then (0 : Int32) else (0 : Int32))), .val (.int rf), .val (.int (0 : Int32))] [])) (fun t kt => ?_) ?_
        · show Steps p.tables e below (T25.setTop (mkF m 257 #[.val (.int p1), .val (.int p2), .val (.int p3), .val (.int vr), .val (.int (1 : Int32)), .val (.int (0 : Int32)), .val (.int (1 : Int32)), .val (.int vc), .val (.int n1), .val (.int n2), .val (.int x0), .val (.int x1), .val (.int y0), .val (.int y1), .val (.ref sb22), .val .null, .val (.ref b23), .val (.int (if vr = (0 : Int32) then (0 : Int32) else (0 : Int32))), .val (.int rf), .unset] [(.int vr)])) _
          by_cases hq257 : vr = (0 : Int32)
          · refine XS.ifNo X25.here hx rfl (hb hby at_257) rfl ((if0 _ _).trans (teq hq257).2) ?_
            show Steps p.tables e below (T25.setTop (mkF m 260 #[.val (.int p1), .val (.int p2), .val (.int p3), .val (.int vr), .val (.int (1 : Int32)), .val (.int (0 : Int32)), .val (.int (1 : Int32)), .val (.int vc), .val (.int n1), .val (.int n2), .val (.int x0), .val (.int x1), .val (.int y0), .val (.int y1), .val (.ref sb22), .val .null, .val (.ref b23), .val (.int (if vr = (0 : Int32) then (0 : Int32) else (0 : Int32))), .val (.int rf), .unset] [])) _
            refine XS.iconst X25.here hx rfl (hb hby at_260) ?_
            show Steps p.tables e below (T25.setTop (mkF m 261 #[.val (.int p1), .val (.int p2), .val (.int p3), .val (.int vr), .val (.int (1 : Int32)), .val (.int (0 : Int32)), .val (.int (1 : Int32)), .val (.int vc), .val (.int n1), .val (.int n2), .val (.int x0), .val (.int x1), .val (.int y0), .val (.int y1), .val (.ref sb22), .val .null, .val (.ref b23), .val (.int (if vr = (0 : Int32) then (0 : Int32) else (0 : Int32))), .val (.int rf), .unset] [(.int (0 : Int32))])) _
            refine XS.istore X25.here hx rfl (hb hby at_261) rfl (l' := #[.val (.int p1), .val (.int p2), .val (.int p3), .val (.int vr), .val (.int (1 : Int32)), .val (.int (0 : Int32)), .val (.int (1 : Int32)), .val (.int vc), .val (.int n1), .val (.int n2), .val (.int x0), .val (.int x1), .val (.int y0), .val (.int y1), .val (.ref sb22), .val .null, .val (.ref b23), .val (.int (if vr = (0 : Int32) then (0 : Int32) else (0 : Int32))), .val (.int rf), .val (.int (0 : Int32))]) rfl ?_
            show Steps p.tables e below (T25.setTop (mkF m 263 #[.val (.int p1), .val (.int p2), .val (.int p3), .val (.int vr), .val (.int (1 : Int32)), .val (.int (0 : Int32)), .val (.int (1 : Int32)), .val (.int vc), .val (.int n1), .val (.int n2), .val (.int x0), .val (.int x1), .val (.int y0), .val (.int y1), .val (.ref sb22), .val .null, .val (.ref b23), .val (.int (if vr = (0 : Int32) then (0 : Int32) else (0 : Int32))), .val (.int rf), .val (.int (0 : Int32))] [])) _
            refine XS.goto X25.here hx rfl (pc0 := 263) (pc' := 313) rfl (hb hby at_263) (by decide) (by decide) ?_
            show Steps p.tables e below (T25.setTop (mkF m 313 #[.val (.int p1), .val (.int p2), .val (.int p3), .val (.int vr), .val (.int (1 : Int32)), .val (.int (0 : Int32)), .val (.int (1 : Int32)), .val (.int vc), .val (.int n1), .val (.int n2), .val (.int x0), .val (.int x1), .val (.int y0), .val (.int y1), .val (.ref sb22), .val .null, .val (.ref b23), .val (.int (if vr = (0 : Int32) then (0 : Int32) else (0 : Int32))), .val (.int rf), .val (.int (0 : Int32))] [])) _
            first | exact kt | (simp only [if_pos hq257]; exact kt)
          · refine XS.ifYes X25.here hx rfl (pc0 := 257) (pc' := 266) rfl (hb hby at_257) rfl ((if0 _ _).trans (feq hq257).2) (by decide) (by decide) ?_
            show Steps p.tables e below (T25.setTop (mkF m 266 #[.val (.int p1), .val (.int p2), .val (.int p3), .val (.int vr), .val (.int (1 : Int32)), .val (.int (0 : Int32)), .val (.int (1 : Int32)), .val (.int vc), .val (.int n1), .val (.int n2), .val (.int x0), .val (.int x1), .val (.int y0), .val (.int y1), .val (.ref sb22), .val .null, .val (.ref b23), .val (.int (if vr = (0 : Int32) then (0 : Int32) else (0 : Int32))), .val (.int rf), .unset] [])) _
            refine XS.iload X25.here hx rfl (hb hby at_266) rfl ?_
            show Steps p.tables e below (T25.setTop (mkF m 268 #[.val (.int p1), .val (.int p2), .val (.int p3), .val (.int vr), .val (.int (1 : Int32)), .val (.int (0 : Int32)), .val (.int (1 : Int32)), .val (.int vc), .val (.int n1), .val (.int n2), .val (.int x0), .val (.int x1), .val (.int y0), .val (.int y1), .val (.ref sb22), .val .null, .val (.ref b23), .val (.int (if vr = (0 : Int32) then (0 : Int32) else (0 : Int32))), .val (.int rf), .unset] [(.int (0 : Int32))])) _
            refine XS.ifYes X25.here hx rfl (pc0 := 268) (pc' := 291) rfl (hb hby at_268) rfl ((if0 _ _).trans (teq (by decide)).1) (by decide) (by decide) ?_
            show Steps p.tables e below (T25.setTop (mkF m 291 #[.val (.int p1), .val (.int p2), .val (.int p3), .val (.int vr), .val (.int (1 : Int32)), .val (.int (0 : Int32)), .val (.int (1 : Int32)), .val (.int vc), .val (.int n1), .val (.int n2), .val (.int x0), .val (.int x1), .val (.int y0), .val (.int y1), .val (.ref sb22), .val .null, .val (.ref b23), .val (.int (if vr = (0 : Int32) then (0 : Int32) else (0 : Int32))), .val (.int rf), .unset] [])) _
            refine XS.iload X25.here hx rfl (hb hby at_291) rfl ?_
            show Steps p.tables e below (T25.setTop (mkF m 293 #[.val (.int p1), .val (.int p2), .val (.int p3), .val (.int vr), .val (.int (1 : Int32)), .val (.int (0 : Int32)), .val (.int (1 : Int32)), .val (.int vc), .val (.int n1), .val (.int n2), .val (.int x0), .val (.int x1), .val (.int y0), .val (.int y1), .val (.ref sb22), .val .null, .val (.ref b23), .val (.int (if vr = (0 : Int32) then (0 : Int32) else (0 : Int32))), .val (.int rf), .unset] [(.int (1 : Int32))])) _
            refine XS.ifNo X25.here hx rfl (hb hby at_293) rfl ((if0 _ _).trans (feq (by decide)).1) ?_
            show Steps p.tables e below (T25.setTop (mkF m 296 #[.val (.int p1), .val (.int p2), .val (.int p3), .val (.int vr), .val (.int (1 : Int32)), .val (.int (0 : Int32)), .val (.int (1 : Int32)), .val (.int vc), .val (.int n1), .val (.int n2), .val (.int x0), .val (.int x1), .val (.int y0), .val (.int y1), .val (.ref sb22), .val .null, .val (.ref b23), .val (.int (if vr = (0 : Int32) then (0 : Int32) else (0 : Int32))), .val (.int rf), .unset] [])) _
            refine XS.iload X25.here hx rfl (hb hby at_296) rfl ?_
            show Steps p.tables e below (T25.setTop (mkF m 298 #[.val (.int p1), .val (.int p2), .val (.int p3), .val (.int vr), .val (.int (1 : Int32)), .val (.int (0 : Int32)), .val (.int (1 : Int32)), .val (.int vc), .val (.int n1), .val (.int n2), .val (.int x0), .val (.int x1), .val (.int y0), .val (.int y1), .val (.ref sb22), .val .null, .val (.ref b23), .val (.int (if vr = (0 : Int32) then (0 : Int32) else (0 : Int32))), .val (.int rf), .unset] [(.int (1 : Int32))])) _
            refine XS.ifYes X25.here hx rfl (pc0 := 298) (pc' := 310) rfl (hb hby at_298) rfl ((if0 _ _).trans (feq (by decide)).2) (by decide) (by decide) ?_
            show Steps p.tables e below (T25.setTop (mkF m 310 #[.val (.int p1), .val (.int p2), .val (.int p3), .val (.int vr), .val (.int (1 : Int32)), .val (.int (0 : Int32)), .val (.int (1 : Int32)), .val (.int vc), .val (.int n1), .val (.int n2), .val (.int x0), .val (.int x1), .val (.int y0), .val (.int y1), .val (.ref sb22), .val .null, .val (.ref b23), .val (.int (if vr = (0 : Int32) then (0 : Int32) else (0 : Int32))), .val (.int rf), .unset] [])) _
            refine XS.iconst X25.here hx rfl (hb hby at_310) ?_
            show Steps p.tables e below (T25.setTop (mkF m 311 #[.val (.int p1), .val (.int p2), .val (.int p3), .val (.int vr), .val (.int (1 : Int32)), .val (.int (0 : Int32)), .val (.int (1 : Int32)), .val (.int vc), .val (.int n1), .val (.int n2), .val (.int x0), .val (.int x1), .val (.int y0), .val (.int y1), .val (.ref sb22), .val .null, .val (.ref b23), .val (.int (if vr = (0 : Int32) then (0 : Int32) else (0 : Int32))), .val (.int rf), .unset] [(.int (0 : Int32))])) _
            refine XS.istore X25.here hx rfl (hb hby at_311) rfl (l' := #[.val (.int p1), .val (.int p2), .val (.int p3), .val (.int vr), .val (.int (1 : Int32)), .val (.int (0 : Int32)), .val (.int (1 : Int32)), .val (.int vc), .val (.int n1), .val (.int n2), .val (.int x0), .val (.int x1), .val (.int y0), .val (.int y1), .val (.ref sb22), .val .null, .val (.ref b23), .val (.int (if vr = (0 : Int32) then (0 : Int32) else (0 : Int32))), .val (.int rf), .val (.int (0 : Int32))]) rfl ?_
            show Steps p.tables e below (T25.setTop (mkF m 313 #[.val (.int p1), .val (.int p2), .val (.int p3), .val (.int vr), .val (.int (1 : Int32)), .val (.int (0 : Int32)), .val (.int (1 : Int32)), .val (.int vc), .val (.int n1), .val (.int n2), .val (.int x0), .val (.int x1), .val (.int y0), .val (.int y1), .val (.ref sb22), .val .null, .val (.ref b23), .val (.int (if vr = (0 : Int32) then (0 : Int32) else (0 : Int32))), .val (.int rf), .val (.int (0 : Int32))] [])) _
            first | exact kt | (simp only [if_neg hq257]; exact kt)
        show Goes p e below _ T25 (mkF m 313 #[.val (.int p1), .val (.int p2), .val (.int p3), .val (.int vr), .val (.int (1 : Int32)), .val (.int (0 : Int32)), .val (.int (1 : Int32)), .val (.int vc), .val (.int n1), .val (.int n2), .val (.int x0), .val (.int x1), .val (.int y0), .val (.int y1), .val (.ref sb22), .val .null, .val (.ref b23), .val (.int (if vr = (0 : Int32) then (0 : Int32) else (0 : Int32))), .val (.int rf), .val (.int (0 : Int32))] [])
        refine Goes.of (fun _ => XS.iload X25.here hx rfl (hb hby at_313) rfl) ?_
        show Goes p e below _ T25 (mkF m 315 #[.val (.int p1), .val (.int p2), .val (.int p3), .val (.int vr), .val (.int (1 : Int32)), .val (.int (0 : Int32)), .val (.int (1 : Int32)), .val (.int vc), .val (.int n1), .val (.int n2), .val (.int x0), .val (.int x1), .val (.int y0), .val (.int y1), .val (.ref sb22), .val .null, .val (.ref b23), .val (.int (if vr = (0 : Int32) then (0 : Int32) else (0 : Int32))), .val (.int rf), .val (.int (0 : Int32))] [(.int (if vr = (0 : Int32) then (0 : Int32) else (0 : Int32)))])
        refine Goes.of (fun _ => XS.iload X25.here hx rfl (hb hby at_315) rfl) ?_
        show Goes p e below _ T25 (mkF m 317 #[.val (.int p1), .val (.int p2), .val (.int p3), .val (.int vr), .val (.int (1 : Int32)), .val (.int (0 : Int32)), .val (.int (1 : Int32)), .val (.int vc), .val (.int n1), .val (.int n2), .val (.int x0), .val (.int x1), .val (.int y0), .val (.int y1), .val (.ref sb22), .val .null, .val (.ref b23), .val (.int (if vr = (0 : Int32) then (0 : Int32) else (0 : Int32))), .val (.int rf), .val (.int (0 : Int32))] [(.int (0 : Int32)), (.int (if vr = (0 : Int32) then (0 : Int32) else (0 : Int32)))])
        refine Goes.of (fun _ => XS.icmpNo X25.here hx rfl (hb hby at_317) rfl (teq (by first | rfl | (split <;> rfl) | (rw [eq_fin n1 n2 x0 x1 y0 y1 hn1 hn2, erf]; done) | (simp only [eq_fin n1 n2 x0 x1 y0 y1 hn1 hn2, erf]; done))).2) ?_
        show Goes p e below _ T25 (mkF m 320 #[.val (.int p1), .val (.int p2), .val (.int p3), .val (.int vr), .val (.int (1 : Int32)), .val (.int (0 : Int32)), .val (.int (1 : Int32)), .val (.int vc), .val (.int n1), .val (.int n2), .val (.int x0), .val (.int x1), .val (.int y0), .val (.int y1), .val (.ref sb22), .val .null, .val (.ref b23), .val (.int (if vr = (0 : Int32) then (0 : Int32) else (0 : Int32))), .val (.int rf), .val (.int (0 : Int32))] [])
        refine Goes.of (fun _ => XS.iconst X25.here hx rfl (hb hby at_320)) ?_
        show Goes p e below _ T25 (mkF m 321 #[.val (.int p1), .val (.int p2), .val (.int p3), .val (.int vr), .val (.int (1 : Int32)), .val (.int (0 : Int32)), .val (.int (1 : Int32)), .val (.int vc), .val (.int n1), .val (.int n2), .val (.int x0), .val (.int x1), .val (.int y0), .val (.int y1), .val (.ref sb22), .val .null, .val (.ref b23), .val (.int (if vr = (0 : Int32) then (0 : Int32) else (0 : Int32))), .val (.int rf), .val (.int (0 : Int32))] [(.int (1 : Int32))])
        refine Goes.of (fun _ => XS.goto X25.here hx rfl (pc0 := 321) (pc' := 325) rfl (hb hby at_321) (by decide) (by decide)) ?_
        show Goes p e below _ T25 (mkF m 325 #[.val (.int p1), .val (.int p2), .val (.int p3), .val (.int vr), .val (.int (1 : Int32)), .val (.int (0 : Int32)), .val (.int (1 : Int32)), .val (.int vc), .val (.int n1), .val (.int n2), .val (.int x0), .val (.int x1), .val (.int y0), .val (.int y1), .val (.ref sb22), .val .null, .val (.ref b23), .val (.int (if vr = (0 : Int32) then (0 : Int32) else (0 : Int32))), .val (.int rf), .val (.int (0 : Int32))] [(.int (1 : Int32))])
        exact retZW (t := .boolean) X25 hS hk hZ hEL HC hx hret hlk (by simp) (hb hby at_325) eT25 (by decide) (by decide) ⟨rfl, N25⟩
    · show Goes p e below _ T (mkF m 153 #[.val (.int p1), .val (.int p2), .val (.int p3), .val (.int vr), .val (.int (1 : Int32)), .val (.int (1 : Int32)), .val (.int vi), .val (.int vc), .val (.int n1), .val (.int n2), .val (.int x0), .val (.int x1), .val (.int y0), .val (.int y1), .unset, .unset, .unset, .unset, .unset, .unset] [])
      rcases hvi with rfl | rfl
      · show Goes p e below _ T (mkF m 153 #[.val (.int p1), .val (.int p2), .val (.int p3), .val (.int vr), .val (.int (1 : Int32)), .val (.int (1 : Int32)), .val (.int (0 : Int32)), .val (.int vc), .val (.int n1), .val (.int n2), .val (.int x0), .val (.int x1), .val (.int y0), .val (.int y1), .unset, .unset, .unset, .unset, .unset, .unset] [])
        refine Goes.of (fun _ => XS.iload X.here hx rfl (hb hby at_153) rfl) ?_
        show Goes p e below _ T (mkF m 155 #[.val (.int p1), .val (.int p2), .val (.int p3), .val (.int vr), .val (.int (1 : Int32)), .val (.int (1 : Int32)), .val (.int (0 : Int32)), .val (.int vc), .val (.int n1), .val (.int n2), .val (.int x0), .val (.int x1), .val (.int y0), .val (.int y1), .unset, .unset, .unset, .unset, .unset, .unset] [(.int (1 : Int32))])
        refine Goes.of (fun _ => XS.ifNo X.here hx rfl (hb hby at_155) rfl ((if0 _ _).trans (feq (by decide)).1)) ?_
        show Goes p e below _ T (mkF m 158 #[.val (.int p1), .val (.int p2), .val (.int p3), .val (.int vr), .val (.int (1 : Int32)), .val (.int (1 : Int32)), .val (.int (0 : Int32)), .val (.int vc), .val (.int n1), .val (.int n2), .val (.int x0), .val (.int x1), .val (.int y0), .val (.int y1), .unset, .unset, .unset, .unset, .unset, .unset] [])
        refine Goes.of (fun _ => XS.aconstNull X.here hx rfl (hb hby at_158)) ?_
        show Goes p e below _ T (mkF m 159 #[.val (.int p1), .val (.int p2), .val (.int p3), .val (.int vr), .val (.int (1 : Int32)), .val (.int (1 : Int32)), .val (.int (0 : Int32)), .val (.int vc), .val (.int n1), .val (.int n2), .val (.int x0), .val (.int x1), .val (.int y0), .val (.int y1), .unset, .unset, .unset, .unset, .unset, .unset] [.null])
        refine Goes.of (fun _ => XS.goto X.here hx rfl (pc0 := 159) (pc' := 171) rfl (hb hby at_159) (by decide) (by decide)) ?_
        show Goes p e below _ T (mkF m 171 #[.val (.int p1), .val (.int p2), .val (.int p3), .val (.int vr), .val (.int (1 : Int32)), .val (.int (1 : Int32)), .val (.int (0 : Int32)), .val (.int vc), .val (.int n1), .val (.int n2), .val (.int x0), .val (.int x1), .val (.int y0), .val (.int y1), .unset, .unset, .unset, .unset, .unset, .unset] [.null])
        refine Goes.of (fun _ => XS.astore X.here hx rfl (hb hby at_171) rfl rfl (l' := #[.val (.int p1), .val (.int p2), .val (.int p3), .val (.int vr), .val (.int (1 : Int32)), .val (.int (1 : Int32)), .val (.int (0 : Int32)), .val (.int vc), .val (.int n1), .val (.int n2), .val (.int x0), .val (.int x1), .val (.int y0), .val (.int y1), .val .null, .unset, .unset, .unset, .unset, .unset]) rfl) ?_
        show Goes p e below _ T (mkF m 173 #[.val (.int p1), .val (.int p2), .val (.int p3), .val (.int vr), .val (.int (1 : Int32)), .val (.int (1 : Int32)), .val (.int (0 : Int32)), .val (.int vc), .val (.int n1), .val (.int n2), .val (.int x0), .val (.int x1), .val (.int y0), .val (.int y1), .val .null, .unset, .unset, .unset, .unset, .unset] [])
        refine Goes.of (fun _ => XS.iload X.here hx rfl (hb hby at_173) rfl) ?_
        show Goes p e below _ T (mkF m 175 #[.val (.int p1), .val (.int p2), .val (.int p3), .val (.int vr), .val (.int (1 : Int32)), .val (.int (1 : Int32)), .val (.int (0 : Int32)), .val (.int vc), .val (.int n1), .val (.int n2), .val (.int x0), .val (.int x1), .val (.int y0), .val (.int y1), .val .null, .unset, .unset, .unset, .unset, .unset] [(.int (0 : Int32))])
        refine Goes.of (fun _ => XS.ifYes X.here hx rfl (pc0 := 175) (pc' := 182) rfl (hb hby at_175) rfl ((if0 _ _).trans (teq (by decide)).1) (by decide) (by decide)) ?_
        show Goes p e below _ T (mkF m 182 #[.val (.int p1), .val (.int p2), .val (.int p3), .val (.int vr), .val (.int (1 : Int32)), .val (.int (1 : Int32)), .val (.int (0 : Int32)), .val (.int vc), .val (.int n1), .val (.int n2), .val (.int x0), .val (.int x1), .val (.int y0), .val (.int y1), .val .null, .unset, .unset, .unset, .unset, .unset] [])
        refine Goes.of (fun _ => XS.iload X.here hx rfl (hb hby at_182) rfl) ?_
        show Goes p e below _ T (mkF m 184 #[.val (.int p1), .val (.int p2), .val (.int p3), .val (.int vr), .val (.int (1 : Int32)), .val (.int (1 : Int32)), .val (.int (0 : Int32)), .val (.int vc), .val (.int n1), .val (.int n2), .val (.int x0), .val (.int x1), .val (.int y0), .val (.int y1), .val .null, .unset, .unset, .unset, .unset, .unset] [(.int n2)])
        refine Goes.of (fun _ => XS.iload X.here hx rfl (hb hby at_184) rfl) ?_
        show Goes p e below _ T (mkF m 186 #[.val (.int p1), .val (.int p2), .val (.int p3), .val (.int vr), .val (.int (1 : Int32)), .val (.int (1 : Int32)), .val (.int (0 : Int32)), .val (.int vc), .val (.int n1), .val (.int n2), .val (.int x0), .val (.int x1), .val (.int y0), .val (.int y1), .val .null, .unset, .unset, .unset, .unset, .unset] [(.int y0), (.int n2)])
        refine Goes.of (fun _ => XS.iload X.here hx rfl (hb hby at_186) rfl) ?_
        show Goes p e below _ T (mkF m 188 #[.val (.int p1), .val (.int p2), .val (.int p3), .val (.int vr), .val (.int (1 : Int32)), .val (.int (1 : Int32)), .val (.int (0 : Int32)), .val (.int vc), .val (.int n1), .val (.int n2), .val (.int x0), .val (.int x1), .val (.int y0), .val (.int y1), .val .null, .unset, .unset, .unset, .unset, .unset] [(.int y1), (.int y0), (.int n2)])
        refine goStaticW 0 X hS hk hEL HC hx hZ hown (hw _ (List.mem_of_getElem? (i := 0) rfl)) (hw _ (List.mem_of_getElem? (i := 1) rfl)) (hw _ (List.mem_of_getElem? (i := 2) rfl)) (hw _ (List.mem_of_getElem? (i := 3) rfl)) (by decide) (rm_str l Z a0 hw n2 y0 y1 cz h0 n0 O0 Sc hcz hy0 hy1) eT0 (g := (mkF m 188 #[.val (.int p1), .val (.int p2), .val (.int p3), .val (.int vr), .val (.int (1 : Int32)), .val (.int (1 : Int32)), .val (.int (0 : Int32)), .val (.int vc), .val (.int n1), .val (.int n2), .val (.int x0), .val (.int x1), .val (.int y0), .val (.int y1), .val .null, .unset, .unset, .unset, .unset, .unset] [(.int y1), (.int y0), (.int n2)])) rfl (by rw [hml]; rfl) [(.int n2), (.int y0), (.int y1)] [] (lenOf pd__ICC_Ljava_lang_String_ rfl) rfl rfl (by show 2 * 0 + _ ≤ _; exact Nat.le_of_eq rfl) (hb hby at_188) (by decide) (by decide) (by decide) (by decide) ?_
        intro v26 T26 L26 kk26 X26 hS hk hZ hown HC q26
        obtain ⟨sb26, rfl, Nq26, Kq26, g_sb26, S26⟩ := q26
        have N26 := Fr.app N0 Nq26
        have O0 := O0.keep Kq26 all0
        show Goes p e below _ T26 (mkF m 191 #[.val (.int p1), .val (.int p2), .val (.int p3), .val (.int vr), .val (.int (1 : Int32)), .val (.int (1 : Int32)), .val (.int (0 : Int32)), .val (.int vc), .val (.int n1), .val (.int n2), .val (.int x0), .val (.int x1), .val (.int y0), .val (.int y1), .val .null, .unset, .unset, .unset, .unset, .unset] [(.ref sb26)])
        refine Goes.of (fun _ => XS.astore X26.here hx rfl (hb hby at_191) rfl rfl (l' := #[.val (.int p1), .val (.int p2), .val (.int p3), .val (.int vr), .val (.int (1 : Int32)), .val (.int (1 : Int32)), .val (.int (0 : Int32)), .val (.int vc), .val (.int n1), .val (.int n2), .val (.int x0), .val (.int x1), .val (.int y0), .val (.int y1), .val .null, .val (.ref sb26), .unset, .unset, .unset, .unset]) rfl) ?_
        show Goes p e below _ T26 (mkF m 193 #[.val (.int p1), .val (.int p2), .val (.int p3), .val (.int vr), .val (.int (1 : Int32)), .val (.int (1 : Int32)), .val (.int (0 : Int32)), .val (.int vc), .val (.int n1), .val (.int n2), .val (.int x0), .val (.int x1), .val (.int y0), .val (.int y1), .val .null, .val (.ref sb26), .unset, .unset, .unset, .unset] [])
        refine goNew X26 hx hZ hown (hw _ (List.mem_of_getElem? (i := 26) rfl)) (hw _ (List.mem_of_getElem? (i := 27) rfl)) (hw _ (List.mem_of_getElem? (i := 28) rfl)) (rfl : T26.heap = _) (g := (mkF m 193 #[.val (.int p1), .val (.int p2), .val (.int p3), .val (.int vr), .val (.int (1 : Int32)), .val (.int (1 : Int32)), .val (.int (0 : Int32)), .val (.int vc), .val (.int n1), .val (.int n2), .val (.int x0), .val (.int x1), .val (.int y0), .val (.int y1), .val .null, .val (.ref sb26), .unset, .unset, .unset, .unset] [])) rfl (hb hby at_193) (by decide) (by decide) ?_
        intro T27 h27 b27 X27 eT27 E27 hb27 A27 D27
        have g_b27 : n0 ≤ b27 := Nat.le_trans (oldLe O0) hb27
        have ne_sb26_b27 : sb26 ≠ b27 := Nat.ne_of_lt (Nat.lt_of_lt_of_le S26.lt hb27)
        have S26 := S26.ext E27
        have hk := Nat.le_trans hk E27.1
        have HC := HC.trans (CHr.ext E27 HC.1)
        have O0 := O0.ext E27
        have F27_id : Fld Z h27 b27 "com/example/latchwork/latchwork/store/RedisRun$Origin" "id" "Ljava/lang/String;" .null := D27 (Or.inr (hw _ (List.mem_of_getElem? (i := 39) rfl))) (ty := (.object "java/lang/String")) (by decide)
        have F27_wroteEveryChange : Fld Z h27 b27 "com/example/latchwork/latchwork/store/RedisRun$Origin" "wroteEveryChange" "Z" (.int (0 : Int32)) := D27 (Or.inr (hw _ (List.mem_of_getElem? (i := 41) rfl))) (ty := .boolean) (by decide)
        show Goes p e below _ T27 (mkF m 196 #[.val (.int p1), .val (.int p2), .val (.int p3), .val (.int vr), .val (.int (1 : Int32)), .val (.int (1 : Int32)), .val (.int (0 : Int32)), .val (.int vc), .val (.int n1), .val (.int n2), .val (.int x0), .val (.int x1), .val (.int y0), .val (.int y1), .val .null, .val (.ref sb26), .unset, .unset, .unset, .unset] [(.ref b27)])
        refine Goes.of (fun _ => XS.dup X27.here hx rfl (hb hby at_196) rfl rfl) ?_
        show Goes p e below _ T27 (mkF m 197 #[.val (.int p1), .val (.int p2), .val (.int p3), .val (.int vr), .val (.int (1 : Int32)), .val (.int (1 : Int32)), .val (.int (0 : Int32)), .val (.int vc), .val (.int n1), .val (.int n2), .val (.int x0), .val (.int x1), .val (.int y0), .val (.int y1), .val .null, .val (.ref sb26), .unset, .unset, .unset, .unset] [(.ref b27), (.ref b27)])
        refine Goes.of (fun _ => XS.aload X27.here hx rfl (hb hby at_197) rfl rfl) ?_
        show Goes p e below _ T27 (mkF m 199 #[.val (.int p1), .val (.int p2), .val (.int p3), .val (.int vr), .val (.int (1 : Int32)), .val (.int (1 : Int32)), .val (.int (0 : Int32)), .val (.int vc), .val (.int n1), .val (.int n2), .val (.int x0), .val (.int x1), .val (.int y0), .val (.int y1), .val .null, .val (.ref sb26), .unset, .unset, .unset, .unset] [(.ref sb26), (.ref b27), (.ref b27)])
        refine Goes.of (fun _ => XS.iload X27.here hx rfl (hb hby at_199) rfl) ?_
        show Goes p e below _ T27 (mkF m 201 #[.val (.int p1), .val (.int p2), .val (.int p3), .val (.int vr), .val (.int (1 : Int32)), .val (.int (1 : Int32)), .val (.int (0 : Int32)), .val (.int vc), .val (.int n1), .val (.int n2), .val (.int x0), .val (.int x1), .val (.int y0), .val (.int y1), .val .null, .val (.ref sb26), .unset, .unset, .unset, .unset] [(.int (1 : Int32)), (.ref sb26), (.ref b27), (.ref b27)])
        have Sf_b27 : Safe Z EL _ h27 b27 := Safe.exa hZ.alike A27 (by decide) (by decide)
        refine goSpecial 1 X27 hx hZ rfl hown (hw _ (List.mem_of_getElem? (i := 29) rfl)) (hw _ (List.mem_of_getElem? (i := 30) rfl)) (hw _ (List.mem_of_getElem? (i := 28) rfl)) (hw _ (List.mem_of_getElem? (i := 31) rfl)) (by decide) (rm_init01 l Z a0 hw b27 sb26 h27 n0 O0 g_b27 A27 F27_id F27_wroteEveryChange) eT27 (g := (mkF m 201 #[.val (.int p1), .val (.int p2), .val (.int p3), .val (.int vr), .val (.int (1 : Int32)), .val (.int (1 : Int32)), .val (.int (0 : Int32)), .val (.int vc), .val (.int n1), .val (.int n2), .val (.int x0), .val (.int x1), .val (.int y0), .val (.int y1), .val .null, .val (.ref sb26), .unset, .unset, .unset, .unset] [(.int (1 : Int32)), (.ref sb26), (.ref b27), (.ref b27)])) rfl (by rw [hml]; rfl) b27 [(.ref sb26), (.int (1 : Int32))] [(.ref b27)] (lenOf pd__Ljava_lang_String_Z_V rfl) rfl rfl (by show 2 * 0 + _ ≤ _; exact Nat.le_of_eq rfl) (hb hby at_201) (by decide) (by decide) (by decide) (by decide) ?_
        intro v28 T28 L28 X28 q28
        obtain ⟨rfl, Nq28, Kq28, H0_28, H1_28⟩ := q28
        have N28 := Fr.app N26 Nq28
        have S26 := S26.keep1 Kq28 ne_sb26_b27 A27 (hw _ (List.mem_of_getElem? (i := 27) rfl))
        have A27 := A27.keep Kq28
        have HC := HC.trans (CHr.keep Kq28 (sfS Sf_b27 sf0) HC.1)
        have hk := Nat.le_trans hk Kq28.1
        have O0 := O0.keep Kq28 (allS g_b27 all0)
        show Goes p e below _ T28 (mkF m 204 #[.val (.int p1), .val (.int p2), .val (.int p3), .val (.int vr), .val (.int (1 : Int32)), .val (.int (1 : Int32)), .val (.int (0 : Int32)), .val (.int vc), .val (.int n1), .val (.int n2), .val (.int x0), .val (.int x1), .val (.int y0), .val (.int y1), .val .null, .val (.ref sb26), .unset, .unset, .unset, .unset] [(.ref b27)])
        refine Goes.of (fun _ => XS.astore X28.here hx rfl (hb hby at_204) rfl rfl (l' := #[.val (.int p1), .val (.int p2), .val (.int p3), .val (.int vr), .val (.int (1 : Int32)), .val (.int (1 : Int32)), .val (.int (0 : Int32)), .val (.int vc), .val (.int n1), .val (.int n2), .val (.int x0), .val (.int x1), .val (.int y0), .val (.int y1), .val .null, .val (.ref sb26), .val (.ref b27), .unset, .unset, .unset]) rfl) ?_
        show Goes p e below _ T28 (mkF m 206 #[.val (.int p1), .val (.int p2), .val (.int p3), .val (.int vr), .val (.int (1 : Int32)), .val (.int (1 : Int32)), .val (.int (0 : Int32)), .val (.int vc), .val (.int n1), .val (.int n2), .val (.int x0), .val (.int x1), .val (.int y0), .val (.int y1), .val .null, .val (.ref sb26), .val (.ref b27), .unset, .unset, .unset] [])
        refine Goes.of (fun _ => XS.aload X28.here hx rfl (hb hby at_206) rfl rfl) ?_
        show Goes p e below _ T28 (mkF m 208 #[.val (.int p1), .val (.int p2), .val (.int p3), .val (.int vr), .val (.int (1 : Int32)), .val (.int (1 : Int32)), .val (.int (0 : Int32)), .val (.int vc), .val (.int n1), .val (.int n2), .val (.int x0), .val (.int x1), .val (.int y0), .val (.int y1), .val .null, .val (.ref sb26), .val (.ref b27), .unset, .unset, .unset] [.null])
        refine Goes.of (fun _ => XS.aload X28.here hx rfl (hb hby at_208) rfl rfl) ?_
        show Goes p e below _ T28 (mkF m 210 #[.val (.int p1), .val (.int p2), .val (.int p3), .val (.int vr), .val (.int (1 : Int32)), .val (.int (1 : Int32)), .val (.int (0 : Int32)), .val (.int vc), .val (.int n1), .val (.int n2), .val (.int x0), .val (.int x1), .val (.int y0), .val (.int y1), .val .null, .val (.ref sb26), .val (.ref b27), .unset, .unset, .unset] [(.ref b27), .null])
        refine Goes.of (fun _ => XS.iloadN X28.here hx rfl (hb hby at_210) rfl) ?_
        show Goes p e below _ T28 (mkF m 211 #[.val (.int p1), .val (.int p2), .val (.int p3), .val (.int vr), .val (.int (1 : Int32)), .val (.int (1 : Int32)), .val (.int (0 : Int32)), .val (.int vc), .val (.int n1), .val (.int n2), .val (.int x0), .val (.int x1), .val (.int y0), .val (.int y1), .val .null, .val (.ref sb26), .val (.ref b27), .unset, .unset, .unset] [(.int vr), (.ref b27), .null])
        refine goStatic 0 X28 hx hZ hown (hw _ (List.mem_of_getElem? (i := 42) rfl)) (hw _ (List.mem_of_getElem? (i := 43) rfl)) (hw _ (List.mem_of_getElem? (i := 44) rfl)) (hw _ (List.mem_of_getElem? (i := 45) rfl)) (by decide) (rm_kept101 l Z a0 hw b27  sb26 vr [] (strL n2 y0 y1) cz T28.heap n0 O0 Sc hcz A27 H0_28 H1_28  S26) (rfl : T28.heap = _) (g := (mkF m 211 #[.val (.int p1), .val (.int p2), .val (.int p3), .val (.int vr), .val (.int (1 : Int32)), .val (.int (1 : Int32)), .val (.int (0 : Int32)), .val (.int vc), .val (.int n1), .val (.int n2), .val (.int x0), .val (.int x1), .val (.int y0), .val (.int y1), .val .null, .val (.ref sb26), .val (.ref b27), .unset, .unset, .unset] [(.int vr), (.ref b27), .null])) rfl (by rw [hml]; rfl) [.null, (.ref b27), (.int vr)] [] (lenOf pd__Ljava_lang_String_Lcom_example_latchwork_latchwork_store_RedisRun_Origin_Z_Z rfl) rfl rfl (by show 2 * 0 + _ ≤ _; exact Nat.le_of_eq rfl) (hb hby at_211) (by decide) (by decide) (by decide) (by decide) ?_
        intro v29 T29 L29 X29 q29
        obtain ⟨rfl, Nq29, eT29⟩ := q29
        have N29 := Fr.app N28 Nq29
        show Goes p e below _ T29 (mkF m 214 #[.val (.int p1), .val (.int p2), .val (.int p3), .val (.int vr), .val (.int (1 : Int32)), .val (.int (1 : Int32)), .val (.int (0 : Int32)), .val (.int vc), .val (.int n1), .val (.int n2), .val (.int x0), .val (.int x1), .val (.int y0), .val (.int y1), .val .null, .val (.ref sb26), .val (.ref b27), .unset, .unset, .unset] [(.int (if vr = (0 : Int32) then (0 : Int32) else (1 : Int32)))])
        refine Goes.of (fun _ => XS.istore X29.here hx rfl (hb hby at_214) rfl (l' := #[.val (.int p1), .val (.int p2), .val (.int p3), .val (.int vr), .val (.int (1 : Int32)), .val (.int (1 : Int32)), .val (.int (0 : Int32)), .val (.int vc), .val (.int n1), .val (.int n2), .val (.int x0), .val (.int x1), .val (.int y0), .val (.int y1), .val .null, .val (.ref sb26), .val (.ref b27), .val (.int (if vr = (0 : Int32) then (0 : Int32) else (1 : Int32))), .unset, .unset]) rfl) ?_
        show Goes p e below _ T29 (mkF m 216 #[.val (.int p1), .val (.int p2), .val (.int p3), .val (.int vr), .val (.int (1 : Int32)), .val (.int (1 : Int32)), .val (.int (0 : Int32)), .val (.int vc), .val (.int n1), .val (.int n2), .val (.int x0), .val (.int x1), .val (.int y0), .val (.int y1), .val .null, .val (.ref sb26), .val (.ref b27), .val (.int (if vr = (0 : Int32) then (0 : Int32) else (1 : Int32))), .unset, .unset] [])
        refine Goes.of (fun _ => XS.iload X29.here hx rfl (hb hby at_216) rfl) ?_
        show Goes p e below _ T29 (mkF m 218 #[.val (.int p1), .val (.int p2), .val (.int p3), .val (.int vr), .val (.int (1 : Int32)), .val (.int (1 : Int32)), .val (.int (0 : Int32)), .val (.int vc), .val (.int n1), .val (.int n2), .val (.int x0), .val (.int x1), .val (.int y0), .val (.int y1), .val .null, .val (.ref sb26), .val (.ref b27), .val (.int (if vr = (0 : Int32) then (0 : Int32) else (1 : Int32))), .unset, .unset] [(.int n1)])
        refine Goes.of (fun _ => XS.iload X29.here hx rfl (hb hby at_218) rfl) ?_
        show Goes p e below _ T29 (mkF m 220 #[.val (.int p1), .val (.int p2), .val (.int p3), .val (.int vr), .val (.int (1 : Int32)), .val (.int (1 : Int32)), .val (.int (0 : Int32)), .val (.int vc), .val (.int n1), .val (.int n2), .val (.int x0), .val (.int x1), .val (.int y0), .val (.int y1), .val .null, .val (.ref sb26), .val (.ref b27), .val (.int (if vr = (0 : Int32) then (0 : Int32) else (1 : Int32))), .unset, .unset] [(.int n2), (.int n1)])
        refine Goes.of (T' := T29) (f' := (mkF m 254 #[.val (.int p1), .val (.int p2), .val (.int p3), .val (.int vr), .val (.int (1 : Int32)), .val (.int (1 : Int32)), .val (.int (0 : Int32)), .val (.int vc), .val (.int n1), .val (.int n2), .val (.int x0), .val (.int x1), .val (.int y0), .val (.int y1), .val .null, .val (.ref sb26), .val (.ref b27), .val (.int (if vr = (0 : Int32) then (0 : Int32) else (1 : Int32))), .unset, .unset] [(.int (if n1 = n2 then (if n1 < (1 : Int32) then (if n1 < (2 : Int32) then (1 : Int32) else (if x1 = y1 then (1 : Int32) else (0 : Int32))) else (if x0 = y0 then (if n1 < (2 : Int32) then (1 : Int32) else (if x1 = y1 then (1 : Int32) else (0 : Int32))) else (0 : Int32))) else (0 : Int32)))])) (fun t kt => ?_) ?_
        · show Steps p.tables e below (T29.setTop (mkF m 220 #[.val (.int p1), .val (.int p2), .val (.int p3), .val (.int vr), .val (.int (1 : Int32)), .val (.int (1 : Int32)), .val (.int (0 : Int32)), .val (.int vc), .val (.int n1), .val (.int n2), .val (.int x0), .val (.int x1), .val (.int y0), .val (.int y1), .val .null, .val (.ref sb26), .val (.ref b27), .val (.int (if vr = (0 : Int32) then (0 : Int32) else (1 : Int32))), .unset, .unset] [(.int n2), (.int n1)])) _
          by_cases hq220 : n1 = n2
          · simp only [if_pos hq220] at kt
            refine XS.icmpNo X29.here hx rfl (hb hby at_220) rfl (teq hq220).2 ?_
            show Steps p.tables e below (T29.setTop (mkF m 223 #[.val (.int p1), .val (.int p2), .val (.int p3), .val (.int vr), .val (.int (1 : Int32)), .val (.int (1 : Int32)), .val (.int (0 : Int32)), .val (.int vc), .val (.int n1), .val (.int n2), .val (.int x0), .val (.int x1), .val (.int y0), .val (.int y1), .val .null, .val (.ref sb26), .val (.ref b27), .val (.int (if vr = (0 : Int32) then (0 : Int32) else (1 : Int32))), .unset, .unset] [])) _
            refine XS.iload X29.here hx rfl (hb hby at_223) rfl ?_
            show Steps p.tables e below (T29.setTop (mkF m 225 #[.val (.int p1), .val (.int p2), .val (.int p3), .val (.int vr), .val (.int (1 : Int32)), .val (.int (1 : Int32)), .val (.int (0 : Int32)), .val (.int vc), .val (.int n1), .val (.int n2), .val (.int x0), .val (.int x1), .val (.int y0), .val (.int y1), .val .null, .val (.ref sb26), .val (.ref b27), .val (.int (if vr = (0 : Int32) then (0 : Int32) else (1 : Int32))), .unset, .unset] [(.int n1)])) _
            refine XS.iconst X29.here hx rfl (hb hby at_225) ?_
            show Steps p.tables e below (T29.setTop (mkF m 226 #[.val (.int p1), .val (.int p2), .val (.int p3), .val (.int vr), .val (.int (1 : Int32)), .val (.int (1 : Int32)), .val (.int (0 : Int32)), .val (.int vc), .val (.int n1), .val (.int n2), .val (.int x0), .val (.int x1), .val (.int y0), .val (.int y1), .val .null, .val (.ref sb26), .val (.ref b27), .val (.int (if vr = (0 : Int32) then (0 : Int32) else (1 : Int32))), .unset, .unset] [(.int (1 : Int32)), (.int n1)])) _
            by_cases hq226 : n1 < (1 : Int32)
            · simp only [if_pos hq226] at kt
              refine XS.icmpYes X29.here hx rfl (pc0 := 226) (pc' := 236) rfl (hb hby at_226) rfl (tlt hq226).1 (by decide) (by decide) ?_
              show Steps p.tables e below (T29.setTop (mkF m 236 #[.val (.int p1), .val (.int p2), .val (.int p3), .val (.int vr), .val (.int (1 : Int32)), .val (.int (1 : Int32)), .val (.int (0 : Int32)), .val (.int vc), .val (.int n1), .val (.int n2), .val (.int x0), .val (.int x1), .val (.int y0), .val (.int y1), .val .null, .val (.ref sb26), .val (.ref b27), .val (.int (if vr = (0 : Int32) then (0 : Int32) else (1 : Int32))), .unset, .unset] [])) _
              refine XS.iload X29.here hx rfl (hb hby at_236) rfl ?_
              show Steps p.tables e below (T29.setTop (mkF m 238 #[.val (.int p1), .val (.int p2), .val (.int p3), .val (.int vr), .val (.int (1 : Int32)), .val (.int (1 : Int32)), .val (.int (0 : Int32)), .val (.int vc), .val (.int n1), .val (.int n2), .val (.int x0), .val (.int x1), .val (.int y0), .val (.int y1), .val .null, .val (.ref sb26), .val (.ref b27), .val (.int (if vr = (0 : Int32) then (0 : Int32) else (1 : Int32))), .unset, .unset] [(.int n1)])) _
              refine XS.iconst X29.here hx rfl (hb hby at_238) ?_
              show Steps p.tables e below (T29.setTop (mkF m 239 #[.val (.int p1), .val (.int p2), .val (.int p3), .val (.int vr), .val (.int (1 : Int32)), .val (.int (1 : Int32)), .val (.int (0 : Int32)), .val (.int vc), .val (.int n1), .val (.int n2), .val (.int x0), .val (.int x1), .val (.int y0), .val (.int y1), .val .null, .val (.ref sb26), .val (.ref b27), .val (.int (if vr = (0 : Int32) then (0 : Int32) else (1 : Int32))), .unset, .unset] [(.int (2 : Int32)), (.int n1)])) _
              by_cases hq239 : n1 < (2 : Int32)
              · simp only [if_pos hq239] at kt
                refine XS.icmpYes X29.here hx rfl (pc0 := 239) (pc' := 249) rfl (hb hby at_239) rfl (tlt hq239).1 (by decide) (by decide) ?_
                show Steps p.tables e below (T29.setTop (mkF m 249 #[.val (.int p1), .val (.int p2), .val (.int p3), .val (.int vr), .val (.int (1 : Int32)), .val (.int (1 : Int32)), .val (.int (0 : Int32)), .val (.int vc), .val (.int n1), .val (.int n2), .val (.int x0), .val (.int x1), .val (.int y0), .val (.int y1), .val .null, .val (.ref sb26), .val (.ref b27), .val (.int (if vr = (0 : Int32) then (0 : Int32) else (1 : Int32))), .unset, .unset] [])) _
                refine XS.iconst X29.here hx rfl (hb hby at_249) ?_
                show Steps p.tables e below (T29.setTop (mkF m 250 #[.val (.int p1), .val (.int p2), .val (.int p3), .val (.int vr), .val (.int (1 : Int32)), .val (.int (1 : Int32)), .val (.int (0 : Int32)), .val (.int vc), .val (.int n1), .val (.int n2), .val (.int x0), .val (.int x1), .val (.int y0), .val (.int y1), .val .null, .val (.ref sb26), .val (.ref b27), .val (.int (if vr = (0 : Int32) then (0 : Int32) else (1 : Int32))), .unset, .unset] [(.int (1 : Int32))])) _
                refine XS.goto X29.here hx rfl (pc0 := 250) (pc' := 254) rfl (hb hby at_250) (by decide) (by decide) ?_
                show Steps p.tables e below (T29.setTop (mkF m 254 #[.val (.int p1), .val (.int p2), .val (.int p3), .val (.int vr), .val (.int (1 : Int32)), .val (.int (1 : Int32)), .val (.int (0 : Int32)), .val (.int vc), .val (.int n1), .val (.int n2), .val (.int x0), .val (.int x1), .val (.int y0), .val (.int y1), .val .null, .val (.ref sb26), .val (.ref b27), .val (.int (if vr = (0 : Int32) then (0 : Int32) else (1 : Int32))), .unset, .unset] [(.int (1 : Int32))])) _
                first | exact kt | (simp only [if_pos hq220, if_pos hq226, if_pos hq239]; exact kt)
              · simp only [if_neg hq239] at kt
                refine XS.icmpNo X29.here hx rfl (hb hby at_239) rfl (flt hq239).1 ?_
                show Steps p.tables e below (T29.setTop (mkF m 242 #[.val (.int p1), .val (.int p2), .val (.int p3), .val (.int vr), .val (.int (1 : Int32)), .val (.int (1 : Int32)), .val (.int (0 : Int32)), .val (.int vc), .val (.int n1), .val (.int n2), .val (.int x0), .val (.int x1), .val (.int y0), .val (.int y1), .val .null, .val (.ref sb26), .val (.ref b27), .val (.int (if vr = (0 : Int32) then (0 : Int32) else (1 : Int32))), .unset, .unset] [])) _
                refine XS.iload X29.here hx rfl (hb hby at_242) rfl ?_
                show Steps p.tables e below (T29.setTop (mkF m 244 #[.val (.int p1), .val (.int p2), .val (.int p3), .val (.int vr), .val (.int (1 : Int32)), .val (.int (1 : Int32)), .val (.int (0 : Int32)), .val (.int vc), .val (.int n1), .val (.int n2), .val (.int x0), .val (.int x1), .val (.int y0), .val (.int y1), .val .null, .val (.ref sb26), .val (.ref b27), .val (.int (if vr = (0 : Int32) then (0 : Int32) else (1 : Int32))), .unset, .unset] [(.int x1)])) _
                refine XS.iload X29.here hx rfl (hb hby at_244) rfl ?_
                show Steps p.tables e below (T29.setTop (mkF m 246 #[.val (.int p1), .val (.int p2), .val (.int p3), .val (.int vr), .val (.int (1 : Int32)), .val (.int (1 : Int32)), .val (.int (0 : Int32)), .val (.int vc), .val (.int n1), .val (.int n2), .val (.int x0), .val (.int x1), .val (.int y0), .val (.int y1), .val .null, .val (.ref sb26), .val (.ref b27), .val (.int (if vr = (0 : Int32) then (0 : Int32) else (1 : Int32))), .unset, .unset] [(.int y1), (.int x1)])) _
                by_cases hq246 : x1 = y1
                · simp only [if_pos hq246] at kt
                  refine XS.icmpNo X29.here hx rfl (hb hby at_246) rfl (teq hq246).2 ?_
                  show Steps p.tables e below (T29.setTop (mkF m 249 #[.val (.int p1), .val (.int p2), .val (.int p3), .val (.int vr), .val (.int (1 : Int32)), .val (.int (1 : Int32)), .val (.int (0 : Int32)), .val (.int vc), .val (.int n1), .val (.int n2), .val (.int x0), .val (.int x1), .val (.int y0), .val (.int y1), .val .null, .val (.ref sb26), .val (.ref b27), .val (.int (if vr = (0 : Int32) then (0 : Int32) else (1 : Int32))), .unset, .unset] [])) _
                  refine XS.iconst X29.here hx rfl (hb hby at_249) ?_
                  show Steps p.tables e below (T29.setTop (mkF m 250 #[.val (.int p1), .val (.int p2), .val (.int p3), .val (.int vr), .val (.int (1 : Int32)), .val (.int (1 : Int32)), .val (.int (0 : Int32)), .val (.int vc), .val (.int n1), .val (.int n2), .val (.int x0), .val (.int x1), .val (.int y0), .val (.int y1), .val .null, .val (.ref sb26), .val (.ref b27), .val (.int (if vr = (0 : Int32) then (0 : Int32) else (1 : Int32))), .unset, .unset] [(.int (1 : Int32))])) _
                  refine XS.goto X29.here hx rfl (pc0 := 250) (pc' := 254) rfl (hb hby at_250) (by decide) (by decide) ?_
                  show Steps p.tables e below (T29.setTop (mkF m 254 #[.val (.int p1), .val (.int p2), .val (.int p3), .val (.int vr), .val (.int (1 : Int32)), .val (.int (1 : Int32)), .val (.int (0 : Int32)), .val (.int vc), .val (.int n1), .val (.int n2), .val (.int x0), .val (.int x1), .val (.int y0), .val (.int y1), .val .null, .val (.ref sb26), .val (.ref b27), .val (.int (if vr = (0 : Int32) then (0 : Int32) else (1 : Int32))), .unset, .unset] [(.int (1 : Int32))])) _
                  first | exact kt | (simp only [if_pos hq220, if_pos hq226, if_neg hq239, if_pos hq246]; exact kt)
                · simp only [if_neg hq246] at kt
                  refine XS.icmpYes X29.here hx rfl (pc0 := 246) (pc' := 253) rfl (hb hby at_246) rfl (feq hq246).2 (by decide) (by decide) ?_
                  show Steps p.tables e below (T29.setTop (mkF m 253 #[.val (.int p1), .val (.int p2), .val (.int p3), .val (.int vr), .val (.int (1 : Int32)), .val (.int (1 : Int32)), .val (.int (0 : Int32)), .val (.int vc), .val (.int n1), .val (.int n2), .val (.int x0), .val (.int x1), .val (.int y0), .val (.int y1), .val .null, .val (.ref sb26), .val (.ref b27), .val (.int (if vr = (0 : Int32) then (0 : Int32) else (1 : Int32))), .unset, .unset] [])) _
                  refine XS.iconst X29.here hx rfl (hb hby at_253) ?_
                  show Steps p.tables e below (T29.setTop (mkF m 254 #[.val (.int p1), .val (.int p2), .val (.int p3), .val (.int vr), .val (.int (1 : Int32)), .val (.int (1 : Int32)), .val (.int (0 : Int32)), .val (.int vc), .val (.int n1), .val (.int n2), .val (.int x0), .val (.int x1), .val (.int y0), .val (.int y1), .val .null, .val (.ref sb26), .val (.ref b27), .val (.int (if vr = (0 : Int32) then (0 : Int32) else (1 : Int32))), .unset, .unset] [(.int (0 : Int32))])) _
                  first | exact kt | (simp only [if_pos hq220, if_pos hq226, if_neg hq239, if_neg hq246]; exact kt)
            · simp only [if_neg hq226] at kt
              refine XS.icmpNo X29.here hx rfl (hb hby at_226) rfl (flt hq226).1 ?_
              show Steps p.tables e below (T29.setTop (mkF m 229 #[.val (.int p1), .val (.int p2), .val (.int p3), .val (.int vr), .val (.int (1 : Int32)), .val (.int (1 : Int32)), .val (.int (0 : Int32)), .val (.int vc), .val (.int n1), .val (.int n2), .val (.int x0), .val (.int x1), .val (.int y0), .val (.int y1), .val .null, .val (.ref sb26), .val (.ref b27), .val (.int (if vr = (0 : Int32) then (0 : Int32) else (1 : Int32))), .unset, .unset] [])) _
              refine XS.iload X29.here hx rfl (hb hby at_229) rfl ?_
              show Steps p.tables e below (T29.setTop (mkF m 231 #[.val (.int p1), .val (.int p2), .val (.int p3), .val (.int vr), .val (.int (1 : Int32)), .val (.int (1 : Int32)), .val (.int (0 : Int32)), .val (.int vc), .val (.int n1), .val (.int n2), .val (.int x0), .val (.int x1), .val (.int y0), .val (.int y1), .val .null, .val (.ref sb26), .val (.ref b27), .val (.int (if vr = (0 : Int32) then (0 : Int32) else (1 : Int32))), .unset, .unset] [(.int x0)])) _
              refine XS.iload X29.here hx rfl (hb hby at_231) rfl ?_
              show Steps p.tables e below (T29.setTop (mkF m 233 #[.val (.int p1), .val (.int p2), .val (.int p3), .val (.int vr), .val (.int (1 : Int32)), .val (.int (1 : Int32)), .val (.int (0 : Int32)), .val (.int vc), .val (.int n1), .val (.int n2), .val (.int x0), .val (.int x1), .val (.int y0), .val (.int y1), .val .null, .val (.ref sb26), .val (.ref b27), .val (.int (if vr = (0 : Int32) then (0 : Int32) else (1 : Int32))), .unset, .unset] [(.int y0), (.int x0)])) _
              by_cases hq233 : x0 = y0
              · simp only [if_pos hq233] at kt
                refine XS.icmpNo X29.here hx rfl (hb hby at_233) rfl (teq hq233).2 ?_
                show Steps p.tables e below (T29.setTop (mkF m 236 #[.val (.int p1), .val (.int p2), .val (.int p3), .val (.int vr), .val (.int (1 : Int32)), .val (.int (1 : Int32)), .val (.int (0 : Int32)), .val (.int vc), .val (.int n1), .val (.int n2), .val (.int x0), .val (.int x1), .val (.int y0), .val (.int y1), .val .null, .val (.ref sb26), .val (.ref b27), .val (.int (if vr = (0 : Int32) then (0 : Int32) else (1 : Int32))), .unset, .unset] [])) _
                refine XS.iload X29.here hx rfl (hb hby at_236) rfl ?_
                show Steps p.tables e below (T29.setTop (mkF m 238 #[.val (.int p1), .val (.int p2), .val (.int p3), .val (.int vr), .val (.int (1 : Int32)), .val (.int (1 : Int32)), .val (.int (0 : Int32)), .val (.int vc), .val (.int n1), .val (.int n2), .val (.int x0), .val (.int x1), .val (.int y0), .val (.int y1), .val .null, .val (.ref sb26), .val (.ref b27), .val (.int (if vr = (0 : Int32) then (0 : Int32) else (1 : Int32))), .unset, .unset] [(.int n1)])) _
                refine XS.iconst X29.here hx rfl (hb hby at_238) ?_
                show Steps p.tables e below (T29.setTop (mkF m 239 #[.val (.int p1), .val (.int p2), .val (.int p3), .val (.int vr), .val (.int (1 : Int32)), .val (.int (1 : Int32)), .val (.int (0 : Int32)), .val (.int vc), .val (.int n1), .val (.int n2), .val (.int x0), .val (.int x1), .val (.int y0), .val (.int y1), .val .null, .val (.ref sb26), .val (.ref b27), .val (.int (if vr = (0 : Int32) then (0 : Int32) else (1 : Int32))), .unset, .unset] [(.int (2 : Int32)), (.int n1)])) _
                by_cases hq239 : n1 < (2 : Int32)
                · simp only [if_pos hq239] at kt
                  refine XS.icmpYes X29.here hx rfl (pc0 := 239) (pc' := 249) rfl (hb hby at_239) rfl (tlt hq239).1 (by decide) (by decide) ?_
                  show Steps p.tables e below (T29.setTop (mkF m 249 #[.val (.int p1), .val (.int p2), .val (.int p3), .val (.int vr), .val (.int (1 : Int32)), .val (.int (1 : Int32)), .val (.int (0 : Int32)), .val (.int vc), .val (.int n1), .val (.int n2), .val (.int x0), .val (.int x1), .val (.int y0), .val (.int y1), .val .null, .val (.ref sb26), .val (.ref b27), .val (.int (if vr = (0 : Int32) then (0 : Int32) else (1 : Int32))), .unset, .unset] [])) _
                  refine XS.iconst X29.here hx rfl (hb hby at_249) ?_
                  show Steps p.tables e below (T29.setTop (mkF m 250 #[.val (.int p1), .val (.int p2), .val (.int p3), .val (.int vr), .val (.int (1 : Int32)), .val (.int (1 : Int32)), .val (.int (0 : Int32)), .val (.int vc), .val (.int n1), .val (.int n2), .val (.int x0), .val (.int x1), .val (.int y0), .val (.int y1), .val .null, .val (.ref sb26), .val (.ref b27), .val (.int (if vr = (0 : Int32) then (0 : Int32) else (1 : Int32))), .unset, .unset] [(.int (1 : Int32))])) _
                  refine XS.goto X29.here hx rfl (pc0 := 250) (pc' := 254) rfl (hb hby at_250) (by decide) (by decide) ?_
                  show Steps p.tables e below (T29.setTop (mkF m 254 #[.val (.int p1), .val (.int p2), .val (.int p3), .val (.int vr), .val (.int (1 : Int32)), .val (.int (1 : Int32)), .val (.int (0 : Int32)), .val (.int vc), .val (.int n1), .val (.int n2), .val (.int x0), .val (.int x1), .val (.int y0), .val (.int y1), .val .null, .val (.ref sb26), .val (.ref b27), .val (.int (if vr = (0 : Int32) then (0 : Int32) else (1 : Int32))), .unset, .unset] [(.int (1 : Int32))])) _
                  first | exact kt | (simp only [if_pos hq220, if_neg hq226, if_pos hq233, if_pos hq239]; exact kt)
                · simp only [if_neg hq239] at kt
                  refine XS.icmpNo X29.here hx rfl (hb hby at_239) rfl (flt hq239).1 ?_
                  show Steps p.tables e below (T29.setTop (mkF m 242 #[.val (.int p1), .val (.int p2), .val (.int p3), .val (.int vr), .val (.int (1 : Int32)), .val (.int (1 : Int32)), .val (.int (0 : Int32)), .val (.int vc), .val (.int n1), .val (.int n2), .val (.int x0), .val (.int x1), .val (.int y0), .val (.int y1), .val .null, .val (.ref sb26), .val (.ref b27), .val (.int (if vr = (0 : Int32) then (0 : Int32) else (1 : Int32))), .unset, .unset] [])) _
                  refine XS.iload X29.here hx rfl (hb hby at_242) rfl ?_
                  show Steps p.tables e below (T29.setTop (mkF m 244 #[.val (.int p1), .val (.int p2), .val (.int p3), .val (.int vr), .val (.int (1 : Int32)), .val (.int (1 : Int32)), .val (.int (0 : Int32)), .val (.int vc), .val (.int n1), .val (.int n2), .val (.int x0), .val (.int x1), .val (.int y0), .val (.int y1), .val .null, .val (.ref sb26), .val (.ref b27), .val (.int (if vr = (0 : Int32) then (0 : Int32) else (1 : Int32))), .unset, .unset] [(.int x1)])) _
                  refine XS.iload X29.here hx rfl (hb hby at_244) rfl ?_
                  show Steps p.tables e below (T29.setTop (mkF m 246 #[.val (.int p1), .val (.int p2), .val (.int p3), .val (.int vr), .val (.int (1 : Int32)), .val (.int (1 : Int32)), .val (.int (0 : Int32)), .val (.int vc), .val (.int n1), .val (.int n2), .val (.int x0), .val (.int x1), .val (.int y0), .val (.int y1), .val .null, .val (.ref sb26), .val (.ref b27), .val (.int (if vr = (0 : Int32) then (0 : Int32) else (1 : Int32))), .unset, .unset] [(.int y1), (.int x1)])) _
                  by_cases hq246 : x1 = y1
                  · simp only [if_pos hq246] at kt
                    refine XS.icmpNo X29.here hx rfl (hb hby at_246) rfl (teq hq246).2 ?_
                    show Steps p.tables e below (T29.setTop (mkF m 249 #[.val (.int p1), .val (.int p2), .val (.int p3), .val (.int vr), .val (.int (1 : Int32)), .val (.int (1 : Int32)), .val (.int (0 : Int32)), .val (.int vc), .val (.int n1), .val (.int n2), .val (.int x0), .val (.int x1), .val (.int y0), .val (.int y1), .val .null, .val (.ref sb26), .val (.ref b27), .val (.int (if vr = (0 : Int32) then (0 : Int32) else (1 : Int32))), .unset, .unset] [])) _
                    refine XS.iconst X29.here hx rfl (hb hby at_249) ?_
                    show Steps p.tables e below (T29.setTop (mkF m 250 #[.val (.int p1), .val (.int p2), .val (.int p3), .val (.int vr), .val (.int (1 : Int32)), .val (.int (1 : Int32)), .val (.int (0 : Int32)), .val (.int vc), .val (.int n1), .val (.int n2), .val (.int x0), .val (.int x1), .val (.int y0), .val (.int y1), .val .null, .val (.ref sb26), .val (.ref b27), .val (.int (if vr = (0 : Int32) then (0 : Int32) else (1 : Int32))), .unset, .unset] [(.int (1 : Int32))])) _
                    refine XS.goto X29.here hx rfl (pc0 := 250) (pc' := 254) rfl (hb hby at_250) (by decide) (by decide) ?_
                    show Steps p.tables e below (T29.setTop (mkF m 254 #[.val (.int p1), .val (.int p2), .val (.int p3), .val (.int vr), .val (.int (1 : Int32)), .val (.int (1 : Int32)), .val (.int (0 : Int32)), .val (.int vc), .val (.int n1), .val (.int n2), .val (.int x0), .val (.int x1), .val (.int y0), .val (.int y1), .val .null, .val (.ref sb26), .val (.ref b27), .val (.int (if vr = (0 : Int32) then (0 : Int32) else (1 : Int32))), .unset, .unset] [(.int (1 : Int32))])) _
                    first | exact kt | (simp only [if_pos hq220, if_neg hq226, if_pos hq233, if_neg hq239, if_pos hq246]; exact kt)
                  · simp only [if_neg hq246] at kt
                    refine XS.icmpYes X29.here hx rfl (pc0 := 246) (pc' := 253) rfl (hb hby at_246) rfl (feq hq246).2 (by decide) (by decide) ?_
                    show Steps p.tables e below (T29.setTop (mkF m 253 #[.val (.int p1), .val (.int p2), .val (.int p3), .val (.int vr), .val (.int (1 : Int32)), .val (.int (1 : Int32)), .val (.int (0 : Int32)), .val (.int vc), .val (.int n1), .val (.int n2), .val (.int x0), .val (.int x1), .val (.int y0), .val (.int y1), .val .null, .val (.ref sb26), .val (.ref b27), .val (.int (if vr = (0 : Int32) then (0 : Int32) else (1 : Int32))), .unset, .unset] [])) _
                    refine XS.iconst X29.here hx rfl (hb hby at_253) ?_
                    show Steps p.tables e below (T29.setTop (mkF m 254 #[.val (.int p1), .val (.int p2), .val (.int p3), .val (.int vr), .val (.int (1 : Int32)), .val (.int (1 : Int32)), .val (.int (0 : Int32)), .val (.int vc), .val (.int n1), .val (.int n2), .val (.int x0), .val (.int x1), .val (.int y0), .val (.int y1), .val .null, .val (.ref sb26), .val (.ref b27), .val (.int (if vr = (0 : Int32) then (0 : Int32) else (1 : Int32))), .unset, .unset] [(.int (0 : Int32))])) _
                    first | exact kt | (simp only [if_pos hq220, if_neg hq226, if_pos hq233, if_neg hq239, if_neg hq246]; exact kt)
              · simp only [if_neg hq233] at kt
                refine XS.icmpYes X29.here hx rfl (pc0 := 233) (pc' := 253) rfl (hb hby at_233) rfl (feq hq233).2 (by decide) (by decide) ?_
                show Steps p.tables e below (T29.setTop (mkF m 253 #[.val (.int p1), .val (.int p2), .val (.int p3), .val (.int vr), .val (.int (1 : Int32)), .val (.int (1 : Int32)), .val (.int (0 : Int32)), .val (.int vc), .val (.int n1), .val (.int n2), .val (.int x0), .val (.int x1), .val (.int y0), .val (.int y1), .val .null, .val (.ref sb26), .val (.ref b27), .val (.int (if vr = (0 : Int32) then (0 : Int32) else (1 : Int32))), .unset, .unset] [])) _
                refine XS.iconst X29.here hx rfl (hb hby at_253) ?_
                show Steps p.tables e below (T29.setTop (mkF m 254 #[.val (.int p1), .val (.int p2), .val (.int p3), .val (.int vr), .val (.int (1 : Int32)), .val (.int (1 : Int32)), .val (.int (0 : Int32)), .val (.int vc), .val (.int n1), .val (.int n2), .val (.int x0), .val (.int x1), .val (.int y0), .val (.int y1), .val .null, .val (.ref sb26), .val (.ref b27), .val (.int (if vr = (0 : Int32) then (0 : Int32) else (1 : Int32))), .unset, .unset] [(.int (0 : Int32))])) _
                first | exact kt | (simp only [if_pos hq220, if_neg hq226, if_neg hq233]; exact kt)
          · simp only [if_neg hq220] at kt
            refine XS.icmpYes X29.here hx rfl (pc0 := 220) (pc' := 253) rfl (hb hby at_220) rfl (feq hq220).2 (by decide) (by decide) ?_
            show Steps p.tables e below (T29.setTop (mkF m 253 #[.val (.int p1), .val (.int p2), .val (.int p3), .val (.int vr), .val (.int (1 : Int32)), .val (.int (1 : Int32)), .val (.int (0 : Int32)), .val (.int vc), .val (.int n1), .val (.int n2), .val (.int x0), .val (.int x1), .val (.int y0), .val (.int y1), .val .null, .val (.ref sb26), .val (.ref b27), .val (.int (if vr = (0 : Int32) then (0 : Int32) else (1 : Int32))), .unset, .unset] [])) _
            refine XS.iconst X29.here hx rfl (hb hby at_253) ?_
            show Steps p.tables e below (T29.setTop (mkF m 254 #[.val (.int p1), .val (.int p2), .val (.int p3), .val (.int vr), .val (.int (1 : Int32)), .val (.int (1 : Int32)), .val (.int (0 : Int32)), .val (.int vc), .val (.int n1), .val (.int n2), .val (.int x0), .val (.int x1), .val (.int y0), .val (.int y1), .val .null, .val (.ref sb26), .val (.ref b27), .val (.int (if vr = (0 : Int32) then (0 : Int32) else (1 : Int32))), .unset, .unset] [(.int (0 : Int32))])) _
            first | exact kt | (simp only [if_neg hq220]; exact kt)
        show Goes p e below _ T29 (mkF m 254 #[.val (.int p1), .val (.int p2), .val (.int p3), .val (.int vr), .val (.int (1 : Int32)), .val (.int (1 : Int32)), .val (.int (0 : Int32)), .val (.int vc), .val (.int n1), .val (.int n2), .val (.int x0), .val (.int x1), .val (.int y0), .val (.int y1), .val .null, .val (.ref sb26), .val (.ref b27), .val (.int (if vr = (0 : Int32) then (0 : Int32) else (1 : Int32))), .unset, .unset] [(.int (if n1 = n2 then (if n1 < (1 : Int32) then (if n1 < (2 : Int32) then (1 : Int32) else (if x1 = y1 then (1 : Int32) else (0 : Int32))) else (if x0 = y0 then (if n1 < (2 : Int32) then (1 : Int32) else (if x1 = y1 then (1 : Int32) else (0 : Int32))) else (0 : Int32))) else (0 : Int32)))])
        refine Goes.of (fun _ => XS.istore X29.here hx rfl (hb hby at_254) rfl (l' := #[.val (.int p1), .val (.int p2), .val (.int p3), .val (.int vr), .val (.int (1 : Int32)), .val (.int (1 : Int32)), .val (.int (0 : Int32)), .val (.int vc), .val (.int n1), .val (.int n2), .val (.int x0), .val (.int x1), .val (.int y0), .val (.int y1), .val .null, .val (.ref sb26), .val (.ref b27), .val (.int (if vr = (0 : Int32) then (0 : Int32) else (1 : Int32))), .val (.int (if n1 = n2 then (if n1 < (1 : Int32) then (if n1 < (2 : Int32) then (1 : Int32) else (if x1 = y1 then (1 : Int32) else (0 : Int32))) else (if x0 = y0 then (if n1 < (2 : Int32) then (1 : Int32) else (if x1 = y1 then (1 : Int32) else (0 : Int32))) else (0 : Int32))) else (0 : Int32))), .unset]) rfl) ?_
        show Goes p e below _ T29 (mkF m 256 #[.val (.int p1), .val (.int p2), .val (.int p3), .val (.int vr), .val (.int (1 : Int32)), .val (.int (1 : Int32)), .val (.int (0 : Int32)), .val (.int vc), .val (.int n1), .val (.int n2), .val (.int x0), .val (.int x1), .val (.int y0), .val (.int y1), .val .null, .val (.ref sb26), .val (.ref b27), .val (.int (if vr = (0 : Int32) then (0 : Int32) else (1 : Int32))), .val (.int (if n1 = n2 then (if n1 < (1 : Int32) then (if n1 < (2 : Int32) then (1 : Int32) else (if x1 = y1 then (1 : Int32) else (0 : Int32))) else (if x0 = y0 then (if n1 < (2 : Int32) then (1 : Int32) else (if x1 = y1 then (1 : Int32) else (0 : Int32))) else (0 : Int32))) else (0 : Int32))), .unset] [])
        generalize erf : (if n1 = n2 then (if n1 < (1 : Int32) then (if n1 < (2 : Int32) then (1 : Int32) else (if x1 = y1 then (1 : Int32) else (0 : Int32))) else (if x0 = y0 then (if n1 < (2 : Int32) then (1 : Int32) else (if x1 = y1 then (1 : Int32) else (0 : Int32))) else (0 : Int32))) else (0 : Int32)) = rf
        show Goes p e below _ T29 (mkF m 256 #[.val (.int p1), .val (.int p2), .val (.int p3), .val (.int vr), .val (.int (1 : Int32)), .val (.int (1 : Int32)), .val (.int (0 : Int32)), .val (.int vc), .val (.int n1), .val (.int n2), .val (.int x0), .val (.int x1), .val (.int y0), .val (.int y1), .val .null, .val (.ref sb26), .val (.ref b27), .val (.int (if vr = (0 : Int32) then (0 : Int32) else (1 : Int32))), .val (.int rf), .unset] [])
        refine Goes.of (fun _ => XS.iloadN X29.here hx rfl (hb hby at_256) rfl) ?_
        show Goes p e below _ T29 (mkF m 257 #[.val (.int p1), .val (.int p2), .val (.int p3), .val (.int vr), .val (.int (1 : Int32)), .val (.int (1 : Int32)), .val (.int (0 : Int32)), .val (.int vc), .val (.int n1), .val (.int n2), .val (.int x0), .val (.int x1), .val (.int y0), .val (.int y1), .val .null, .val (.ref sb26), .val (.ref b27), .val (.int (if vr = (0 : Int32) then (0 : Int32) else (1 : Int32))), .val (.int rf), .unset] [(.int vr)])
        refine Goes.of (T' := T29) (f' := (mkF m 313 #[.val (.int p1), .val (.int p2), .val (.int p3), .val (.int vr), .val (.int (1 : Int32)), .val (.int (1 : Int32)), .val (.int (0 : Int32)), .val (.int vc), .val (.int n1), .val (.int n2), .val (.int x0), .val (.int x1), .val (.int y0), .val (.int y1), .val .null, .val (.ref sb26), .val (.ref b27), .val (.int (if vr = (0 : Int32) then (0 : Int32) else (1 : Int32))), .val (.int rf), .val (.int (if vr = (0 : Int32) then (0 : Int32) else (1 : Int32)))] [])) (fun t kt => ?_) ?_
        · show Steps p.tables e below (T29.setTop (mkF m 257 #[.val (.int p1), .val (.int p2), .val (.int p3), .val (.int vr), .val (.int (1 : Int32)), .val (.int (1 : Int32)), .val (.int (0 : Int32)), .val (.int vc), .val (.int n1), .val (.int n2), .val (.int x0), .val (.int x1), .val (.int y0), .val (.int y1), .val .null, .val (.ref sb26), .val (.ref b27), .val (.int (if vr = (0 : Int32) then (0 : Int32) else (1 : Int32))), .val (.int rf), .unset] [(.int vr)])) _
          by_cases hq257 : vr = (0 : Int32)
          · simp only [if_pos hq257] at kt
            refine XS.ifNo X29.here hx rfl (hb hby at_257) rfl ((if0 _ _).trans (teq hq257).2) ?_
            show Steps p.tables e below (T29.setTop (mkF m 260 #[.val (.int p1), .val (.int p2), .val (.int p3), .val (.int vr), .val (.int (1 : Int32)), .val (.int (1 : Int32)), .val (.int (0 : Int32)), .val (.int vc), .val (.int n1), .val (.int n2), .val (.int x0), .val (.int x1), .val (.int y0), .val (.int y1), .val .null, .val (.ref sb26), .val (.ref b27), .val (.int (if vr = (0 : Int32) then (0 : Int32) else (1 : Int32))), .val (.int rf), .unset] [])) _
            refine XS.iconst X29.here hx rfl (hb hby at_260) ?_
            show Steps p.tables e below (T29.setTop (mkF m 261 #[.val (.int p1), .val (.int p2), .val (.int p3), .val (.int vr), .val (.int (1 : Int32)), .val (.int (1 : Int32)), .val (.int (0 : Int32)), .val (.int vc), .val (.int n1), .val (.int n2), .val (.int x0), .val (.int x1), .val (.int y0), .val (.int y1), .val .null, .val (.ref sb26), .val (.ref b27), .val (.int (if vr = (0 : Int32) then (0 : Int32) else (1 : Int32))), .val (.int rf), .unset] [(.int (0 : Int32))])) _
            refine XS.istore X29.here hx rfl (hb hby at_261) rfl (l' := #[.val (.int p1), .val (.int p2), .val (.int p3), .val (.int vr), .val (.int (1 : Int32)), .val (.int (1 : Int32)), .val (.int (0 : Int32)), .val (.int vc), .val (.int n1), .val (.int n2), .val (.int x0), .val (.int x1), .val (.int y0), .val (.int y1), .val .null, .val (.ref sb26), .val (.ref b27), .val (.int (if vr = (0 : Int32) then (0 : Int32) else (1 : Int32))), .val (.int rf), .val (.int (0 : Int32))]) rfl ?_
            show Steps p.tables e below (T29.setTop (mkF m 263 #[.val (.int p1), .val (.int p2), .val (.int p3), .val (.int vr), .val (.int (1 : Int32)), .val (.int (1 : Int32)), .val (.int (0 : Int32)), .val (.int vc), .val (.int n1), .val (.int n2), .val (.int x0), .val (.int x1), .val (.int y0), .val (.int y1), .val .null, .val (.ref sb26), .val (.ref b27), .val (.int (if vr = (0 : Int32) then (0 : Int32) else (1 : Int32))), .val (.int rf), .val (.int (0 : Int32))] [])) _
            refine XS.goto X29.here hx rfl (pc0 := 263) (pc' := 313) rfl (hb hby at_263) (by decide) (by decide) ?_
            show Steps p.tables e below (T29.setTop (mkF m 313 #[.val (.int p1), .val (.int p2), .val (.int p3), .val (.int vr), .val (.int (1 : Int32)), .val (.int (1 : Int32)), .val (.int (0 : Int32)), .val (.int vc), .val (.int n1), .val (.int n2), .val (.int x0), .val (.int x1), .val (.int y0), .val (.int y1), .val .null, .val (.ref sb26), .val (.ref b27), .val (.int (if vr = (0 : Int32) then (0 : Int32) else (1 : Int32))), .val (.int rf), .val (.int (0 : Int32))] [])) _
            first | exact kt | (simp only [if_pos hq257]; exact kt)
          · simp only [if_neg hq257] at kt
            refine XS.ifYes X29.here hx rfl (pc0 := 257) (pc' := 266) rfl (hb hby at_257) rfl ((if0 _ _).trans (feq hq257).2) (by decide) (by decide) ?_
            show Steps p.tables e below (T29.setTop (mkF m 266 #[.val (.int p1), .val (.int p2), .val (.int p3), .val (.int vr), .val (.int (1 : Int32)), .val (.int (1 : Int32)), .val (.int (0 : Int32)), .val (.int vc), .val (.int n1), .val (.int n2), .val (.int x0), .val (.int x1), .val (.int y0), .val (.int y1), .val .null, .val (.ref sb26), .val (.ref b27), .val (.int (if vr = (0 : Int32) then (0 : Int32) else (1 : Int32))), .val (.int rf), .unset] [])) _
            refine XS.iload X29.here hx rfl (hb hby at_266) rfl ?_
            show Steps p.tables e below (T29.setTop (mkF m 268 #[.val (.int p1), .val (.int p2), .val (.int p3), .val (.int vr), .val (.int (1 : Int32)), .val (.int (1 : Int32)), .val (.int (0 : Int32)), .val (.int vc), .val (.int n1), .val (.int n2), .val (.int x0), .val (.int x1), .val (.int y0), .val (.int y1), .val .null, .val (.ref sb26), .val (.ref b27), .val (.int (if vr = (0 : Int32) then (0 : Int32) else (1 : Int32))), .val (.int rf), .unset] [(.int (1 : Int32))])) _
            refine XS.ifNo X29.here hx rfl (hb hby at_268) rfl ((if0 _ _).trans (feq (by decide)).1) ?_
            show Steps p.tables e below (T29.setTop (mkF m 271 #[.val (.int p1), .val (.int p2), .val (.int p3), .val (.int vr), .val (.int (1 : Int32)), .val (.int (1 : Int32)), .val (.int (0 : Int32)), .val (.int vc), .val (.int n1), .val (.int n2), .val (.int x0), .val (.int x1), .val (.int y0), .val (.int y1), .val .null, .val (.ref sb26), .val (.ref b27), .val (.int (if vr = (0 : Int32) then (0 : Int32) else (1 : Int32))), .val (.int rf), .unset] [])) _
            refine XS.iload X29.here hx rfl (hb hby at_271) rfl ?_
            show Steps p.tables e below (T29.setTop (mkF m 273 #[.val (.int p1), .val (.int p2), .val (.int p3), .val (.int vr), .val (.int (1 : Int32)), .val (.int (1 : Int32)), .val (.int (0 : Int32)), .val (.int vc), .val (.int n1), .val (.int n2), .val (.int x0), .val (.int x1), .val (.int y0), .val (.int y1), .val .null, .val (.ref sb26), .val (.ref b27), .val (.int (if vr = (0 : Int32) then (0 : Int32) else (1 : Int32))), .val (.int rf), .unset] [(.int (0 : Int32))])) _
            refine XS.ifNo X29.here hx rfl (hb hby at_273) rfl ((if0 _ _).trans (teq (by decide)).2) ?_
            show Steps p.tables e below (T29.setTop (mkF m 276 #[.val (.int p1), .val (.int p2), .val (.int p3), .val (.int vr), .val (.int (1 : Int32)), .val (.int (1 : Int32)), .val (.int (0 : Int32)), .val (.int vc), .val (.int n1), .val (.int n2), .val (.int x0), .val (.int x1), .val (.int y0), .val (.int y1), .val .null, .val (.ref sb26), .val (.ref b27), .val (.int (if vr = (0 : Int32) then (0 : Int32) else (1 : Int32))), .val (.int rf), .unset] [])) _
            refine XS.iload X29.here hx rfl (hb hby at_276) rfl ?_
            show Steps p.tables e below (T29.setTop (mkF m 278 #[.val (.int p1), .val (.int p2), .val (.int p3), .val (.int vr), .val (.int (1 : Int32)), .val (.int (1 : Int32)), .val (.int (0 : Int32)), .val (.int vc), .val (.int n1), .val (.int n2), .val (.int x0), .val (.int x1), .val (.int y0), .val (.int y1), .val .null, .val (.ref sb26), .val (.ref b27), .val (.int (if vr = (0 : Int32) then (0 : Int32) else (1 : Int32))), .val (.int rf), .unset] [(.int (1 : Int32))])) _
            refine XS.ifNo X29.here hx rfl (hb hby at_278) rfl ((if0 _ _).trans (feq (by decide)).1) ?_
            show Steps p.tables e below (T29.setTop (mkF m 281 #[.val (.int p1), .val (.int p2), .val (.int p3), .val (.int vr), .val (.int (1 : Int32)), .val (.int (1 : Int32)), .val (.int (0 : Int32)), .val (.int vc), .val (.int n1), .val (.int n2), .val (.int x0), .val (.int x1), .val (.int y0), .val (.int y1), .val .null, .val (.ref sb26), .val (.ref b27), .val (.int (if vr = (0 : Int32) then (0 : Int32) else (1 : Int32))), .val (.int rf), .unset] [])) _
            refine XS.iconst X29.here hx rfl (hb hby at_281) ?_
            show Steps p.tables e below (T29.setTop (mkF m 282 #[.val (.int p1), .val (.int p2), .val (.int p3), .val (.int vr), .val (.int (1 : Int32)), .val (.int (1 : Int32)), .val (.int (0 : Int32)), .val (.int vc), .val (.int n1), .val (.int n2), .val (.int x0), .val (.int x1), .val (.int y0), .val (.int y1), .val .null, .val (.ref sb26), .val (.ref b27), .val (.int (if vr = (0 : Int32) then (0 : Int32) else (1 : Int32))), .val (.int rf), .unset] [(.int (1 : Int32))])) _
            refine XS.goto X29.here hx rfl (pc0 := 282) (pc' := 286) rfl (hb hby at_282) (by decide) (by decide) ?_
            show Steps p.tables e below (T29.setTop (mkF m 286 #[.val (.int p1), .val (.int p2), .val (.int p3), .val (.int vr), .val (.int (1 : Int32)), .val (.int (1 : Int32)), .val (.int (0 : Int32)), .val (.int vc), .val (.int n1), .val (.int n2), .val (.int x0), .val (.int x1), .val (.int y0), .val (.int y1), .val .null, .val (.ref sb26), .val (.ref b27), .val (.int (if vr = (0 : Int32) then (0 : Int32) else (1 : Int32))), .val (.int rf), .unset] [(.int (1 : Int32))])) _
            refine XS.istore X29.here hx rfl (hb hby at_286) rfl (l' := #[.val (.int p1), .val (.int p2), .val (.int p3), .val (.int vr), .val (.int (1 : Int32)), .val (.int (1 : Int32)), .val (.int (0 : Int32)), .val (.int vc), .val (.int n1), .val (.int n2), .val (.int x0), .val (.int x1), .val (.int y0), .val (.int y1), .val .null, .val (.ref sb26), .val (.ref b27), .val (.int (if vr = (0 : Int32) then (0 : Int32) else (1 : Int32))), .val (.int rf), .val (.int (1 : Int32))]) rfl ?_
            show Steps p.tables e below (T29.setTop (mkF m 288 #[.val (.int p1), .val (.int p2), .val (.int p3), .val (.int vr), .val (.int (1 : Int32)), .val (.int (1 : Int32)), .val (.int (0 : Int32)), .val (.int vc), .val (.int n1), .val (.int n2), .val (.int x0), .val (.int x1), .val (.int y0), .val (.int y1), .val .null, .val (.ref sb26), .val (.ref b27), .val (.int (if vr = (0 : Int32) then (0 : Int32) else (1 : Int32))), .val (.int rf), .val (.int (1 : Int32))] [])) _
            refine XS.goto X29.here hx rfl (pc0 := 288) (pc' := 313) rfl (hb hby at_288) (by decide) (by decide) ?_
            show Steps p.tables e below (T29.setTop (mkF m 313 #[.val (.int p1), .val (.int p2), .val (.int p3), .val (.int vr), .val (.int (1 : Int32)), .val (.int (1 : Int32)), .val (.int (0 : Int32)), .val (.int vc), .val (.int n1), .val (.int n2), .val (.int x0), .val (.int x1), .val (.int y0), .val (.int y1), .val .null, .val (.ref sb26), .val (.ref b27), .val (.int (if vr = (0 : Int32) then (0 : Int32) else (1 : Int32))), .val (.int rf), .val (.int (1 : Int32))] [])) _
            first | exact kt | (simp only [if_neg hq257]; exact kt)
        show Goes p e below _ T29 (mkF m 313 #[.val (.int p1), .val (.int p2), .val (.int p3), .val (.int vr), .val (.int (1 : Int32)), .val (.int (1 : Int32)), .val (.int (0 : Int32)), .val (.int vc), .val (.int n1), .val (.int n2), .val (.int x0), .val (.int x1), .val (.int y0), .val (.int y1), .val .null, .val (.ref sb26), .val (.ref b27), .val (.int (if vr = (0 : Int32) then (0 : Int32) else (1 : Int32))), .val (.int rf), .val (.int (if vr = (0 : Int32) then (0 : Int32) else (1 : Int32)))] [])
        refine Goes.of (fun _ => XS.iload X29.here hx rfl (hb hby at_313) rfl) ?_
        show Goes p e below _ T29 (mkF m 315 #[.val (.int p1), .val (.int p2), .val (.int p3), .val (.int vr), .val (.int (1 : Int32)), .val (.int (1 : Int32)), .val (.int (0 : Int32)), .val (.int vc), .val (.int n1), .val (.int n2), .val (.int x0), .val (.int x1), .val (.int y0), .val (.int y1), .val .null, .val (.ref sb26), .val (.ref b27), .val (.int (if vr = (0 : Int32) then (0 : Int32) else (1 : Int32))), .val (.int rf), .val (.int (if vr = (0 : Int32) then (0 : Int32) else (1 : Int32)))] [(.int (if vr = (0 : Int32) then (0 : Int32) else (1 : Int32)))])
        refine Goes.of (fun _ => XS.iload X29.here hx rfl (hb hby at_315) rfl) ?_
        show Goes p e below _ T29 (mkF m 317 #[.val (.int p1), .val (.int p2), .val (.int p3), .val (.int vr), .val (.int (1 : Int32)), .val (.int (1 : Int32)), .val (.int (0 : Int32)), .val (.int vc), .val (.int n1), .val (.int n2), .val (.int x0), .val (.int x1), .val (.int y0), .val (.int y1), .val .null, .val (.ref sb26), .val (.ref b27), .val (.int (if vr = (0 : Int32) then (0 : Int32) else (1 : Int32))), .val (.int rf), .val (.int (if vr = (0 : Int32) then (0 : Int32) else (1 : Int32)))] [(.int (if vr = (0 : Int32) then (0 : Int32) else (1 : Int32))), (.int (if vr = (0 : Int32) then (0 : Int32) else (1 : Int32)))])
        refine Goes.of (fun _ => XS.icmpNo X29.here hx rfl (hb hby at_317) rfl (teq rfl).2) ?_
        show Goes p e below _ T29 (mkF m 320 #[.val (.int p1), .val (.int p2), .val (.int p3), .val (.int vr), .val (.int (1 : Int32)), .val (.int (1 : Int32)), .val (.int (0 : Int32)), .val (.int vc), .val (.int n1), .val (.int n2), .val (.int x0), .val (.int x1), .val (.int y0), .val (.int y1), .val .null, .val (.ref sb26), .val (.ref b27), .val (.int (if vr = (0 : Int32) then (0 : Int32) else (1 : Int32))), .val (.int rf), .val (.int (if vr = (0 : Int32) then (0 : Int32) else (1 : Int32)))] [])
        refine Goes.of (fun _ => XS.iconst X29.here hx rfl (hb hby at_320)) ?_
        show Goes p e below _ T29 (mkF m 321 #[.val (.int p1), .val (.int p2), .val (.int p3), .val (.int vr), .val (.int (1 : Int32)), .val (.int (1 : Int32)), .val (.int (0 : Int32)), .val (.int vc), .val (.int n1), .val (.int n2), .val (.int x0), .val (.int x1), .val (.int y0), .val (.int y1), .val .null, .val (.ref sb26), .val (.ref b27), .val (.int (if vr = (0 : Int32) then (0 : Int32) else (1 : Int32))), .val (.int rf), .val (.int (if vr = (0 : Int32) then (0 : Int32) else (1 : Int32)))] [(.int (1 : Int32))])
        refine Goes.of (fun _ => XS.goto X29.here hx rfl (pc0 := 321) (pc' := 325) rfl (hb hby at_321) (by decide) (by decide)) ?_
        show Goes p e below _ T29 (mkF m 325 #[.val (.int p1), .val (.int p2), .val (.int p3), .val (.int vr), .val (.int (1 : Int32)), .val (.int (1 : Int32)), .val (.int (0 : Int32)), .val (.int vc), .val (.int n1), .val (.int n2), .val (.int x0), .val (.int x1), .val (.int y0), .val (.int y1), .val .null, .val (.ref sb26), .val (.ref b27), .val (.int (if vr = (0 : Int32) then (0 : Int32) else (1 : Int32))), .val (.int rf), .val (.int (if vr = (0 : Int32) then (0 : Int32) else (1 : Int32)))] [(.int (1 : Int32))])
        exact retZW (t := .boolean) X29 hS hk hZ hEL HC hx hret hlk (by simp) (hb hby at_325) eT29 (by decide) (by decide) ⟨rfl, N29⟩
      · show Goes p e below _ T (mkF m 153 #[.val (.int p1), .val (.int p2), .val (.int p3), .val (.int vr), .val (.int (1 : Int32)), .val (.int (1 : Int32)), .val (.int (1 : Int32)), .val (.int vc), .val (.int n1), .val (.int n2), .val (.int x0), .val (.int x1), .val (.int y0), .val (.int y1), .unset, .unset, .unset, .unset, .unset, .unset] [])
        refine Goes.of (fun _ => XS.iload X.here hx rfl (hb hby at_153) rfl) ?_
        show Goes p e below _ T (mkF m 155 #[.val (.int p1), .val (.int p2), .val (.int p3), .val (.int vr), .val (.int (1 : Int32)), .val (.int (1 : Int32)), .val (.int (1 : Int32)), .val (.int vc), .val (.int n1), .val (.int n2), .val (.int x0), .val (.int x1), .val (.int y0), .val (.int y1), .unset, .unset, .unset, .unset, .unset, .unset] [(.int (1 : Int32))])
        refine Goes.of (fun _ => XS.ifNo X.here hx rfl (hb hby at_155) rfl ((if0 _ _).trans (feq (by decide)).1)) ?_
        show Goes p e below _ T (mkF m 158 #[.val (.int p1), .val (.int p2), .val (.int p3), .val (.int vr), .val (.int (1 : Int32)), .val (.int (1 : Int32)), .val (.int (1 : Int32)), .val (.int vc), .val (.int n1), .val (.int n2), .val (.int x0), .val (.int x1), .val (.int y0), .val (.int y1), .unset, .unset, .unset, .unset, .unset, .unset] [])
        refine Goes.of (fun _ => XS.aconstNull X.here hx rfl (hb hby at_158)) ?_
        show Goes p e below _ T (mkF m 159 #[.val (.int p1), .val (.int p2), .val (.int p3), .val (.int vr), .val (.int (1 : Int32)), .val (.int (1 : Int32)), .val (.int (1 : Int32)), .val (.int vc), .val (.int n1), .val (.int n2), .val (.int x0), .val (.int x1), .val (.int y0), .val (.int y1), .unset, .unset, .unset, .unset, .unset, .unset] [.null])
        refine Goes.of (fun _ => XS.goto X.here hx rfl (pc0 := 159) (pc' := 171) rfl (hb hby at_159) (by decide) (by decide)) ?_
        show Goes p e below _ T (mkF m 171 #[.val (.int p1), .val (.int p2), .val (.int p3), .val (.int vr), .val (.int (1 : Int32)), .val (.int (1 : Int32)), .val (.int (1 : Int32)), .val (.int vc), .val (.int n1), .val (.int n2), .val (.int x0), .val (.int x1), .val (.int y0), .val (.int y1), .unset, .unset, .unset, .unset, .unset, .unset] [.null])
        refine Goes.of (fun _ => XS.astore X.here hx rfl (hb hby at_171) rfl rfl (l' := #[.val (.int p1), .val (.int p2), .val (.int p3), .val (.int vr), .val (.int (1 : Int32)), .val (.int (1 : Int32)), .val (.int (1 : Int32)), .val (.int vc), .val (.int n1), .val (.int n2), .val (.int x0), .val (.int x1), .val (.int y0), .val (.int y1), .val .null, .unset, .unset, .unset, .unset, .unset]) rfl) ?_
        show Goes p e below _ T (mkF m 173 #[.val (.int p1), .val (.int p2), .val (.int p3), .val (.int vr), .val (.int (1 : Int32)), .val (.int (1 : Int32)), .val (.int (1 : Int32)), .val (.int vc), .val (.int n1), .val (.int n2), .val (.int x0), .val (.int x1), .val (.int y0), .val (.int y1), .val .null, .unset, .unset, .unset, .unset, .unset] [])
        refine Goes.of (fun _ => XS.iload X.here hx rfl (hb hby at_173) rfl) ?_
        show Goes p e below _ T (mkF m 175 #[.val (.int p1), .val (.int p2), .val (.int p3), .val (.int vr), .val (.int (1 : Int32)), .val (.int (1 : Int32)), .val (.int (1 : Int32)), .val (.int vc), .val (.int n1), .val (.int n2), .val (.int x0), .val (.int x1), .val (.int y0), .val (.int y1), .val .null, .unset, .unset, .unset, .unset, .unset] [(.int (1 : Int32))])
        refine Goes.of (fun _ => XS.ifNo X.here hx rfl (hb hby at_175) rfl ((if0 _ _).trans (feq (by decide)).1)) ?_
        show Goes p e below _ T (mkF m 178 #[.val (.int p1), .val (.int p2), .val (.int p3), .val (.int vr), .val (.int (1 : Int32)), .val (.int (1 : Int32)), .val (.int (1 : Int32)), .val (.int vc), .val (.int n1), .val (.int n2), .val (.int x0), .val (.int x1), .val (.int y0), .val (.int y1), .val .null, .unset, .unset, .unset, .unset, .unset] [])
        refine Goes.of (fun _ => XS.aconstNull X.here hx rfl (hb hby at_178)) ?_
        show Goes p e below _ T (mkF m 179 #[.val (.int p1), .val (.int p2), .val (.int p3), .val (.int vr), .val (.int (1 : Int32)), .val (.int (1 : Int32)), .val (.int (1 : Int32)), .val (.int vc), .val (.int n1), .val (.int n2), .val (.int x0), .val (.int x1), .val (.int y0), .val (.int y1), .val .null, .unset, .unset, .unset, .unset, .unset] [.null])
        refine Goes.of (fun _ => XS.goto X.here hx rfl (pc0 := 179) (pc' := 191) rfl (hb hby at_179) (by decide) (by decide)) ?_
        show Goes p e below _ T (mkF m 191 #[.val (.int p1), .val (.int p2), .val (.int p3), .val (.int vr), .val (.int (1 : Int32)), .val (.int (1 : Int32)), .val (.int (1 : Int32)), .val (.int vc), .val (.int n1), .val (.int n2), .val (.int x0), .val (.int x1), .val (.int y0), .val (.int y1), .val .null, .unset, .unset, .unset, .unset, .unset] [.null])
        refine Goes.of (fun _ => XS.astore X.here hx rfl (hb hby at_191) rfl rfl (l' := #[.val (.int p1), .val (.int p2), .val (.int p3), .val (.int vr), .val (.int (1 : Int32)), .val (.int (1 : Int32)), .val (.int (1 : Int32)), .val (.int vc), .val (.int n1), .val (.int n2), .val (.int x0), .val (.int x1), .val (.int y0), .val (.int y1), .val .null, .val .null, .unset, .unset, .unset, .unset]) rfl) ?_
        show Goes p e below _ T (mkF m 193 #[.val (.int p1), .val (.int p2), .val (.int p3), .val (.int vr), .val (.int (1 : Int32)), .val (.int (1 : Int32)), .val (.int (1 : Int32)), .val (.int vc), .val (.int n1), .val (.int n2), .val (.int x0), .val (.int x1), .val (.int y0), .val (.int y1), .val .null, .val .null, .unset, .unset, .unset, .unset] [])
        refine goNew X hx hZ hown (hw _ (List.mem_of_getElem? (i := 26) rfl)) (hw _ (List.mem_of_getElem? (i := 27) rfl)) (hw _ (List.mem_of_getElem? (i := 28) rfl)) eT0 (g := (mkF m 193 #[.val (.int p1), .val (.int p2), .val (.int p3), .val (.int vr), .val (.int (1 : Int32)), .val (.int (1 : Int32)), .val (.int (1 : Int32)), .val (.int vc), .val (.int n1), .val (.int n2), .val (.int x0), .val (.int x1), .val (.int y0), .val (.int y1), .val .null, .val .null, .unset, .unset, .unset, .unset] [])) rfl (hb hby at_193) (by decide) (by decide) ?_
        intro T30 h30 b30 X30 eT30 E30 hb30 A30 D30
        have g_b30 : n0 ≤ b30 := Nat.le_trans (oldLe O0) hb30
        have hk := Nat.le_trans hk E30.1
        have HC := HC.trans (CHr.ext E30 HC.1)
        have O0 := O0.ext E30
        have F30_id : Fld Z h30 b30 "com/example/latchwork/latchwork/store/RedisRun$Origin" "id" "Ljava/lang/String;" .null := D30 (Or.inr (hw _ (List.mem_of_getElem? (i := 39) rfl))) (ty := (.object "java/lang/String")) (by decide)
        have F30_wroteEveryChange : Fld Z h30 b30 "com/example/latchwork/latchwork/store/RedisRun$Origin" "wroteEveryChange" "Z" (.int (0 : Int32)) := D30 (Or.inr (hw _ (List.mem_of_getElem? (i := 41) rfl))) (ty := .boolean) (by decide)
        show Goes p e below _ T30 (mkF m 196 #[.val (.int p1), .val (.int p2), .val (.int p3), .val (.int vr), .val (.int (1 : Int32)), .val (.int (1 : Int32)), .val (.int (1 : Int32)), .val (.int vc), .val (.int n1), .val (.int n2), .val (.int x0), .val (.int x1), .val (.int y0), .val (.int y1), .val .null, .val .null, .unset, .unset, .unset, .unset] [(.ref b30)])
        refine Goes.of (fun _ => XS.dup X30.here hx rfl (hb hby at_196) rfl rfl) ?_
        show Goes p e below _ T30 (mkF m 197 #[.val (.int p1), .val (.int p2), .val (.int p3), .val (.int vr), .val (.int (1 : Int32)), .val (.int (1 : Int32)), .val (.int (1 : Int32)), .val (.int vc), .val (.int n1), .val (.int n2), .val (.int x0), .val (.int x1), .val (.int y0), .val (.int y1), .val .null, .val .null, .unset, .unset, .unset, .unset] [(.ref b30), (.ref b30)])
        refine Goes.of (fun _ => XS.aload X30.here hx rfl (hb hby at_197) rfl rfl) ?_
        show Goes p e below _ T30 (mkF m 199 #[.val (.int p1), .val (.int p2), .val (.int p3), .val (.int vr), .val (.int (1 : Int32)), .val (.int (1 : Int32)), .val (.int (1 : Int32)), .val (.int vc), .val (.int n1), .val (.int n2), .val (.int x0), .val (.int x1), .val (.int y0), .val (.int y1), .val .null, .val .null, .unset, .unset, .unset, .unset] [.null, (.ref b30), (.ref b30)])
        refine Goes.of (fun _ => XS.iload X30.here hx rfl (hb hby at_199) rfl) ?_
        show Goes p e below _ T30 (mkF m 201 #[.val (.int p1), .val (.int p2), .val (.int p3), .val (.int vr), .val (.int (1 : Int32)), .val (.int (1 : Int32)), .val (.int (1 : Int32)), .val (.int vc), .val (.int n1), .val (.int n2), .val (.int x0), .val (.int x1), .val (.int y0), .val (.int y1), .val .null, .val .null, .unset, .unset, .unset, .unset] [(.int (1 : Int32)), .null, (.ref b30), (.ref b30)])
        have Sf_b30 : Safe Z EL _ h30 b30 := Safe.exa hZ.alike A30 (by decide) (by decide)
        refine goSpecial 1 X30 hx hZ rfl hown (hw _ (List.mem_of_getElem? (i := 29) rfl)) (hw _ (List.mem_of_getElem? (i := 30) rfl)) (hw _ (List.mem_of_getElem? (i := 28) rfl)) (hw _ (List.mem_of_getElem? (i := 31) rfl)) (by decide) (rm_init11 l Z a0 hw b30  h30 n0 O0 g_b30 A30 F30_id F30_wroteEveryChange) eT30 (g := (mkF m 201 #[.val (.int p1), .val (.int p2), .val (.int p3), .val (.int vr), .val (.int (1 : Int32)), .val (.int (1 : Int32)), .val (.int (1 : Int32)), .val (.int vc), .val (.int n1), .val (.int n2), .val (.int x0), .val (.int x1), .val (.int y0), .val (.int y1), .val .null, .val .null, .unset, .unset, .unset, .unset] [(.int (1 : Int32)), .null, (.ref b30), (.ref b30)])) rfl (by rw [hml]; rfl) b30 [.null, (.int (1 : Int32))] [(.ref b30)] (lenOf pd__Ljava_lang_String_Z_V rfl) rfl rfl (by show 2 * 0 + _ ≤ _; exact Nat.le_of_eq rfl) (hb hby at_201) (by decide) (by decide) (by decide) (by decide) ?_
        intro v31 T31 L31 X31 q31
        obtain ⟨rfl, Nq31, Kq31, H0_31, H1_31⟩ := q31
        have N31 := Fr.app N0 Nq31
        have A30 := A30.keep Kq31
        have HC := HC.trans (CHr.keep Kq31 (sfS Sf_b30 sf0) HC.1)
        have hk := Nat.le_trans hk Kq31.1
        have O0 := O0.keep Kq31 (allS g_b30 all0)
        show Goes p e below _ T31 (mkF m 204 #[.val (.int p1), .val (.int p2), .val (.int p3), .val (.int vr), .val (.int (1 : Int32)), .val (.int (1 : Int32)), .val (.int (1 : Int32)), .val (.int vc), .val (.int n1), .val (.int n2), .val (.int x0), .val (.int x1), .val (.int y0), .val (.int y1), .val .null, .val .null, .unset, .unset, .unset, .unset] [(.ref b30)])
        refine Goes.of (fun _ => XS.astore X31.here hx rfl (hb hby at_204) rfl rfl (l' := #[.val (.int p1), .val (.int p2), .val (.int p3), .val (.int vr), .val (.int (1 : Int32)), .val (.int (1 : Int32)), .val (.int (1 : Int32)), .val (.int vc), .val (.int n1), .val (.int n2), .val (.int x0), .val (.int x1), .val (.int y0), .val (.int y1), .val .null, .val .null, .val (.ref b30), .unset, .unset, .unset]) rfl) ?_
        show Goes p e below _ T31 (mkF m 206 #[.val (.int p1), .val (.int p2), .val (.int p3), .val (.int vr), .val (.int (1 : Int32)), .val (.int (1 : Int32)), .val (.int (1 : Int32)), .val (.int vc), .val (.int n1), .val (.int n2), .val (.int x0), .val (.int x1), .val (.int y0), .val (.int y1), .val .null, .val .null, .val (.ref b30), .unset, .unset, .unset] [])
        refine Goes.of (fun _ => XS.aload X31.here hx rfl (hb hby at_206) rfl rfl) ?_
        show Goes p e below _ T31 (mkF m 208 #[.val (.int p1), .val (.int p2), .val (.int p3), .val (.int vr), .val (.int (1 : Int32)), .val (.int (1 : Int32)), .val (.int (1 : Int32)), .val (.int vc), .val (.int n1), .val (.int n2), .val (.int x0), .val (.int x1), .val (.int y0), .val (.int y1), .val .null, .val .null, .val (.ref b30), .unset, .unset, .unset] [.null])
        refine Goes.of (fun _ => XS.aload X31.here hx rfl (hb hby at_208) rfl rfl) ?_
        show Goes p e below _ T31 (mkF m 210 #[.val (.int p1), .val (.int p2), .val (.int p3), .val (.int vr), .val (.int (1 : Int32)), .val (.int (1 : Int32)), .val (.int (1 : Int32)), .val (.int vc), .val (.int n1), .val (.int n2), .val (.int x0), .val (.int x1), .val (.int y0), .val (.int y1), .val .null, .val .null, .val (.ref b30), .unset, .unset, .unset] [(.ref b30), .null])
        refine Goes.of (fun _ => XS.iloadN X31.here hx rfl (hb hby at_210) rfl) ?_
        show Goes p e below _ T31 (mkF m 211 #[.val (.int p1), .val (.int p2), .val (.int p3), .val (.int vr), .val (.int (1 : Int32)), .val (.int (1 : Int32)), .val (.int (1 : Int32)), .val (.int vc), .val (.int n1), .val (.int n2), .val (.int x0), .val (.int x1), .val (.int y0), .val (.int y1), .val .null, .val .null, .val (.ref b30), .unset, .unset, .unset] [(.int vr), (.ref b30), .null])
        refine goStatic 0 X31 hx hZ hown (hw _ (List.mem_of_getElem? (i := 42) rfl)) (hw _ (List.mem_of_getElem? (i := 43) rfl)) (hw _ (List.mem_of_getElem? (i := 44) rfl)) (hw _ (List.mem_of_getElem? (i := 45) rfl)) (by decide) (rm_kept111 l Z a0 hw b30   vr [] [] cz T31.heap n0 O0 Sc hcz A30 H0_31 H1_31  ) (rfl : T31.heap = _) (g := (mkF m 211 #[.val (.int p1), .val (.int p2), .val (.int p3), .val (.int vr), .val (.int (1 : Int32)), .val (.int (1 : Int32)), .val (.int (1 : Int32)), .val (.int vc), .val (.int n1), .val (.int n2), .val (.int x0), .val (.int x1), .val (.int y0), .val (.int y1), .val .null, .val .null, .val (.ref b30), .unset, .unset, .unset] [(.int vr), (.ref b30), .null])) rfl (by rw [hml]; rfl) [.null, (.ref b30), (.int vr)] [] (lenOf pd__Ljava_lang_String_Lcom_example_latchwork_latchwork_store_RedisRun_Origin_Z_Z rfl) rfl rfl (by show 2 * 0 + _ ≤ _; exact Nat.le_of_eq rfl) (hb hby at_211) (by decide) (by decide) (by decide) (by decide) ?_
        intro v32 T32 L32 X32 q32
        obtain ⟨rfl, Nq32, eT32⟩ := q32
        have N32 := Fr.app N31 Nq32
        show Goes p e below _ T32 (mkF m 214 #[.val (.int p1), .val (.int p2), .val (.int p3), .val (.int vr), .val (.int (1 : Int32)), .val (.int (1 : Int32)), .val (.int (1 : Int32)), .val (.int vc), .val (.int n1), .val (.int n2), .val (.int x0), .val (.int x1), .val (.int y0), .val (.int y1), .val .null, .val .null, .val (.ref b30), .unset, .unset, .unset] [(.int (if vr = (0 : Int32) then (0 : Int32) else (1 : Int32)))])
        refine Goes.of (fun _ => XS.istore X32.here hx rfl (hb hby at_214) rfl (l' := #[.val (.int p1), .val (.int p2), .val (.int p3), .val (.int vr), .val (.int (1 : Int32)), .val (.int (1 : Int32)), .val (.int (1 : Int32)), .val (.int vc), .val (.int n1), .val (.int n2), .val (.int x0), .val (.int x1), .val (.int y0), .val (.int y1), .val .null, .val .null, .val (.ref b30), .val (.int (if vr = (0 : Int32) then (0 : Int32) else (1 : Int32))), .unset, .unset]) rfl) ?_
        show Goes p e below _ T32 (mkF m 216 #[.val (.int p1), .val (.int p2), .val (.int p3), .val (.int vr), .val (.int (1 : Int32)), .val (.int (1 : Int32)), .val (.int (1 : Int32)), .val (.int vc), .val (.int n1), .val (.int n2), .val (.int x0), .val (.int x1), .val (.int y0), .val (.int y1), .val .null, .val .null, .val (.ref b30), .val (.int (if vr = (0 : Int32) then (0 : Int32) else (1 : Int32))), .unset, .unset] [])
        refine Goes.of (fun _ => XS.iload X32.here hx rfl (hb hby at_216) rfl) ?_
        show Goes p e below _ T32 (mkF m 218 #[.val (.int p1), .val (.int p2), .val (.int p3), .val (.int vr), .val (.int (1 : Int32)), .val (.int (1 : Int32)), .val (.int (1 : Int32)), .val (.int vc), .val (.int n1), .val (.int n2), .val (.int x0), .val (.int x1), .val (.int y0), .val (.int y1), .val .null, .val .null, .val (.ref b30), .val (.int (if vr = (0 : Int32) then (0 : Int32) else (1 : Int32))), .unset, .unset] [(.int n1)])
        refine Goes.of (fun _ => XS.iload X32.here hx rfl (hb hby at_218) rfl) ?_
        show Goes p e below _ T32 (mkF m 220 #[.val (.int p1), .val (.int p2), .val (.int p3), .val (.int vr), .val (.int (1 : Int32)), .val (.int (1 : Int32)), .val (.int (1 : Int32)), .val (.int vc), .val (.int n1), .val (.int n2), .val (.int x0), .val (.int x1), .val (.int y0), .val (.int y1), .val .null, .val .null, .val (.ref b30), .val (.int (if vr = (0 : Int32) then (0 : Int32) else (1 : Int32))), .unset, .unset] [(.int n2), (.int n1)])
        refine Goes.of (T' := T32) (f' := (mkF m 254 #[.val (.int p1), .val (.int p2), .val (.int p3), .val (.int vr), .val (.int (1 : Int32)), .val (.int (1 : Int32)), .val (.int (1 : Int32)), .val (.int vc), .val (.int n1), .val (.int n2), .val (.int x0), .val (.int x1), .val (.int y0), .val (.int y1), .val .null, .val .null, .val (.ref b30), .val (.int (if vr = (0 : Int32) then (0 : Int32) else (1 : Int32))), .unset, .unset] [(.int (if n1 = n2 then (if n1 < (1 : Int32) then (if n1 < (2 : Int32) then (1 : Int32) else (if x1 = y1 then (1 : Int32) else (0 : Int32))) else (if x0 = y0 then (if n1 < (2 : Int32) then (1 : Int32) else (if x1 = y1 then (1 : Int32) else (0 : Int32))) else (0 : Int32))) else (0 : Int32)))])) (fun t kt => ?_) ?_
        · show Steps p.tables e below (T32.setTop (mkF m 220 #[.val (.int p1), .val (.int p2), .val (.int p3), .val (.int vr), .val (.int (1 : Int32)), .val (.int (1 : Int32)), .val (.int (1 : Int32)), .val (.int vc), .val (.int n1), .val (.int n2), .val (.int x0), .val (.int x1), .val (.int y0), .val (.int y1), .val .null, .val .null, .val (.ref b30), .val (.int (if vr = (0 : Int32) then (0 : Int32) else (1 : Int32))), .unset, .unset] [(.int n2), (.int n1)])) _
          by_cases hq220 : n1 = n2
          · simp only [if_pos hq220] at kt
            refine XS.icmpNo X32.here hx rfl (hb hby at_220) rfl (teq hq220).2 ?_
            show Steps p.tables e below (T32.setTop (mkF m 223 #[.val (.int p1), .val (.int p2), .val (.int p3), .val (.int vr), .val (.int (1 : Int32)), .val (.int (1 : Int32)), .val (.int (1 : Int32)), .val (.int vc), .val (.int n1), .val (.int n2), .val (.int x0), .val (.int x1), .val (.int y0), .val (.int y1), .val .null, .val .null, .val (.ref b30), .val (.int (if vr = (0 : Int32) then (0 : Int32) else (1 : Int32))), .unset, .unset] [])) _
            refine XS.iload X32.here hx rfl (hb hby at_223) rfl ?_
            show Steps p.tables e below (T32.setTop (mkF m 225 #[.val (.int p1), .val (.int p2), .val (.int p3), .val (.int vr), .val (.int (1 : Int32)), .val (.int (1 : Int32)), .val (.int (1 : Int32)), .val (.int vc), .val (.int n1), .val (.int n2), .val (.int x0), .val (.int x1), .val (.int y0), .val (.int y1), .val .null, .val .null, .val (.ref b30), .val (.int (if vr = (0 : Int32) then (0 : Int32) else (1 : Int32))), .unset, .unset] [(.int n1)])) _
            refine XS.iconst X32.here hx rfl (hb hby at_225) ?_
            show Steps p.tables e below (T32.setTop (mkF m 226 #[.val (.int p1), .val (.int p2), .val (.int p3), .val (.int vr), .val (.int (1 : Int32)), .val (.int (1 : Int32)), .val (.int (1 : Int32)), .val (.int vc), .val (.int n1), .val (.int n2), .val (.int x0), .val (.int x1), .val (.int y0), .val (.int y1), .val .null, .val .null, .val (.ref b30), .val (.int (if vr = (0 : Int32) then (0 : Int32) else (1 : Int32))), .unset, .unset] [(.int (1 : Int32)), (.int n1)])) _
            by_cases hq226 : n1 < (1 : Int32)
            · simp only [if_pos hq226] at kt
              refine XS.icmpYes X32.here hx rfl (pc0 := 226) (pc' := 236) rfl (hb hby at_226) rfl (tlt hq226).1 (by decide) (by decide) ?_
              show Steps p.tables e below (T32.setTop (mkF m 236 #[.val (.int p1), .val (.int p2), .val (.int p3), .val (.int vr), .val (.int (1 : Int32)), .val (.int (1 : Int32)), .val (.int (1 : Int32)), .val (.int vc), .val (.int n1), .val (.int n2), .val (.int x0), .val (.int x1), .val (.int y0), .val (.int y1), .val .null, .val .null, .val (.ref b30), .val (.int (if vr = (0 : Int32) then (0 : Int32) else (1 : Int32))), .unset, .unset] [])) _
              refine XS.iload X32.here hx rfl (hb hby at_236) rfl ?_
              show Steps p.tables e below (T32.setTop (mkF m 238 #[.val (.int p1), .val (.int p2), .val (.int p3), .val (.int vr), .val (.int (1 : Int32)), .val (.int (1 : Int32)), .val (.int (1 : Int32)), .val (.int vc), .val (.int n1), .val (.int n2), .val (.int x0), .val (.int x1), .val (.int y0), .val (.int y1), .val .null, .val .null, .val (.ref b30), .val (.int (if vr = (0 : Int32) then (0 : Int32) else (1 : Int32))), .unset, .unset] [(.int n1)])) _
              refine XS.iconst X32.here hx rfl (hb hby at_238) ?_
              show Steps p.tables e below (T32.setTop (mkF m 239 #[.val (.int p1), .val (.int p2), .val (.int p3), .val (.int vr), .val (.int (1 : Int32)), .val (.int (1 : Int32)), .val (.int (1 : Int32)), .val (.int vc), .val (.int n1), .val (.int n2), .val (.int x0), .val (.int x1), .val (.int y0), .val (.int y1), .val .null, .val .null, .val (.ref b30), .val (.int (if vr = (0 : Int32) then (0 : Int32) else (1 : Int32))), .unset, .unset] [(.int (2 : Int32)), (.int n1)])) _
              by_cases hq239 : n1 < (2 : Int32)
              · simp only [if_pos hq239] at kt
                refine XS.icmpYes X32.here hx rfl (pc0 := 239) (pc' := 249) rfl (hb hby at_239) rfl (tlt hq239).1 (by decide) (by decide) ?_
                show Steps p.tables e below (T32.setTop (mkF m 249 #[.val (.int p1), .val (.int p2), .val (.int p3), .val (.int vr), .val (.int (1 : Int32)), .val (.int (1 : Int32)), .val (.int (1 : Int32)), .val (.int vc), .val (.int n1), .val (.int n2), .val (.int x0), .val (.int x1), .val (.int y0), .val (.int y1), .val .null, .val .null, .val (.ref b30), .val (.int (if vr = (0 : Int32) then (0 : Int32) else (1 : Int32))), .unset, .unset] [])) _
                refine XS.iconst X32.here hx rfl (hb hby at_249) ?_
                show Steps p.tables e below (T32.setTop (mkF m 250 #[.val (.int p1), .val (.int p2), .val (.int p3), .val (.int vr), .val (.int (1 : Int32)), .val (.int (1 : Int32)), .val (.int (1 : Int32)), .val (.int vc), .val (.int n1), .val (.int n2), .val (.int x0), .val (.int x1), .val (.int y0), .val (.int y1), .val .null, .val .null, .val (.ref b30), .val (.int (if vr = (0 : Int32) then (0 : Int32) else (1 : Int32))), .unset, .unset] [(.int (1 : Int32))])) _
                refine XS.goto X32.here hx rfl (pc0 := 250) (pc' := 254) rfl (hb hby at_250) (by decide) (by decide) ?_
                show Steps p.tables e below (T32.setTop (mkF m 254 #[.val (.int p1), .val (.int p2), .val (.int p3), .val (.int vr), .val (.int (1 : Int32)), .val (.int (1 : Int32)), .val (.int (1 : Int32)), .val (.int vc), .val (.int n1), .val (.int n2), .val (.int x0), .val (.int x1), .val (.int y0), .val (.int y1), .val .null, .val .null, .val (.ref b30), .val (.int (if vr = (0 : Int32) then (0 : Int32) else (1 : Int32))), .unset, .unset] [(.int (1 : Int32))])) _
                first | exact kt | (simp only [if_pos hq220, if_pos hq226, if_pos hq239]; exact kt)
              · simp only [if_neg hq239] at kt
                refine XS.icmpNo X32.here hx rfl (hb hby at_239) rfl (flt hq239).1 ?_
                show Steps p.tables e below (T32.setTop (mkF m 242 #[.val (.int p1), .val (.int p2), .val (.int p3), .val (.int vr), .val (.int (1 : Int32)), .val (.int (1 : Int32)), .val (.int (1 : Int32)), .val (.int vc), .val (.int n1), .val (.int n2), .val (.int x0), .val (.int x1), .val (.int y0), .val (.int y1), .val .null, .val .null, .val (.ref b30), .val (.int (if vr = (0 : Int32) then (0 : Int32) else (1 : Int32))), .unset, .unset] [])) _
                refine XS.iload X32.here hx rfl (hb hby at_242) rfl ?_
                show Steps p.tables e below (T32.setTop (mkF m 244 #[.val (.int p1), .val (.int p2), .val (.int p3), .val (.int vr), .val (.int (1 : Int32)), .val (.int (1 : Int32)), .val (.int (1 : Int32)), .val (.int vc), .val (.int n1), .val (.int n2), .val (.int x0), .val (.int x1), .val (.int y0), .val (.int y1), .val .null, .val .null, .val (.ref b30), .val (.int (if vr = (0 : Int32) then (0 : Int32) else (1 : Int32))), .unset, .unset] [(.int x1)])) _
                refine XS.iload X32.here hx rfl (hb hby at_244) rfl ?_
                show Steps p.tables e below (T32.setTop (mkF m 246 #[.val (.int p1), .val (.int p2), .val (.int p3), .val (.int vr), .val (.int (1 : Int32)), .val (.int (1 : Int32)), .val (.int (1 : Int32)), .val (.int vc), .val (.int n1), .val (.int n2), .val (.int x0), .val (.int x1), .val (.int y0), .val (.int y1), .val .null, .val .null, .val (.ref b30), .val (.int (if vr = (0 : Int32) then (0 : Int32) else (1 : Int32))), .unset, .unset] [(.int y1), (.int x1)])) _
                by_cases hq246 : x1 = y1
                · simp only [if_pos hq246] at kt
                  refine XS.icmpNo X32.here hx rfl (hb hby at_246) rfl (teq hq246).2 ?_
                  show Steps p.tables e below (T32.setTop (mkF m 249 #[.val (.int p1), .val (.int p2), .val (.int p3), .val (.int vr), .val (.int (1 : Int32)), .val (.int (1 : Int32)), .val (.int (1 : Int32)), .val (.int vc), .val (.int n1), .val (.int n2), .val (.int x0), .val (.int x1), .val (.int y0), .val (.int y1), .val .null, .val .null, .val (.ref b30), .val (.int (if vr = (0 : Int32) then (0 : Int32) else (1 : Int32))), .unset, .unset] [])) _
                  refine XS.iconst X32.here hx rfl (hb hby at_249) ?_
                  show Steps p.tables e below (T32.setTop (mkF m 250 #[.val (.int p1), .val (.int p2), .val (.int p3), .val (.int vr), .val (.int (1 : Int32)), .val (.int (1 : Int32)), .val (.int (1 : Int32)), .val (.int vc), .val (.int n1), .val (.int n2), .val (.int x0), .val (.int x1), .val (.int y0), .val (.int y1), .val .null, .val .null, .val (.ref b30), .val (.int (if vr = (0 : Int32) then (0 : Int32) else (1 : Int32))), .unset, .unset] [(.int (1 : Int32))])) _
                  refine XS.goto X32.here hx rfl (pc0 := 250) (pc' := 254) rfl (hb hby at_250) (by decide) (by decide) ?_
                  show Steps p.tables e below (T32.setTop (mkF m 254 #[.val (.int p1), .val (.int p2), .val (.int p3), .val (.int vr), .val (.int (1 : Int32)), .val (.int (1 : Int32)), .val (.int (1 : Int32)), .val (.int vc), .val (.int n1), .val (.int n2), .val (.int x0), .val (.int x1), .val (.int y0), .val (.int y1), .val .null, .val .null, .val (.ref b30), .val (.int (if vr = (0 : Int32) then (0 : Int32) else (1 : Int32))), .unset, .unset] [(.int (1 : Int32))])) _
                  first | exact kt | (simp only [if_pos hq220, if_pos hq226, if_neg hq239, if_pos hq246]; exact kt)
                · simp only [if_neg hq246] at kt
                  refine XS.icmpYes X32.here hx rfl (pc0 := 246) (pc' := 253) rfl (hb hby at_246) rfl (feq hq246).2 (by decide) (by decide) ?_
                  show Steps p.tables e below (T32.setTop (mkF m 253 #[.val (.int p1), .val (.int p2), .val (.int p3), .val (.int vr), .val (.int (1 : Int32)), .val (.int (1 : Int32)), .val (.int (1 : Int32)), .val (.int vc), .val (.int n1), .val (.int n2), .val (.int x0), .val (.int x1), .val (.int y0), .val (.int y1), .val .null, .val .null, .val (.ref b30), .val (.int (if vr = (0 : Int32) then (0 : Int32) else (1 : Int32))), .unset, .unset] [])) _
                  refine XS.iconst X32.here hx rfl (hb hby at_253) ?_
                  show Steps p.tables e below (T32.setTop (mkF m 254 #[.val (.int p1), .val (.int p2), .val (.int p3), .val (.int vr), .val (.int (1 : Int32)), .val (.int (1 : Int32)), .val (.int (1 : Int32)), .val (.int vc), .val (.int n1), .val (.int n2), .val (.int x0), .val (.int x1), .val (.int y0), .val (.int y1), .val .null, .val .null, .val (.ref b30), .val (.int (if vr = (0 : Int32) then (0 : Int32) else (1 : Int32))), .unset, .unset] [(.int (0 : Int32))])) _
                  first | exact kt | (simp only [if_pos hq220, if_pos hq226, if_neg hq239, if_neg hq246]; exact kt)
            · simp only [if_neg hq226] at kt
              refine XS.icmpNo X32.here hx rfl (hb hby at_226) rfl (flt hq226).1 ?_
              show Steps p.tables e below (T32.setTop (mkF m 229 #[.val (.int p1), .val (.int p2), .val (.int p3), .val (.int vr), .val (.int (1 : Int32)), .val (.int (1 : Int32)), .val (.int (1 : Int32)), .val (.int vc), .val (.int n1), .val (.int n2), .val (.int x0), .val (.int x1), .val (.int y0), .val (.int y1), .val .null, .val .null, .val (.ref b30), .val (.int (if vr = (0 : Int32) then (0 : Int32) else (1 : Int32))), .unset, .unset] [])) _
              refine XS.iload X32.here hx rfl (hb hby at_229) rfl ?_
              show Steps p.tables e below (T32.setTop (mkF m 231 #[.val (.int p1), .val (.int p2), .val (.int p3), .val (.int vr), .val (.int (1 : Int32)), .val (.int (1 : Int32)), .val (.int (1 : Int32)), .val (.int vc), .val (.int n1), .val (.int n2), .val (.int x0), .val (.int x1), .val (.int y0), .val (.int y1), .val .null, .val .null, .val (.ref b30), .val (.int (if vr = (0 : Int32) then (0 : Int32) else (1 : Int32))), .unset, .unset] [(.int x0)])) _
              refine XS.iload X32.here hx rfl (hb hby at_231) rfl ?_
              show Steps p.tables e below (T32.setTop (mkF m 233 #[.val (.int p1), .val (.int p2), .val (.int p3), .val (.int vr), .val (.int (1 : Int32)), .val (.int (1 : Int32)), .val (.int (1 : Int32)), .val (.int vc), .val (.int n1), .val (.int n2), .val (.int x0), .val (.int x1), .val (.int y0), .val (.int y1), .val .null, .val .null, .val (.ref b30), .val (.int (if vr = (0 : Int32) then (0 : Int32) else (1 : Int32))), .unset, .unset] [(.int y0), (.int x0)])) _
              by_cases hq233 : x0 = y0
              · simp only [if_pos hq233] at kt
                refine XS.icmpNo X32.here hx rfl (hb hby at_233) rfl (teq hq233).2 ?_
                show Steps p.tables e below (T32.setTop (mkF m 236 #[.val (.int p1), .val (.int p2), .val (.int p3), .val (.int vr), .val (.int (1 : Int32)), .val (.int (1 : Int32)), .val (.int (1 : Int32)), .val (.int vc), .val (.int n1), .val (.int n2), .val (.int x0), .val (.int x1), .val (.int y0), .val (.int y1), .val .null, .val .null, .val (.ref b30), .val (.int (if vr = (0 : Int32) then (0 : Int32) else (1 : Int32))), .unset, .unset] [])) _
                refine XS.iload X32.here hx rfl (hb hby at_236) rfl ?_
                show Steps p.tables e below (T32.setTop (mkF m 238 #[.val (.int p1), .val (.int p2), .val (.int p3), .val (.int vr), .val (.int (1 : Int32)), .val (.int (1 : Int32)), .val (.int (1 : Int32)), .val (.int vc), .val (.int n1), .val (.int n2), .val (.int x0), .val (.int x1), .val (.int y0), .val (.int y1), .val .null, .val .null, .val (.ref b30), .val (.int (if vr = (0 : Int32) then (0 : Int32) else (1 : Int32))), .unset, .unset] [(.int n1)])) _
                refine XS.iconst X32.here hx rfl (hb hby at_238) ?_
                show Steps p.tables e below (T32.setTop (mkF m 239 #[.val (.int p1), .val (.int p2), .val (.int p3), .val (.int vr), .val (.int (1 : Int32)), .val (.int (1 : Int32)), .val (.int (1 : Int32)), .val (.int vc), .val (.int n1), .val (.int n2), .val (.int x0), .val (.int x1), .val (.int y0), .val (.int y1), .val .null, .val .null, .val (.ref b30), .val (.int (if vr = (0 : Int32) then (0 : Int32) else (1 : Int32))), .unset, .unset] [(.int (2 : Int32)), (.int n1)])) _
                by_cases hq239 : n1 < (2 : Int32)
                · simp only [if_pos hq239] at kt
                  refine XS.icmpYes X32.here hx rfl (pc0 := 239) (pc' := 249) rfl (hb hby at_239) rfl (tlt hq239).1 (by decide) (by decide) ?_
                  show Steps p.tables e below (T32.setTop (mkF m 249 #[.val (.int p1), .val (.int p2), .val (.int p3), .val (.int vr), .val (.int (1 : Int32)), .val (.int (1 : Int32)), .val (.int (1 : Int32)), .val (.int vc), .val (.int n1), .val (.int n2), .val (.int x0), .val (.int x1), .val (.int y0), .val (.int y1), .val .null, .val .null, .val (.ref b30), .val (.int (if vr = (0 : Int32) then (0 : Int32) else (1 : Int32))), .unset, .unset] [])) _
                  refine XS.iconst X32.here hx rfl (hb hby at_249) ?_
                  show Steps p.tables e below (T32.setTop (mkF m 250 #[.val (.int p1), .val (.int p2), .val (.int p3), .val (.int vr), .val (.int (1 : Int32)), .val (.int (1 : Int32)), .val (.int (1 : Int32)), .val (.int vc), .val (.int n1), .val (.int n2), .val (.int x0), .val (.int x1), .val (.int y0), .val (.int y1), .val .null, .val .null, .val (.ref b30), .val (.int (if vr = (0 : Int32) then (0 : Int32) else (1 : Int32))), .unset, .unset] [(.int (1 : Int32))])) _
                  refine XS.goto X32.here hx rfl (pc0 := 250) (pc' := 254) rfl (hb hby at_250) (by decide) (by decide) ?_
                  show Steps p.tables e below (T32.setTop (mkF m 254 #[.val (.int p1), .val (.int p2), .val (.int p3), .val (.int vr), .val (.int (1 : Int32)), .val (.int (1 : Int32)), .val (.int (1 : Int32)), .val (.int vc), .val (.int n1), .val (.int n2), .val (.int x0), .val (.int x1), .val (.int y0), .val (.int y1), .val .null, .val .null, .val (.ref b30), .val (.int (if vr = (0 : Int32) then (0 : Int32) else (1 : Int32))), .unset, .unset] [(.int (1 : Int32))])) _
                  first | exact kt | (simp only [if_pos hq220, if_neg hq226, if_pos hq233, if_pos hq239]; exact kt)
                · simp only [if_neg hq239] at kt
                  refine XS.icmpNo X32.here hx rfl (hb hby at_239) rfl (flt hq239).1 ?_
                  show Steps p.tables e below (T32.setTop (mkF m 242 #[.val (.int p1), .val (.int p2), .val (.int p3), .val (.int vr), .val (.int (1 : Int32)), .val (.int (1 : Int32)), .val (.int (1 : Int32)), .val (.int vc), .val (.int n1), .val (.int n2), .val (.int x0), .val (.int x1), .val (.int y0), .val (.int y1), .val .null, .val .null, .val (.ref b30), .val (.int (if vr = (0 : Int32) then (0 : Int32) else (1 : Int32))), .unset, .unset] [])) _
                  refine XS.iload X32.here hx rfl (hb hby at_242) rfl ?_
                  show Steps p.tables e below (T32.setTop (mkF m 244 #[.val (.int p1), .val (.int p2), .val (.int p3), .val (.int vr), .val (.int (1 : Int32)), .val (.int (1 : Int32)), .val (.int (1 : Int32)), .val (.int vc), .val (.int n1), .val (.int n2), .val (.int x0), .val (.int x1), .val (.int y0), .val (.int y1), .val .null, .val .null, .val (.ref b30), .val (.int (if vr = (0 : Int32) then (0 : Int32) else (1 : Int32))), .unset, .unset] [(.int x1)])) _
                  refine XS.iload X32.here hx rfl (hb hby at_244) rfl ?_
                  show Steps p.tables e below (T32.setTop (mkF m 246 #[.val (.int p1), .val (.int p2), .val (.int p3), .val (.int vr), .val (.int (1 : Int32)), .val (.int (1 : Int32)), .val (.int (1 : Int32)), .val (.int vc), .val (.int n1), .val (.int n2), .val (.int x0), .val (.int x1), .val (.int y0), .val (.int y1), .val .null, .val .null, .val (.ref b30), .val (.int (if vr = (0 : Int32) then (0 : Int32) else (1 : Int32))), .unset, .unset] [(.int y1), (.int x1)])) _
                  by_cases hq246 : x1 = y1
                  · simp only [if_pos hq246] at kt
                    refine XS.icmpNo X32.here hx rfl (hb hby at_246) rfl (teq hq246).2 ?_
                    show Steps p.tables e below (T32.setTop (mkF m 249 #[.val (.int p1), .val (.int p2), .val (.int p3), .val (.int vr), .val (.int (1 : Int32)), .val (.int (1 : Int32)), .val (.int (1 : Int32)), .val (.int vc), .val (.int n1), .val (.int n2), .val (.int x0), .val (.int x1), .val (.int y0), .val (.int y1), .val .null, .val .null, .val (.ref b30), .val (.int (if vr = (0 : Int32) then (0 : Int32) else (1 : Int32))), .unset, .unset] [])) _
                    refine XS.iconst X32.here hx rfl (hb hby at_249) ?_
                    show Steps p.tables e below (T32.setTop (mkF m 250 #[.val (.int p1), .val (.int p2), .val (.int p3), .val (.int vr), .val (.int (1 : Int32)), .val (.int (1 : Int32)), .val (.int (1 : Int32)), .val (.int vc), .val (.int n1), .val (.int n2), .val (.int x0), .val (.int x1), .val (.int y0), .val (.int y1), .val .null, .val .null, .val (.ref b30), .val (.int (if vr = (0 : Int32) then (0 : Int32) else (1 : Int32))), .unset, .unset] [(.int (1 : Int32))])) _
                    refine XS.goto X32.here hx rfl (pc0 := 250) (pc' := 254) rfl (hb hby at_250) (by decide) (by decide) ?_
                    show Steps p.tables e below (T32.setTop (mkF m 254 #[.val (.int p1), .val (.int p2), .val (.int p3), .val (.int vr), .val (.int (1 : Int32)), .val (.int (1 : Int32)), .val (.int (1 : Int32)), .val (.int vc), .val (.int n1), .val (.int n2), .val (.int x0), .val (.int x1), .val (.int y0), .val (.int y1), .val .null, .val .null, .val (.ref b30), .val (.int (if vr = (0 : Int32) then (0 : Int32) else (1 : Int32))), .unset, .unset] [(.int (1 : Int32))])) _
                    first | exact kt | (simp only [if_pos hq220, if_neg hq226, if_pos hq233, if_neg hq239, if_pos hq246]; exact kt)
                  · simp only [if_neg hq246] at kt
                    refine XS.icmpYes X32.here hx rfl (pc0 := 246) (pc' := 253) rfl (hb hby at_246) rfl (feq hq246).2 (by decide) (by decide) ?_
                    show Steps p.tables e below (T32.setTop (mkF m 253 #[.val (.int p1), .val (.int p2), .val (.int p3), .val (.int vr), .val (.int (1 : Int32)), .val (.int (1 : Int32)), .val (.int (1 : Int32)), .val (.int vc), .val (.int n1), .val (.int n2), .val (.int x0), .val (.int x1), .val (.int y0), .val (.int y1), .val .null, .val .null, .val (.ref b30), .val (.int (if vr = (0 : Int32) then (0 : Int32) else (1 : Int32))), .unset, .unset] [])) _
                    refine XS.iconst X32.here hx rfl (hb hby at_253) ?_
                    show Steps p.tables e below (T32.setTop (mkF m 254 #[.val (.int p1), .val (.int p2), .val (.int p3), .val (.int vr), .val (.int (1 : Int32)), .val (.int (1 : Int32)), .val (.int (1 : Int32)), .val (.int vc), .val (.int n1), .val (.int n2), .val (.int x0), .val (.int x1), .val (.int y0), .val (.int y1), .val .null, .val .null, .val (.ref b30), .val (.int (if vr = (0 : Int32) then (0 : Int32) else (1 : Int32))), .unset, .unset] [(.int (0 : Int32))])) _
                    first | exact kt | (simp only [if_pos hq220, if_neg hq226, if_pos hq233, if_neg hq239, if_neg hq246]; exact kt)
              · simp only [if_neg hq233] at kt
                refine XS.icmpYes X32.here hx rfl (pc0 := 233) (pc' := 253) rfl (hb hby at_233) rfl (feq hq233).2 (by decide) (by decide) ?_
                show Steps p.tables e below (T32.setTop (mkF m 253 #[.val (.int p1), .val (.int p2), .val (.int p3), .val (.int vr), .val (.int (1 : Int32)), .val (.int (1 : Int32)), .val (.int (1 : Int32)), .val (.int vc), .val (.int n1), .val (.int n2), .val (.int x0), .val (.int x1), .val (.int y0), .val (.int y1), .val .null, .val .null, .val (.ref b30), .val (.int (if vr = (0 : Int32) then (0 : Int32) else (1 : Int32))), .unset, .unset] [])) _
                refine XS.iconst X32.here hx rfl (hb hby at_253) ?_
                show Steps p.tables e below (T32.setTop (mkF m 254 #[.val (.int p1), .val (.int p2), .val (.int p3), .val (.int vr), .val (.int (1 : Int32)), .val (.int (1 : Int32)), .val (.int (1 : Int32)), .val (.int vc), .val (.int n1), .val (.int n2), .val (.int x0), .val (.int x1), .val (.int y0), .val (.int y1), .val .null, .val .null, .val (.ref b30), .val (.int (if vr = (0 : Int32) then (0 : Int32) else (1 : Int32))), .unset, .unset] [(.int (0 : Int32))])) _
                first | exact kt | (simp only [if_pos hq220, if_neg hq226, if_neg hq233]; exact kt)
          · simp only [if_neg hq220] at kt
            refine XS.icmpYes X32.here hx rfl (pc0 := 220) (pc' := 253) rfl (hb hby at_220) rfl (feq hq220).2 (by decide) (by decide) ?_
            show Steps p.tables e below (T32.setTop (mkF m 253 #[.val (.int p1), .val (.int p2), .val (.int p3), .val (.int vr), .val (.int (1 : Int32)), .val (.int (1 : Int32)), .val (.int (1 : Int32)), .val (.int vc), .val (.int n1), .val (.int n2), .val (.int x0), .val (.int x1), .val (.int y0), .val (.int y1), .val .null, .val .null, .val (.ref b30), .val (.int (if vr = (0 : Int32) then (0 : Int32) else (1 : Int32))), .unset, .unset] [])) _
            refine XS.iconst X32.here hx rfl (hb hby at_253) ?_
            show Steps p.tables e below (T32.setTop (mkF m 254 #[.val (.int p1), .val (.int p2), .val (.int p3), .val (.int vr), .val (.int (1 : Int32)), .val (.int (1 : Int32)), .val (.int (1 : Int32)), .val (.int vc), .val (.int n1), .val (.int n2), .val (.int x0), .val (.int x1), .val (.int y0), .val (.int y1), .val .null, .val .null, .val (.ref b30), .val (.int (if vr = (0 : Int32) then (0 : Int32) else (1 : Int32))), .unset, .unset] [(.int (0 : Int32))])) _
            first | exact kt | (simp only [if_neg hq220]; exact kt)
        show Goes p e below _ T32 (mkF m 254 #[.val (.int p1), .val (.int p2), .val (.int p3), .val (.int vr), .val (.int (1 : Int32)), .val (.int (1 : Int32)), .val (.int (1 : Int32)), .val (.int vc), .val (.int n1), .val (.int n2), .val (.int x0), .val (.int x1), .val (.int y0), .val (.int y1), .val .null, .val .null, .val (.ref b30), .val (.int (if vr = (0 : Int32) then (0 : Int32) else (1 : Int32))), .unset, .unset] [(.int (if n1 = n2 then (if n1 < (1 : Int32) then (if n1 < (2 : Int32) then (1 : Int32) else (if x1 = y1 then (1 : Int32) else (0 : Int32))) else (if x0 = y0 then (if n1 < (2 : Int32) then (1 : Int32) else (if x1 = y1 then (1 : Int32) else (0 : Int32))) else (0 : Int32))) else (0 : Int32)))])
        refine Goes.of (fun _ => XS.istore X32.here hx rfl (hb hby at_254) rfl (l' := #[.val (.int p1), .val (.int p2), .val (.int p3), .val (.int vr), .val (.int (1 : Int32)), .val (.int (1 : Int32)), .val (.int (1 : Int32)), .val (.int vc), .val (.int n1), .val (.int n2), .val (.int x0), .val (.int x1), .val (.int y0), .val (.int y1), .val .null, .val .null, .val (.ref b30), .val (.int (if vr = (0 : Int32) then (0 : Int32) else (1 : Int32))), .val (.int (if n1 = n2 then (if n1 < (1 : Int32) then (if n1 < (2 : Int32) then (1 : Int32) else (if x1 = y1 then (1 : Int32) else (0 : Int32))) else (if x0 = y0 then (if n1 < (2 : Int32) then (1 : Int32) else (if x1 = y1 then (1 : Int32) else (0 : Int32))) else (0 : Int32))) else (0 : Int32))), .unset]) rfl) ?_
        show Goes p e below _ T32 (mkF m 256 #[.val (.int p1), .val (.int p2), .val (.int p3), .val (.int vr), .val (.int (1 : Int32)), .val (.int (1 : Int32)), .val (.int (1 : Int32)), .val (.int vc), .val (.int n1), .val (.int n2), .val (.int x0), .val (.int x1), .val (.int y0), .val (.int y1), .val .null, .val .null, .val (.ref b30), .val (.int (if vr = (0 : Int32) then (0 : Int32) else (1 : Int32))), .val (.int (if n1 = n2 then (if n1 < (1 : Int32) then (if n1 < (2 : Int32) then (1 : Int32) else (if x1 = y1 then (1 : Int32) else (0 : Int32))) else (if x0 = y0 then (if n1 < (2 : Int32) then (1 : Int32) else (if x1 = y1 then (1 : Int32) else (0 : Int32))) else (0 : Int32))) else (0 : Int32))), .unset] [])
        generalize erf : (if n1 = n2 then (if n1 < (1 : Int32) then (if n1 < (2 : Int32) then (1 : Int32) else (if x1 = y1 then (1 : Int32) else (0 : Int32))) else (if x0 = y0 then (if n1 < (2 : Int32) then (1 : Int32) else (if x1 = y1 then (1 : Int32) else (0 : Int32))) else (0 : Int32))) else (0 : Int32)) = rf
        show Goes p e below _ T32 (mkF m 256 #[.val (.int p1), .val (.int p2), .val (.int p3), .val (.int vr), .val (.int (1 : Int32)), .val (.int (1 : Int32)), .val (.int (1 : Int32)), .val (.int vc), .val (.int n1), .val (.int n2), .val (.int x0), .val (.int x1), .val (.int y0), .val (.int y1), .val .null, .val .null, .val (.ref b30), .val (.int (if vr = (0 : Int32) then (0 : Int32) else (1 : Int32))), .val (.int rf), .unset] [])
        refine Goes.of (fun _ => XS.iloadN X32.here hx rfl (hb hby at_256) rfl) ?_
        show Goes p e below _ T32 (mkF m 257 #[.val (.int p1), .val (.int p2), .val (.int p3), .val (.int vr), .val (.int (1 : Int32)), .val (.int (1 : Int32)), .val (.int (1 : Int32)), .val (.int vc), .val (.int n1), .val (.int n2), .val (.int x0), .val (.int x1), .val (.int y0), .val (.int y1), .val .null, .val .null, .val (.ref b30), .val (.int (if vr = (0 : Int32) then (0 : Int32) else (1 : Int32))), .val (.int rf), .unset] [(.int vr)])
        refine Goes.of (T' := T32) (f' := (mkF m 313 #[.val (.int p1), .val (.int p2), .val (.int p3), .val (.int vr), .val (.int (1 : Int32)), .val (.int (1 : Int32)), .val (.int (1 : Int32)), .val (.int vc), .val (.int n1), .val (.int n2), .val (.int x0), .val (.int x1), .val (.int y0), .val (.int y1), .val .null, .val .null, .val (.ref b30), .val (.int (if vr = (0 : Int32) then (0 : Int32) else (1 : Int32))), .val (.int rf), .val (.int (if vr = (0 : Int32) then (0 : Int32) else (1 : Int32)))] [])) (fun t kt => ?_) ?_
        · show Steps p.tables e below (T32.setTop (mkF m 257 #[.val (.int p1), .val (.int p2), .val (.int p3), .val (.int vr), .val (.int (1 : Int32)), .val (.int (1 : Int32)), .val (.int (1 : Int32)), .val (.int vc), .val (.int n1), .val (.int n2), .val (.int x0), .val (.int x1), .val (.int y0), .val (.int y1), .val .null, .val .null, .val (.ref b30), .val (.int (if vr = (0 : Int32) then (0 : Int32) else (1 : Int32))), .val (.int rf), .unset] [(.int vr)])) _
          by_cases hq257 : vr = (0 : Int32)
          · simp only [if_pos hq257] at kt
            refine XS.ifNo X32.here hx rfl (hb hby at_257) rfl ((if0 _ _).trans (teq hq257).2) ?_
            show Steps p.tables e below (T32.setTop (mkF m 260 #[.val (.int p1), .val (.int p2), .val (.int p3), .val (.int vr), .val (.int (1 : Int32)), .val (.int (1 : Int32)), .val (.int (1 : Int32)), .val (.int vc), .val (.int n1), .val (.int n2), .val (.int x0), .val (.int x1), .val (.int y0), .val (.int y1), .val .null, .val .null, .val (.ref b30), .val (.int (if vr = (0 : Int32) then (0 : Int32) else (1 : Int32))), .val (.int rf), .unset] [])) _
            refine XS.iconst X32.here hx rfl (hb hby at_260) ?_
            show Steps p.tables e below (T32.setTop (mkF m 261 #[.val (.int p1), .val (.int p2), .val (.int p3), .val (.int vr), .val (.int (1 : Int32)), .val (.int (1 : Int32)), .val (.int (1 : Int32)), .val (.int vc), .val (.int n1), .val (.int n2), .val (.int x0), .val (.int x1), .val (.int y0), .val (.int y1), .val .null, .val .null, .val (.ref b30), .val (.int (if vr = (0 : Int32) then (0 : Int32) else (1 : Int32))), .val (.int rf), .unset] [(.int (0 : Int32))])) _
            refine XS.istore X32.here hx rfl (hb hby at_261) rfl (l' := #[.val (.int p1), .val (.int p2), .val (.int p3), .val (.int vr), .val (.int (1 : Int32)), .val (.int (1 : Int32)), .val (.int (1 : Int32)), .val (.int vc), .val (.int n1), .val (.int n2), .val (.int x0), .val (.int x1), .val (.int y0), .val (.int y1), .val .null, .val .null, .val (.ref b30), .val (.int (if vr = (0 : Int32) then (0 : Int32) else (1 : Int32))), .val (.int rf), .val (.int (0 : Int32))]) rfl ?_
            show Steps p.tables e below (T32.setTop (mkF m 263 #[.val (.int p1), .val (.int p2), .val (.int p3), .val (.int vr), .val (.int (1 : Int32)), .val (.int (1 : Int32)), .val (.int (1 : Int32)), .val (.int vc), .val (.int n1), .val (.int n2), .val (.int x0), .val (.int x1), .val (.int y0), .val (.int y1), .val .null, .val .null, .val (.ref b30), .val (.int (if vr = (0 : Int32) then (0 : Int32) else (1 : Int32))), .val (.int rf), .val (.int (0 : Int32))] [])) _
            refine XS.goto X32.here hx rfl (pc0 := 263) (pc' := 313) rfl (hb hby at_263) (by decide) (by decide) ?_
            show Steps p.tables e below (T32.setTop (mkF m 313 #[.val (.int p1), .val (.int p2), .val (.int p3), .val (.int vr), .val (.int (1 : Int32)), .val (.int (1 : Int32)), .val (.int (1 : Int32)), .val (.int vc), .val (.int n1), .val (.int n2), .val (.int x0), .val (.int x1), .val (.int y0), .val (.int y1), .val .null, .val .null, .val (.ref b30), .val (.int (if vr = (0 : Int32) then (0 : Int32) else (1 : Int32))), .val (.int rf), .val (.int (0 : Int32))] [])) _
            first | exact kt | (simp only [if_pos hq257]; exact kt)
          · simp only [if_neg hq257] at kt
            refine XS.ifYes X32.here hx rfl (pc0 := 257) (pc' := 266) rfl (hb hby at_257) rfl ((if0 _ _).trans (feq hq257).2) (by decide) (by decide) ?_
            show Steps p.tables e below (T32.setTop (mkF m 266 #[.val (.int p1), .val (.int p2), .val (.int p3), .val (.int vr), .val (.int (1 : Int32)), .val (.int (1 : Int32)), .val (.int (1 : Int32)), .val (.int vc), .val (.int n1), .val (.int n2), .val (.int x0), .val (.int x1), .val (.int y0), .val (.int y1), .val .null, .val .null, .val (.ref b30), .val (.int (if vr = (0 : Int32) then (0 : Int32) else (1 : Int32))), .val (.int rf), .unset] [])) _
            refine XS.iload X32.here hx rfl (hb hby at_266) rfl ?_
            show Steps p.tables e below (T32.setTop (mkF m 268 #[.val (.int p1), .val (.int p2), .val (.int p3), .val (.int vr), .val (.int (1 : Int32)), .val (.int (1 : Int32)), .val (.int (1 : Int32)), .val (.int vc), .val (.int n1), .val (.int n2), .val (.int x0), .val (.int x1), .val (.int y0), .val (.int y1), .val .null, .val .null, .val (.ref b30), .val (.int (if vr = (0 : Int32) then (0 : Int32) else (1 : Int32))), .val (.int rf), .unset] [(.int (1 : Int32))])) _
            refine XS.ifNo X32.here hx rfl (hb hby at_268) rfl ((if0 _ _).trans (feq (by decide)).1) ?_
            show Steps p.tables e below (T32.setTop (mkF m 271 #[.val (.int p1), .val (.int p2), .val (.int p3), .val (.int vr), .val (.int (1 : Int32)), .val (.int (1 : Int32)), .val (.int (1 : Int32)), .val (.int vc), .val (.int n1), .val (.int n2), .val (.int x0), .val (.int x1), .val (.int y0), .val (.int y1), .val .null, .val .null, .val (.ref b30), .val (.int (if vr = (0 : Int32) then (0 : Int32) else (1 : Int32))), .val (.int rf), .unset] [])) _
            refine XS.iload X32.here hx rfl (hb hby at_271) rfl ?_
            show Steps p.tables e below (T32.setTop (mkF m 273 #[.val (.int p1), .val (.int p2), .val (.int p3), .val (.int vr), .val (.int (1 : Int32)), .val (.int (1 : Int32)), .val (.int (1 : Int32)), .val (.int vc), .val (.int n1), .val (.int n2), .val (.int x0), .val (.int x1), .val (.int y0), .val (.int y1), .val .null, .val .null, .val (.ref b30), .val (.int (if vr = (0 : Int32) then (0 : Int32) else (1 : Int32))), .val (.int rf), .unset] [(.int (1 : Int32))])) _
            refine XS.ifYes X32.here hx rfl (pc0 := 273) (pc' := 281) rfl (hb hby at_273) rfl ((if0 _ _).trans (feq (by decide)).2) (by decide) (by decide) ?_
            show Steps p.tables e below (T32.setTop (mkF m 281 #[.val (.int p1), .val (.int p2), .val (.int p3), .val (.int vr), .val (.int (1 : Int32)), .val (.int (1 : Int32)), .val (.int (1 : Int32)), .val (.int vc), .val (.int n1), .val (.int n2), .val (.int x0), .val (.int x1), .val (.int y0), .val (.int y1), .val .null, .val .null, .val (.ref b30), .val (.int (if vr = (0 : Int32) then (0 : Int32) else (1 : Int32))), .val (.int rf), .unset] [])) _
            refine XS.iconst X32.here hx rfl (hb hby at_281) ?_
            show Steps p.tables e below (T32.setTop (mkF m 282 #[.val (.int p1), .val (.int p2), .val (.int p3), .val (.int vr), .val (.int (1 : Int32)), .val (.int (1 : Int32)), .val (.int (1 : Int32)), .val (.int vc), .val (.int n1), .val (.int n2), .val (.int x0), .val (.int x1), .val (.int y0), .val (.int y1), .val .null, .val .null, .val (.ref b30), .val (.int (if vr = (0 : Int32) then (0 : Int32) else (1 : Int32))), .val (.int rf), .unset] [(.int (1 : Int32))])) _
            refine XS.goto X32.here hx rfl (pc0 := 282) (pc' := 286) rfl (hb hby at_282) (by decide) (by decide) ?_
            show Steps p.tables e below (T32.setTop (mkF m 286 #[.val (.int p1), .val (.int p2), .val (.int p3), .val (.int vr), .val (.int (1 : Int32)), .val (.int (1 : Int32)), .val (.int (1 : Int32)), .val (.int vc), .val (.int n1), .val (.int n2), .val (.int x0), .val (.int x1), .val (.int y0), .val (.int y1), .val .null, .val .null, .val (.ref b30), .val (.int (if vr = (0 : Int32) then (0 : Int32) else (1 : Int32))), .val (.int rf), .unset] [(.int (1 : Int32))])) _
            refine XS.istore X32.here hx rfl (hb hby at_286) rfl (l' := #[.val (.int p1), .val (.int p2), .val (.int p3), .val (.int vr), .val (.int (1 : Int32)), .val (.int (1 : Int32)), .val (.int (1 : Int32)), .val (.int vc), .val (.int n1), .val (.int n2), .val (.int x0), .val (.int x1), .val (.int y0), .val (.int y1), .val .null, .val .null, .val (.ref b30), .val (.int (if vr = (0 : Int32) then (0 : Int32) else (1 : Int32))), .val (.int rf), .val (.int (1 : Int32))]) rfl ?_
            show Steps p.tables e below (T32.setTop (mkF m 288 #[.val (.int p1), .val (.int p2), .val (.int p3), .val (.int vr), .val (.int (1 : Int32)), .val (.int (1 : Int32)), .val (.int (1 : Int32)), .val (.int vc), .val (.int n1), .val (.int n2), .val (.int x0), .val (.int x1), .val (.int y0), .val (.int y1), .val .null, .val .null, .val (.ref b30), .val (.int (if vr = (0 : Int32) then (0 : Int32) else (1 : Int32))), .val (.int rf), .val (.int (1 : Int32))] [])) _
            refine XS.goto X32.here hx rfl (pc0 := 288) (pc' := 313) rfl (hb hby at_288) (by decide) (by decide) ?_
            show Steps p.tables e below (T32.setTop (mkF m 313 #[.val (.int p1), .val (.int p2), .val (.int p3), .val (.int vr), .val (.int (1 : Int32)), .val (.int (1 : Int32)), .val (.int (1 : Int32)), .val (.int vc), .val (.int n1), .val (.int n2), .val (.int x0), .val (.int x1), .val (.int y0), .val (.int y1), .val .null, .val .null, .val (.ref b30), .val (.int (if vr = (0 : Int32) then (0 : Int32) else (1 : Int32))), .val (.int rf), .val (.int (1 : Int32))] [])) _
            first | exact kt | (simp only [if_neg hq257]; exact kt)
        show Goes p e below _ T32 (mkF m 313 #[.val (.int p1), .val (.int p2), .val (.int p3), .val (.int vr), .val (.int (1 : Int32)), .val (.int (1 : Int32)), .val (.int (1 : Int32)), .val (.int vc), .val (.int n1), .val (.int n2), .val (.int x0), .val (.int x1), .val (.int y0), .val (.int y1), .val .null, .val .null, .val (.ref b30), .val (.int (if vr = (0 : Int32) then (0 : Int32) else (1 : Int32))), .val (.int rf), .val (.int (if vr = (0 : Int32) then (0 : Int32) else (1 : Int32)))] [])
        refine Goes.of (fun _ => XS.iload X32.here hx rfl (hb hby at_313) rfl) ?_
        show Goes p e below _ T32 (mkF m 315 #[.val (.int p1), .val (.int p2), .val (.int p3), .val (.int vr), .val (.int (1 : Int32)), .val (.int (1 : Int32)), .val (.int (1 : Int32)), .val (.int vc), .val (.int n1), .val (.int n2), .val (.int x0), .val (.int x1), .val (.int y0), .val (.int y1), .val .null, .val .null, .val (.ref b30), .val (.int (if vr = (0 : Int32) then (0 : Int32) else (1 : Int32))), .val (.int rf), .val (.int (if vr = (0 : Int32) then (0 : Int32) else (1 : Int32)))] [(.int (if vr = (0 : Int32) then (0 : Int32) else (1 : Int32)))])
        refine Goes.of (fun _ => XS.iload X32.here hx rfl (hb hby at_315) rfl) ?_
        show Goes p e below _ T32 (mkF m 317 #[.val (.int p1), .val (.int p2), .val (.int p3), .val (.int vr), .val (.int (1 : Int32)), .val (.int (1 : Int32)), .val (.int (1 : Int32)), .val (.int vc), .val (.int n1), .val (.int n2), .val (.int x0), .val (.int x1), .val (.int y0), .val (.int y1), .val .null, .val .null, .val (.ref b30), .val (.int (if vr = (0 : Int32) then (0 : Int32) else (1 : Int32))), .val (.int rf), .val (.int (if vr = (0 : Int32) then (0 : Int32) else (1 : Int32)))] [(.int (if vr = (0 : Int32) then (0 : Int32) else (1 : Int32))), (.int (if vr = (0 : Int32) then (0 : Int32) else (1 : Int32)))])
        refine Goes.of (fun _ => XS.icmpNo X32.here hx rfl (hb hby at_317) rfl (teq rfl).2) ?_
        show Goes p e below _ T32 (mkF m 320 #[.val (.int p1), .val (.int p2), .val (.int p3), .val (.int vr), .val (.int (1 : Int32)), .val (.int (1 : Int32)), .val (.int (1 : Int32)), .val (.int vc), .val (.int n1), .val (.int n2), .val (.int x0), .val (.int x1), .val (.int y0), .val (.int y1), .val .null, .val .null, .val (.ref b30), .val (.int (if vr = (0 : Int32) then (0 : Int32) else (1 : Int32))), .val (.int rf), .val (.int (if vr = (0 : Int32) then (0 : Int32) else (1 : Int32)))] [])
        refine Goes.of (fun _ => XS.iconst X32.here hx rfl (hb hby at_320)) ?_
        show Goes p e below _ T32 (mkF m 321 #[.val (.int p1), .val (.int p2), .val (.int p3), .val (.int vr), .val (.int (1 : Int32)), .val (.int (1 : Int32)), .val (.int (1 : Int32)), .val (.int vc), .val (.int n1), .val (.int n2), .val (.int x0), .val (.int x1), .val (.int y0), .val (.int y1), .val .null, .val .null, .val (.ref b30), .val (.int (if vr = (0 : Int32) then (0 : Int32) else (1 : Int32))), .val (.int rf), .val (.int (if vr = (0 : Int32) then (0 : Int32) else (1 : Int32)))] [(.int (1 : Int32))])
        refine Goes.of (fun _ => XS.goto X32.here hx rfl (pc0 := 321) (pc' := 325) rfl (hb hby at_321) (by decide) (by decide)) ?_
        show Goes p e below _ T32 (mkF m 325 #[.val (.int p1), .val (.int p2), .val (.int p3), .val (.int vr), .val (.int (1 : Int32)), .val (.int (1 : Int32)), .val (.int (1 : Int32)), .val (.int vc), .val (.int n1), .val (.int n2), .val (.int x0), .val (.int x1), .val (.int y0), .val (.int y1), .val .null, .val .null, .val (.ref b30), .val (.int (if vr = (0 : Int32) then (0 : Int32) else (1 : Int32))), .val (.int rf), .val (.int (if vr = (0 : Int32) then (0 : Int32) else (1 : Int32)))] [(.int (1 : Int32))])
        exact retZW (t := .boolean) X32 hS hk hZ hEL HC hx hret hlk (by simp) (hb hby at_325) eT32 (by decide) (by decide) ⟨rfl, N32⟩
set_option maxRecDepth 65536 in
set_option maxHeartbeats 40000000 in
theorem comes_1 {Post : Tables → Env → Array Value → State → Outcome → State → Prop} (hpost : ∀ tb e args s v u, (limb_1_1.after args s (.returned v) u = true ∧ limb_1_2.after args s (.returned v) u = true ∧ True) → ReturnedEndW s (.returned v) u (Jvm.fieldLocs frame_1_writes args s ++ Jvm.arrayLocs frame_1_arrays args s ++ Jvm.staticLocs frame_1_statics s) 24 1152 → Post tb e args s (.returned v) u) :
    ArmFor flags0 classFile x code maxLocals ret World_1 tables_1 room_1 Calls_1 rest_1 Pre_1 Post := by
  intro l hfl _ _ p e ha hc hk s m args below hf hA hF happ hP
  obtain ⟨hcalls, hrest, hpre⟩ := hP
  obtain ⟨-, -, -, hnamed, -, -, -, hat⟩ := (Spec.applies_iff hf).mp happ
  obtain ⟨hg, hn⟩ := and_e (Cond.before_iff.mp (show (Jvm.Cond.and given_1 narrow_1).before args s = true from hpre))
  obtain ⟨hcount, hg0⟩ := and_e hg
  obtain ⟨hv0, hg1⟩ := and_e hg0
  obtain ⟨hv1, hg2⟩ := and_e hg1
  have hv2 := hg2
  obtain ⟨w0, w1, w2, rfl⟩ : ∃ w0 w1 w2 : Value, args = #[w0, w1, w2] := by
    have hs : args.size = 3 := by simpa [Cond.value, given_1] using hcount
    obtain ⟨L⟩ := args
    match L, hs with
    | [w0, w1, w2], _ => exact ⟨w0, w1, w2, rfl⟩
  have hw := fun d (hd : d ∈ tables_1) => atoms_spec (ws := Jvm.Cond.code x code maxLocals ret :: tables_1) hat d (List.mem_cons_of_mem _ hd)
  have hfit : Fit s := fun {y c} hc i hi => by
    obtain ⟨ha, rfl⟩ := Array.getElem?_eq_some_iff.mp hc
    have q := List.all_eq_true.mp ((Array.all_eq_true_iff_forall_mem.mp hF) _ (Array.getElem_mem ha)) i (List.mem_range.mpr hi)
    simpa [Array.getElem?_eq_getElem hi] using q
  obtain ⟨hsets, hown0⟩ := atoms_of _ (rest_1_c_eq ▸ (show rest_1_c.before _ s = true from hrest))
  obtain ⟨i0, ei0⟩ := is_v hv0
  obtain rfl : w0 = (.int i0) := Option.some.inj ei0
  obtain ⟨i1, ei1⟩ := is_v hv1
  obtain rfl : w1 = (.int i1) := Option.some.inj ei1
  obtain ⟨i2, ei2⟩ := is_v hv2
  obtain rfl : w2 = (.int i2) := Option.some.inj ei2
  obtain ⟨cz, evcz⟩ := is_v (Cond.before_iff.mp (hsets _ (List.mem_of_getElem? (i := 1) rfl)))
  have Sc := Sta.start evcz (Or.inl (hsets _ (List.mem_of_getElem? (i := 0) rfl)))
  have hcz := ne_of_not evcz (hsets _ (List.mem_of_getElem? (i := 2) rfl))
  have hCH : CHv s EL s.vm s.heap := CHv.start (hELof hw) (fun p hp => hcalls.1 p hp) (hsets _ (List.mem_of_getElem? (i := 2) rfl)) (hw _ (List.mem_of_getElem? (i := 19) rfl)) (hw _ (List.mem_of_getElem? (i := 5) rfl))
  obtain ⟨n, o, h1, h2, h3, _, L, rfl, ⟨rfl, N⟩, -, hq⟩ := rm_law l s _ hw tables_1 i0 i1 i2 cz s.heap s.heap.size (Old.start s) Sc hcz p e ha hc hk s m _ below hf ((Spec.applies_iff_loose hf).mp happ).1 ⟨rfl, State.Warmed39.refl s, rfl, hCH⟩ trivial
  refine ⟨n, _, h1, h2, h3, hpost _ _ _ _ _ _ ⟨Cond.after_iff.mpr rfl, Cond.after_iff.mpr (eq_i res_at (Term.int_eval (1)) rfl), trivial⟩ ⟨hq.1, hq.2.1, hq.2.2.1, (hq.2.2.2.sift fun y hy => Or.inr (N y hy)).mono (by decide) (by decide)⟩⟩
theorem main_1_1 : Claimed_1_1 := comes_1 fun _ _ _ _ _ _ h hF => ⟨h.1, hF⟩
theorem main_1_2 : Claimed_1_2 := comes_1 fun _ _ _ _ _ _ h hF => ⟨h.2.1, hF⟩
end Jvm.Pilot.@@N@@
namespace Jvm.Pilot.@@N@@
open Jvm Jvm.ClassFile Sem Op Lib Jvm.Free Jvm.Stand Jvm.Pilot.@@N@@.Jvm.D
/-! MADE BY PROGRAM (witnessworld.py) out of the Statement's table words and the real class files: 22 classes; the members and pool entries that the words name. The judged class is class 1, her method 2. -/
namespace start1
open Jvm.ClassFile
def u (s : String) : CpInfo := .utf8 (stringToUtf16 s)
/-- a pool by its gaps: so many unusable entries, then the entry; so many at the end -/
def gap : Nat → List CpInfo → List CpInfo
  | 0, r => r
  | n + 1, r => .unusable :: gap n r
def poolList (es : List (Nat × CpInfo)) (last : Nat) : List CpInfo := es.foldr (fun e r => gap e.1 (e.2 :: r)) (gap last [])
def pool (es : List (Nat × CpInfo)) (last : Nat) : Array CpInfo := ⟨poolList es last⟩
def fileOf (pool : Array CpInfo) (this : Nat) (attrs : Array Attribute := #[]) (ms : Array MethodInfo := #[]) (fl : Nat := 33) (sup : Nat := 0) (ifs : Array Nat := #[]) (fds : Array FieldInfo := #[]) : ClassFile where
  minorVersion := 0
  majorVersion := 65
  constantPool := pool
  accessFlags := fl
  thisClass := this
  superClass := sup
  interfaces := ifs
  fields := fds
  methods := ms
  attributes := attrs
def plain (name : String) (sup : Option ClassId) : Class where
  name := name
  kind := .ordinary
  loader := none
  accessFlags := 33
  super := sup
  interfaces := #[]
  cf := none
  fields := #[]
  methods := #[]
  instanceTypes := #[]
  staticTypes := #[]
  resolved := #[]
  callSites := []
  init := .initialized
  statics := none
  mirror := none

def pool0 : Array CpInfo := pool [(5, u "<init>"), (0, u "()V"), (1, .class_ 10), (1, u "java/lang/Object")] 113

def k0c0 : Code := { maxStack := 0, maxLocals := 1, code := object_method_1_code, exceptionTable := #[], attributes := #[] }
def k0m0 : Method := { name := "<init>", desc := "()V", sig := { parameters := [], returnType := none }, accessFlags := 1, code := some k0c0 }
/-- java/lang/Object -/
def k0 : Class := { plain "java/lang/Object" none with
  accessFlags := 33
  interfaces := #[]
  cf := some (fileOf pool0 8 #[] #[{ accessFlags := 1, nameIndex := 5, descriptorIndex := 6, attributes := #[] }] 33 0 #[] #[])
  fields := #[]
  methods := #[k0m0]
  instanceTypes := #[]
  staticTypes := #[]
  resolved := Array.replicate 124 none
  statics := none }

def pool1 : Array CpInfo := pool [(2, .class_ 4), (1, u "java/lang/Object"), (0, u "<init>"), (0, u "()V"), (0, .class_ 8), (0, u "java/lang/String"), (0, .methodref 7 10), (0, .nameAndType 5 11), (0, u "([C)V"), (0, .methodref 13 14), (0, .class_ 15), (0, .nameAndType 16 17), (0, u "com/example/latchwork/latchwork/store/RedisRunKeptAllPinLaw"), (0, u "make"), (0, u "(ICC)Ljava/lang/String;"), (0, .class_ 19), (0, u "com/example/latchwork/latchwork/store/RedisRun$Origin"), (0, .methodref 18 21), (0, .nameAndType 5 22), (0, u "(Ljava/lang/String;Z)V"), (0, .methodref 24 25), (0, .class_ 26), (0, .nameAndType 27 28), (0, u "com/example/latchwork/latchwork/store/RedisRun"), (0, u "keptAll"), (0, u "(Ljava/lang/String;Lcom/example/latchwork/latchwork/store/RedisRun$Origin;Z)Z"), (3, u "law"), (0, u "(III)Z")] 4

def k1m0 : Method := { name := "<init>", desc := "()V", sig := { parameters := [], returnType := none }, accessFlags := 1, code := none }
def k1c1 : Code := { maxStack := 6, maxLocals := 3, code := method_2_code, exceptionTable := #[], attributes := #[] }
def k1m1 : Method := { name := "make", desc := "(ICC)Ljava/lang/String;", sig := { parameters := [.int, .char, .char], returnType := some (.object "java/lang/String") }, accessFlags := 10, code := some k1c1 }
def k1c2 : Code := { maxStack := 4, maxLocals := 20, code := code, exceptionTable := #[], attributes := #[] }
def k1m2 : Method := { name := "law", desc := "(III)Z", sig := { parameters := [.int, .int, .int], returnType := some .boolean }, accessFlags := 9, code := some k1c2 }
/-- com/example/latchwork/latchwork/store/RedisRunKeptAllPinLaw -/
def k1 : Class := { plain "com/example/latchwork/latchwork/store/RedisRunKeptAllPinLaw" (some 0) with
  accessFlags := 49
  interfaces := #[]
  cf := some (fileOf pool1 13 #[] #[{ accessFlags := 1, nameIndex := 5, descriptorIndex := 6, attributes := #[] }, { accessFlags := 10, nameIndex := 16, descriptorIndex := 17, attributes := #[] }, { accessFlags := 9, nameIndex := 32, descriptorIndex := 33, attributes := #[] }] 49 2 #[] #[])
  fields := #[]
  methods := #[k1m0, k1m1, k1m2]
  instanceTypes := #[]
  staticTypes := #[]
  resolved := Array.replicate 38 none
  statics := none }

def pool2 : Array CpInfo := pool [(1, .class_ 2), (0, u "java/io/Serializable"), (0, .class_ 4), (0, u "java/lang/Object")] 2

/-- java/io/Serializable -/
def k2 : Class := { plain "java/io/Serializable" (some 0) with
  accessFlags := 1537
  interfaces := #[]
  cf := some (fileOf pool2 1 #[] #[] 1537 3 #[] #[])
  fields := #[]
  methods := #[]
  instanceTypes := #[]
  staticTypes := #[]
  resolved := Array.replicate 7 none
  statics := none }

def pool3 : Array CpInfo := pool [(1, .class_ 2), (0, u "java/lang/Comparable"), (0, .class_ 4), (0, u "java/lang/Object")] 7

/-- java/lang/Comparable -/
def k3 : Class := { plain "java/lang/Comparable" (some 0) with
  accessFlags := 1537
  interfaces := #[]
  cf := some (fileOf pool3 1 #[] #[] 1537 3 #[] #[])
  fields := #[]
  methods := #[]
  instanceTypes := #[]
  staticTypes := #[]
  resolved := Array.replicate 12 none
  statics := none }

def pool4 : Array CpInfo := pool [(2, .class_ 4), (1, u "java/lang/CharSequence"), (42, .class_ 48), (0, u "java/lang/CharSequence$1CodePointIterator"), (10, .class_ 60), (0, u "java/lang/CharSequence$1CharIterator"), (5, .class_ 67), (0, u "java/lang/Object")] 63

/-- java/lang/CharSequence -/
def k4 : Class := { plain "java/lang/CharSequence" (some 0) with
  accessFlags := 1537
  interfaces := #[]
  cf := some (fileOf pool4 2 #[.nestMembers #[47, 59]] #[] 1537 66 #[] #[])
  fields := #[]
  methods := #[]
  instanceTypes := #[]
  staticTypes := #[]
  resolved := Array.replicate 131 none
  statics := none }

def pool5 : Array CpInfo := pool [(1, .class_ 2), (0, u "java/lang/constant/Constable"), (0, .class_ 4), (0, u "java/lang/Object")] 6

/-- java/lang/constant/Constable -/
def k5 : Class := { plain "java/lang/constant/Constable" (some 0) with
  accessFlags := 1537
  interfaces := #[]
  cf := some (fileOf pool5 1 #[] #[] 1537 3 #[] #[])
  fields := #[]
  methods := #[]
  instanceTypes := #[]
  staticTypes := #[]
  resolved := Array.replicate 11 none
  statics := none }

def pool6 : Array CpInfo := pool [(1, .class_ 2), (0, u "java/lang/constant/ConstantDesc"), (0, .class_ 4), (0, u "java/lang/Object")] 32

/-- java/lang/constant/ConstantDesc -/
def k6 : Class := { plain "java/lang/constant/ConstantDesc" (some 0) with
  accessFlags := 1537
  interfaces := #[]
  cf := some (fileOf pool6 1 #[] #[] 1537 3 #[] #[])
  fields := #[]
  methods := #[]
  instanceTypes := #[]
  staticTypes := #[]
  resolved := Array.replicate 37 none
  statics := none }

def pool7 : Array CpInfo := pool [(1, .methodref 2 3), (0, .class_ 4), (0, .nameAndType 5 6), (0, u "java/lang/Object"), (0, u "<init>"), (0, u "()V"), (0, .string 8), (0, u ""), (0, .fieldref 10 11), (0, .class_ 12), (0, .nameAndType 13 14), (0, u "java/lang/String"), (0, u "value"), (0, u "[B"), (0, .fieldref 10 16), (0, .nameAndType 17 18), (0, u "coder"), (0, u "B"), (2, u "hash"), (0, u "I"), (2, u "hashIsZero"), (0, u "Z"), (0, .methodref 10 28), (0, .nameAndType 5 29), (0, u "([CIILjava/lang/Void;)V"), (8, .fieldref 10 39), (0, .nameAndType 40 26), (0, u "COMPACT_STRINGS"), (1, .class_ 44), (1, u "java/lang/StringUTF16"), (0, u "compress"), (1, .methodref 42 48), (0, .nameAndType 49 50), (0, u "coderFromArrayLen"), (0, u "([BI)B"), (56, .class_ 109), (1, u "java/lang/StringLatin1"), (67, .methodref 42 178), (0, .nameAndType 45 179), (0, u "([CII)[B"), (361, .methodref 107 542), (0, .nameAndType 543 544), (0, u "equals"), (0, u "([B[B)Z"), (28, u "(Ljava/lang/Object;)Z"), (1, .class_ 576), (0, u "java/lang/CharSequence"), (22, u "CASE_INSENSITIVE_ORDER"), (0, u "Ljava/util/Comparator;"), (409, u "([C)V"), (90, u "serialPersistentFields"), (0, u "[Ljava/io/ObjectStreamField;"), (0, .class_ 1104), (0, u "java/lang/String$CaseInsensitiveComparator"), (1, .class_ 1107), (0, u "java/io/Serializable"), (0, .class_ 1109), (0, u "java/lang/Comparable"), (0, .class_ 1111), (0, u "java/lang/constant/Constable"), (0, .class_ 1113), (0, u "java/lang/constant/ConstantDesc"), (2, u "serialVersionUID"), (0, u "J"), (3, u "REPL"), (0, u "C"), (2, u "LATIN1"), (1, u "UTF16")] 323

def k7m0 : Method := { name := "<init>", desc := "()V", sig := { parameters := [], returnType := none }, accessFlags := 1, code := none }
def k7c1 : Code := { maxStack := 5, maxLocals := 2, code := jdk_42_method_3_code, exceptionTable := #[], attributes := #[] }
def k7m1 : Method := { name := "<init>", desc := "([C)V", sig := { parameters := [(.array .char)], returnType := none }, accessFlags := 1, code := some k7c1 }
def k7c2 : Code := { maxStack := 2, maxLocals := 3, code := jdk_42_method_66_code, exceptionTable := #[], attributes := #[] }
def k7m2 : Method := { name := "equals", desc := "(Ljava/lang/Object;)Z", sig := { parameters := [(.object "java/lang/Object")], returnType := some .boolean }, accessFlags := 1, code := some k7c2 }
def k7c3 : Code := { maxStack := 4, maxLocals := 6, code := jdk_42_method_149_code, exceptionTable := #[], attributes := #[] }
def k7m3 : Method := { name := "<init>", desc := "([CIILjava/lang/Void;)V", sig := { parameters := [(.array .char), .int, .int, (.object "java/lang/Void")], returnType := none }, accessFlags := 2, code := some k7c3 }
/-- java/lang/String -/
def k7 : Class := { plain "java/lang/String" (some 0) with
  accessFlags := 49
  interfaces := #[2, 3, 4, 5, 6]
  cf := some (fileOf pool7 10 #[.nestMembers #[1103]] #[{ accessFlags := 1, nameIndex := 5, descriptorIndex := 6, attributes := #[] }, { accessFlags := 1, nameIndex := 5, descriptorIndex := 1010, attributes := #[] }, { accessFlags := 1, nameIndex := 543, descriptorIndex := 573, attributes := #[] }, { accessFlags := 2, nameIndex := 5, descriptorIndex := 29, attributes := #[] }] 49 2 #[1106, 1108, 575, 1110, 1112] #[{ accessFlags := 18, nameIndex := 13, descriptorIndex := 14, attributes := #[] }, { accessFlags := 18, nameIndex := 17, descriptorIndex := 18, attributes := #[] }, { accessFlags := 2, nameIndex := 21, descriptorIndex := 22, attributes := #[] }, { accessFlags := 2, nameIndex := 25, descriptorIndex := 26, attributes := #[] }, { accessFlags := 26, nameIndex := 1116, descriptorIndex := 1117, attributes := #[] }, { accessFlags := 24, nameIndex := 40, descriptorIndex := 26, attributes := #[] }, { accessFlags := 26, nameIndex := 1101, descriptorIndex := 1102, attributes := #[] }, { accessFlags := 26, nameIndex := 1121, descriptorIndex := 1122, attributes := #[] }, { accessFlags := 25, nameIndex := 599, descriptorIndex := 600, attributes := #[] }, { accessFlags := 24, nameIndex := 1125, descriptorIndex := 18, attributes := #[] }, { accessFlags := 24, nameIndex := 1127, descriptorIndex := 18, attributes := #[] }])
  fields := #[{ name := "value", type := (.array .byte), accessFlags := 18, slot := 0, constantValue := 0 }, { name := "coder", type := .byte, accessFlags := 18, slot := 1, constantValue := 0 }, { name := "hash", type := .int, accessFlags := 2, slot := 2, constantValue := 0 }, { name := "hashIsZero", type := .boolean, accessFlags := 2, slot := 3, constantValue := 0 }, { name := "serialVersionUID", type := .long, accessFlags := 26, slot := 0, constantValue := 0 }, { name := "COMPACT_STRINGS", type := .boolean, accessFlags := 24, slot := 1, constantValue := 0 }, { name := "serialPersistentFields", type := (.array (.object "java/io/ObjectStreamField")), accessFlags := 26, slot := 2, constantValue := 0 }, { name := "REPL", type := .char, accessFlags := 26, slot := 3, constantValue := 0 }, { name := "CASE_INSENSITIVE_ORDER", type := (.object "java/util/Comparator"), accessFlags := 25, slot := 4, constantValue := 0 }, { name := "LATIN1", type := .byte, accessFlags := 24, slot := 5, constantValue := 0 }, { name := "UTF16", type := .byte, accessFlags := 24, slot := 6, constantValue := 0 }]
  methods := #[k7m0, k7m1, k7m2, k7m3]
  instanceTypes := #[(.array .byte), .byte, .int, .boolean]
  staticTypes := #[.long, .boolean, (.array (.object "java/io/ObjectStreamField")), .char, (.object "java/util/Comparator"), .byte, .byte]
  resolved := Array.replicate 1451 none
  statics := some 0 }

def pool8 : Array CpInfo := pool [(1, .methodref 2 3), (0, .class_ 4), (0, .nameAndType 5 6), (0, u "java/lang/Object"), (0, u "<init>"), (0, u "()V"), (0, .class_ 8), (0, u "java/lang/Record")] 13

def k8c0 : Code := { maxStack := 1, maxLocals := 1, code := jdk_30_method_1_code, exceptionTable := #[], attributes := #[] }
def k8m0 : Method := { name := "<init>", desc := "()V", sig := { parameters := [], returnType := none }, accessFlags := 4, code := some k8c0 }
/-- java/lang/Record -/
def k8 : Class := { plain "java/lang/Record" (some 0) with
  accessFlags := 1057
  interfaces := #[]
  cf := some (fileOf pool8 7 #[] #[{ accessFlags := 4, nameIndex := 5, descriptorIndex := 6, attributes := #[] }] 1057 2 #[] #[])
  fields := #[]
  methods := #[k8m0]
  instanceTypes := #[]
  staticTypes := #[]
  resolved := Array.replicate 22 none
  statics := none }

def pool9 : Array CpInfo := pool [(1, .methodref 2 3), (0, .class_ 4), (0, .nameAndType 5 6), (0, u "java/lang/Record"), (0, u "<init>"), (0, u "()V"), (0, .fieldref 8 9), (0, .class_ 10), (0, .nameAndType 11 12), (0, u "com/example/latchwork/latchwork/store/RedisRun$Origin"), (0, u "id"), (0, u "Ljava/lang/String;"), (0, .fieldref 8 14), (0, .nameAndType 15 16), (0, u "wroteEveryChange"), (0, u "Z"), (20, u "NONE"), (0, u "Lcom/example/latchwork/latchwork/store/RedisRun$Origin;"), (3, u "()Z"), (10, u "(Ljava/lang/String;Z)V"), (20, u "NO_RECORD"), (9, u "()Ljava/lang/String;"), (5, .class_ 91), (0, u "com/example/latchwork/latchwork/store/RedisRun")] 28

def k9c0 : Code := { maxStack := 2, maxLocals := 3, code := prog_17_method_1_code, exceptionTable := #[], attributes := #[] }
def k9m0 : Method := { name := "<init>", desc := "(Ljava/lang/String;Z)V", sig := { parameters := [(.object "java/lang/String"), .boolean], returnType := none }, accessFlags := 0, code := some k9c0 }
def k9c1 : Code := { maxStack := 1, maxLocals := 1, code := prog_17_method_6_code, exceptionTable := #[], attributes := #[] }
def k9m1 : Method := { name := "id", desc := "()Ljava/lang/String;", sig := { parameters := [], returnType := some (.object "java/lang/String") }, accessFlags := 1, code := some k9c1 }
def k9c2 : Code := { maxStack := 1, maxLocals := 1, code := prog_17_method_7_code, exceptionTable := #[], attributes := #[] }
def k9m2 : Method := { name := "wroteEveryChange", desc := "()Z", sig := { parameters := [], returnType := some .boolean }, accessFlags := 1, code := some k9c2 }
/-- com/example/latchwork/latchwork/store/RedisRun$Origin -/
def k9 : Class := { plain "com/example/latchwork/latchwork/store/RedisRun$Origin" (some 8) with
  accessFlags := 48
  interfaces := #[]
  cf := some (fileOf pool9 8 #[.nestHost 90] #[{ accessFlags := 0, nameIndex := 5, descriptorIndex := 53, attributes := #[] }, { accessFlags := 1, nameIndex := 11, descriptorIndex := 84, attributes := #[] }, { accessFlags := 1, nameIndex := 15, descriptorIndex := 42, attributes := #[] }] 48 2 #[] #[{ accessFlags := 18, nameIndex := 11, descriptorIndex := 12, attributes := #[] }, { accessFlags := 18, nameIndex := 15, descriptorIndex := 16, attributes := #[] }, { accessFlags := 24, nameIndex := 37, descriptorIndex := 38, attributes := #[] }, { accessFlags := 26, nameIndex := 74, descriptorIndex := 12, attributes := #[] }])
  fields := #[{ name := "id", type := (.object "java/lang/String"), accessFlags := 18, slot := 0, constantValue := 0 }, { name := "wroteEveryChange", type := .boolean, accessFlags := 18, slot := 1, constantValue := 0 }, { name := "NONE", type := (.object "com/example/latchwork/latchwork/store/RedisRun$Origin"), accessFlags := 24, slot := 0, constantValue := 0 }, { name := "NO_RECORD", type := (.object "java/lang/String"), accessFlags := 26, slot := 1, constantValue := 0 }]
  methods := #[k9m0, k9m1, k9m2]
  instanceTypes := #[(.object "java/lang/String"), .boolean]
  staticTypes := #[(.object "com/example/latchwork/latchwork/store/RedisRun$Origin"), (.object "java/lang/String")]
  resolved := Array.replicate 120 none
  statics := none }

def pool10 : Array CpInfo := pool [(2, .class_ 4), (1, u "java/lang/Record"), (3, u "id"), (7, u "keptOutLease"), (1, .class_ 20), (1, u "com/example/latchwork/latchwork/store/RedisRun"), (0, u "Ljava/lang/String;"), (2, u "startedAt"), (0, u "J"), (2, u "Ljava/time/Duration;"), (5, .class_ 36), (1, u "java/lang/String"), (19, u "()Ljava/lang/String;"), (9, u "()Z"), (19, u "UPTIME_ROUNDING"), (18, .methodref 34 106), (0, .nameAndType 107 108), (0, u "equals"), (0, u "(Ljava/lang/Object;)Z"), (4, .methodref 114 115), (0, .class_ 116), (0, .nameAndType 117 66), (0, u "com/example/latchwork/latchwork/store/RedisRun$Origin"), (0, u "wroteEveryChange"), (0, .methodref 114 119), (0, .nameAndType 8 56), (50, u "ID_FIELD"), (1, u "UPTIME_FIELD"), (12, u "keptAll"), (0, u "(Ljava/lang/String;Lcom/example/latchwork/latchwork/store/RedisRun$Origin;Z)Z")] 29

def k10c0 : Code := { maxStack := 2, maxLocals := 4, code := prog_16_method_4_code, exceptionTable := #[], attributes := #[] }
def k10m0 : Method := { name := "keptAll", desc := "(Ljava/lang/String;Lcom/example/latchwork/latchwork/store/RedisRun$Origin;Z)Z", sig := { parameters := [(.object "java/lang/String"), (.object "com/example/latchwork/latchwork/store/RedisRun$Origin"), .boolean], returnType := some .boolean }, accessFlags := 8, code := some k10c0 }
/-- com/example/latchwork/latchwork/store/RedisRun -/
def k10 : Class := { plain "com/example/latchwork/latchwork/store/RedisRun" (some 8) with
  accessFlags := 48
  interfaces := #[]
  cf := some (fileOf pool10 18 #[.nestMembers #[114]] #[{ accessFlags := 8, nameIndex := 185, descriptorIndex := 186, attributes := #[] }] 48 2 #[] #[{ accessFlags := 18, nameIndex := 8, descriptorIndex := 21, attributes := #[] }, { accessFlags := 18, nameIndex := 24, descriptorIndex := 25, attributes := #[] }, { accessFlags := 18, nameIndex := 16, descriptorIndex := 28, attributes := #[] }, { accessFlags := 26, nameIndex := 170, descriptorIndex := 21, attributes := #[] }, { accessFlags := 26, nameIndex := 172, descriptorIndex := 21, attributes := #[] }, { accessFlags := 26, nameIndex := 86, descriptorIndex := 25, attributes := #[] }])
  fields := #[{ name := "id", type := (.object "java/lang/String"), accessFlags := 18, slot := 0, constantValue := 0 }, { name := "startedAt", type := .long, accessFlags := 18, slot := 1, constantValue := 0 }, { name := "keptOutLease", type := (.object "java/time/Duration"), accessFlags := 18, slot := 2, constantValue := 0 }, { name := "ID_FIELD", type := (.object "java/lang/String"), accessFlags := 26, slot := 0, constantValue := 0 }, { name := "UPTIME_FIELD", type := (.object "java/lang/String"), accessFlags := 26, slot := 1, constantValue := 0 }, { name := "UPTIME_ROUNDING", type := .long, accessFlags := 26, slot := 2, constantValue := 0 }]
  methods := #[k10m0]
  instanceTypes := #[(.object "java/lang/String"), .long, (.object "java/time/Duration")]
  staticTypes := #[(.object "java/lang/String"), (.object "java/lang/String"), .long]
  resolved := Array.replicate 216 none
  statics := none }

def pool11 : Array CpInfo := pool [(4, .class_ 6), (1, u "java/lang/Object"), (0, u "<init>"), (0, u "()V"), (5, .class_ 16), (1, u "java/lang/StringLatin1"), (104, u "$assertionsDisabled"), (0, u "Z"), (98, .class_ 223), (1, u "java/lang/StringLatin1$LinesSpliterator"), (57, u "equals"), (0, u "([B[B)Z"), (107, .class_ 391), (0, u "java/lang/StringLatin1$CharsSpliterator")] 3

def k11m0 : Method := { name := "<init>", desc := "()V", sig := { parameters := [], returnType := none }, accessFlags := 0, code := none }
def k11c1 : Code := { maxStack := 3, maxLocals := 3, code := jdk_43_method_13_code, exceptionTable := #[], attributes := #[] }
def k11m1 : Method := { name := "equals", desc := "([B[B)Z", sig := { parameters := [(.array .byte), (.array .byte)], returnType := some .boolean }, accessFlags := 9, code := some k11c1 }
/-- java/lang/StringLatin1 -/
def k11 : Class := { plain "java/lang/StringLatin1" (some 0) with
  accessFlags := 48
  interfaces := #[]
  cf := some (fileOf pool11 14 #[.nestMembers #[390, 221]] #[{ accessFlags := 0, nameIndex := 7, descriptorIndex := 8, attributes := #[] }, { accessFlags := 9, nameIndex := 281, descriptorIndex := 282, attributes := #[] }] 48 4 #[] #[{ accessFlags := 4120, nameIndex := 121, descriptorIndex := 122, attributes := #[] }])
  fields := #[{ name := "$assertionsDisabled", type := .boolean, accessFlags := 4120, slot := 0, constantValue := 0 }]
  methods := #[k11m0, k11m1]
  instanceTypes := #[]
  staticTypes := #[.boolean]
  resolved := Array.replicate 395 none
  statics := none }

def pool12 : Array CpInfo := pool [(6, .class_ 8), (1, u "java/lang/Object"), (0, u "<init>"), (0, u "()V"), (1, .class_ 14), (1, u "java/lang/StringUTF16"), (31, u "$assertionsDisabled"), (0, u "Z"), (13, u "HI_BYTE_SHIFT"), (0, u "I"), (2, u "LO_BYTE_SHIFT"), (49, .methodref 12 116), (0, .nameAndType 117 118), (0, u "compress"), (0, u "([CI[BII)I"), (3, u "([CII)[B"), (138, u "coderFromArrayLen"), (0, u "([BI)B"), (106, .class_ 371), (1, u "java/lang/StringUTF16$LinesSpliterator"), (58, u "MAX_LENGTH"), (196, .class_ 628), (0, u "java/lang/StringUTF16$CodePointsSpliterator"), (0, .class_ 630), (0, u "java/lang/StringUTF16$CharsSpliterator")] 4

def k12m0 : Method := { name := "<init>", desc := "()V", sig := { parameters := [], returnType := none }, accessFlags := 0, code := none }
def k12c1 : Code := { maxStack := 2, maxLocals := 2, code := jdk_52_method_15_code, exceptionTable := #[], attributes := #[] }
def k12m1 : Method := { name := "coderFromArrayLen", desc := "([BI)B", sig := { parameters := [(.array .byte), .int], returnType := some .byte }, accessFlags := 8, code := some k12c1 }
def k12c2 : Code := { maxStack := 5, maxLocals := 6, code := jdk_52_method_16_code, exceptionTable := #[], attributes := #[] }
def k12m2 : Method := { name := "compress", desc := "([CII)[B", sig := { parameters := [(.array .char), .int, .int], returnType := some (.array .byte) }, accessFlags := 9, code := some k12c2 }
def k12c3 : Code := { maxStack := 3, maxLocals := 7, code := jdk_52_method_21_code, exceptionTable := #[], attributes := #[] }
def k12m3 : Method := { name := "compress", desc := "([CI[BII)I", sig := { parameters := [(.array .char), .int, (.array .byte), .int, .int], returnType := some .int }, accessFlags := 9, code := some k12c3 }
/-- java/lang/StringUTF16 -/
def k12 : Class := { plain "java/lang/StringUTF16" (some 0) with
  accessFlags := 48
  interfaces := #[]
  cf := some (fileOf pool12 12 #[.nestMembers #[627, 629, 369]] #[{ accessFlags := 0, nameIndex := 9, descriptorIndex := 10, attributes := #[] }, { accessFlags := 8, nameIndex := 261, descriptorIndex := 262, attributes := #[] }, { accessFlags := 9, nameIndex := 117, descriptorIndex := 122, attributes := #[] }, { accessFlags := 9, nameIndex := 117, descriptorIndex := 118, attributes := #[] }] 48 6 #[] #[{ accessFlags := 26, nameIndex := 61, descriptorIndex := 62, attributes := #[] }, { accessFlags := 26, nameIndex := 65, descriptorIndex := 62, attributes := #[] }, { accessFlags := 24, nameIndex := 430, descriptorIndex := 62, attributes := #[] }, { accessFlags := 4120, nameIndex := 46, descriptorIndex := 47, attributes := #[] }])
  fields := #[{ name := "HI_BYTE_SHIFT", type := .int, accessFlags := 26, slot := 0, constantValue := 0 }, { name := "LO_BYTE_SHIFT", type := .int, accessFlags := 26, slot := 1, constantValue := 0 }, { name := "MAX_LENGTH", type := .int, accessFlags := 24, slot := 2, constantValue := 0 }, { name := "$assertionsDisabled", type := .boolean, accessFlags := 4120, slot := 3, constantValue := 0 }]
  methods := #[k12m0, k12m1, k12m2, k12m3]
  instanceTypes := #[]
  staticTypes := #[.int, .int, .int, .boolean]
  resolved := Array.replicate 635 none
  statics := none }

def pool13 : Array CpInfo := pool [(2, .class_ 4), (1, u "java/lang/Object"), (0, u "<init>"), (0, u "()V"), (17, .class_ 26), (1, u "jdk/internal/util/Preconditions"), (28, .class_ 56), (0, u "jdk/internal/util/Preconditions$4"), (57, .class_ 115), (0, u "jdk/internal/util/Preconditions$1"), (7, u "SIOOBE_FORMATTER"), (0, u "Ljava/util/function/BiFunction;"), (0, .class_ 126), (0, u "jdk/internal/util/Preconditions$2"), (3, u "AIOOBE_FORMATTER"), (0, .class_ 132), (0, u "jdk/internal/util/Preconditions$3"), (3, u "IOOBE_FORMATTER")] 57

def k13m0 : Method := { name := "<init>", desc := "()V", sig := { parameters := [], returnType := none }, accessFlags := 1, code := none }
/-- jdk/internal/util/Preconditions -/
def k13 : Class := { plain "jdk/internal/util/Preconditions" (some 0) with
  accessFlags := 33
  interfaces := #[]
  cf := some (fileOf pool13 24 #[.nestMembers #[55, 131, 125, 114]] #[{ accessFlags := 1, nameIndex := 5, descriptorIndex := 6, attributes := #[] }] 33 2 #[] #[{ accessFlags := 25, nameIndex := 123, descriptorIndex := 124, attributes := #[] }, { accessFlags := 25, nameIndex := 130, descriptorIndex := 124, attributes := #[] }, { accessFlags := 25, nameIndex := 136, descriptorIndex := 124, attributes := #[] }])
  fields := #[{ name := "SIOOBE_FORMATTER", type := (.object "java/util/function/BiFunction"), accessFlags := 25, slot := 0, constantValue := 0 }, { name := "AIOOBE_FORMATTER", type := (.object "java/util/function/BiFunction"), accessFlags := 25, slot := 1, constantValue := 0 }, { name := "IOOBE_FORMATTER", type := (.object "java/util/function/BiFunction"), accessFlags := 25, slot := 2, constantValue := 0 }]
  methods := #[k13m0]
  instanceTypes := #[]
  staticTypes := #[(.object "java/util/function/BiFunction"), (.object "java/util/function/BiFunction"), (.object "java/util/function/BiFunction")]
  resolved := Array.replicate 194 none
  statics := some 1 }

def pool14 : Array CpInfo := pool [(9, u "<init>"), (6, .class_ 18), (1, u "java/lang/Object"), (0, u "()V"), (1, .class_ 23), (1, u "jdk/internal/util/ArraysSupport"), (0, u "LOG2_ARRAY_LONG_INDEX_SCALE"), (0, u "I"), (2, u "U"), (0, u "Ljdk/internal/misc/Unsafe;"), (8, u "BIG_ENDIAN"), (0, u "Z"), (8, u "LOG2_BYTE_BIT_SIZE"), (4, u "LOG2_ARRAY_INT_INDEX_SCALE"), (54, u "JLA"), (0, u "Ljdk/internal/access/JavaLangAccess;"), (11, u "LOG2_ARRAY_BOOLEAN_INDEX_SCALE"), (9, u "LOG2_ARRAY_BYTE_INDEX_SCALE"), (5, u "LOG2_ARRAY_CHAR_INDEX_SCALE"), (5, u "LOG2_ARRAY_SHORT_INDEX_SCALE"), (18, u "LOG2_ARRAY_FLOAT_INDEX_SCALE"), (24, u "LOG2_ARRAY_DOUBLE_INDEX_SCALE"), (89, u "T_BOOLEAN"), (2, u "T_CHAR"), (1, u "T_FLOAT"), (1, u "T_DOUBLE"), (1, u "T_BYTE"), (1, u "T_SHORT"), (1, u "T_INT"), (1, u "T_LONG"), (1, u "SOFT_MAX_ARRAY_LENGTH")] 83

def k14m0 : Method := { name := "<init>", desc := "()V", sig := { parameters := [], returnType := none }, accessFlags := 2, code := none }
/-- jdk/internal/util/ArraysSupport -/
def k14 : Class := { plain "jdk/internal/util/ArraysSupport" (some 0) with
  accessFlags := 33
  interfaces := #[]
  cf := some (fileOf pool14 21 #[] #[{ accessFlags := 2, nameIndex := 9, descriptorIndex := 19, attributes := #[] }] 33 16 #[] #[{ accessFlags := 24, nameIndex := 28, descriptorIndex := 29, attributes := #[] }, { accessFlags := 26, nameIndex := 38, descriptorIndex := 39, attributes := #[] }, { accessFlags := 25, nameIndex := 121, descriptorIndex := 25, attributes := #[] }, { accessFlags := 25, nameIndex := 131, descriptorIndex := 25, attributes := #[] }, { accessFlags := 25, nameIndex := 137, descriptorIndex := 25, attributes := #[] }, { accessFlags := 25, nameIndex := 143, descriptorIndex := 25, attributes := #[] }, { accessFlags := 25, nameIndex := 53, descriptorIndex := 25, attributes := #[] }, { accessFlags := 25, nameIndex := 24, descriptorIndex := 25, attributes := #[] }, { accessFlags := 25, nameIndex := 162, descriptorIndex := 25, attributes := #[] }, { accessFlags := 25, nameIndex := 187, descriptorIndex := 25, attributes := #[] }, { accessFlags := 26, nameIndex := 48, descriptorIndex := 25, attributes := #[] }, { accessFlags := 25, nameIndex := 277, descriptorIndex := 25, attributes := #[] }, { accessFlags := 25, nameIndex := 280, descriptorIndex := 25, attributes := #[] }, { accessFlags := 25, nameIndex := 282, descriptorIndex := 25, attributes := #[] }, { accessFlags := 25, nameIndex := 284, descriptorIndex := 25, attributes := #[] }, { accessFlags := 25, nameIndex := 286, descriptorIndex := 25, attributes := #[] }, { accessFlags := 25, nameIndex := 288, descriptorIndex := 25, attributes := #[] }, { accessFlags := 25, nameIndex := 290, descriptorIndex := 25, attributes := #[] }, { accessFlags := 25, nameIndex := 292, descriptorIndex := 25, attributes := #[] }, { accessFlags := 26, nameIndex := 108, descriptorIndex := 109, attributes := #[] }, { accessFlags := 25, nameIndex := 294, descriptorIndex := 25, attributes := #[] }])
  fields := #[{ name := "U", type := (.object "jdk/internal/misc/Unsafe"), accessFlags := 24, slot := 0, constantValue := 0 }, { name := "BIG_ENDIAN", type := .boolean, accessFlags := 26, slot := 1, constantValue := 0 }, { name := "LOG2_ARRAY_BOOLEAN_INDEX_SCALE", type := .int, accessFlags := 25, slot := 2, constantValue := 0 }, { name := "LOG2_ARRAY_BYTE_INDEX_SCALE", type := .int, accessFlags := 25, slot := 3, constantValue := 0 }, { name := "LOG2_ARRAY_CHAR_INDEX_SCALE", type := .int, accessFlags := 25, slot := 4, constantValue := 0 }, { name := "LOG2_ARRAY_SHORT_INDEX_SCALE", type := .int, accessFlags := 25, slot := 5, constantValue := 0 }, { name := "LOG2_ARRAY_INT_INDEX_SCALE", type := .int, accessFlags := 25, slot := 6, constantValue := 0 }, { name := "LOG2_ARRAY_LONG_INDEX_SCALE", type := .int, accessFlags := 25, slot := 7, constantValue := 0 }, { name := "LOG2_ARRAY_FLOAT_INDEX_SCALE", type := .int, accessFlags := 25, slot := 8, constantValue := 0 }, { name := "LOG2_ARRAY_DOUBLE_INDEX_SCALE", type := .int, accessFlags := 25, slot := 9, constantValue := 0 }, { name := "LOG2_BYTE_BIT_SIZE", type := .int, accessFlags := 26, slot := 10, constantValue := 0 }, { name := "T_BOOLEAN", type := .int, accessFlags := 25, slot := 11, constantValue := 0 }, { name := "T_CHAR", type := .int, accessFlags := 25, slot := 12, constantValue := 0 }, { name := "T_FLOAT", type := .int, accessFlags := 25, slot := 13, constantValue := 0 }, { name := "T_DOUBLE", type := .int, accessFlags := 25, slot := 14, constantValue := 0 }, { name := "T_BYTE", type := .int, accessFlags := 25, slot := 15, constantValue := 0 }, { name := "T_SHORT", type := .int, accessFlags := 25, slot := 16, constantValue := 0 }, { name := "T_INT", type := .int, accessFlags := 25, slot := 17, constantValue := 0 }, { name := "T_LONG", type := .int, accessFlags := 25, slot := 18, constantValue := 0 }, { name := "JLA", type := (.object "jdk/internal/access/JavaLangAccess"), accessFlags := 26, slot := 19, constantValue := 0 }, { name := "SOFT_MAX_ARRAY_LENGTH", type := .int, accessFlags := 25, slot := 20, constantValue := 0 }]
  methods := #[k14m0]
  instanceTypes := #[]
  staticTypes := #[(.object "jdk/internal/misc/Unsafe"), .boolean, .int, .int, .int, .int, .int, .int, .int, .int, .int, .int, .int, .int, .int, .int, .int, .int, .int, (.object "jdk/internal/access/JavaLangAccess"), .int]
  resolved := Array.replicate 378 none
  statics := none }

def pool15 : Array CpInfo := pool [(1, u "java/lang/Cloneable"), (0, .class_ 1), (0, u "java/lang/Object"), (0, .class_ 3)] 3

/-- java/lang/Cloneable -/
def k15 : Class := { plain "java/lang/Cloneable" (some 0) with
  accessFlags := 1537
  interfaces := #[]
  cf := some (fileOf pool15 2 #[] #[] 1537 4 #[] #[])
  fields := #[]
  methods := #[]
  instanceTypes := #[]
  staticTypes := #[]
  resolved := Array.replicate 8 none
  statics := none }

/-- the primitive byte -/
def k16 : Class := { plain "byte" none with kind := .primitive 'B', accessFlags := 0x411 }
/-- [B -/
def k17 : Class := { plain "[B" (some 0) with kind := .array 16 .byte, interfaces := #[15, 2], accessFlags := 1041 }

/-- the primitive char -/
def k18 : Class := { plain "char" none with kind := .primitive 'C', accessFlags := 0x411 }
/-- [C -/
def k19 : Class := { plain "[C" (some 0) with kind := .array 18 .char, interfaces := #[15, 2], accessFlags := 1041 }

/-- the primitive int -/
def k20 : Class := { plain "int" none with kind := .primitive 'I', accessFlags := 0x411 }
/-- [I -/
def k21 : Class := { plain "[I" (some 0) with kind := .array 20 .int, interfaces := #[15, 2], accessFlags := 1041 }

def heap : Heap := #[{ cls := 7, slots := #[.long 0, .int 1, .null, .int 0, .null, .int 0, .int 0], vm := .statics 7 },
  { cls := 13, slots := #[.null, .null, .null], vm := .statics 13 }]
def classes : Array Class := #[k0, k1, k2, k3, k4, k5, k6, k7, k8, k9, k10, k11, k12, k13, k14, k15, k16, k17, k18, k19, k20, k21]
def interned : List (Array UInt16 × Addr) := []
def slotsUsed : Nat := 10
def theMethod : MethodId := ⟨1, 2⟩
def args0 : Array Value := #[.int 5, .int 1, .int 3]
def aboutOver (below : List Frame) : State where
  vm := { classes := classes, interned := interned.toArray }
  heap := heap
  slotsUsed := slotsUsed
  threads := #[{ frames := .invoking theMethod args0 :: below }]
def below0 : List Frame := [.native { method := ⟨0, 0⟩, args := #[] }]
def about1 : State := aboutOver below0
def p0 : Program := .bare "" "" ""
def e0 : Env := launch0.env 0 0 0
theorem w_frames : about1.frames = Frame.invoking theMethod args0 :: below0 := rfl
set_option maxRecDepth 65536 in
theorem w_args : argsFit about1.vm theMethod args0 = true := by decide +kernel
set_option maxRecDepth 65536 in
theorem w_heap : heapFits about1 = true := by decide +kernel
set_option maxRecDepth 65536 in
theorem w_runnable : about1.curStatus? = some .runnable := by decide +kernel
set_option maxRecDepth 65536 in
theorem w_alone : about1.alone = true := by decide +kernel
set_option maxRecDepth 65536 in
theorem w_named : about1.methodNamed? x = some theMethod := by decide +kernel
set_option maxRecDepth 65536 in
theorem w_hears : about1.hears theMethod below0 = true := by decide +kernel
set_option maxRecDepth 65536 in
theorem w_ripe : about1.ripe theMethod args0 below0 = true := by decide +kernel
theorem w_running : about1.status = .running := rfl
set_option maxRecDepth 65536 in
theorem w_room : about1.hasRoom e0.platform room_1 = true :=
  launch0.hasRoom_least _ room_1 (by decide +kernel) (by decide +kernel) (by decide +kernel) (by decide +kernel) (by decide +kernel) (by decide +kernel)
theorem allAtoms_all (ts : List Jvm.Cond) (a : Array Jvm.Value) (st : Jvm.State) : (allAtoms ts).before a st = ts.all (fun c => c.before a st) := by
  induction ts with
  | nil => rfl
  | cons c t ih =>
    show (Jvm.Cond.and c (allAtoms t)).before a st = _
    rw [Jvm.Cond.before_and, ih, List.all_cons]
def words1 : List Jvm.Cond := Jvm.Cond.code x code maxLocals ret :: tables_1
/-- a 'code' word, met by the world's own term for the bytes: nothing is compared byte by byte -/
theorem code_word {y : MethodName} {bytes : ByteArray} {mx : Nat} {rt : Option FieldType} {a : Array Value} {s : State} {m : MethodId} {meth : Method} {c : Code} (h1 : s.methodNamed? y = some m) (h2 : s.vm.method? m = some meth) (h3 : meth.code = some c) (h4 : c.code = bytes)
    (h5 : (c.maxLocals == mx && c.exceptionTable.isEmpty && decide (c.maxStack ≤ mostOperands) && decide (meth.sig.returnType = rt) && !meth.locks && decide (parseMethodDescriptor y.desc = some meth.sig)) = true) : (Jvm.Cond.code y bytes mx rt).before a s = true := by
  simp only [Bool.and_eq_true, beq_iff_eq, Bool.not_eq_true', decide_eq_true_eq] at h5
  obtain ⟨⟨⟨⟨⟨g1, g2⟩, g3⟩, g4⟩, g5⟩, g6⟩ := h5
  simp [Cond.before, Cond.holds, Cond.value, h1, h2, h3, h4, g1, g2, g3, g4, g5, g6]
def isCode : Jvm.Cond → Bool
  | .code _ _ _ _ => true
  | _ => false
theorem all_split {L : List Jvm.Cond} {P : Jvm.Cond → Bool} (h1 : L.all (fun c => isCode c || P c) = true) (h2 : ∀ c ∈ L.filter isCode, P c = true) : L.all P = true := by
  refine List.all_eq_true.mpr fun c hc => ?_
  have h := List.all_eq_true.mp h1 c hc
  rcases Bool.eq_false_or_eq_true (isCode c) with hi | hi
  · exact h2 c (List.mem_filter.mpr ⟨hc, hi⟩)
  · simpa [hi] using h
set_option maxRecDepth 65536 in
theorem w_c0 : (Jvm.Cond.code x code maxLocals ret).before args0 about1 = true := code_word (m := ⟨1, 2⟩) (meth := k1m2) (c := k1c2) (by decide +kernel) rfl rfl rfl (by decide +kernel)
set_option maxRecDepth 65536 in
theorem w_c1 : (Jvm.Cond.code ({ cls := "com/example/latchwork/latchwork/store/RedisRunKeptAllPinLaw", name := "make", desc := "(ICC)Ljava/lang/String;" } : Jvm.MethodName) method_2_code (3 : Nat) (Option.some (Jvm.ClassFile.FieldType.object "java/lang/String"))).before args0 about1 = true := code_word (m := ⟨1, 1⟩) (meth := k1m1) (c := k1c1) (by decide +kernel) rfl rfl rfl (by decide +kernel)
set_option maxRecDepth 65536 in
theorem w_c2 : (Jvm.Cond.code ({ cls := "java/lang/String", name := "<init>", desc := "([C)V" } : Jvm.MethodName) jdk_42_method_3_code (2 : Nat) (Option.none : Option Jvm.ClassFile.FieldType)).before args0 about1 = true := code_word (m := ⟨7, 1⟩) (meth := k7m1) (c := k7c1) (by decide +kernel) rfl rfl rfl (by decide +kernel)
set_option maxRecDepth 65536 in
theorem w_c3 : (Jvm.Cond.code ({ cls := "java/lang/String", name := "<init>", desc := "([CIILjava/lang/Void;)V" } : Jvm.MethodName) jdk_42_method_149_code (6 : Nat) (Option.none : Option Jvm.ClassFile.FieldType)).before args0 about1 = true := code_word (m := ⟨7, 3⟩) (meth := k7m3) (c := k7c3) (by decide +kernel) rfl rfl rfl (by decide +kernel)
set_option maxRecDepth 65536 in
theorem w_c4 : (Jvm.Cond.code ({ cls := "java/lang/Object", name := "<init>", desc := "()V" } : Jvm.MethodName) object_method_1_code (1 : Nat) (Option.none : Option Jvm.ClassFile.FieldType)).before args0 about1 = true := code_word (m := ⟨0, 0⟩) (meth := k0m0) (c := k0c0) (by decide +kernel) rfl rfl rfl (by decide +kernel)
set_option maxRecDepth 65536 in
theorem w_c5 : (Jvm.Cond.code ({ cls := "com/example/latchwork/latchwork/store/RedisRun$Origin", name := "<init>", desc := "(Ljava/lang/String;Z)V" } : Jvm.MethodName) prog_17_method_1_code (3 : Nat) (Option.none : Option Jvm.ClassFile.FieldType)).before args0 about1 = true := code_word (m := ⟨9, 0⟩) (meth := k9m0) (c := k9c0) (by decide +kernel) rfl rfl rfl (by decide +kernel)
set_option maxRecDepth 65536 in
theorem w_c6 : (Jvm.Cond.code ({ cls := "java/lang/Record", name := "<init>", desc := "()V" } : Jvm.MethodName) jdk_30_method_1_code (1 : Nat) (Option.none : Option Jvm.ClassFile.FieldType)).before args0 about1 = true := code_word (m := ⟨8, 0⟩) (meth := k8m0) (c := k8c0) (by decide +kernel) rfl rfl rfl (by decide +kernel)
set_option maxRecDepth 65536 in
theorem w_c7 : (Jvm.Cond.code ({ cls := "com/example/latchwork/latchwork/store/RedisRun", name := "keptAll", desc := "(Ljava/lang/String;Lcom/example/latchwork/latchwork/store/RedisRun$Origin;Z)Z" } : Jvm.MethodName) prog_16_method_4_code (4 : Nat) (Option.some Jvm.ClassFile.FieldType.boolean)).before args0 about1 = true := code_word (m := ⟨10, 0⟩) (meth := k10m0) (c := k10c0) (by decide +kernel) rfl rfl rfl (by decide +kernel)
set_option maxRecDepth 65536 in
theorem w_c8 : (Jvm.Cond.code ({ cls := "com/example/latchwork/latchwork/store/RedisRun$Origin", name := "wroteEveryChange", desc := "()Z" } : Jvm.MethodName) prog_17_method_7_code (1 : Nat) (Option.some Jvm.ClassFile.FieldType.boolean)).before args0 about1 = true := code_word (m := ⟨9, 2⟩) (meth := k9m2) (c := k9c2) (by decide +kernel) rfl rfl rfl (by decide +kernel)
set_option maxRecDepth 65536 in
theorem w_c9 : (Jvm.Cond.code ({ cls := "com/example/latchwork/latchwork/store/RedisRun$Origin", name := "id", desc := "()Ljava/lang/String;" } : Jvm.MethodName) prog_17_method_6_code (1 : Nat) (Option.some (Jvm.ClassFile.FieldType.object "java/lang/String"))).before args0 about1 = true := code_word (m := ⟨9, 1⟩) (meth := k9m1) (c := k9c1) (by decide +kernel) rfl rfl rfl (by decide +kernel)
set_option maxRecDepth 65536 in
theorem w_c10 : (Jvm.Cond.code ({ cls := "java/lang/String", name := "equals", desc := "(Ljava/lang/Object;)Z" } : Jvm.MethodName) jdk_42_method_66_code (3 : Nat) (Option.some Jvm.ClassFile.FieldType.boolean)).before args0 about1 = true := code_word (m := ⟨7, 2⟩) (meth := k7m2) (c := k7c2) (by decide +kernel) rfl rfl rfl (by decide +kernel)
set_option maxRecDepth 65536 in
theorem w_c11 : (Jvm.Cond.code ({ cls := "java/lang/StringLatin1", name := "equals", desc := "([B[B)Z" } : Jvm.MethodName) jdk_43_method_13_code (3 : Nat) (Option.some Jvm.ClassFile.FieldType.boolean)).before args0 about1 = true := code_word (m := ⟨11, 1⟩) (meth := k11m1) (c := k11c1) (by decide +kernel) rfl rfl rfl (by decide +kernel)
set_option maxRecDepth 65536 in
theorem w_c12 : (Jvm.Cond.code ({ cls := "java/lang/StringUTF16", name := "compress", desc := "([CII)[B" } : Jvm.MethodName) jdk_52_method_16_code (6 : Nat) (Option.some (Jvm.ClassFile.FieldType.array Jvm.ClassFile.FieldType.byte))).before args0 about1 = true := code_word (m := ⟨12, 2⟩) (meth := k12m2) (c := k12c2) (by decide +kernel) rfl rfl rfl (by decide +kernel)
set_option maxRecDepth 65536 in
theorem w_c13 : (Jvm.Cond.code ({ cls := "java/lang/StringUTF16", name := "compress", desc := "([CI[BII)I" } : Jvm.MethodName) jdk_52_method_21_code (7 : Nat) (Option.some Jvm.ClassFile.FieldType.int)).before args0 about1 = true := code_word (m := ⟨12, 3⟩) (meth := k12m3) (c := k12c3) (by decide +kernel) rfl rfl rfl (by decide +kernel)
set_option maxRecDepth 65536 in
theorem w_c14 : (Jvm.Cond.code ({ cls := "java/lang/StringUTF16", name := "coderFromArrayLen", desc := "([BI)B" } : Jvm.MethodName) jdk_52_method_15_code (2 : Nat) (Option.some Jvm.ClassFile.FieldType.byte)).before args0 about1 = true := code_word (m := ⟨12, 1⟩) (meth := k12m1) (c := k12c1) (by decide +kernel) rfl rfl rfl (by decide +kernel)
def codes1 : List Jvm.Cond := [Jvm.Cond.code x code maxLocals ret, Jvm.Cond.code ({ cls := "com/example/latchwork/latchwork/store/RedisRunKeptAllPinLaw", name := "make", desc := "(ICC)Ljava/lang/String;" } : Jvm.MethodName) method_2_code (3 : Nat) (Option.some (Jvm.ClassFile.FieldType.object "java/lang/String")), Jvm.Cond.code ({ cls := "java/lang/String", name := "<init>", desc := "([C)V" } : Jvm.MethodName) jdk_42_method_3_code (2 : Nat) (Option.none : Option Jvm.ClassFile.FieldType), Jvm.Cond.code ({ cls := "java/lang/String", name := "<init>", desc := "([CIILjava/lang/Void;)V" } : Jvm.MethodName) jdk_42_method_149_code (6 : Nat) (Option.none : Option Jvm.ClassFile.FieldType), Jvm.Cond.code ({ cls := "java/lang/Object", name := "<init>", desc := "()V" } : Jvm.MethodName) object_method_1_code (1 : Nat) (Option.none : Option Jvm.ClassFile.FieldType), Jvm.Cond.code ({ cls := "com/example/latchwork/latchwork/store/RedisRun$Origin", name := "<init>", desc := "(Ljava/lang/String;Z)V" } : Jvm.MethodName) prog_17_method_1_code (3 : Nat) (Option.none : Option Jvm.ClassFile.FieldType), Jvm.Cond.code ({ cls := "java/lang/Record", name := "<init>", desc := "()V" } : Jvm.MethodName) jdk_30_method_1_code (1 : Nat) (Option.none : Option Jvm.ClassFile.FieldType), Jvm.Cond.code ({ cls := "com/example/latchwork/latchwork/store/RedisRun", name := "keptAll", desc := "(Ljava/lang/String;Lcom/example/latchwork/latchwork/store/RedisRun$Origin;Z)Z" } : Jvm.MethodName) prog_16_method_4_code (4 : Nat) (Option.some Jvm.ClassFile.FieldType.boolean), Jvm.Cond.code ({ cls := "com/example/latchwork/latchwork/store/RedisRun$Origin", name := "wroteEveryChange", desc := "()Z" } : Jvm.MethodName) prog_17_method_7_code (1 : Nat) (Option.some Jvm.ClassFile.FieldType.boolean), Jvm.Cond.code ({ cls := "com/example/latchwork/latchwork/store/RedisRun$Origin", name := "id", desc := "()Ljava/lang/String;" } : Jvm.MethodName) prog_17_method_6_code (1 : Nat) (Option.some (Jvm.ClassFile.FieldType.object "java/lang/String")), Jvm.Cond.code ({ cls := "java/lang/String", name := "equals", desc := "(Ljava/lang/Object;)Z" } : Jvm.MethodName) jdk_42_method_66_code (3 : Nat) (Option.some Jvm.ClassFile.FieldType.boolean), Jvm.Cond.code ({ cls := "java/lang/StringLatin1", name := "equals", desc := "([B[B)Z" } : Jvm.MethodName) jdk_43_method_13_code (3 : Nat) (Option.some Jvm.ClassFile.FieldType.boolean), Jvm.Cond.code ({ cls := "java/lang/StringUTF16", name := "compress", desc := "([CII)[B" } : Jvm.MethodName) jdk_52_method_16_code (6 : Nat) (Option.some (Jvm.ClassFile.FieldType.array Jvm.ClassFile.FieldType.byte)), Jvm.Cond.code ({ cls := "java/lang/StringUTF16", name := "compress", desc := "([CI[BII)I" } : Jvm.MethodName) jdk_52_method_21_code (7 : Nat) (Option.some Jvm.ClassFile.FieldType.int), Jvm.Cond.code ({ cls := "java/lang/StringUTF16", name := "coderFromArrayLen", desc := "([BI)B" } : Jvm.MethodName) jdk_52_method_15_code (2 : Nat) (Option.some Jvm.ClassFile.FieldType.byte)]
set_option maxRecDepth 65536 in
theorem codes_eq : words1.filter isCode = codes1 := rfl
theorem w_codes : ∀ c ∈ words1.filter isCode, c.before args0 about1 = true := by
  rw [codes_eq]
  intro c hc
  simp only [codes1, List.mem_cons, List.not_mem_nil, or_false] at hc
  rcases hc with rfl | rfl | rfl | rfl | rfl | rfl | rfl | rfl | rfl | rfl | rfl | rfl | rfl | rfl | rfl
  · exact w_c0
  · exact w_c1
  · exact w_c2
  · exact w_c3
  · exact w_c4
  · exact w_c5
  · exact w_c6
  · exact w_c7
  · exact w_c8
  · exact w_c9
  · exact w_c10
  · exact w_c11
  · exact w_c12
  · exact w_c13
  · exact w_c14
set_option maxRecDepth 65536 in
theorem w_t1 : (words1.take 24).all (fun c => isCode c || c.before args0 about1) = true := by decide +kernel
set_option maxRecDepth 65536 in
theorem w_t2 : ((words1.drop 24).take 24).all (fun c => isCode c || c.before args0 about1) = true := by decide +kernel
set_option maxRecDepth 65536 in
theorem w_t3 : (((words1.drop 24).drop 24).take 24).all (fun c => isCode c || c.before args0 about1) = true := by decide +kernel
set_option maxRecDepth 65536 in
theorem w_t4 : (((words1.drop 24).drop 24).drop 24).all (fun c => isCode c || c.before args0 about1) = true := by decide +kernel
theorem w_tables : (allAtoms (Jvm.Cond.code x code maxLocals ret :: tables_1)).before args0 about1 = true := by
  rw [allAtoms_all]
  show words1.all (fun c => c.before args0 about1) = true
  refine all_split ?_ w_codes
  rw [← List.take_append_drop 24 words1, List.all_append, w_t1, ← List.take_append_drop 24 (words1.drop 24), List.all_append, w_t2, ← List.take_append_drop 24 ((words1.drop 24).drop 24), List.all_append, w_t3, w_t4]
  rfl
set_option maxRecDepth 65536 in
theorem w_rest : rest_1_c.before args0 about1 = true := by decide +kernel
set_option maxRecDepth 65536 in
theorem w_case : (Jvm.Cond.and given_1 narrow_1).before args0 about1 = true := by decide +kernel
set_option maxRecDepth 65536 in
theorem w_consts : constsHeld consts_1 about1 := Jvm.Lit.constsHeldB_iff.mp (by decide +kernel)
theorem w_applies : (headSpec (Jvm.Cond.code x code maxLocals ret :: tables_1) room_1).applies x e0.platform about1 = true :=
  (Spec.applies_iff w_frames).mpr ⟨w_running, w_runnable, w_alone, w_named, w_hears, w_ripe, w_room, w_tables⟩
theorem atStart : AtStart classFile x code maxLocals ret World_1 tables_1 room_1 Calls_1 rest_1 Pre_1 launch0 p0 e0 about1 theMethod args0 below0 :=
  ⟨lists_1, trivial, launch0.admits_env _ _ _, launch0.least_env, fairChoices_fair.cas, fairChoices_fair.clock, w_frames, w_args, w_heap, w_applies, ⟨w_consts, trivial⟩, w_rest, w_case⟩
end start1
theorem witness_1 : WitnessClaimed_1 := ⟨start1.p0, start1.e0, start1.about1, start1.theMethod, start1.args0, start1.below0, start1.atStart⟩
end Jvm.Pilot.@@N@@
