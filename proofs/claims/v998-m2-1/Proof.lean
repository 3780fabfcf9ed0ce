import JvmDerived
import JvmDerived.Pilot.@@N@@Statement
import JvmDerived.Pilot.@@N@@Code
set_option linter.unusedVariables false
set_option linter.unusedSimpArgs false
namespace Jvm.Own
open Jvm Sem ClassFile Op Lib Jvm.Stand Jvm.Free Jvm.LawKit Jvm.RoadKit
/-- from this state and frame the run comes to an end that E says -/
def Goes (p : Program) (e : Env) (below : List Frame) (E : Outcome → State → Prop) (T : State) (f : JFrame) : Prop :=
  ∃ s₂ o, Steps p.tables e below (T.setTop f) s₂ ∧ s₂.status = .running ∧ Ended s₂ below o ∧ E o s₂
/-- the end of a walk that interns nothing -/
def EndN (s : State) (Q : Option Value → Heap → List Loc → Prop) (K N : Nat) (o : Outcome) (U : State) : Prop :=
  ∃ v L, o = .returned v ∧ Q v U.heap L ∧ FrameEnd s o U L K N
/-- a body's contract -/
def Rm (l : Launch) (y : MethodName) (bytes : ByteArray) (maxL : Nat) (ret : Option FieldType) (rm : Room) (ws : List Jvm.Cond) (Z : State) (as' : Array Value) (h : Heap) (Q : Option Value → Heap → List Loc → Prop) : Prop :=
  MetFree l y (head1 (Jvm.Cond.code y bytes maxL ret :: ws) rm) (fun a U => a = as' ∧ Z.Warmed39 U.vm ∧ U.heap = h) (fun _ _ _ _ _ => True) (fun _ U o U' => ∃ v L, o = .returned v ∧ Q v U'.heap L ∧ FrameEnd U o U' L rm.cells rm.slots)
section Own1
variable {p : Program} {l : Launch} {e : Env} {R : Room} {s : State} {m : MethodId} {args : Array Value} {below : List Frame} {meth : Method} {c : Code} {T : State} {locs : List Loc} {cells slots : Nat} {Z : State} {a0 : Array Value} {h : Heap} {E : Outcome → State → Prop}
theorem Goes.of {T T' : State} {f f' : JFrame} (st : ∀ t, Steps p.tables e below (T'.setTop f') t → Steps p.tables e below (T.setTop f) t) (k : Goes p e below E T' f') : Goes p e below E T f := by
  obtain ⟨s₂, o, h1, h2⟩ := k
  exact ⟨s₂, o, st _ h1, h2⟩
theorem Goes.cast {T : State} {f f' : JFrame} (q : f = f') (k : Goes p e below E T f') : Goes p e below E T f := q ▸ k
theorem oldLe {n0 : Nat} (O : Old Z n0 h) : n0 ≤ h.size := O.1 ▸ O.2.1
theorem goRet {Q : Option Value → Heap → List Loc → Prop} {K N : Nat} {g : JFrame} {v : Option Value} (X : Stand p l e R s m args below meth c T locs cells slots) (hv : meth.sig.returnType = none → v = none) (hlocks : meth.locks = false) (eT : T.heap = h) (hQ : Q v h locs) (hK : cells ≤ K) (hN : slots ≤ N)
    (st : ∀ fs, (∀ (f : JFrame) (acts : List Action), f.method = m → f.locked = none → f.entered = [] → (doReturn e (T.setTop f) acts v).1 = T.setFrames fs) → Steps p.tables e below (T.setTop g) (T.setFrames fs)) : Goes p e below (EndN s Q K N) T g := by
  obtain ⟨fs, hr, hrun, hended, hW, hsame⟩ := X.leave (v := v) hv hlocks
  subst eT
  exact ⟨_, _, st fs hr, hrun, hended, _, _, rfl, hQ, ⟨_, rfl⟩, hW, hsame.mono hK hN⟩
theorem retZ {Q : Option Value → Heap → List Loc → Prop} {K N pc : Nat} {Ls : Array Slot} {z : Int32} {t : FieldType} {rest : List Value} (X : Stand p l e R s m args below meth c T locs cells slots) (hx : p.tables.exec = Jvm.exec) (hret : meth.sig.returnType = some t) (hlocks : meth.locks = false) (ht : t = .boolean ∨ t = .byte ∨ t = .char ∨ t = .short)
    (hd : decode c.code pc = .ok (.ireturn, 1)) (eT : T.heap = h) (hK : cells ≤ K) (hN : slots ≤ N) (hQ : Q (some (.int (nar t z))) h locs) : Goes p e below (EndN s Q K N) T (mkF m pc Ls (.int z :: rest)) :=
  goRet X (fun q => by rw [hret] at q; cases q) hlocks eT hQ hK hN fun fs hr => retN X hx hret ht hd hr
theorem retInt {Q : Option Value → Heap → List Loc → Prop} {K N pc : Nat} {Ls : Array Slot} {z : Int32} {rest : List Value} (X : Stand p l e R s m args below meth c T locs cells slots) (hx : p.tables.exec = Jvm.exec) (hret : meth.sig.returnType = some .int) (hlocks : meth.locks = false)
    (hd : decode c.code pc = .ok (.ireturn, 1)) (eT : T.heap = h) (hK : cells ≤ K) (hN : slots ≤ N) (hQ : Q (some (.int z)) h locs) : Goes p e below (EndN s Q K N) T (mkF m pc Ls (.int z :: rest)) :=
  goRet X (fun q => by rw [hret] at q; cases q) hlocks eT hQ hK hN fun fs hr => by
    have hm' : T.vm.method? m = some meth := X.method'
    have hn : narrow .int (.int z) = .int z := rfl
    show Steps p.tables e below (T.setTop { method := m, pc := pc, locals := Ls, stack := _ :: rest, locked := none }) _
    jvm_step X.here [X.here.top, hx, hd, hm', hret, hn]
    first | (intro acts; rw [hr _ acts rfl rfl rfl]) | rw [hr _ _ rfl rfl rfl]
    exact Steps.refl _
theorem retLong {Q : Option Value → Heap → List Loc → Prop} {K N pc : Nat} {Ls : Array Slot} {z : Int64} {rest : List Value} (X : Stand p l e R s m args below meth c T locs cells slots) (hx : p.tables.exec = Jvm.exec) (hret : meth.sig.returnType = some .long) (hlocks : meth.locks = false)
    (hd : decode c.code pc = .ok (.lreturn, 1)) (eT : T.heap = h) (hK : cells ≤ K) (hN : slots ≤ N) (hQ : Q (some (.long z)) h locs) : Goes p e below (EndN s Q K N) T (mkF m pc Ls (.long z :: rest)) :=
  goRet X (fun q => by rw [hret] at q; cases q) hlocks eT hQ hK hN fun fs hr => by
    have hm' : T.vm.method? m = some meth := X.method'
    show Steps p.tables e below (T.setTop { method := m, pc := pc, locals := Ls, stack := _ :: rest, locked := none }) _
    jvm_step X.here [X.here.top, hx, hd, hm', hret, narrow]
    first | (intro acts; rw [hr _ acts rfl rfl rfl]) | rw [hr _ _ rfl rfl rfl]
    exact Steps.refl _
theorem retRef {Q : Option Value → Heap → List Loc → Prop} {K N pc : Nat} {Ls : Array Slot} {z : Value} {t : FieldType} {rest : List Value} (X : Stand p l e R s m args below meth c T locs cells slots) (hx : p.tables.exec = Jvm.exec) (hret : meth.sig.returnType = some t) (hlocks : meth.locks = false) (ht : t.isReference = true) (hz : z.isRef = true)
    (hd : decode c.code pc = .ok (.areturn, 1)) (eT : T.heap = h) (hK : cells ≤ K) (hN : slots ≤ N) (hQ : Q (some z) h locs) : Goes p e below (EndN s Q K N) T (mkF m pc Ls (z :: rest)) :=
  goRet X (fun q => by rw [hret] at q; cases q) hlocks eT hQ hK hN fun fs hr => by
    have hm' : T.vm.method? m = some meth := X.method'
    show Steps p.tables e below (T.setTop { method := m, pc := pc, locals := Ls, stack := _ :: rest, locked := none }) _
    rcases ref_cases hz with rfl | ⟨_, rfl⟩
    all_goals
      jvm_step X.here [X.here.top, hx, hd, hm', hret, ht, Value.isRef]
      first | (intro acts; rw [hr _ acts rfl rfl rfl]) | rw [hr _ _ rfl rfl rfl]
      exact Steps.refl _
theorem retVoid {Q : Option Value → Heap → List Loc → Prop} {K N pc : Nat} {Ls : Array Slot} {rest : List Value} (X : Stand p l e R s m args below meth c T locs cells slots) (hx : p.tables.exec = Jvm.exec) (hret : meth.sig.returnType = none) (hlocks : meth.locks = false)
    (hd : decode c.code pc = .ok (.return_, 1)) (eT : T.heap = h) (hK : cells ≤ K) (hN : slots ≤ N) (hQ : Q none h locs) : Goes p e below (EndN s Q K N) T (mkF m pc Ls rest) :=
  goRet X (fun _ => rfl) hlocks eT hQ hK hN fun fs hr => by
    have hm' : T.vm.method? m = some meth := X.method'
    show Steps p.tables e below (T.setTop { method := m, pc := pc, locals := Ls, stack := rest, locked := none }) _
    jvm_step X.here [X.here.top, hx, hd, hm', hret]
    first | (intro acts; rw [hr _ acts rfl rfl rfl]) | rw [hr _ _ rfl rfl rfl]
    exact Steps.refl _
/-- a body's contract out of its walk -/
theorem Rm.of {ws : List Jvm.Cond} {y : MethodName} {bytes : ByteArray} {maxL : Nat} {ret : Option FieldType} {rm : Room} {as' : Array Value} {h : Heap} {Q : Option Value → Heap → List Loc → Prop} (hp : plainFor y = true)
    (body : ∀ (p : Program) (e : Env) (s : State) (m : MethodId) (below : List Frame) (meth : Method) (c : Code) (T : State), Stand p l e rm s m as' below meth c T [] 0 0 → p.tables.exec = Jvm.exec → Z.Warmed39 s.vm → c.code = bytes → c.maxLocals = maxL → s.vm.findClass y.cls = some m.cls → meth.name = y.name → meth.sig.returnType = ret → meth.locks = false → T.heap = h →
      Goes p e below (EndN s Q rm.cells rm.slots) T (entryFrame m as' maxL)) : Rm l y bytes maxL ret rm ws Z as' h Q := by
  refine MetFree.of_bodySF hp hisR ?_
  intro p e s m args below meth c s₁ Bd hml0 hP hK
  obtain ⟨rfl, hZ, hh⟩ := hP
  exact body p e s m below meth c s₁ (Stand.of_body Bd) Bd.exec hZ Bd.bytes hml0 (findClass_of_methodNamed Bd.named) (name_of_methodNamed Bd.named Bd.method).1 Bd.returns Bd.notSynchronized (by rw [← hh, Bd.state]; rfl)
theorem goStatic {own : String} {index : Nat} {y : MethodName} {bytes : ByteArray} {maxL : Nat} {ret : Option FieldType} {rm : Room} {as' : Array Value} {Q : Option Value → Heap → List Loc → Prop} (W : Nat)
    (X : Stand p l e R s m args below meth c T locs cells slots) (hx : p.tables.exec = Jvm.exec) (hZ : Z.Warmed39 s.vm) (hown : s.vm.findClass own = some m.cls) (w1 : (Jvm.Cond.methodLink own index y).before a0 Z = true) (w2 : (Jvm.Cond.static y).before a0 Z = true) (w3 : (Jvm.Cond.initialized y.cls).before a0 Z = true) (w4 : (Jvm.Cond.code y bytes maxL ret).before a0 Z = true)
    (hy : y.cls ≠ "java/lang/invoke/MethodHandle" ∧ y.cls ≠ "java/lang/invoke/VarHandle") (r : Rm l y bytes maxL ret rm [] Z as' h Q) (eT : T.heap = h) {g : JFrame} (hg : g.method = m) (hsize : g.locals.size = c.maxLocals) (argsL rest : List Value) (hlen : ∀ sig, parseMethodDescriptor y.desc = some sig → argsL.length = sig.parameters.length)
    (hstack : g.stack = argsL.reverse ++ rest) (has : argsL.toArray = as') (hW : 2 * g.monitorRoom + (rest.map fun v => v.category).sum ≤ W) (hd : decode c.code g.pc = .ok (.invokestatic index, 3)) (hf : rm.frames + 1 ≤ R.frames) (hl : W + (maxL + 11) + rm.locals ≤ R.locals) (hc : cells + rm.cells ≤ R.cells) (hs : slots + rm.slots ≤ R.slots)
    (k : ∀ v T' L, Stand p l e R s m args below meth c T' (locs ++ L) (cells + rm.cells) (slots + rm.slots) → Q v T'.heap L → Goes p e below E T' { g with pc := g.pc + 3, stack := v.toList ++ rest }) : Goes p e below E T g := by
  obtain ⟨v, vm₁, ⟨T', L', k', n'⟩, -, X', ⟨L, hQ, q1, q2, q3⟩, st⟩ := Jvm.LawKit.callS X hx (y := y) hown (mvT hZ w1) (mvT hZ w2) (mvT hZ w3) (mvT hZ w4) hy (backOf (W := W) r hZ w4 w3 hf hl) hg hsize hlen hstack hW hd (fun _ _ => ⟨has, eT, hc, hs⟩)
  dsimp only [Pt.U, Pt.locs, Pt.cells, Pt.slots] at X' q1 q2 q3 st hQ
  subst q1 q2 q3
  exact Goes.of st (k v T' L X' hQ)
theorem goSpecial {own : String} {index : Nat} {y : MethodName} {bytes : ByteArray} {maxL : Nat} {rm : Room} {as' : Array Value} {Q : Option Value → Heap → List Loc → Prop} (W : Nat)
    (X : Stand p l e R s m args below meth c T locs cells slots) (hx : p.tables.exec = Jvm.exec) (hZ : Z.Warmed39 s.vm) (hy1 : y.name = "<init>") (hown : s.vm.findClass own = some m.cls) (w1 : (Jvm.Cond.methodLink own index y).before a0 Z = true) (w2 : (Jvm.Cond.instanceMethod y).before a0 Z = true) (w3 : (Jvm.Cond.initialized y.cls).before a0 Z = true) (w4 : (Jvm.Cond.code y bytes maxL none).before a0 Z = true)
    (hy : y.cls ≠ "java/lang/invoke/MethodHandle" ∧ y.cls ≠ "java/lang/invoke/VarHandle") (r : Rm l y bytes maxL none rm [] Z as' h Q) (eT : T.heap = h) {g : JFrame} (hg : g.method = m) (hsize : g.locals.size = c.maxLocals) (a : Addr) (argsL rest : List Value) (hlen : ∀ sig, parseMethodDescriptor y.desc = some sig → argsL.length = sig.parameters.length)
    (hstack : g.stack = argsL.reverse ++ .ref a :: rest) (has : (.ref a :: argsL).toArray = as') (hW : 2 * g.monitorRoom + (rest.map fun v => v.category).sum ≤ W) (hd : decode c.code g.pc = .ok (.invokespecial index, 3)) (hf : rm.frames + 1 ≤ R.frames) (hl : W + (maxL + 11) + rm.locals ≤ R.locals) (hc : cells + rm.cells ≤ R.cells) (hs : slots + rm.slots ≤ R.slots)
    (k : ∀ v T' L, Stand p l e R s m args below meth c T' (locs ++ L) (cells + rm.cells) (slots + rm.slots) → Q v T'.heap L → Goes p e below E T' { g with pc := g.pc + 3, stack := v.toList ++ rest }) : Goes p e below E T g := by
  obtain ⟨v, vm₁, ⟨T', L', k', n'⟩, -, X', ⟨L, hQ, q1, q2, q3⟩, st⟩ := X.specialBack hx (y := y) hy1 hown (mvT hZ w1) (mvT hZ w2) (mvT hZ w4) hy (backOf (W := W) r hZ w4 w3 hf hl) hg hsize (Steps.refl _) (a := a) hlen hstack hW hd (fun _ _ => ⟨has, eT, hc, hs⟩)
  dsimp only [Pt.U, Pt.locs, Pt.cells, Pt.slots] at X' q1 q2 q3 st hQ
  subst q1 q2 q3
  exact Goes.of (fun _ => st.trans) (k v T' L X' hQ)
theorem goVirtual {own C : String} {index : Nat} {y z : MethodName} {bytes : ByteArray} {maxL : Nat} {ret : Option FieldType} {rm : Room} {as' : Array Value} {Q : Option Value → Heap → List Loc → Prop} (W : Nat)
    (X : Stand p l e R s m args below meth c T locs cells slots) (hx : p.tables.exec = Jvm.exec) (hZ : Z.Warmed39 s.vm) (hown : s.vm.findClass own = some m.cls) (w1 : (Jvm.Cond.methodLink own index y).before a0 Z = true) (w2 : (Jvm.Cond.declares y).before a0 Z = true) (hnf : NotFace s y) (w3 : (Jvm.Cond.selects C y z).before a0 Z = true) (w4 : (Jvm.Cond.instanceMethod z).before a0 Z = true) (w5 : (Jvm.Cond.initialized z.cls).before a0 Z = true) (w6 : (Jvm.Cond.code z bytes maxL ret).before a0 Z = true)
    (hy : y.cls ≠ "java/lang/invoke/MethodHandle" ∧ y.cls ≠ "java/lang/invoke/VarHandle") (r : Rm l z bytes maxL ret rm [] Z as' h Q) (eT : T.heap = h) {a : Addr} (F : Exa Z h a C) {g : JFrame} (hg : g.method = m) (hsize : g.locals.size = c.maxLocals) (argsL rest : List Value) (hlen : ∀ sig, parseMethodDescriptor y.desc = some sig → argsL.length = sig.parameters.length)
    (hstack : g.stack = argsL.reverse ++ .ref a :: rest) (has : (.ref a :: argsL).toArray = as') (hW : 2 * g.monitorRoom + (rest.map fun v => v.category).sum ≤ W) (hd : decode c.code g.pc = .ok (.invokevirtual index, 3)) (hf : rm.frames + 1 ≤ R.frames) (hl : W + (maxL + 11) + rm.locals ≤ R.locals) (hc : cells + rm.cells ≤ R.cells) (hs : slots + rm.slots ≤ R.slots)
    (k : ∀ v T' L, Stand p l e R s m args below meth c T' (locs ++ L) (cells + rm.cells) (slots + rm.slots) → Q v T'.heap L → Goes p e below E T' { g with pc := g.pc + 3, stack := v.toList ++ rest }) : Goes p e below E T g := by
  obtain ⟨cq, kq, qa, qb, qc⟩ := isOf hZ eT F
  obtain ⟨v, vm₁, ⟨T', L', k', n'⟩, -, X', ⟨L, hQ, q1, q2, q3⟩, st⟩ := X.virtualBack hx (y := y) (z := z) hown (mvT hZ w1) (mvT hZ w2) hnf (mvT hZ w3) (mvT hZ w4) hy (backOf (W := W) r hZ w6 w5 hf hl) qa qc hg hsize (Steps.refl _) hlen hstack hW hd (fun _ _ => ⟨has, eT, hc, hs⟩)
  dsimp only [Pt.U, Pt.locs, Pt.cells, Pt.slots] at X' q1 q2 q3 st hQ
  subst q1 q2 q3
  exact Goes.of (fun _ => st.trans) (k v T' L X' hQ)
theorem goNew {own C : String} {index n : Nat} (X : Stand p l e R s m args below meth c T locs cells slots) (hx : p.tables.exec = Jvm.exec) (hZ : Z.Warmed39 s.vm) (hown : s.vm.findClass own = some m.cls) (w : (Jvm.Cond.classLink own index C).before a0 Z = true) (wi : (Jvm.Cond.instantiable C n).before a0 Z = true) (wz : (Jvm.Cond.initialized C).before a0 Z = true) (eT : T.heap = h)
    {g : JFrame} (hg : g.method = m) (hd : decode c.code g.pc = .ok (.new index, 3)) (hc : cells + 1 ≤ R.cells) (hl : slots + n ≤ R.slots)
    (k : ∀ T' h' b, Stand p l e R s m args below meth c T' locs (cells + 1) (slots + n) → T'.heap = h' → Ext h h' → h.size ≤ b → Exa Z h' b C → (∀ {O nm d : String} {ty : FieldType}, Laid Z a0 C O nm d → parseFieldDescriptor d = some ty → Fld Z h' b O nm d (defaultValue ty)) → Goes p e below E T' { g with pc := g.pc + 3, stack := .ref b :: g.stack }) : Goes p e below E T g := by
  obtain ⟨T', h', X', e', E', A', D', -, st⟩ := newO X hx hZ hown w wi wz eT hg hd hc hl
  exact Goes.of st (k T' h' _ X' e' E' (Nat.le_refl _) A' D')
theorem goInitO {own : String} {idx : Nat} (W : Nat) (X : Stand p l e R s m args below meth c T locs cells slots) (hx : p.tables.exec = Jvm.exec) (hZ : Z.Warmed39 s.vm) (hown : s.vm.findClass own = some m.cls) (w1 : (Jvm.Cond.methodLink own idx Lib.objectInit).before a0 Z = true) (w2 : (Jvm.Cond.instanceMethod Lib.objectInit).before a0 Z = true)
    (w3 : (Jvm.Cond.code Lib.objectInit ⟨#[0xb1]⟩ 1 none).before a0 Z = true) (eT : T.heap = h) {g : JFrame} (hg : g.method = m) (hsize : g.locals.size = c.maxLocals) {a : Addr} {rest : List Value} (hs : g.stack = .ref a :: rest) (hd : decode c.code g.pc = .ok (.invokespecial idx, 3))
    (hf : 1 ≤ R.frames) (hW : 2 * g.monitorRoom + (rest.map fun v => v.category).sum ≤ W) (hl : W + 12 ≤ R.locals) (k : ∀ T', Stand p l e R s m args below meth c T' locs cells slots → T'.heap = h → Goes p e below E T' { g with pc := g.pc + 3, stack := rest }) : Goes p e below E T g := by
  obtain ⟨T', X', e', st⟩ := initO X hx hZ hown w1 w2 w3 eT hg hsize hs hd hf hW hl
  exact Goes.of st (k T' X' e')
theorem goGet {own R0 O n d host : String} {index : Nat} (X : Stand p l e R s m args below meth c T locs cells slots) (hx : p.tables.exec = Jvm.exec) (hZ : Z.Warmed39 s.vm) (hown : s.vm.findClass own = some m.cls) (w : (Jvm.Cond.fieldLink own index R0 n d).before a0 Z = true ∨ (Jvm.Cond.fieldLinkNest own index R0 n d host).before a0 Z = true) (via : Via Z R0 O n d)
    (eT : T.heap = h) {a : Addr} {v : Value} (F : Fld Z h a O n d v) {g : JFrame} (hg : g.method = m) {rest : List Value} (hs : g.stack = .ref a :: rest) (hd : decode c.code g.pc = .ok (.getfield index, 3))
    (k : ∀ T', Stand p l e R s m args below meth c T' locs cells slots → T'.heap = h → Goes p e below E T' { g with pc := g.pc + 3, stack := v :: rest }) : Goes p e below E T g := by
  obtain ⟨T', X', e', st⟩ := getF X hx hZ hown w via eT F hg hs hd
  exact Goes.of st (k T' X' e')
theorem goGetS {own R0 O n d host : String} {index : Nat} (X : Stand p l e R s m args below meth c T locs cells slots) (hx : p.tables.exec = Jvm.exec) (hZ : Z.Warmed39 s.vm) (hown : s.vm.findClass own = some m.cls) (w : (Jvm.Cond.fieldLink own index R0 n d).before a0 Z = true ∨ (Jvm.Cond.fieldLinkNest own index R0 n d host).before a0 Z = true) (via : Via Z R0 O n d)
    (eT : T.heap = h) {v : Value} (F : Sta Z h O n d v) {g : JFrame} (hg : g.method = m) (hd : decode c.code g.pc = .ok (.getstatic index, 3))
    (k : ∀ T', Stand p l e R s m args below meth c T' locs cells slots → T'.heap = h → Goes p e below E T' { g with pc := g.pc + 3, stack := v :: g.stack }) : Goes p e below E T g := by
  obtain ⟨T', X', e', st⟩ := getS2 X hx hZ hown w via eT F hg hd
  exact Goes.of st (k T' X' e')
theorem goPut {own R0 O n d host C : String} {index kk : Nat} {ty : FieldType} (X : Stand p l e R s m args below meth c T locs cells slots) (hx : p.tables.exec = Jvm.exec) (hZ : Z.Warmed39 s.vm) (hown : s.vm.findClass own = some m.cls) (w : (Jvm.Cond.fieldLink own index R0 n d).before a0 Z = true ∨ (Jvm.Cond.fieldLinkNest own index R0 n d host).before a0 Z = true) (via : Via Z R0 O n d)
    (eT : T.heap = h) {a : Addr} {v old : Value} (F : Fld Z h a O n d old) (Ex : Exa Z h a C) (L : (Jvm.Cond.lays C O n d).before a0 Z = true ∨ ((Jvm.Cond.laysFinal C O n d).before a0 Z = true ∧ own = O ∧ meth.name = "<init>")) (wi : (Jvm.Cond.instantiable C kk).before a0 Z = true)
    (hty : parseFieldDescriptor d = some ty) (hn : narrow ty v = v) (hf : fits ty v = true) {g : JFrame} (hg : g.method = m) {rest : List Value} (hs : g.stack = v :: .ref a :: rest) (hd : decode c.code g.pc = .ok (.putfield index, 3))
    (k : ∀ T' h', Stand p l e R s m args below meth c T' (locs ++ [⟨a, Jvm.RoadKit.slotOf Z O n d⟩]) cells slots → T'.heap = h' → Wr h h' a (Jvm.RoadKit.slotOf Z O n d) v → Goes p e below E T' { g with pc := g.pc + 3, stack := rest }) : Goes p e below E T g := by
  obtain ⟨T', h', X', e', W', st⟩ := putF X hx hZ hown w via eT F Ex L wi hty hn hf hg hs hd
  exact Goes.of st (k T' h' X' e' W')
theorem goCast {own K : String} {index : Nat} (X : Stand p l e R s m args below meth c T locs cells slots) (hx : p.tables.exec = Jvm.exec) (hZ : Z.Warmed39 s.vm) (hown : s.vm.findClass own = some m.cls) (w : (Jvm.Cond.classLink own index K).before a0 Z = true) (eT : T.heap = h) {a : Addr} (F : Ins Z h a K true)
    {g : JFrame} (hg : g.method = m) {rest : List Value} (hs : g.stack = .ref a :: rest) (hd : decode c.code g.pc = .ok (.checkcast index, 3))
    (k : ∀ T', Stand p l e R s m args below meth c T' locs cells slots → T'.heap = h → Goes p e below E T' { g with pc := g.pc + 3 }) : Goes p e below E T g := by
  obtain ⟨T', X', e', st⟩ := castY X hx hZ hown w eT F hg hs hd
  exact Goes.of st (k T' X' e')
theorem goInstY {own K : String} {index : Nat} (X : Stand p l e R s m args below meth c T locs cells slots) (hx : p.tables.exec = Jvm.exec) (hZ : Z.Warmed39 s.vm) (hown : s.vm.findClass own = some m.cls) (w : (Jvm.Cond.classLink own index K).before a0 Z = true) (eT : T.heap = h) {a : Addr} (F : Ins Z h a K true)
    {g : JFrame} (hg : g.method = m) {rest : List Value} (hs : g.stack = .ref a :: rest) (hd : decode c.code g.pc = .ok (.instanceof index, 3))
    (k : ∀ T', Stand p l e R s m args below meth c T' locs cells slots → T'.heap = h → Goes p e below E T' { g with pc := g.pc + 3, stack := .int 1 :: rest }) : Goes p e below E T g := by
  obtain ⟨T', X', e', st⟩ := instY X hx hZ hown w eT F hg hs hd
  exact Goes.of st (k T' X' e')
theorem goInstN {own K C : String} {index : Nat} (X : Stand p l e R s m args below meth c T locs cells slots) (hx : p.tables.exec = Jvm.exec) (hZ : Z.Warmed39 s.vm) (hown : s.vm.findClass own = some m.cls) (w : (Jvm.Cond.classLink own index K).before a0 Z = true) (eT : T.heap = h) {a : Addr} (Ex : Exa Z h a C) (F : ∃ c t, Z.vm.findClass C = some c ∧ Z.vm.findClass K = some t ∧ Z.vm.assignable c t = false)
    {g : JFrame} (hg : g.method = m) {rest : List Value} (hs : g.stack = .ref a :: rest) (hd : decode c.code g.pc = .ok (.instanceof index, 3))
    (k : ∀ T', Stand p l e R s m args below meth c T' locs cells slots → T'.heap = h → Goes p e below E T' { g with pc := g.pc + 3, stack := .int 0 :: rest }) : Goes p e below E T g := by
  obtain ⟨T', X', e', st⟩ := Jvm.RoadKit.instNo X hx hZ hown w eT Ex F hg hs hd
  exact Goes.of st (k T' X' e')
theorem goNewP {aty : ArrayType} (cap : Nat) (X : Stand p l e R s m args below meth c T locs cells slots) (hx : p.tables.exec = Jvm.exec) (hZ : Z.Warmed39 s.vm) (w : (Jvm.Cond.arrayClass (newarray.typeOf aty)).before a0 Z = true) (eT : T.heap = h) {g : JFrame} (hg : g.method = m) (hd : decode c.code g.pc = .ok (.newarray aty, 2)) {n : Int32} {rest : List Value} (hs : g.stack = .int n :: rest)
    (hn : ¬ n < 0) (hcap : n.toNatClampNeg ≤ cap) (hb : cap * 8 ≤ 536870912) (hc : cells + 1 ≤ R.cells) (hl : slots + cap ≤ R.slots) {ad : String} (had : "[" ++ (newarray.typeOf aty).toString = ad) 
    (k : ∀ T' h' b cA, Stand p l e R s m args below meth c T' locs (cells + 1) (slots + cap) → T'.heap = h' → Ext h h' → h.size ≤ b → Arv Z h' b cA (newarray.typeOf aty) n (List.replicate cap (defaultValue (newarray.typeOf aty))) (defaultValue (newarray.typeOf aty)) → Exa Z h' b ad → Goes p e below E T' { g with pc := g.pc + 2, stack := .ref b :: rest }) : Goes p e below E T g := by
  obtain ⟨T', h', cA, X', e', E', A', Ex', st⟩ := newPE X hx hZ w eT hg hd hs hn hcap hb hc hl had
  exact Goes.of st (k T' h' _ cA X' e' E' (Nat.le_refl _) ((Arv.new A' hn).pad (pad_rep [] _ cap)) Ex')
theorem goNewR {own C : String} {index : Nat} (cap : Nat) (X : Stand p l e R s m args below meth c T locs cells slots) (hx : p.tables.exec = Jvm.exec) (hZ : Z.Warmed39 s.vm) (hown : s.vm.findClass own = some m.cls) (w1 : (Jvm.Cond.classLink own index C).before a0 Z = true) (w2 : (Jvm.Cond.arrayOver (.object C)).before a0 Z = true) (eT : T.heap = h) {g : JFrame} (hg : g.method = m) (hd : decode c.code g.pc = .ok (.anewarray index, 3)) {n : Int32} {rest : List Value} (hs : g.stack = .int n :: rest)
    (hn : ¬ n < 0) (hcap : n.toNatClampNeg ≤ cap) (hb : cap * 8 ≤ 536870912) (hc : cells + 1 ≤ R.cells) (hl : slots + cap ≤ R.slots)
    (k : ∀ T' h' b cA, Stand p l e R s m args below meth c T' locs (cells + 1) (slots + cap) → T'.heap = h' → Ext h h' → h.size ≤ b → Arv Z h' b cA (.object C) n (List.replicate cap .null) .null → Ovr Z cA C → Goes p e below E T' { g with pc := g.pc + 3, stack := .ref b :: rest }) : Goes p e below E T g := by
  obtain ⟨T', h', cA, X', e', E', A', O', st⟩ := newR X hx hZ hown w1 w2 eT hg hd hs hn hcap hb hc hl
  exact Goes.of st (k T' h' _ cA X' e' E' (Nat.le_refl _) ((Arv.new A' hn).pad (pad_rep [] _ cap)) O')
theorem inbV {cl : Cell} {z j : Int32} (S : cl.slots.size = z.toNatClampNeg) (hj : ¬ j < 0) (hj' : j < z) : ¬ (j < 0 ∨ cl.slots.size ≤ j.toNatClampNeg) := inb_of S ⟨hj, hj'⟩
theorem goStI {a : Addr} {kc : ClassId} {z j x : Int32} {vs : List Value} {dv : Value} (i : Nat) (X : Stand p l e R s m args below meth c T locs cells slots) (hx : p.tables.exec = Jvm.exec) (hZ : Z.Warmed39 s.vm) (eT : T.heap = h) (V : Arv Z h a kc .int z vs dv) (hj : ¬ j < 0) (hj' : j < z) (hi : j.toNatClampNeg = i) (hl : i < vs.length)
    {g : JFrame} (hg : g.method = m) {rest : List Value} (hs : g.stack = .int x :: .int j :: .ref a :: rest) (hd : decode c.code g.pc = .ok (.iastore, 1))
    (k : ∀ T' h', Stand p l e R s m args below meth c T' (locs ++ [⟨a, j.toNatClampNeg⟩]) cells slots → T'.heap = h' → Wr h h' a j.toNatClampNeg (.int x) → Arv Z h' a kc .int z (vs.set i (.int x)) dv → Goes p e below E T' { g with pc := g.pc + 1, stack := rest }) : Goes p e below E T g := by
  obtain ⟨cl, A, q1, S, q3, H, G⟩ := V
  obtain ⟨T', h', X', e', W', st⟩ := stI X hx hZ eT A (inbV S hj hj') hg hs hd
  exact Goes.of st (k T' h' X' e' W' (Arv.set A q1 S q3 H G rfl W' i hi hl))
theorem goStJ {a : Addr} {kc : ClassId} {z j : Int32} {x : Int64} {vs : List Value} {dv : Value} (i : Nat) (X : Stand p l e R s m args below meth c T locs cells slots) (hx : p.tables.exec = Jvm.exec) (hZ : Z.Warmed39 s.vm) (eT : T.heap = h) (V : Arv Z h a kc .long z vs dv) (hj : ¬ j < 0) (hj' : j < z) (hi : j.toNatClampNeg = i) (hl : i < vs.length)
    {g : JFrame} (hg : g.method = m) {rest : List Value} (hs : g.stack = .long x :: .int j :: .ref a :: rest) (hd : decode c.code g.pc = .ok (.lastore, 1))
    (k : ∀ T' h', Stand p l e R s m args below meth c T' (locs ++ [⟨a, j.toNatClampNeg⟩]) cells slots → T'.heap = h' → Wr h h' a j.toNatClampNeg (.long x) → Arv Z h' a kc .long z (vs.set i (.long x)) dv → Goes p e below E T' { g with pc := g.pc + 1, stack := rest }) : Goes p e below E T g := by
  obtain ⟨cl, A, q1, S, q3, H, G⟩ := V
  obtain ⟨T', h', X', e', W', st⟩ := stJ X hx hZ eT A (inbV S hj hj') hg hs hd
  exact Goes.of st (k T' h' X' e' W' (Arv.set A q1 S q3 H G rfl W' i hi hl))
theorem goStC {a : Addr} {kc : ClassId} {z j x : Int32} {vs : List Value} {dv : Value} (i : Nat) (X : Stand p l e R s m args below meth c T locs cells slots) (hx : p.tables.exec = Jvm.exec) (hZ : Z.Warmed39 s.vm) (eT : T.heap = h) (V : Arv Z h a kc .char z vs dv) (hj : ¬ j < 0) (hj' : j < z) (hi : j.toNatClampNeg = i) (hl : i < vs.length)
    {g : JFrame} (hg : g.method = m) {rest : List Value} (hs : g.stack = .int x :: .int j :: .ref a :: rest) (hd : decode c.code g.pc = .ok (.castore, 1))
    (k : ∀ T' h', Stand p l e R s m args below meth c T' (locs ++ [⟨a, j.toNatClampNeg⟩]) cells slots → T'.heap = h' → Wr h h' a j.toNatClampNeg (.int (nar .char x)) → Arv Z h' a kc .char z (vs.set i (.int (nar .char x))) dv → Goes p e below E T' { g with pc := g.pc + 1, stack := rest }) : Goes p e below E T g := by
  obtain ⟨cl, A, q1, S, q3, H, G⟩ := V
  obtain ⟨T', h', X', e', W', st⟩ := stC X hx hZ eT A (inbV S hj hj') hg hs hd
  exact Goes.of st (k T' h' X' e' W' (Arv.set A q1 S q3 H G (fits_nar_char _) W' i hi hl))
theorem goStB {a : Addr} {kc : ClassId} {z j x : Int32} {vs : List Value} {dv : Value} (i : Nat) (X : Stand p l e R s m args below meth c T locs cells slots) (hx : p.tables.exec = Jvm.exec) (hZ : Z.Warmed39 s.vm) (eT : T.heap = h) (V : Arv Z h a kc .byte z vs dv) (hj : ¬ j < 0) (hj' : j < z) (hi : j.toNatClampNeg = i) (hl : i < vs.length)
    {g : JFrame} (hg : g.method = m) {rest : List Value} (hs : g.stack = .int x :: .int j :: .ref a :: rest) (hd : decode c.code g.pc = .ok (.bastore, 1))
    (k : ∀ T' h', Stand p l e R s m args below meth c T' (locs ++ [⟨a, j.toNatClampNeg⟩]) cells slots → T'.heap = h' → Wr h h' a j.toNatClampNeg (.int (nar .byte x)) → Arv Z h' a kc .byte z (vs.set i (.int (nar .byte x))) dv → Goes p e below E T' { g with pc := g.pc + 1, stack := rest }) : Goes p e below E T g := by
  obtain ⟨cl, A, q1, S, q3, H, G⟩ := V
  obtain ⟨T', h', X', e', W', st⟩ := stB X hx hZ eT A (inbV S hj hj') hg hs hd
  exact Goes.of st (k T' h' X' e' W' (Arv.set A q1 S q3 H G (fits_nar_byte _) W' i hi hl))
theorem goStZ {a : Addr} {kc : ClassId} {z j x : Int32} {vs : List Value} {dv : Value} (i : Nat) (X : Stand p l e R s m args below meth c T locs cells slots) (hx : p.tables.exec = Jvm.exec) (hZ : Z.Warmed39 s.vm) (eT : T.heap = h) (V : Arv Z h a kc .boolean z vs dv) (hj : ¬ j < 0) (hj' : j < z) (hi : j.toNatClampNeg = i) (hl : i < vs.length)
    {g : JFrame} (hg : g.method = m) {rest : List Value} (hs : g.stack = .int x :: .int j :: .ref a :: rest) (hd : decode c.code g.pc = .ok (.bastore, 1))
    (k : ∀ T' h', Stand p l e R s m args below meth c T' (locs ++ [⟨a, j.toNatClampNeg⟩]) cells slots → T'.heap = h' → Wr h h' a j.toNatClampNeg (.int (nar .boolean x)) → Arv Z h' a kc .boolean z (vs.set i (.int (nar .boolean x))) dv → Goes p e below E T' { g with pc := g.pc + 1, stack := rest }) : Goes p e below E T g := by
  obtain ⟨cl, A, q1, S, q3, H, G⟩ := V
  obtain ⟨T', h', X', e', W', st⟩ := stZ X hx hZ eT A (inbV S hj hj') hg hs hd
  exact Goes.of st (k T' h' X' e' W' (Arv.set A q1 S q3 H G (fits_nar_bool _) W' i hi hl))
theorem goStR {a y : Addr} {C : String} {kc : ClassId} {z j : Int32} {vs : List Value} {dv : Value} (i : Nat) (X : Stand p l e R s m args below meth c T locs cells slots) (hx : p.tables.exec = Jvm.exec) (hZ : Z.Warmed39 s.vm) (eT : T.heap = h) (V : Arv Z h a kc (.object C) z vs dv) (O : Ovr Z kc C) (I : Ins Z h y C true) (hj : ¬ j < 0) (hj' : j < z) (hi : j.toNatClampNeg = i) (hl : i < vs.length)
    {g : JFrame} (hg : g.method = m) {rest : List Value} (hs : g.stack = .ref y :: .int j :: .ref a :: rest) (hd : decode c.code g.pc = .ok (.aastore, 1))
    (k : ∀ T' h', Stand p l e R s m args below meth c T' (locs ++ [⟨a, j.toNatClampNeg⟩]) cells slots → T'.heap = h' → Wr h h' a j.toNatClampNeg (.ref y) → Arv Z h' a kc (.object C) z (vs.set i (.ref y)) dv → Goes p e below E T' { g with pc := g.pc + 1, stack := rest }) : Goes p e below E T g := by
  obtain ⟨cl, A, q1, S, q3, H, G⟩ := V
  obtain ⟨T', h', X', e', W', st⟩ := stR X hx hZ eT A (inbV S hj hj') rfl (Sto.ofV A q1 O I) hg hs hd
  exact Goes.of st (k T' h' X' e' W' (Arv.set A q1 S q3 H G rfl W' i hi hl))
theorem goLdI {a : Addr} {kc : ClassId} {z j : Int32} {vs : List Value} {dv : Value} (v : Value) (X : Stand p l e R s m args below meth c T locs cells slots) (hx : p.tables.exec = Jvm.exec) (hZ : Z.Warmed39 s.vm) (eT : T.heap = h) (V : Arv Z h a kc .int z vs dv) (hj : ¬ j < 0) (hj' : j < z) (hv : vs.getD j.toNatClampNeg dv = v)
    {g : JFrame} (hg : g.method = m) {rest : List Value} (hs : g.stack = .int j :: .ref a :: rest) (hd : decode c.code g.pc = .ok (.iaload, 1)) (k : Goes p e below E T { g with pc := g.pc + 1, stack := v :: rest }) : Goes p e below E T g := by
  obtain ⟨cl, A, q1, S, q3, H, G⟩ := V
  exact Goes.of (fun t q => X.iaload hx (by rw [eT]; exact A.1) (State.isArrayOf_alike hZ.alike A.2.1) A.2.2 (inbV S hj hj') (H.at (inbV S hj hj') hv) hg hs hd t q) k
theorem goLdJ {a : Addr} {kc : ClassId} {z j : Int32} {vs : List Value} {dv : Value} (v : Value) (X : Stand p l e R s m args below meth c T locs cells slots) (hx : p.tables.exec = Jvm.exec) (hZ : Z.Warmed39 s.vm) (eT : T.heap = h) (V : Arv Z h a kc .long z vs dv) (hj : ¬ j < 0) (hj' : j < z) (hv : vs.getD j.toNatClampNeg dv = v)
    {g : JFrame} (hg : g.method = m) {rest : List Value} (hs : g.stack = .int j :: .ref a :: rest) (hd : decode c.code g.pc = .ok (.laload, 1)) (k : Goes p e below E T { g with pc := g.pc + 1, stack := v :: rest }) : Goes p e below E T g := by
  obtain ⟨cl, A, q1, S, q3, H, G⟩ := V
  exact Goes.of (fun t q => X.laload hx (by rw [eT]; exact A.1) (State.isArrayOf_alike hZ.alike A.2.1) A.2.2 (inbV S hj hj') (H.at (inbV S hj hj') hv) hg hs hd t q) k
theorem goLdC {a : Addr} {kc : ClassId} {z j : Int32} {vs : List Value} {dv : Value} (v : Value) (X : Stand p l e R s m args below meth c T locs cells slots) (hx : p.tables.exec = Jvm.exec) (hZ : Z.Warmed39 s.vm) (eT : T.heap = h) (V : Arv Z h a kc .char z vs dv) (hj : ¬ j < 0) (hj' : j < z) (hv : vs.getD j.toNatClampNeg dv = v)
    {g : JFrame} (hg : g.method = m) {rest : List Value} (hs : g.stack = .int j :: .ref a :: rest) (hd : decode c.code g.pc = .ok (.caload, 1)) (k : Goes p e below E T { g with pc := g.pc + 1, stack := v :: rest }) : Goes p e below E T g := by
  obtain ⟨cl, A, q1, S, q3, H, G⟩ := V
  exact Goes.of (fun t q => X.caload hx (by rw [eT]; exact A.1) (State.isArrayOf_alike hZ.alike A.2.1) A.2.2 (inbV S hj hj') (H.at (inbV S hj hj') hv) hg hs hd t q) k
theorem goLdB {a : Addr} {kc : ClassId} {z j : Int32} {vs : List Value} {dv : Value} (v : Value) (X : Stand p l e R s m args below meth c T locs cells slots) (hx : p.tables.exec = Jvm.exec) (hZ : Z.Warmed39 s.vm) (eT : T.heap = h) (V : Arv Z h a kc .byte z vs dv) (hj : ¬ j < 0) (hj' : j < z) (hv : vs.getD j.toNatClampNeg dv = v)
    {g : JFrame} (hg : g.method = m) {rest : List Value} (hs : g.stack = .int j :: .ref a :: rest) (hd : decode c.code g.pc = .ok (.baload, 1)) (k : Goes p e below E T { g with pc := g.pc + 1, stack := v :: rest }) : Goes p e below E T g := by
  obtain ⟨cl, A, q1, S, q3, H, G⟩ := V
  exact Goes.of (fun t q => X.baloadBytes hx (by rw [eT]; exact A.1) (State.isArrayOf_alike hZ.alike A.2.1) A.2.2 (inbV S hj hj') (H.at (inbV S hj hj') hv) hg hs hd t q) k
theorem goLdZ {a : Addr} {kc : ClassId} {z j : Int32} {vs : List Value} {dv : Value} (v : Value) (X : Stand p l e R s m args below meth c T locs cells slots) (hx : p.tables.exec = Jvm.exec) (hZ : Z.Warmed39 s.vm) (eT : T.heap = h) (V : Arv Z h a kc .boolean z vs dv) (hj : ¬ j < 0) (hj' : j < z) (hv : vs.getD j.toNatClampNeg dv = v)
    {g : JFrame} (hg : g.method = m) {rest : List Value} (hs : g.stack = .int j :: .ref a :: rest) (hd : decode c.code g.pc = .ok (.baload, 1)) (k : Goes p e below E T { g with pc := g.pc + 1, stack := v :: rest }) : Goes p e below E T g := by
  obtain ⟨cl, A, q1, S, q3, H, G⟩ := V
  exact Goes.of (fun t q => X.baloadBooleans hx (by rw [eT]; exact A.1) (State.isArrayOf_alike hZ.alike A.2.1) A.2.2 (inbV S hj hj') (H.at (inbV S hj hj') hv) hg hs hd t q) k
theorem goLdR {a : Addr} {C : String} {kc : ClassId} {z j : Int32} {vs : List Value} {dv : Value} (v : Value) (X : Stand p l e R s m args below meth c T locs cells slots) (hx : p.tables.exec = Jvm.exec) (hZ : Z.Warmed39 s.vm) (eT : T.heap = h) (V : Arv Z h a kc (.object C) z vs dv) (hj : ¬ j < 0) (hj' : j < z) (hv : vs.getD j.toNatClampNeg dv = v)
    {g : JFrame} (hg : g.method = m) {rest : List Value} (hs : g.stack = .int j :: .ref a :: rest) (hd : decode c.code g.pc = .ok (.aaload, 1)) (k : Goes p e below E T { g with pc := g.pc + 1, stack := v :: rest }) : Goes p e below E T g := by
  obtain ⟨cl, A, q1, S, q3, H, G⟩ := V
  exact Goes.of (fun t q => X.aaload hx (by rw [eT]; exact A.1) (State.isArrayOf_alike hZ.alike A.2.1) rfl A.2.2 (inbV S hj hj') (H.at (inbV S hj hj') hv) hg hs hd t q) k
theorem goLen {a : Addr} {kc : ClassId} {ty : FieldType} {z : Int32} {vs : List Value} {dv : Value} (X : Stand p l e R s m args below meth c T locs cells slots) (hx : p.tables.exec = Jvm.exec) (hZ : Z.Warmed39 s.vm) (eT : T.heap = h) (V : Arv Z h a kc ty z vs dv)
    {g : JFrame} (hg : g.method = m) {rest : List Value} (hs : g.stack = .ref a :: rest) (hd : decode c.code g.pc = .ok (.arraylength, 1)) (k : Goes p e below E T { g with pc := g.pc + 1, stack := .int z :: rest }) : Goes p e below E T g := by
  obtain ⟨cl, A, q1, S, q3, H, G⟩ := V
  exact Goes.of (fun t q => X.arraylength hx (by rw [eT]; exact A.1) (State.isArrayOf_alike hZ.alike A.2.1) hg hs hd t (by rw [len_of S q3]; exact q)) k
/-- a start fact out of a case's word -/
theorem fld_of_eq {args : Array Value} {t u : Term} {C n d : String} {a : Addr} {v : Value} (ev : t.eval args s none [] s = some (.ref a)) (hu : u.eval args s none [] s = some v) (h : (Jvm.Cond.eq (.field t C n d) u).value args s none s [] = some true) : Fld s s.heap a C n d v := by
  refine Fld.start ?_
  simp only [Jvm.Cond.value, fld_at ev, hu] at h
  cases hf : s.fieldOf? a C n d with
  | none => simp [hf] at h
  | some x => cases x <;> cases v <;> simp [hf] at h ⊢ <;> exact h
theorem sta_at {args : Array Value} {C n d : String} {v : Value} (ev : (Term.static C n d).eval args s none [] s = some v) (w1 : (Jvm.Cond.initialized C).before args s = true) (w2 : (Jvm.Cond.laysStatic C n d).before args s = true) : Sta s s.heap C n d v := Sta.start ev (Or.inr ⟨w1, w2⟩)
/-- an enum constant: the static, the object's class, its ordinal -/
def Con (Z : State) (C f : String) (d : String) (k : Int32) (a : Addr) : Prop := Sta Z Z.heap C f d (.ref a) ∧ Exa Z Z.heap a C ∧ Fld Z Z.heap a "java/lang/Enum" "ordinal" "I" (.int k)
theorem con_of {args : Array Value} {C f d : String} {k : Int32} (h1 : (Jvm.Cond.exactly (.static C f d) C).value args s none s [] = some true) (h2 : (Jvm.Cond.eq (.field (.static C f d) "java/lang/Enum" "ordinal" "I") (.int k)).value args s none s [] = some true)
    (w1 : (Jvm.Cond.initialized C).before args s = true) (w2 : (Jvm.Cond.laysStatic C f d).before args s = true) : ∃ a, Con s C f d k a ∧ (Term.static C f d).eval args s none [] s = some (.ref a) := by
  obtain ⟨a, ev⟩ := exa_v h1
  exact ⟨a, ⟨sta_at ev w1 w2, Exa.start ev h1, fld_of_eq ev (Term.int_eval k) h2⟩, ev⟩
theorem Con.ne {C f d C' f' d' : String} {k k' : Int32} {a b : Addr} (F : Con Z C f d k a) (G : Con Z C' f' d' k' b) (q : k ≠ k') : a ≠ b := Fld.ne F.2.2 G.2.2 (fun h => q (Value.int.inj h))
theorem mask31 (x : Int32) : (x &&& (2147483647 : Int32)).toInt = x.toInt % 2147483648 := c_mask x _ 31 (by decide) (by decide)
theorem div_pos (x y : Int32) {k : Int} (hx : ¬ x < 0) (hy : y.toInt = k) (h1 : y ≠ -1) : (x / y).toInt = x.toInt / k := (c_idiv x y k hy h1).1 (by rw [Int32.lt_iff_toInt_lt] at hx; have : (0 : Int32).toInt = 0 := rfl; omega)
theorem rem_pos {x y : Int32} {k : Int} (h : 0 ≤ x.toInt) (hy : y.toInt = k) : (x - (x / y) * y).toInt = x.toInt % k := by
  rw [irem_eq_mod]; exact (c_irem x y k hy).1 h
theorem rem31 (x y : Int32) {k : Int} (hy : y.toInt = k) : ((x &&& (2147483647 : Int32)) - ((x &&& (2147483647 : Int32)) / y) * y).toInt = (x.toInt % 2147483648) % k := by
  have e := mask31 x
  rw [rem_pos (by omega) hy, e]
def Cst (Z : State) (C f : String) (d : String) (a : Addr) : Prop := Sta Z Z.heap C f d (.ref a) ∧ Exa Z Z.heap a C
theorem cst_of {args : Array Value} {C f d : String} (h1 : (Jvm.Cond.exactly (.static C f d) C).value args s none s [] = some true)
    (w1 : (Jvm.Cond.initialized C).before args s = true) (w2 : (Jvm.Cond.laysStatic C f d).before args s = true) : ∃ a, Cst s C f d a ∧ (Term.static C f d).eval args s none [] s = some (.ref a) := by
  obtain ⟨a, ev⟩ := exa_v h1
  exact ⟨a, ⟨sta_at ev w1 w2, Exa.start ev h1⟩, ev⟩
theorem goClone {own ad : String} {index : Nat} {ty : FieldType} {a : Addr} {kc : ClassId} {z : Int32} {vs : List Value} {dv : Value} (W cap : Nat) (X : Stand p l e R s m args below meth c T locs cells slots) (hx : p.tables.exec = Jvm.exec) (hZ : Z.Warmed39 s.vm) (hown : s.vm.findClass own = some m.cls)
    (w1 : (Jvm.Cond.methodLink own index ⟨ad, "clone", "()Ljava/lang/Object;"⟩).before a0 Z = true) (w2 : (Jvm.Cond.sameMethod ad "java/lang/Object" "clone" "()Ljava/lang/Object;").before a0 Z = true) (w3 : (Jvm.Cond.native ⟨"java/lang/Object", "clone", "()Ljava/lang/Object;"⟩).before a0 Z = true)
    (w4 : (Jvm.Cond.instanceMethod ⟨"java/lang/Object", "clone", "()Ljava/lang/Object;"⟩).before a0 Z = true) (w5 : (Jvm.Cond.selects ad ⟨ad, "clone", "()Ljava/lang/Object;"⟩ ⟨"java/lang/Object", "clone", "()Ljava/lang/Object;"⟩).before a0 Z = true) (w6 : (Jvm.Cond.castable ad "java/lang/Cloneable").before a0 Z = true)
    (eT : T.heap = h) (V : Arv Z h a kc ty z vs dv) (Ex : Exa Z h a ad) {g : JFrame} (hg : g.method = m) (hsize : g.locals.size = c.maxLocals) {rest : List Value} (hst : g.stack = .ref a :: rest) (hd : decode c.code g.pc = .ok (.invokevirtual index, 3))
    (hf : 1 ≤ R.frames) (hW : 2 * g.monitorRoom + (rest.map fun v => v.category).sum ≤ W) (hl : W + 14 ≤ R.locals) (hcap : z.toNatClampNeg ≤ cap) (hc : cells + 1 ≤ R.cells) (hsl : slots + cap ≤ R.slots)
    (k : ∀ T' h' b, Stand p l e R s m args below meth c T' locs (cells + 1) (slots + cap) → T'.heap = h' → Ext h h' → h.size ≤ b → Arv Z h' b kc ty z vs dv → Exa Z h' b ad → Goes p e below E T' { g with pc := g.pc + 3, stack := .ref b :: rest }) : Goes p e below E T g := by
  obtain ⟨T', h', X', e', E', A', Ex', st⟩ := cloneH X hx hZ hown w1 w2 w3 w4 w5 w6 eT V.arh Ex hg hsize hst hd hf hW hl hcap hc hsl
  exact Goes.of st (k T' h' _ X' e' E' (Nat.le_refl _) A' Ex')
theorem nsRoot {O K : String} {n : Nat} (w : (Jvm.Cond.noSuperclass O).before a0 Z = true) (wk : (Jvm.Cond.instantiable K n).before a0 Z = true) (hn : O ≠ K) : NS Z O K := by
  obtain ⟨c, k, h1, h2, h3, -, -⟩ := Cond.noSuperclass_spec w
  obtain ⟨t, kt, g1, -⟩ := Cond.instantiable_spec wk
  have ne := ids_ne h1 g1 hn
  refine ⟨c, t, h1, g1, fun fuel => ?_⟩
  cases fuel with
  | zero => rfl
  | succ f => simp [Vm.isSubclassAux, ne, h2, h3]
theorem nsNo {C S K : String} {n : Nat} (w : (Jvm.Cond.superclass C S).before a0 Z = true) (wk : (Jvm.Cond.instantiable K n).before a0 Z = true) (q : NS Z C K) (hn : C ≠ K) : ∃ c t, Z.vm.findClass C = some c ∧ Z.vm.findClass K = some t ∧ Z.vm.assignable c t = false := by
  obtain ⟨c, t, h0, g0, n3⟩ := q
  obtain ⟨p, k, kp, h1, h2, h3, h4, h5, -, h7⟩ := Cond.superclass_spec h0 w
  obtain ⟨t', kt, g1, g2, g5, g7, -⟩ := Cond.instantiable_spec wk
  cases g0.symm.trans g1
  have g8 : kt.isInterface = false := by simp only [Bool.or_eq_false_iff] at g7; exact g7.1
  have ne := ids_ne h0 g0 hn
  refine ⟨c, t, h0, g0, ?_⟩
  show Z.vm.assignableAux (255 + 1) c t = false
  simp [Vm.assignableAux, ne, h2, g2, h5, g5, g8, Vm.isSubclass, n3]
/-- what is known of Integer's cache at the start -/
def IntC (Z : State) (ca : Addr) (cl : Cell) : Prop := Sta Z Z.heap "java/lang/Integer$IntegerCache" "high" "I" (.int 127) ∧ Sta Z Z.heap "java/lang/Integer$IntegerCache" "cache" "[Ljava/lang/Integer;" (.ref ca) ∧ Arr Z Z.heap ca cl (.object "java/lang/Integer") ∧ cl.slots.size = 256 ∧ ∀ j, j < 256 → ∃ b, cl.slots[j]? = some (.ref b) ∧ Exa Z Z.heap b "java/lang/Integer"
theorem ne_of_not {args : Array Value} {t : Term} {x : Int32} (ev : t.eval args s none [] s = some (.int x)) (h : (Jvm.Cond.not (.eq t (.int 0))).before args s = true) : ¬ x = 0 := by
  intro q
  subst q
  have e := Cond.before_iff.mp h
  simp [Jvm.Cond.value, ev, Term.eval] at e
end Own1
end Jvm.Own
namespace Jvm.Own
open Jvm Sem ClassFile Op Lib Jvm.Stand Jvm.Free Jvm.LawKit Jvm.RoadKit
/-- the end of a walk that may have interned -/
def EndW (Z s : State) (EL : List (String × Nat)) (Q : Option Value → Heap → List Loc → Prop) (K N : Nat) (o : Outcome) (U : State) : Prop :=
  ∃ v L, o = .returned v ∧ Q v U.heap L ∧ CHr Z EL s.vm s.heap U.vm U.heap ∧ ReturnedEndW s o U L K N
/-- the contract of a body that may intern, the read constants held -/
def RmH (l : Launch) (y : MethodName) (bytes : ByteArray) (maxL : Nat) (ret : Option FieldType) (rm : Room) (ws : List Jvm.Cond) (Z : State) (EL : List (String × Nat)) (as' : Array Value) (h : Heap) (Q : Option Value → Heap → List Loc → Prop) : Prop :=
  MetFree l y (head1 (Jvm.Cond.code y bytes maxL ret :: ws) rm) (fun a U => a = as' ∧ Z.Warmed39 U.vm ∧ U.heap = h ∧ CHv Z EL U.vm h) (fun _ _ _ _ _ => True) (fun _ U o U' => ∃ v L, o = .returned v ∧ Q v U'.heap L ∧ CHr Z EL U.vm U.heap U'.vm U'.heap ∧ ReturnedEndW U o U' L rm.cells rm.slots)
section Own2
variable {p : Program} {l : Launch} {e : Env} {R : Room} {s : State} {m : MethodId} {args : Array Value} {below : List Frame} {meth : Method} {c : Code} {T : State} {locs : List Loc} {cells slots : Nat} {Z : State} {a0 : Array Value} {h : Heap} {E : Outcome → State → Prop} {vm0 : Vm} {k0 : Nat} {EL : List (String × Nat)} {v00 : Vm} {h00 : Heap}
theorem RmH.of {ws : List Jvm.Cond} {y : MethodName} {bytes : ByteArray} {maxL : Nat} {ret : Option FieldType} {rm : Room} {as' : Array Value} {h : Heap} {Q : Option Value → Heap → List Loc → Prop} (hp : plainFor y = true)
    (body : ∀ (p : Program) (e : Env) (s : State) (m : MethodId) (below : List Frame) (meth : Method) (c : Code) (T : State), Stand p l e rm (s.setVm s.vm) m as' below meth c T [] 0 0 → p.tables.exec = Jvm.exec → Z.Warmed39 s.vm → c.code = bytes → c.maxLocals = maxL → s.vm.findClass y.cls = some m.cls → meth.name = y.name → meth.sig.returnType = ret → meth.locks = false → T.heap = h → s.Since s.vm 0 → 0 ≤ h.size → CHr Z EL s.vm s.heap s.vm h →
      Goes p e below (EndW Z s EL Q rm.cells rm.slots) T (entryFrame m as' maxL)) : RmH l y bytes maxL ret rm ws Z EL as' h Q := by
  refine MetFree.of_bodySF hp hisR ?_
  intro p e s m args below meth c s₁ Bd hml0 hP hK
  obtain ⟨rfl, hZ, hh, hC⟩ := hP
  exact body p e s m below meth c s₁ (Stand.of_body Bd) Bd.exec hZ Bd.bytes hml0 (findClass_of_methodNamed Bd.named) (name_of_methodNamed Bd.named Bd.method).1 Bd.returns Bd.notSynchronized (by rw [← hh, Bd.state]; rfl) ((State.WarmedH.refl s).since 0) (Nat.zero_le _) (by rw [hh]; exact CHr.refl hC)
theorem goRetW {Q : Option Value → Heap → List Loc → Prop} {K N : Nat} {g : JFrame} {v : Option Value} (X : Stand p l e R (s.setVm vm0) m args below meth c T locs cells slots) (hS : s.Since vm0 k0) (hk : k0 ≤ h.size) (hZ : Z.Warmed39 vm0) (hEL : EW Z a0 EL) (H : CHr Z EL s.vm s.heap vm0 h) (hv : meth.sig.returnType = none → v = none) (hlocks : meth.locks = false) (eT : T.heap = h) (hQ : Q v h locs) (hK : cells ≤ K) (hN : slots ≤ N)
    (st : ∀ fs, (∀ (f : JFrame) (acts : List Action), f.method = m → f.locked = none → f.entered = [] → (doReturn e (T.setTop f) acts v).1 = T.setFrames fs) → Steps p.tables e below (T.setTop g) (T.setFrames fs)) : Goes p e below (EndW Z s EL Q K N) T g := by
  obtain ⟨fs, hr, hrun, hended, hW⟩ := X.leaveW hS (by rw [eT]; exact hk) (v := v) hv hlocks
  subst eT
  have hH := H.trans (CHv.at X hZ hEL H.1)
  exact ⟨_, _, st fs hr, hrun, hended, _, _, rfl, hQ, hH, hW.1, hW.2.1, hW.2.2.1, hW.2.2.2.mono hK hN⟩
theorem retZW {Q : Option Value → Heap → List Loc → Prop} {K N pc : Nat} {Ls : Array Slot} {z : Int32} {t : FieldType} {rest : List Value} (X : Stand p l e R (s.setVm vm0) m args below meth c T locs cells slots) (hS : s.Since vm0 k0) (hk : k0 ≤ h.size) (hZ : Z.Warmed39 vm0) (hEL : EW Z a0 EL) (H : CHr Z EL s.vm s.heap vm0 h) (hx : p.tables.exec = Jvm.exec) (hret : meth.sig.returnType = some t) (hlocks : meth.locks = false) (ht : t = .boolean ∨ t = .byte ∨ t = .char ∨ t = .short)
    (hd : decode c.code pc = .ok (.ireturn, 1)) (eT : T.heap = h) (hK : cells ≤ K) (hN : slots ≤ N) (hQ : Q (some (.int (nar t z))) h locs) : Goes p e below (EndW Z s EL Q K N) T (mkF m pc Ls (.int z :: rest)) :=
  goRetW X hS hk hZ hEL H (fun q => by rw [hret] at q; cases q) hlocks eT hQ hK hN fun fs hr => retN X hx hret ht hd hr
theorem retRefW {Q : Option Value → Heap → List Loc → Prop} {K N pc : Nat} {Ls : Array Slot} {z : Value} {t : FieldType} {rest : List Value} (X : Stand p l e R (s.setVm vm0) m args below meth c T locs cells slots) (hS : s.Since vm0 k0) (hk : k0 ≤ h.size) (hZ : Z.Warmed39 vm0) (hEL : EW Z a0 EL) (H : CHr Z EL s.vm s.heap vm0 h) (hx : p.tables.exec = Jvm.exec) (hret : meth.sig.returnType = some t) (hlocks : meth.locks = false) (ht : t.isReference = true) (hz : z.isRef = true)
    (hd : decode c.code pc = .ok (.areturn, 1)) (eT : T.heap = h) (hK : cells ≤ K) (hN : slots ≤ N) (hQ : Q (some z) h locs) : Goes p e below (EndW Z s EL Q K N) T (mkF m pc Ls (z :: rest)) :=
  goRetW X hS hk hZ hEL H (fun q => by rw [hret] at q; cases q) hlocks eT hQ hK hN fun fs hr => by
    have hm' : T.vm.method? m = some meth := X.method'
    show Steps p.tables e below (T.setTop { method := m, pc := pc, locals := Ls, stack := _ :: rest, locked := none }) _
    rcases ref_cases hz with rfl | ⟨_, rfl⟩
    all_goals
      jvm_step X.here [X.here.top, hx, hd, hm', hret, ht, Value.isRef]
      first | (intro acts; rw [hr _ acts rfl rfl rfl]) | rw [hr _ _ rfl rfl rfl]
      exact Steps.refl _
theorem retIntW {Q : Option Value → Heap → List Loc → Prop} {K N pc : Nat} {Ls : Array Slot} {z : Int32} {rest : List Value} (X : Stand p l e R (s.setVm vm0) m args below meth c T locs cells slots) (hS : s.Since vm0 k0) (hk : k0 ≤ h.size) (hZ : Z.Warmed39 vm0) (hEL : EW Z a0 EL) (H : CHr Z EL s.vm s.heap vm0 h) (hx : p.tables.exec = Jvm.exec) (hret : meth.sig.returnType = some .int) (hlocks : meth.locks = false)
    (hd : decode c.code pc = .ok (.ireturn, 1)) (eT : T.heap = h) (hK : cells ≤ K) (hN : slots ≤ N) (hQ : Q (some (.int z)) h locs) : Goes p e below (EndW Z s EL Q K N) T (mkF m pc Ls (.int z :: rest)) :=
  goRetW X hS hk hZ hEL H (fun q => by rw [hret] at q; cases q) hlocks eT hQ hK hN fun fs hr => by
    have hm' : T.vm.method? m = some meth := X.method'
    have hn : narrow .int (.int z) = .int z := rfl
    show Steps p.tables e below (T.setTop { method := m, pc := pc, locals := Ls, stack := _ :: rest, locked := none }) _
    jvm_step X.here [X.here.top, hx, hd, hm', hret, hn]
    first | (intro acts; rw [hr _ acts rfl rfl rfl]) | rw [hr _ _ rfl rfl rfl]
    exact Steps.refl _
theorem retVoidW {Q : Option Value → Heap → List Loc → Prop} {K N pc : Nat} {Ls : Array Slot} {rest : List Value} (X : Stand p l e R (s.setVm vm0) m args below meth c T locs cells slots) (hS : s.Since vm0 k0) (hk : k0 ≤ h.size) (hZ : Z.Warmed39 vm0) (hEL : EW Z a0 EL) (H : CHr Z EL s.vm s.heap vm0 h) (hx : p.tables.exec = Jvm.exec) (hret : meth.sig.returnType = none) (hlocks : meth.locks = false)
    (hd : decode c.code pc = .ok (.return_, 1)) (eT : T.heap = h) (hK : cells ≤ K) (hN : slots ≤ N) (hQ : Q none h locs) : Goes p e below (EndW Z s EL Q K N) T (mkF m pc Ls rest) :=
  goRetW X hS hk hZ hEL H (fun _ => rfl) hlocks eT hQ hK hN fun fs hr => by
    have hm' : T.vm.method? m = some meth := X.method'
    show Steps p.tables e below (T.setTop { method := m, pc := pc, locals := Ls, stack := rest, locked := none }) _
    jvm_step X.here [X.here.top, hx, hd, hm', hret]
    first | (intro acts; rw [hr _ acts rfl rfl rfl]) | rw [hr _ _ rfl rfl rfl]
    exact Steps.refl _
theorem goStaticW {own : String} {index : Nat} {y : MethodName} {bytes : ByteArray} {maxL : Nat} {ret : Option FieldType} {rm : Room} {as' : Array Value} {Q : Option Value → Heap → List Loc → Prop} (W : Nat)
    (X : Stand p l e R (s.setVm vm0) m args below meth c T locs cells slots) (hS : s.Since vm0 k0) (hk : k0 ≤ h.size) (hEL : EW Z a0 EL) (H : CHr Z EL v00 h00 vm0 h) (hx : p.tables.exec = Jvm.exec) (hZ : Z.Warmed39 vm0) (hown : vm0.findClass own = some m.cls) (w1 : (Jvm.Cond.methodLink own index y).before a0 Z = true) (w2 : (Jvm.Cond.static y).before a0 Z = true) (w3 : (Jvm.Cond.initialized y.cls).before a0 Z = true) (w4 : (Jvm.Cond.code y bytes maxL ret).before a0 Z = true)
    (hy : y.cls ≠ "java/lang/invoke/MethodHandle" ∧ y.cls ≠ "java/lang/invoke/VarHandle") (r : RmH l y bytes maxL ret rm [] Z EL as' h Q) (eT : T.heap = h) {g : JFrame} (hg : g.method = m) (hsize : g.locals.size = c.maxLocals) (argsL rest : List Value) (hlen : ∀ sig, parseMethodDescriptor y.desc = some sig → argsL.length = sig.parameters.length)
    (hstack : g.stack = argsL.reverse ++ rest) (has : argsL.toArray = as') (hW : 2 * g.monitorRoom + (rest.map fun v => v.category).sum ≤ W) (hd : decode c.code g.pc = .ok (.invokestatic index, 3)) (hf : rm.frames + 1 ≤ R.frames) (hl : W + (maxL + 11) + rm.locals ≤ R.locals) (hc : cells + rm.cells ≤ R.cells) (hs : slots + rm.slots ≤ R.slots)
    (k : ∀ v T' L k1, Stand p l e R (s.setVm T'.vm) m args below meth c T' (locs ++ L) (cells + rm.cells) (slots + rm.slots) → s.Since T'.vm k1 → k1 ≤ T'.heap.size → Z.Warmed39 T'.vm → T'.vm.findClass own = some m.cls → CHr Z EL v00 h00 T'.vm T'.heap → Q v T'.heap L → Goes p e below E T' { g with pc := g.pc + 3, stack := v.toList ++ rest }) : Goes p e below E T g := by
  obtain ⟨v, vm₁, ⟨T', L', k', n'⟩, -, X', hS', hgr, ⟨L, hQ, q1, q2, q3, hC⟩, st⟩ := callSS X hx (y := y) hown (mvT (s := s.setVm vm0) hZ w1) (mvT (s := s.setVm vm0) hZ w2) (mvT (s := s.setVm vm0) hZ w3) (mvT (s := s.setVm vm0) hZ w4) hy (backOfSH (W := W) r hZ w4 w3 hf hl hEL H.1) hg hsize hlen hstack hW hd (fun _ _ => ⟨has, eT, hc, hs⟩)
  dsimp only [Pt.U, Pt.locs, Pt.cells, Pt.slots] at X' q1 q2 q3 st hQ hS' hgr hC
  subst q1 q2 q3
  exact Goes.of (fun _ => st.trans) (k v T' L _ X' (hS.trans hS' (Nat.le_trans hk (eT ▸ hgr))) (Nat.le_refl _) (State.Warmed39.trans (t := s.setVm vm0) hZ hS'.1) (by rw [hS'.1.alike.findClass]; exact hown) (H.trans hC) hQ)
theorem goSpecialW {own : String} {index : Nat} {y : MethodName} {bytes : ByteArray} {maxL : Nat} {rm : Room} {as' : Array Value} {Q : Option Value → Heap → List Loc → Prop} (W : Nat)
    (X : Stand p l e R (s.setVm vm0) m args below meth c T locs cells slots) (hS : s.Since vm0 k0) (hk : k0 ≤ h.size) (hEL : EW Z a0 EL) (H : CHr Z EL v00 h00 vm0 h) (hx : p.tables.exec = Jvm.exec) (hZ : Z.Warmed39 vm0) (hy1 : y.name = "<init>") (hown : vm0.findClass own = some m.cls) (w1 : (Jvm.Cond.methodLink own index y).before a0 Z = true) (w2 : (Jvm.Cond.instanceMethod y).before a0 Z = true) (w3 : (Jvm.Cond.initialized y.cls).before a0 Z = true) (w4 : (Jvm.Cond.code y bytes maxL none).before a0 Z = true)
    (hy : y.cls ≠ "java/lang/invoke/MethodHandle" ∧ y.cls ≠ "java/lang/invoke/VarHandle") (r : RmH l y bytes maxL none rm [] Z EL as' h Q) (eT : T.heap = h) {g : JFrame} (hg : g.method = m) (hsize : g.locals.size = c.maxLocals) (a : Addr) (argsL rest : List Value) (hlen : ∀ sig, parseMethodDescriptor y.desc = some sig → argsL.length = sig.parameters.length)
    (hstack : g.stack = argsL.reverse ++ .ref a :: rest) (has : (.ref a :: argsL).toArray = as') (hW : 2 * g.monitorRoom + (rest.map fun v => v.category).sum ≤ W) (hd : decode c.code g.pc = .ok (.invokespecial index, 3)) (hf : rm.frames + 1 ≤ R.frames) (hl : W + (maxL + 11) + rm.locals ≤ R.locals) (hc : cells + rm.cells ≤ R.cells) (hs : slots + rm.slots ≤ R.slots)
    (k : ∀ v T' L k1, Stand p l e R (s.setVm T'.vm) m args below meth c T' (locs ++ L) (cells + rm.cells) (slots + rm.slots) → s.Since T'.vm k1 → k1 ≤ T'.heap.size → Z.Warmed39 T'.vm → T'.vm.findClass own = some m.cls → CHr Z EL v00 h00 T'.vm T'.heap → Q v T'.heap L → Goes p e below E T' { g with pc := g.pc + 3, stack := v.toList ++ rest }) : Goes p e below E T g := by
  obtain ⟨v, vm₁, ⟨T', L', k', n'⟩, -, X', hS', hgr, ⟨L, hQ, q1, q2, q3, hC⟩, st⟩ := X.specialBackS hx (y := y) hy1 hown (mvT (s := s.setVm vm0) hZ w1) (mvT (s := s.setVm vm0) hZ w2) (mvT (s := s.setVm vm0) hZ w4) hy (backOfSH (W := W) r hZ w4 w3 hf hl hEL H.1) hg hsize (Steps.refl _) (a := a) hlen hstack hW hd (fun _ _ => ⟨has, eT, hc, hs⟩)
  dsimp only [Pt.U, Pt.locs, Pt.cells, Pt.slots] at X' q1 q2 q3 st hQ hS' hgr hC
  subst q1 q2 q3
  exact Goes.of (fun _ => st.trans) (k v T' L _ X' (hS.trans hS' (Nat.le_trans hk (eT ▸ hgr))) (Nat.le_refl _) (State.Warmed39.trans (t := s.setVm vm0) hZ hS'.1) (by rw [hS'.1.alike.findClass]; exact hown) (H.trans hC) hQ)
theorem goVirtualW {own C : String} {index : Nat} {y z : MethodName} {bytes : ByteArray} {maxL : Nat} {ret : Option FieldType} {rm : Room} {as' : Array Value} {Q : Option Value → Heap → List Loc → Prop} (W : Nat)
    (X : Stand p l e R (s.setVm vm0) m args below meth c T locs cells slots) (hS : s.Since vm0 k0) (hk : k0 ≤ h.size) (hEL : EW Z a0 EL) (H : CHr Z EL v00 h00 vm0 h) (hx : p.tables.exec = Jvm.exec) (hZ : Z.Warmed39 vm0) (hown : vm0.findClass own = some m.cls) (w1 : (Jvm.Cond.methodLink own index y).before a0 Z = true) (w2 : (Jvm.Cond.declares y).before a0 Z = true) (hnf : NotFace (s.setVm vm0) y) (w3 : (Jvm.Cond.selects C y z).before a0 Z = true) (w4 : (Jvm.Cond.instanceMethod z).before a0 Z = true) (w5 : (Jvm.Cond.initialized z.cls).before a0 Z = true) (w6 : (Jvm.Cond.code z bytes maxL ret).before a0 Z = true)
    (hy : y.cls ≠ "java/lang/invoke/MethodHandle" ∧ y.cls ≠ "java/lang/invoke/VarHandle") (r : RmH l z bytes maxL ret rm [] Z EL as' h Q) (eT : T.heap = h) {a : Addr} (F : Exa Z h a C) {g : JFrame} (hg : g.method = m) (hsize : g.locals.size = c.maxLocals) (argsL rest : List Value) (hlen : ∀ sig, parseMethodDescriptor y.desc = some sig → argsL.length = sig.parameters.length)
    (hstack : g.stack = argsL.reverse ++ .ref a :: rest) (has : (.ref a :: argsL).toArray = as') (hW : 2 * g.monitorRoom + (rest.map fun v => v.category).sum ≤ W) (hd : decode c.code g.pc = .ok (.invokevirtual index, 3)) (hf : rm.frames + 1 ≤ R.frames) (hl : W + (maxL + 11) + rm.locals ≤ R.locals) (hc : cells + rm.cells ≤ R.cells) (hs : slots + rm.slots ≤ R.slots)
    (k : ∀ v T' L k1, Stand p l e R (s.setVm T'.vm) m args below meth c T' (locs ++ L) (cells + rm.cells) (slots + rm.slots) → s.Since T'.vm k1 → k1 ≤ T'.heap.size → Z.Warmed39 T'.vm → T'.vm.findClass own = some m.cls → CHr Z EL v00 h00 T'.vm T'.heap → Q v T'.heap L → Goes p e below E T' { g with pc := g.pc + 3, stack := v.toList ++ rest }) : Goes p e below E T g := by
  obtain ⟨cq, kq, qa, qb, qc⟩ := isOf (s := s.setVm vm0) hZ eT F
  obtain ⟨v, vm₁, ⟨T', L', k', n'⟩, -, X', hS', hgr, ⟨L, hQ, q1, q2, q3, hC⟩, st⟩ := X.virtualBackS hx (y := y) (z := z) hown (mvT (s := s.setVm vm0) hZ w1) (mvT (s := s.setVm vm0) hZ w2) hnf (mvT (s := s.setVm vm0) hZ w3) (mvT (s := s.setVm vm0) hZ w4) hy (backOfSH (W := W) r hZ w6 w5 hf hl hEL H.1) qa qc hg hsize (Steps.refl _) hlen hstack hW hd (fun _ _ => ⟨has, eT, hc, hs⟩)
  dsimp only [Pt.U, Pt.locs, Pt.cells, Pt.slots] at X' q1 q2 q3 st hQ hS' hgr hC
  subst q1 q2 q3
  exact Goes.of (fun _ => st.trans) (k v T' L _ X' (hS.trans hS' (Nat.le_trans hk (eT ▸ hgr))) (Nat.le_refl _) (State.Warmed39.trans (t := s.setVm vm0) hZ hS'.1) (by rw [hS'.1.alike.findClass]; exact hown) (H.trans hC) hQ)
/-- a literal, its text not read -/
theorem goLdcO {own text : String} {index : Nat} (n : Nat) (X : Stand p l e R (s.setVm vm0) m args below meth c T locs cells slots) (hS : s.Since vm0 k0) (hk : k0 ≤ h.size) (hEL : EW Z a0 EL) (H : CHr Z EL v00 h00 vm0 h) (hx : p.tables.exec = Jvm.exec) (hZ : Z.Warmed39 vm0) (hown : vm0.findClass own = some m.cls) (w : (Jvm.Cond.stringLink own index text).before a0 Z = true) (wS : ∀ a ∈ Bundle.stringAtoms, a.before a0 Z = true) (eT : T.heap = h)
    {g : JFrame} (hg : g.method = m) (hd : decode c.code g.pc = .ok (.ldc index, 2)) (hn : 4 * text.toList.length ≤ n) (hbig : n ≤ 536870912) (hc : cells + 2 ≤ R.cells) (hl : slots + (n + 4) ≤ R.slots)
    (k : ∀ a T' h' k1, Stand p l e R (s.setVm T'.vm) m args below meth c T' locs (cells + 2) (slots + (n + 4)) → T'.heap = h' → Ext h h' → s.Since T'.vm k1 → k1 ≤ h'.size → Z.Warmed39 T'.vm → T'.vm.findClass own = some m.cls → CHr Z EL v00 h00 T'.vm h' → Goes p e below E T' { g with pc := g.pc + 2, stack := .ref a :: g.stack }) : Goes p e below E T g := by
  obtain ⟨a, T', h', k1, X', e', E', hS', hk', hZ', hown', hC, -, st⟩ := ldcOH X hx hZ hown w wS eT hS hk hEL H.1 hg hd hn hbig hc hl
  exact Goes.of st (k a T' h' k1 X' e' E' hS' hk' hZ' hown' (H.trans hC))
/-- a literal whose text is read -/
theorem goLdcC {own text : String} {index : Nat} {vs : List Value} {z : Int32} (n : Nat) (X : Stand p l e R (s.setVm vm0) m args below meth c T locs cells slots) (hS : s.Since vm0 k0) (hk : k0 ≤ h.size) (hEL : EW Z a0 EL) (hmem : (own, index) ∈ EL) (H : CHr Z EL v00 h00 vm0 h) (hx : p.tables.exec = Jvm.exec) (hZ : Z.Warmed39 vm0) (hown : vm0.findClass own = some m.cls) (w : (Jvm.Cond.stringLink own index text).before a0 Z = true) (wS : ∀ a ∈ Bundle.stringAtoms, a.before a0 Z = true) (eT : T.heap = h)
    (ht : (∀ c ∈ text.toList, c.toNat < 256) ∧ text.toList.map (fun c => Value.int (Jvm.Lit.byteI c.toNat.toUInt16)) = vs) (hz : ¬ z < 0) (hzl : z.toNatClampNeg = vs.length)
    {g : JFrame} (hg : g.method = m) (hd : decode c.code g.pc = .ok (.ldc index, 2)) (hn : 4 * text.toList.length ≤ n) (hbig : n ≤ 536870912) (hc : cells + 2 ≤ R.cells) (hl : slots + (n + 4) ≤ R.slots)
    (k : ∀ a T' h' k1 b kb, Stand p l e R (s.setVm T'.vm) m args below meth c T' locs (cells + 2) (slots + (n + 4)) → T'.heap = h' → Ext h h' → s.Since T'.vm k1 → k1 ≤ h'.size → Z.Warmed39 T'.vm → T'.vm.findClass own = some m.cls → CHr Z EL v00 h00 T'.vm h' → CHr Z EL vm0 h T'.vm h' → Exa Z h' a "java/lang/String" → Fld Z h' a "java/lang/String" "coder" "B" (.int 0) → Fld Z h' a "java/lang/String" "value" "[B" (.ref b) → Arv Z h' b kb .byte z vs (.int 0) → (∀ x, Safe Z EL T'.vm h' x → x ≠ a ∧ x ≠ b) → Goes p e below E T' { g with pc := g.pc + 2, stack := .ref a :: g.stack }) : Goes p e below E T g := by
  obtain ⟨a, T', h', k1, b, kb, X', e', E', hS', hk', hZ', hown', F1, F2, F3, F4, -, -, hC, -, hs, st⟩ := ldcCH X hx hZ hown w wS eT hS hk hEL hmem H.1 ht hz hzl hg hd hn hbig hc hl
  exact Goes.of st (k a T' h' k1 b kb X' e' E' hS' hk' hZ' hown' (H.trans hC) hC F1 F2 F3 F4 hs)
/-- a String whose value is null is no constant's -/
theorem safeNull {vm : Vm} {x : Addr} (hal : Z.vm.Alike vm) (Ex : Exa Z h x "java/lang/String") (F : Fld Z h x "java/lang/String" "value" "[B" .null) : Safe Z EL vm h x := fun B => by
  obtain ⟨q0, -, u, b, -, q, -, G, rfl | rfl⟩ := B
  · obtain ⟨cell, cf, k, i, f, h1, h2, -, -, -, -, h7⟩ := F
    cases (show h[q.sa]? = some q.sC from G.ha).symm.trans h1
    obtain ⟨cS, ⟨⟨-, -, -, ⟨c1, k1, i1, f1, -⟩, -, -, -, v1, -⟩, -⟩, -⟩ := G
    obtain ⟨k3, e3, -⟩ := State.fieldFound?_setVm (s := ({ Z with heap := h } : State)) hal h2
    have e4 := e3.symm.trans f1
    simp only [Option.some.injEq, Prod.mk.injEq] at e4
    rw [e4.2.2.2, v1] at h7
    cases h7
  · obtain ⟨cell, k, e1, e2, e3, -, -⟩ := Ex
    cases (show h[q.sd]? = some q.SA from G.hd).symm.trans e1
    obtain ⟨cS, -, -, f, -⟩ := G
    rw [show (Wst Z vm h).vm.findClass "[B" = vm.findClass "[B" from rfl, hal.findClass] at f
    obtain ⟨k1, q1, q2⟩ := Vm.findClass_spec f
    obtain ⟨k2, q3, q4⟩ := Vm.findClass_spec e2
    cases q1.symm.trans q3
    exact absurd (q2.symm.trans q4) (by decide)
end Own2
end Jvm.Own
namespace Jvm.Own
open Jvm Sem ClassFile Op Lib Jvm.Stand Jvm.Free Jvm.LawKit Jvm.RoadKit
theorem bvx (b : BitVec 32) (hb : ∀ i, 16 ≤ i → b.getLsbD i = false) : (((((b.sshiftRight 0).setWidth 8).signExtend 32 &&& 255#32) ||| ((((b.sshiftRight 8).setWidth 8).signExtend 32 &&& 255#32) <<< 8)).setWidth 16).setWidth 32 = b := by
  apply BitVec.eq_of_getLsbD_eq
  intro i hi
  by_cases h16 : i < 16
  · by_cases h8 : i < 8
    · have e : (255#32).getLsbD i = true := by
        have : ∀ j : Fin 8, (255#32).getLsbD j = true := by decide
        exact this ⟨i, h8⟩
      have h3 : ¬ 32 ≤ i := by omega
      simp only [BitVec.getLsbD_setWidth, BitVec.getLsbD_or, BitVec.getLsbD_and, BitVec.getLsbD_signExtend, BitVec.getLsbD_sshiftRight, BitVec.getLsbD_shiftLeft, e, h8, h16, hi, h3, decide_true, decide_false, Bool.true_and, Bool.and_true, if_true, Bool.not_true, Bool.false_and, Bool.and_false, Bool.or_false, Nat.zero_add, Bool.not_false]
    · have e : (255#32).getLsbD (i - 8) = true := by
        have : ∀ j : Fin 8, (255#32).getLsbD j = true := by decide
        exact this ⟨i - 8, by omega⟩
      have e2 : (255#32).getLsbD i = false := by
        have : ∀ j : Fin 24, (255#32).getLsbD (j + 8) = false := by decide
        have q := this ⟨i - 8, by omega⟩
        simpa only [show i - 8 + 8 = i by omega] using q
      have h1 : i - 8 < 8 := by omega
      have h2 : 8 + (i - 8) = i := by omega
      have h3 : ¬ 32 ≤ i - 8 := by omega
      have h4 : i - 8 < 32 := by omega
      simp only [BitVec.getLsbD_setWidth, BitVec.getLsbD_or, BitVec.getLsbD_and, BitVec.getLsbD_signExtend, BitVec.getLsbD_sshiftRight, BitVec.getLsbD_shiftLeft, e, e2, h1, h2, h4, h8, h16, hi, h3, decide_true, decide_false, Bool.true_and, Bool.and_true, if_true, Bool.false_and, Bool.and_false, Bool.false_or, Nat.zero_add, Bool.not_false]
  · rw [hb i (by omega)]
    simp [h16]
theorem getc (c : Int32) (h : ¬ c < 0 ∧ ¬ (65535 : Int32) < c) : nar .char ((((((nar .byte ((c >>> ((0 : Int32) &&& 31)).toInt8.toInt32) &&& (255 : Int32)) <<< ((0 : Int32) &&& 31)) ||| ((nar .byte ((c >>> ((8 : Int32) &&& 31)).toInt8.toInt32) &&& (255 : Int32)) <<< ((8 : Int32) &&& 31))).toUInt32.toUInt16.toUInt32.toInt32))) = c := by
  have q0 : (0 : Int32).toInt = 0 := rfl
  have q1 : (65535 : Int32).toInt = 65535 := rfl
  have hb : ∀ i, 16 ≤ i → c.toBitVec.getLsbD i = false := by
    intro i hi
    obtain ⟨h1, h2⟩ := h
    rw [Int32.lt_iff_toInt_lt] at h1 h2
    have e : c.toBitVec.toNat < 2 ^ 16 := by
      have e1 : c.toInt = c.toBitVec.toInt := rfl
      rw [e1, BitVec.toInt_eq_toNat_cond] at h1 h2
      have := c.toBitVec.isLt
      split at h1 <;> omega
    show c.toBitVec.toNat.testBit i = false
    exact Nat.testBit_lt_two_pow (Nat.lt_of_lt_of_le e (Nat.pow_le_pow_right (by decide) hi))
  have w1 : ∀ x : BitVec 32, ((x.setWidth 8).signExtend 32).setWidth 8 = x.setWidth 8 := fun x => by
    apply BitVec.eq_of_getLsbD_eq
    intro i hi
    have h3 : i < 32 := by omega
    simp only [BitVec.getLsbD_setWidth, BitVec.getLsbD_signExtend, hi, h3, decide_true, Bool.true_and, if_true]
  have w2 : ∀ x : BitVec 32, ((x.setWidth 16).setWidth 32).setWidth 16 = x.setWidth 16 := fun x => by
    apply BitVec.eq_of_getLsbD_eq
    intro i hi
    have h3 : i < 32 := by omega
    simp only [BitVec.getLsbD_setWidth, hi, h3, decide_true, Bool.true_and]
  have key := bvx c.toBitVec hb
  apply Int32.toBitVec_inj.mp
  have t1 : ∀ x : Int32, (nar .byte x).toBitVec = (x.toBitVec.setWidth 8).signExtend 32 := fun x => by show (x.toInt8.toInt32).toBitVec = _; rw [Int8.toBitVec_toInt32, Int32.toBitVec_toInt8, BitVec.signExtend_eq_setWidth_of_le x.toBitVec (v := 8) (by decide)]
  have t2 : ∀ x : Int32, (nar .char x).toBitVec = (x.toBitVec.setWidth 16).setWidth 32 := fun x => by show (x.toUInt32.toUInt16.toUInt32.toInt32).toBitVec = _; rfl
  have t3 : ∀ x : Int32, (x.toInt8.toInt32).toBitVec = (x.toBitVec.setWidth 8).signExtend 32 := fun x => by rw [Int8.toBitVec_toInt32, Int32.toBitVec_toInt8, BitVec.signExtend_eq_setWidth_of_le x.toBitVec (v := 8) (by decide)]
  have t4 : ∀ x : Int32, (x.toUInt32.toUInt16.toUInt32.toInt32).toBitVec = (x.toBitVec.setWidth 16).setWidth 32 := fun _ => rfl
  have t5 : ∀ x : Int32, (x >>> ((0 : Int32) &&& 31)).toBitVec = x.toBitVec.sshiftRight 0 := fun _ => rfl
  have t6 : ∀ x : Int32, (x >>> ((8 : Int32) &&& 31)).toBitVec = x.toBitVec.sshiftRight 8 := fun _ => rfl
  have t7 : ∀ x : Int32, (x <<< ((0 : Int32) &&& 31)).toBitVec = x.toBitVec <<< 0 := fun _ => rfl
  have t8 : ∀ x : Int32, (x <<< ((8 : Int32) &&& 31)).toBitVec = x.toBitVec <<< 8 := fun _ => rfl
  have t9 : ∀ x : Int32, (x &&& (255 : Int32)).toBitVec = x.toBitVec &&& 255#32 := fun _ => rfl
  have t10 : ∀ x y : Int32, (x ||| y).toBitVec = x.toBitVec ||| y.toBitVec := fun _ _ => rfl
  rw [t2, t4, t10, t7, t8, t9, t9, t1, t1, t3, t3, t5, t6, w1, w1, w2, BitVec.shiftLeft_zero]
  exact key
theorem char16 (x : Int32) : ¬ nar .char x < 0 ∧ ¬ (65535 : Int32) < nar .char x := by
  have q0 : (0 : Int32).toInt = 0 := rfl
  have q1 : (65535 : Int32).toInt = 65535 := rfl
  rw [Int32.lt_iff_toInt_lt, Int32.lt_iff_toInt_lt]
  have e1 : (nar .char x).toInt = ((x.toBitVec.setWidth 16).setWidth 32).toInt := rfl
  have e2 : ((x.toBitVec.setWidth 16).setWidth 32).toNat < 2 ^ 16 := by
    simp only [BitVec.toNat_setWidth]
    omega
  rw [e1, BitVec.toInt_eq_toNat_cond]
  split <;> omega
end Jvm.Own
namespace Jvm.Pilot.@@N@@
open Jvm Jvm.ClassFile Sem Op Lib Jvm.Free Jvm.Stand Jvm.LawKit Jvm.RoadKit Jvm.Own Bundle Jvm.Pilot.@@N@@.Jvm.D
theorem d14_3 : decode jdk_52_method_21_code 3 = .ok (.iload 5, 2) := by decide +kernel
theorem d14_5 : decode jdk_52_method_21_code 5 = .ok (.iload 4, 2) := by decide +kernel
theorem d14_7 : decode jdk_52_method_21_code 7 = .ok (.if_icmp .ge 37, 3) := by decide +kernel
theorem d14_44 : decode jdk_52_method_21_code 44 = .ok (.iload 4, 2) := by decide +kernel
theorem d14_46 : decode jdk_52_method_21_code 46 = .ok (.ireturn, 1) := by decide +kernel
theorem d14_10 : decode jdk_52_method_21_code 10 = .ok (.aload_n 0, 1) := by decide +kernel
theorem d14_11 : decode jdk_52_method_21_code 11 = .ok (.iload_n 1, 1) := by decide +kernel
theorem d14_12 : decode jdk_52_method_21_code 12 = .ok (.caload, 1) := by decide +kernel
theorem d14_13 : decode jdk_52_method_21_code 13 = .ok (.istore 6, 2) := by decide +kernel
theorem d14_15 : decode jdk_52_method_21_code 15 = .ok (.iload 6, 2) := by decide +kernel
theorem d14_17 : decode jdk_52_method_21_code 17 = .ok (.sipush 255, 3) := by decide +kernel
theorem d14_20 : decode jdk_52_method_21_code 20 = .ok (.if_icmp .le 6, 3) := by decide +kernel
theorem d14_23 : decode jdk_52_method_21_code 23 = .ok (.iload 5, 2) := by decide +kernel
theorem d14_25 : decode jdk_52_method_21_code 25 = .ok (.ireturn, 1) := by decide +kernel
theorem d14_26 : decode jdk_52_method_21_code 26 = .ok (.aload_n 2, 1) := by decide +kernel
theorem d14_27 : decode jdk_52_method_21_code 27 = .ok (.iload_n 3, 1) := by decide +kernel
theorem d14_28 : decode jdk_52_method_21_code 28 = .ok (.iload 6, 2) := by decide +kernel
theorem d14_30 : decode jdk_52_method_21_code 30 = .ok (.i2b, 1) := by decide +kernel
theorem d14_31 : decode jdk_52_method_21_code 31 = .ok (.bastore, 1) := by decide +kernel
theorem d14_32 : decode jdk_52_method_21_code 32 = .ok (.iinc 1 1, 3) := by decide +kernel
theorem d14_35 : decode jdk_52_method_21_code 35 = .ok (.iinc 3 1, 3) := by decide +kernel
theorem d14_38 : decode jdk_52_method_21_code 38 = .ok (.iinc 5 1, 3) := by decide +kernel
theorem d14_41 : decode jdk_52_method_21_code 41 = .ok (.goto (-38), 3) := by decide +kernel
theorem ef_14 (m : MethodId) (x0 : Addr) (x1 : Int32) (x2 : Addr) (x3 : Int32) (x4 : Int32) : entryFrame m #[(.ref x0), (.int x1), (.ref x2), (.int x3), (.int x4)] 7 = mkF m 0 #[.val (.ref x0), .val (.int x1), .val (.ref x2), .val (.int x3), .val (.int x4), .unset, .unset] [] := by first | (simp [entryFrame, mkF, argsToLocals, Value.category]; done) | rfl
theorem d14_0 : decode jdk_52_method_21_code 0 = .ok (.iconst 0, 1) := by decide +kernel
theorem d14_1 : decode jdk_52_method_21_code 1 = .ok (.istore 5, 2) := by decide +kernel
theorem pn_java_lang_StringUTF16 : plainName "java/lang/StringUTF16" = true := by first | (simp [plainName, overriddenIn]; done) | decide +kernel
theorem ef_17 (m : MethodId) (x0 : Int32) : entryFrame m #[(.int x0)] 1 = mkF m 0 #[.val (.int x0)] [] := by first | (simp [entryFrame, mkF, argsToLocals, Value.category]; done) | rfl
theorem d17_0 : decode jdk_52_method_3_code 0 = .ok (.iload_n 0, 1) := by decide +kernel
theorem d17_1 : decode jdk_52_method_3_code 1 = .ok (.ifCond .ge 11, 3) := by decide +kernel
theorem d17_12 : decode jdk_52_method_3_code 12 = .ok (.iload_n 0, 1) := by decide +kernel
theorem d17_13 : decode jdk_52_method_3_code 13 = .ok (.ldc 20, 2) := by decide +kernel
theorem d17_15 : decode jdk_52_method_3_code 15 = .ok (.if_icmp .lt 40, 3) := by decide +kernel
theorem d17_55 : decode jdk_52_method_3_code 55 = .ok (.iload_n 0, 1) := by decide +kernel
theorem d17_56 : decode jdk_52_method_3_code 56 = .ok (.iconst 1, 1) := by decide +kernel
theorem d17_57 : decode jdk_52_method_3_code 57 = .ok (.ishl, 1) := by decide +kernel
theorem d17_58 : decode jdk_52_method_3_code 58 = .ok (.ireturn, 1) := by decide +kernel
theorem ef_16 (m : MethodId) (x0 : Int32) : entryFrame m #[(.int x0)] 1 = mkF m 0 #[.val (.int x0)] [] := by first | (simp [entryFrame, mkF, argsToLocals, Value.category]; done) | rfl
theorem d16_0 : decode jdk_52_method_2_code 0 = .ok (.iload_n 0, 1) := by decide +kernel
theorem d16_1 : decode jdk_52_method_2_code 1 = .ok (.invokestatic 11, 3) := by decide +kernel
theorem pd__I_I : parseMethodDescriptor "(I)I" = some ⟨[.int], some .int⟩ := by decide +kernel
theorem d16_4 : decode jdk_52_method_2_code 4 = .ok (.newarray .byte, 2) := by decide +kernel
theorem d16_6 : decode jdk_52_method_2_code 6 = .ok (.areturn, 1) := by decide +kernel
theorem ef_18 (m : MethodId) (x0 : Addr) (x1 : Int32) (x2 : Int32) : entryFrame m #[(.ref x0), (.int x1), (.int x2)] 3 = mkF m 0 #[.val (.ref x0), .val (.int x1), .val (.int x2)] [] := by first | (simp [entryFrame, mkF, argsToLocals, Value.category]; done) | rfl
theorem d18_0 : decode jdk_52_method_4_code 0 = .ok (.getstatic 44, 3) := by decide +kernel
theorem d18_3 : decode jdk_52_method_4_code 3 = .ok (.ifCond .ne 25, 3) := by decide +kernel
theorem d18_28 : decode jdk_52_method_4_code 28 = .ok (.iload_n 1, 1) := by decide +kernel
theorem d18_29 : decode jdk_52_method_4_code 29 = .ok (.iconst 1, 1) := by decide +kernel
theorem d18_30 : decode jdk_52_method_4_code 30 = .ok (.ishl, 1) := by decide +kernel
theorem d18_31 : decode jdk_52_method_4_code 31 = .ok (.istore_n 1, 1) := by decide +kernel
theorem d18_32 : decode jdk_52_method_4_code 32 = .ok (.aload_n 0, 1) := by decide +kernel
theorem d18_33 : decode jdk_52_method_4_code 33 = .ok (.iload_n 1, 1) := by decide +kernel
theorem d18_34 : decode jdk_52_method_4_code 34 = .ok (.iinc 1 1, 3) := by decide +kernel
theorem d18_37 : decode jdk_52_method_4_code 37 = .ok (.iload_n 2, 1) := by decide +kernel
theorem d18_38 : decode jdk_52_method_4_code 38 = .ok (.getstatic 59, 3) := by decide +kernel
theorem d18_41 : decode jdk_52_method_4_code 41 = .ok (.ishr, 1) := by decide +kernel
theorem d18_42 : decode jdk_52_method_4_code 42 = .ok (.i2b, 1) := by decide +kernel
theorem d18_43 : decode jdk_52_method_4_code 43 = .ok (.bastore, 1) := by decide +kernel
theorem d18_44 : decode jdk_52_method_4_code 44 = .ok (.aload_n 0, 1) := by decide +kernel
theorem d18_45 : decode jdk_52_method_4_code 45 = .ok (.iload_n 1, 1) := by decide +kernel
theorem d18_46 : decode jdk_52_method_4_code 46 = .ok (.iload_n 2, 1) := by decide +kernel
theorem d18_47 : decode jdk_52_method_4_code 47 = .ok (.getstatic 63, 3) := by decide +kernel
theorem d18_50 : decode jdk_52_method_4_code 50 = .ok (.ishr, 1) := by decide +kernel
theorem d18_51 : decode jdk_52_method_4_code 51 = .ok (.i2b, 1) := by decide +kernel
theorem d18_52 : decode jdk_52_method_4_code 52 = .ok (.bastore, 1) := by decide +kernel
theorem d18_53 : decode jdk_52_method_4_code 53 = .ok (.return_, 1) := by decide +kernel
theorem ef_19 (m : MethodId) (x0 : Addr) (x1 : Int32) : entryFrame m #[(.ref x0), (.int x1)] 2 = mkF m 0 #[.val (.ref x0), .val (.int x1)] [] := by first | (simp [entryFrame, mkF, argsToLocals, Value.category]; done) | rfl
theorem d19_0 : decode jdk_52_method_5_code 0 = .ok (.getstatic 44, 3) := by decide +kernel
theorem d19_3 : decode jdk_52_method_5_code 3 = .ok (.ifCond .ne 25, 3) := by decide +kernel
theorem d19_28 : decode jdk_52_method_5_code 28 = .ok (.iload_n 1, 1) := by decide +kernel
theorem d19_29 : decode jdk_52_method_5_code 29 = .ok (.iconst 1, 1) := by decide +kernel
theorem d19_30 : decode jdk_52_method_5_code 30 = .ok (.ishl, 1) := by decide +kernel
theorem d19_31 : decode jdk_52_method_5_code 31 = .ok (.istore_n 1, 1) := by decide +kernel
theorem d19_32 : decode jdk_52_method_5_code 32 = .ok (.aload_n 0, 1) := by decide +kernel
theorem d19_33 : decode jdk_52_method_5_code 33 = .ok (.iload_n 1, 1) := by decide +kernel
theorem d19_34 : decode jdk_52_method_5_code 34 = .ok (.iinc 1 1, 3) := by decide +kernel
theorem d19_37 : decode jdk_52_method_5_code 37 = .ok (.baload, 1) := by decide +kernel
theorem d19_38 : decode jdk_52_method_5_code 38 = .ok (.sipush 255, 3) := by decide +kernel
theorem d19_41 : decode jdk_52_method_5_code 41 = .ok (.iand, 1) := by decide +kernel
theorem d19_42 : decode jdk_52_method_5_code 42 = .ok (.getstatic 59, 3) := by decide +kernel
theorem d19_45 : decode jdk_52_method_5_code 45 = .ok (.ishl, 1) := by decide +kernel
theorem d19_46 : decode jdk_52_method_5_code 46 = .ok (.aload_n 0, 1) := by decide +kernel
theorem d19_47 : decode jdk_52_method_5_code 47 = .ok (.iload_n 1, 1) := by decide +kernel
theorem d19_48 : decode jdk_52_method_5_code 48 = .ok (.baload, 1) := by decide +kernel
theorem d19_49 : decode jdk_52_method_5_code 49 = .ok (.sipush 255, 3) := by decide +kernel
theorem d19_52 : decode jdk_52_method_5_code 52 = .ok (.iand, 1) := by decide +kernel
theorem d19_53 : decode jdk_52_method_5_code 53 = .ok (.getstatic 63, 3) := by decide +kernel
theorem d19_56 : decode jdk_52_method_5_code 56 = .ok (.ishl, 1) := by decide +kernel
theorem d19_57 : decode jdk_52_method_5_code 57 = .ok (.ior, 1) := by decide +kernel
theorem d19_58 : decode jdk_52_method_5_code 58 = .ok (.i2c, 1) := by decide +kernel
theorem d19_59 : decode jdk_52_method_5_code 59 = .ok (.ireturn, 1) := by decide +kernel
theorem ef_15 (m : MethodId) (x0 : Addr) (x1 : Int32) (x2 : Int32) : entryFrame m #[(.ref x0), (.int x1), (.int x2)] 5 = mkF m 0 #[.val (.ref x0), .val (.int x1), .val (.int x2), .unset, .unset] [] := by first | (simp [entryFrame, mkF, argsToLocals, Value.category]; done) | rfl
theorem d15_0 : decode jdk_52_method_14_code 0 = .ok (.iload_n 2, 1) := by decide +kernel
theorem d15_1 : decode jdk_52_method_14_code 1 = .ok (.invokestatic 107, 3) := by decide +kernel
theorem pd__I__B : parseMethodDescriptor "(I)[B" = some ⟨[.int], some (.array .byte)⟩ := by decide +kernel
theorem d15_4 : decode jdk_52_method_14_code 4 = .ok (.astore_n 3, 1) := by decide +kernel
theorem d15_5 : decode jdk_52_method_14_code 5 = .ok (.iconst 0, 1) := by decide +kernel
theorem d15_6 : decode jdk_52_method_14_code 6 = .ok (.istore 4, 2) := by decide +kernel
theorem d15_8 : decode jdk_52_method_14_code 8 = .ok (.iload 4, 2) := by decide +kernel
theorem d15_10 : decode jdk_52_method_14_code 10 = .ok (.iload_n 2, 1) := by decide +kernel
theorem d15_11 : decode jdk_52_method_14_code 11 = .ok (.if_icmp .ge 21, 3) := by decide +kernel
theorem d15_32 : decode jdk_52_method_14_code 32 = .ok (.aload_n 3, 1) := by decide +kernel
theorem d15_33 : decode jdk_52_method_14_code 33 = .ok (.areturn, 1) := by decide +kernel
theorem d15_14 : decode jdk_52_method_14_code 14 = .ok (.aload_n 3, 1) := by decide +kernel
theorem d15_15 : decode jdk_52_method_14_code 15 = .ok (.iload 4, 2) := by decide +kernel
theorem d15_17 : decode jdk_52_method_14_code 17 = .ok (.aload_n 0, 1) := by decide +kernel
theorem d15_18 : decode jdk_52_method_14_code 18 = .ok (.iload_n 1, 1) := by decide +kernel
theorem d15_19 : decode jdk_52_method_14_code 19 = .ok (.caload, 1) := by decide +kernel
theorem d15_20 : decode jdk_52_method_14_code 20 = .ok (.invokestatic 111, 3) := by decide +kernel
theorem pd___BII_V : parseMethodDescriptor "([BII)V" = some ⟨[(.array .byte), .int, .int], none⟩ := by decide +kernel
theorem d15_23 : decode jdk_52_method_14_code 23 = .ok (.iinc 1 1, 3) := by decide +kernel
theorem d15_26 : decode jdk_52_method_14_code 26 = .ok (.iinc 4 1, 3) := by decide +kernel
theorem d15_29 : decode jdk_52_method_14_code 29 = .ok (.goto (-21), 3) := by decide +kernel
theorem ef_13 (m : MethodId) (x0 : Addr) (x1 : Int32) (x2 : Int32) : entryFrame m #[(.ref x0), (.int x1), (.int x2)] 6 = mkF m 0 #[.val (.ref x0), .val (.int x1), .val (.int x2), .unset, .unset, .unset] [] := by first | (simp [entryFrame, mkF, argsToLocals, Value.category]; done) | rfl
theorem d13_0 : decode jdk_52_method_16_code 0 = .ok (.iload_n 2, 1) := by decide +kernel
theorem d13_1 : decode jdk_52_method_16_code 1 = .ok (.newarray .byte, 2) := by decide +kernel
theorem d13_3 : decode jdk_52_method_16_code 3 = .ok (.astore_n 3, 1) := by decide +kernel
theorem d13_4 : decode jdk_52_method_16_code 4 = .ok (.aload_n 0, 1) := by decide +kernel
theorem d13_5 : decode jdk_52_method_16_code 5 = .ok (.iload_n 1, 1) := by decide +kernel
theorem d13_6 : decode jdk_52_method_16_code 6 = .ok (.aload_n 3, 1) := by decide +kernel
theorem d13_7 : decode jdk_52_method_16_code 7 = .ok (.iconst 0, 1) := by decide +kernel
theorem d13_8 : decode jdk_52_method_16_code 8 = .ok (.iload_n 2, 1) := by decide +kernel
theorem d13_9 : decode jdk_52_method_16_code 9 = .ok (.invokestatic 115, 3) := by decide +kernel
theorem pd___CI_BII_I : parseMethodDescriptor "([CI[BII)I" = some ⟨[(.array .char), .int, (.array .byte), .int, .int], some .int⟩ := by decide +kernel
theorem d13_12 : decode jdk_52_method_16_code 12 = .ok (.istore 4, 2) := by decide +kernel
theorem d13_14 : decode jdk_52_method_16_code 14 = .ok (.iload 4, 2) := by decide +kernel
theorem d13_16 : decode jdk_52_method_16_code 16 = .ok (.iload_n 2, 1) := by decide +kernel
theorem d13_17 : decode jdk_52_method_16_code 17 = .ok (.if_icmp .eq 40, 3) := by decide +kernel
theorem d13_57 : decode jdk_52_method_16_code 57 = .ok (.aload_n 3, 1) := by decide +kernel
theorem d13_58 : decode jdk_52_method_16_code 58 = .ok (.areturn, 1) := by decide +kernel
theorem d13_20 : decode jdk_52_method_16_code 20 = .ok (.aload_n 0, 1) := by decide +kernel
theorem d13_21 : decode jdk_52_method_16_code 21 = .ok (.iload_n 1, 1) := by decide +kernel
theorem d13_22 : decode jdk_52_method_16_code 22 = .ok (.iload_n 2, 1) := by decide +kernel
theorem d13_23 : decode jdk_52_method_16_code 23 = .ok (.invokestatic 119, 3) := by decide +kernel
theorem pd___CII__B : parseMethodDescriptor "([CII)[B" = some ⟨[(.array .char), .int, .int], some (.array .byte)⟩ := by decide +kernel
theorem d13_26 : decode jdk_52_method_16_code 26 = .ok (.astore 5, 2) := by decide +kernel
theorem d13_28 : decode jdk_52_method_16_code 28 = .ok (.aload 5, 2) := by decide +kernel
theorem d13_30 : decode jdk_52_method_16_code 30 = .ok (.iload 4, 2) := by decide +kernel
theorem d13_32 : decode jdk_52_method_16_code 32 = .ok (.invokestatic 71, 3) := by decide +kernel
theorem pd___BI_C : parseMethodDescriptor "([BI)C" = some ⟨[(.array .byte), .int], some .char⟩ := by decide +kernel
theorem d13_35 : decode jdk_52_method_16_code 35 = .ok (.sipush 255, 3) := by decide +kernel
theorem d13_38 : decode jdk_52_method_16_code 38 = .ok (.if_icmp .gt 16, 3) := by decide +kernel
theorem d13_54 : decode jdk_52_method_16_code 54 = .ok (.aload 5, 2) := by decide +kernel
theorem d13_56 : decode jdk_52_method_16_code 56 = .ok (.areturn, 1) := by decide +kernel
theorem ef_20 (m : MethodId) (x0 : Addr) (x1 : Int32) : entryFrame m #[(.ref x0), (.int x1)] 2 = mkF m 0 #[.val (.ref x0), .val (.int x1)] [] := by first | (simp [entryFrame, mkF, argsToLocals, Value.category]; done) | rfl
theorem d20_0 : decode jdk_52_method_15_code 0 = .ok (.iload_n 1, 1) := by decide +kernel
theorem d20_1 : decode jdk_52_method_15_code 1 = .ok (.aload_n 0, 1) := by decide +kernel
theorem d20_2 : decode jdk_52_method_15_code 2 = .ok (.arraylength, 1) := by decide +kernel
theorem d20_3 : decode jdk_52_method_15_code 3 = .ok (.isub, 1) := by decide +kernel
theorem d20_4 : decode jdk_52_method_15_code 4 = .ok (.bipush 31, 2) := by decide +kernel
theorem d20_6 : decode jdk_52_method_15_code 6 = .ok (.iushr, 1) := by decide +kernel
theorem d20_7 : decode jdk_52_method_15_code 7 = .ok (.i2b, 1) := by decide +kernel
theorem d20_8 : decode jdk_52_method_15_code 8 = .ok (.ireturn, 1) := by decide +kernel
theorem ef_5n4 (m : MethodId) (x0 : Addr) (x1 : Addr) (x2 : Int32) (x3 : Int32) : entryFrame m #[(.ref x0), (.ref x1), (.int x2), (.int x3), .null] 6 = mkF m 0 #[.val (.ref x0), .val (.ref x1), .val (.int x2), .val (.int x3), .val .null, .unset] [] := by first | (simp [entryFrame, mkF, argsToLocals, Value.category]; done) | rfl
theorem d5_0 : decode jdk_42_method_149_code 0 = .ok (.aload_n 0, 1) := by decide +kernel
theorem d5_1 : decode jdk_42_method_149_code 1 = .ok (.invokespecial 1, 3) := by decide +kernel
theorem d5_4 : decode jdk_42_method_149_code 4 = .ok (.iload_n 3, 1) := by decide +kernel
theorem d5_5 : decode jdk_42_method_149_code 5 = .ok (.ifCond .ne 22, 3) := by decide +kernel
theorem d5_27 : decode jdk_42_method_149_code 27 = .ok (.getstatic 38, 3) := by decide +kernel
theorem d5_30 : decode jdk_42_method_149_code 30 = .ok (.ifCond .eq 28, 3) := by decide +kernel
theorem d5_33 : decode jdk_42_method_149_code 33 = .ok (.aload_n 1, 1) := by decide +kernel
theorem d5_34 : decode jdk_42_method_149_code 34 = .ok (.iload_n 2, 1) := by decide +kernel
theorem d5_35 : decode jdk_42_method_149_code 35 = .ok (.iload_n 3, 1) := by decide +kernel
theorem d5_36 : decode jdk_42_method_149_code 36 = .ok (.invokestatic 177, 3) := by decide +kernel
theorem d5_39 : decode jdk_42_method_149_code 39 = .ok (.astore 5, 2) := by decide +kernel
theorem d5_41 : decode jdk_42_method_149_code 41 = .ok (.aload_n 0, 1) := by decide +kernel
theorem d5_42 : decode jdk_42_method_149_code 42 = .ok (.aload 5, 2) := by decide +kernel
theorem d5_44 : decode jdk_42_method_149_code 44 = .ok (.iload_n 3, 1) := by decide +kernel
theorem d5_45 : decode jdk_42_method_149_code 45 = .ok (.invokestatic 47, 3) := by decide +kernel
theorem pd___BI_B : parseMethodDescriptor "([BI)B" = some ⟨[(.array .byte), .int], some .byte⟩ := by decide +kernel
theorem d5_48 : decode jdk_42_method_149_code 48 = .ok (.putfield 15, 3) := by decide +kernel
theorem d5_51 : decode jdk_42_method_149_code 51 = .ok (.aload_n 0, 1) := by decide +kernel
theorem d5_52 : decode jdk_42_method_149_code 52 = .ok (.aload 5, 2) := by decide +kernel
theorem d5_54 : decode jdk_42_method_149_code 54 = .ok (.putfield 9, 3) := by decide +kernel
theorem d5_57 : decode jdk_42_method_149_code 57 = .ok (.return_, 1) := by decide +kernel
theorem pn_java_lang_String : plainName "java/lang/String" = true := by first | (simp [plainName, overriddenIn]; done) | decide +kernel
theorem ef_4 (m : MethodId) (x0 : Addr) (x1 : Addr) : entryFrame m #[(.ref x0), (.ref x1)] 2 = mkF m 0 #[.val (.ref x0), .val (.ref x1)] [] := by first | (simp [entryFrame, mkF, argsToLocals, Value.category]; done) | rfl
theorem d4_0 : decode jdk_42_method_3_code 0 = .ok (.aload_n 0, 1) := by decide +kernel
theorem d4_1 : decode jdk_42_method_3_code 1 = .ok (.aload_n 1, 1) := by decide +kernel
theorem d4_2 : decode jdk_42_method_3_code 2 = .ok (.iconst 0, 1) := by decide +kernel
theorem d4_3 : decode jdk_42_method_3_code 3 = .ok (.aload_n 1, 1) := by decide +kernel
theorem d4_4 : decode jdk_42_method_3_code 4 = .ok (.arraylength, 1) := by decide +kernel
theorem d4_5 : decode jdk_42_method_3_code 5 = .ok (.aconst_null, 1) := by decide +kernel
theorem d4_6 : decode jdk_42_method_3_code 6 = .ok (.invokespecial 27, 3) := by decide +kernel
theorem pd___CIILjava_lang_Void__V : parseMethodDescriptor "([CIILjava/lang/Void;)V" = some ⟨[(.array .char), .int, .int, (.object "java/lang/Void")], none⟩ := by decide +kernel
theorem d4_9 : decode jdk_42_method_3_code 9 = .ok (.return_, 1) := by decide +kernel
theorem ef_10 (m : MethodId) (x0 : Addr) : entryFrame m #[(.ref x0)] 1 = mkF m 0 #[.val (.ref x0)] [] := by first | (simp [entryFrame, mkF, argsToLocals, Value.category]; done) | rfl
theorem d10_0 : decode jdk_42_method_152_code 0 = .ok (.getstatic 38, 3) := by decide +kernel
theorem d10_3 : decode jdk_42_method_152_code 3 = .ok (.ifCond .eq 10, 3) := by decide +kernel
theorem d10_6 : decode jdk_42_method_152_code 6 = .ok (.aload_n 0, 1) := by decide +kernel
theorem d10_7 : decode jdk_42_method_152_code 7 = .ok (.getfield 15, 3) := by decide +kernel
theorem d10_10 : decode jdk_42_method_152_code 10 = .ok (.goto 4, 3) := by decide +kernel
theorem d10_14 : decode jdk_42_method_152_code 14 = .ok (.ireturn, 1) := by decide +kernel
theorem ef_9 (m : MethodId) (x0 : Addr) : entryFrame m #[(.ref x0)] 1 = mkF m 0 #[.val (.ref x0)] [] := by first | (simp [entryFrame, mkF, argsToLocals, Value.category]; done) | rfl
theorem d9_0 : decode jdk_42_method_54_code 0 = .ok (.aload_n 0, 1) := by decide +kernel
theorem d9_1 : decode jdk_42_method_54_code 1 = .ok (.getfield 9, 3) := by decide +kernel
theorem d9_4 : decode jdk_42_method_54_code 4 = .ok (.arraylength, 1) := by decide +kernel
theorem d9_5 : decode jdk_42_method_54_code 5 = .ok (.aload_n 0, 1) := by decide +kernel
theorem d9_6 : decode jdk_42_method_54_code 6 = .ok (.invokevirtual 335, 3) := by decide +kernel
theorem pd___B : parseMethodDescriptor "()B" = some ⟨[], some .byte⟩ := by decide +kernel
theorem d9_9 : decode jdk_42_method_54_code 9 = .ok (.ishr, 1) := by decide +kernel
theorem d9_10 : decode jdk_42_method_54_code 10 = .ok (.ireturn, 1) := by decide +kernel
theorem ef_22 (m : MethodId) (x0 : Addr) : entryFrame m #[(.ref x0)] 1 = mkF m 0 #[.val (.ref x0)] [] := by first | (simp [entryFrame, mkF, argsToLocals, Value.category]; done) | rfl
theorem d22_0 : decode jdk_42_method_154_code 0 = .ok (.getstatic 38, 3) := by decide +kernel
theorem d22_3 : decode jdk_42_method_154_code 3 = .ok (.ifCond .eq 14, 3) := by decide +kernel
theorem d22_6 : decode jdk_42_method_154_code 6 = .ok (.aload_n 0, 1) := by decide +kernel
theorem d22_7 : decode jdk_42_method_154_code 7 = .ok (.getfield 15, 3) := by decide +kernel
theorem d22_10 : decode jdk_42_method_154_code 10 = .ok (.ifCond .ne 7, 3) := by decide +kernel
theorem d22_13 : decode jdk_42_method_154_code 13 = .ok (.iconst 1, 1) := by decide +kernel
theorem d22_14 : decode jdk_42_method_154_code 14 = .ok (.goto 4, 3) := by decide +kernel
theorem d22_18 : decode jdk_42_method_154_code 18 = .ok (.ireturn, 1) := by decide +kernel
theorem d22_17 : decode jdk_42_method_154_code 17 = .ok (.iconst 0, 1) := by decide +kernel
theorem ef_24n2 (m : MethodId) (x0 : Int32) (x1 : Int32) : entryFrame m #[(.int x0), (.int x1), .null] 3 = mkF m 0 #[.val (.int x0), .val (.int x1), .val .null] [] := by first | (simp [entryFrame, mkF, argsToLocals, Value.category]; done) | rfl
theorem d24_0 : decode jdk_41_method_11_code 0 = .ok (.iload_n 0, 1) := by decide +kernel
theorem d24_1 : decode jdk_41_method_11_code 1 = .ok (.ifCond .lt 8, 3) := by decide +kernel
theorem d24_4 : decode jdk_41_method_11_code 4 = .ok (.iload_n 0, 1) := by decide +kernel
theorem d24_5 : decode jdk_41_method_11_code 5 = .ok (.iload_n 1, 1) := by decide +kernel
theorem d24_6 : decode jdk_41_method_11_code 6 = .ok (.if_icmp .lt 10, 3) := by decide +kernel
theorem d24_16 : decode jdk_41_method_11_code 16 = .ok (.iload_n 0, 1) := by decide +kernel
theorem d24_17 : decode jdk_41_method_11_code 17 = .ok (.ireturn, 1) := by decide +kernel
theorem pn_jdk_internal_util_Preconditions : plainName "jdk/internal/util/Preconditions" = true := by first | (simp [plainName, overriddenIn]; done) | decide +kernel
theorem ef_23 (m : MethodId) (x0 : Int32) (x1 : Int32) : entryFrame m #[(.int x0), (.int x1)] 2 = mkF m 0 #[.val (.int x0), .val (.int x1)] [] := by first | (simp [entryFrame, mkF, argsToLocals, Value.category]; done) | rfl
theorem d23_0 : decode jdk_42_method_155_code 0 = .ok (.iload_n 0, 1) := by decide +kernel
theorem d23_1 : decode jdk_42_method_155_code 1 = .ok (.iload_n 1, 1) := by decide +kernel
theorem d23_2 : decode jdk_42_method_155_code 2 = .ok (.getstatic 1053, 3) := by decide +kernel
theorem d23_5 : decode jdk_42_method_155_code 5 = .ok (.invokestatic 1059, 3) := by decide +kernel
theorem pd__IILjava_util_function_BiFunction__I : parseMethodDescriptor "(IILjava/util/function/BiFunction;)I" = some ⟨[.int, .int, (.object "java/util/function/BiFunction")], some .int⟩ := by decide +kernel
theorem d23_8 : decode jdk_42_method_155_code 8 = .ok (.pop, 1) := by decide +kernel
theorem d23_9 : decode jdk_42_method_155_code 9 = .ok (.return_, 1) := by decide +kernel
theorem ef_24 (m : MethodId) (x0 : Int32) (x1 : Int32) (x2 : Addr) : entryFrame m #[(.int x0), (.int x1), (.ref x2)] 3 = mkF m 0 #[.val (.int x0), .val (.int x1), .val (.ref x2)] [] := by first | (simp [entryFrame, mkF, argsToLocals, Value.category]; done) | rfl
theorem ef_21 (m : MethodId) (x0 : Addr) (x1 : Int32) : entryFrame m #[(.ref x0), (.int x1)] 3 = mkF m 0 #[.val (.ref x0), .val (.int x1), .unset] [] := by first | (simp [entryFrame, mkF, argsToLocals, Value.category]; done) | rfl
theorem d21_0 : decode jdk_42_method_57_code 0 = .ok (.aload_n 0, 1) := by decide +kernel
theorem d21_1 : decode jdk_42_method_57_code 1 = .ok (.invokevirtual 492, 3) := by decide +kernel
theorem pd___Z : parseMethodDescriptor "()Z" = some ⟨[], some .boolean⟩ := by decide +kernel
theorem d21_4 : decode jdk_42_method_57_code 4 = .ok (.ifCond .eq 23, 3) := by decide +kernel
theorem d21_7 : decode jdk_42_method_57_code 7 = .ok (.iload_n 1, 1) := by decide +kernel
theorem d21_8 : decode jdk_42_method_57_code 8 = .ok (.aload_n 0, 1) := by decide +kernel
theorem d21_9 : decode jdk_42_method_57_code 9 = .ok (.getfield 9, 3) := by decide +kernel
theorem d21_12 : decode jdk_42_method_57_code 12 = .ok (.arraylength, 1) := by decide +kernel
theorem d21_13 : decode jdk_42_method_57_code 13 = .ok (.invokestatic 499, 3) := by decide +kernel
theorem pd__II_V : parseMethodDescriptor "(II)V" = some ⟨[.int, .int], none⟩ := by decide +kernel
theorem d21_16 : decode jdk_42_method_57_code 16 = .ok (.aload_n 0, 1) := by decide +kernel
theorem d21_17 : decode jdk_42_method_57_code 17 = .ok (.getfield 9, 3) := by decide +kernel
theorem d21_20 : decode jdk_42_method_57_code 20 = .ok (.iload_n 1, 1) := by decide +kernel
theorem d21_21 : decode jdk_42_method_57_code 21 = .ok (.baload, 1) := by decide +kernel
theorem d21_22 : decode jdk_42_method_57_code 22 = .ok (.sipush 255, 3) := by decide +kernel
theorem d21_25 : decode jdk_42_method_57_code 25 = .ok (.iand, 1) := by decide +kernel
theorem d21_26 : decode jdk_42_method_57_code 26 = .ok (.ireturn, 1) := by decide +kernel
theorem ef_27 (m : MethodId) (x0 : Int32) : entryFrame m #[(.int x0)] 1 = mkF m 0 #[.val (.int x0)] [] := by first | (simp [entryFrame, mkF, argsToLocals, Value.category]; done) | rfl
theorem d27_0 : decode jdk_89_method_14_code 0 = .ok (.iload_n 0, 1) := by decide +kernel
theorem d27_1 : decode jdk_89_method_14_code 1 = .ok (.ldc 75, 2) := by decide +kernel
theorem d27_3 : decode jdk_89_method_14_code 3 = .ok (.if_icmp .lt 13, 3) := by decide +kernel
theorem d27_6 : decode jdk_89_method_14_code 6 = .ok (.iload_n 0, 1) := by decide +kernel
theorem d27_7 : decode jdk_89_method_14_code 7 = .ok (.ldc 76, 2) := by decide +kernel
theorem d27_9 : decode jdk_89_method_14_code 9 = .ok (.if_icmp .ge 7, 3) := by decide +kernel
theorem d27_12 : decode jdk_89_method_14_code 12 = .ok (.iconst 1, 1) := by decide +kernel
theorem d27_13 : decode jdk_89_method_14_code 13 = .ok (.goto 4, 3) := by decide +kernel
theorem d27_17 : decode jdk_89_method_14_code 17 = .ok (.ireturn, 1) := by decide +kernel
theorem pn_java_lang_Character : plainName "java/lang/Character" = true := by first | (simp [plainName, overriddenIn]; done) | decide +kernel
theorem d27_16 : decode jdk_89_method_14_code 16 = .ok (.iconst 0, 1) := by decide +kernel
theorem ef_30 (m : MethodId) (x0 : Int32) : entryFrame m #[(.int x0)] 1 = mkF m 0 #[.val (.int x0)] [] := by first | (simp [entryFrame, mkF, argsToLocals, Value.category]; done) | rfl
theorem d30_0 : decode jdk_89_method_15_code 0 = .ok (.iload_n 0, 1) := by decide +kernel
theorem d30_1 : decode jdk_89_method_15_code 1 = .ok (.ldc 76, 2) := by decide +kernel
theorem d30_3 : decode jdk_89_method_15_code 3 = .ok (.if_icmp .lt 13, 3) := by decide +kernel
theorem d30_6 : decode jdk_89_method_15_code 6 = .ok (.iload_n 0, 1) := by decide +kernel
theorem d30_7 : decode jdk_89_method_15_code 7 = .ok (.ldc 77, 2) := by decide +kernel
theorem d30_9 : decode jdk_89_method_15_code 9 = .ok (.if_icmp .ge 7, 3) := by decide +kernel
theorem d30_12 : decode jdk_89_method_15_code 12 = .ok (.iconst 1, 1) := by decide +kernel
theorem d30_13 : decode jdk_89_method_15_code 13 = .ok (.goto 4, 3) := by decide +kernel
theorem d30_17 : decode jdk_89_method_15_code 17 = .ok (.ireturn, 1) := by decide +kernel
theorem ef_29 (m : MethodId) (x0 : Int32) : entryFrame m #[(.int x0)] 1 = mkF m 0 #[.val (.int x0)] [] := by first | (simp [entryFrame, mkF, argsToLocals, Value.category]; done) | rfl
theorem d29_0 : decode jdk_89_method_18_code 0 = .ok (.iload_n 0, 1) := by decide +kernel
theorem d29_1 : decode jdk_89_method_18_code 1 = .ok (.ldc 73, 2) := by decide +kernel
theorem d29_3 : decode jdk_89_method_18_code 3 = .ok (.if_icmp .lt 7, 3) := by decide +kernel
theorem d29_10 : decode jdk_89_method_18_code 10 = .ok (.iconst 1, 1) := by decide +kernel
theorem d29_11 : decode jdk_89_method_18_code 11 = .ok (.ireturn, 1) := by decide +kernel
theorem d29_6 : decode jdk_89_method_18_code 6 = .ok (.iconst 2, 1) := by decide +kernel
theorem d29_7 : decode jdk_89_method_18_code 7 = .ok (.goto 4, 3) := by decide +kernel
theorem ef_28 (m : MethodId) (x0 : Int32) : entryFrame m #[(.int x0)] 1 = mkF m 0 #[.val (.int x0)] [] := by first | (simp [entryFrame, mkF, argsToLocals, Value.category]; done) | rfl
theorem d28_0 : decode prog_6_method_4_code 0 = .ok (.iload_n 0, 1) := by decide +kernel
theorem d28_1 : decode prog_6_method_4_code 1 = .ok (.ldc 86, 2) := by decide +kernel
theorem d28_3 : decode prog_6_method_4_code 3 = .ok (.if_icmp .lt 13, 3) := by decide +kernel
theorem d28_16 : decode prog_6_method_4_code 16 = .ok (.iconst 0, 1) := by decide +kernel
theorem d28_17 : decode prog_6_method_4_code 17 = .ok (.ireturn, 1) := by decide +kernel
theorem pn_com_example_latchwork_latchwork_core_LockNames : plainName "com/example/latchwork/latchwork/core/LockNames" = true := by first | (simp [plainName, overriddenIn]; done) | decide +kernel
theorem d28_6 : decode prog_6_method_4_code 6 = .ok (.iload_n 0, 1) := by decide +kernel
theorem d28_7 : decode prog_6_method_4_code 7 = .ok (.ldc 87, 2) := by decide +kernel
theorem d28_9 : decode prog_6_method_4_code 9 = .ok (.if_icmp .gt 7, 3) := by decide +kernel
theorem ef_31 (m : MethodId) (x0 : Int32) (x1 : Int32) : entryFrame m #[(.int x0), (.int x1)] 2 = mkF m 0 #[.val (.int x0), .val (.int x1)] [] := by first | (simp [entryFrame, mkF, argsToLocals, Value.category]; done) | rfl
theorem d31_0 : decode jdk_89_method_19_code 0 = .ok (.iload_n 0, 1) := by decide +kernel
theorem d31_1 : decode jdk_89_method_19_code 1 = .ok (.bipush 10, 2) := by decide +kernel
theorem d31_3 : decode jdk_89_method_19_code 3 = .ok (.ishl, 1) := by decide +kernel
theorem d31_4 : decode jdk_89_method_19_code 4 = .ok (.iload_n 1, 1) := by decide +kernel
theorem d31_5 : decode jdk_89_method_19_code 5 = .ok (.iadd, 1) := by decide +kernel
theorem d31_6 : decode jdk_89_method_19_code 6 = .ok (.ldc 85, 2) := by decide +kernel
theorem d31_8 : decode jdk_89_method_19_code 8 = .ok (.iadd, 1) := by decide +kernel
theorem d31_9 : decode jdk_89_method_19_code 9 = .ok (.ireturn, 1) := by decide +kernel
theorem ef_26 (m : MethodId) (x0 : Addr) (x1 : Int32) (x2 : Int32) (x3 : Int32) : entryFrame m #[(.ref x0), (.int x1), (.int x2), (.int x3)] 6 = mkF m 0 #[.val (.ref x0), .val (.int x1), .val (.int x2), .val (.int x3), .unset, .unset] [] := by first | (simp [entryFrame, mkF, argsToLocals, Value.category]; done) | rfl
theorem d26_0 : decode jdk_52_method_7_code 0 = .ok (.getstatic 44, 3) := by decide +kernel
theorem d26_3 : decode jdk_52_method_7_code 3 = .ok (.ifCond .ne 16, 3) := by decide +kernel
theorem d26_19 : decode jdk_52_method_7_code 19 = .ok (.iload_n 3, 1) := by decide +kernel
theorem d26_20 : decode jdk_52_method_7_code 20 = .ok (.ifCond .eq 8, 3) := by decide +kernel
theorem d26_28 : decode jdk_52_method_7_code 28 = .ok (.aload_n 0, 1) := by decide +kernel
theorem d26_29 : decode jdk_52_method_7_code 29 = .ok (.iload_n 1, 1) := by decide +kernel
theorem d26_30 : decode jdk_52_method_7_code 30 = .ok (.invokestatic 71, 3) := by decide +kernel
theorem d26_33 : decode jdk_52_method_7_code 33 = .ok (.istore 4, 2) := by decide +kernel
theorem d26_35 : decode jdk_52_method_7_code 35 = .ok (.iload 4, 2) := by decide +kernel
theorem d26_37 : decode jdk_52_method_7_code 37 = .ok (.invokestatic 75, 3) := by decide +kernel
theorem pd__C_Z : parseMethodDescriptor "(C)Z" = some ⟨[.char], some .boolean⟩ := by decide +kernel
theorem d26_40 : decode jdk_52_method_7_code 40 = .ok (.ifCond .eq 43, 3) := by decide +kernel
theorem d26_83 : decode jdk_52_method_7_code 83 = .ok (.iload 4, 2) := by decide +kernel
theorem d26_85 : decode jdk_52_method_7_code 85 = .ok (.ireturn, 1) := by decide +kernel
theorem ef_25 (m : MethodId) (x0 : Addr) (x1 : Int32) (x2 : Int32) : entryFrame m #[(.ref x0), (.int x1), (.int x2)] 3 = mkF m 0 #[.val (.ref x0), .val (.int x1), .val (.int x2)] [] := by first | (simp [entryFrame, mkF, argsToLocals, Value.category]; done) | rfl
theorem d25_0 : decode jdk_52_method_8_code 0 = .ok (.aload_n 0, 1) := by decide +kernel
theorem d25_1 : decode jdk_52_method_8_code 1 = .ok (.iload_n 1, 1) := by decide +kernel
theorem d25_2 : decode jdk_52_method_8_code 2 = .ok (.iload_n 2, 1) := by decide +kernel
theorem d25_3 : decode jdk_52_method_8_code 3 = .ok (.iconst 0, 1) := by decide +kernel
theorem d25_4 : decode jdk_52_method_8_code 4 = .ok (.invokestatic 88, 3) := by decide +kernel
theorem pd___BIIZ_I : parseMethodDescriptor "([BIIZ)I" = some ⟨[(.array .byte), .int, .int, .boolean], some .int⟩ := by decide +kernel
theorem d25_7 : decode jdk_52_method_8_code 7 = .ok (.ireturn, 1) := by decide +kernel
theorem d21_27 : decode jdk_42_method_57_code 27 = .ok (.aload_n 0, 1) := by decide +kernel
theorem d21_28 : decode jdk_42_method_57_code 28 = .ok (.getfield 9, 3) := by decide +kernel
theorem d21_31 : decode jdk_42_method_57_code 31 = .ok (.arraylength, 1) := by decide +kernel
theorem d21_32 : decode jdk_42_method_57_code 32 = .ok (.iconst 1, 1) := by decide +kernel
theorem d21_33 : decode jdk_42_method_57_code 33 = .ok (.ishr, 1) := by decide +kernel
theorem d21_34 : decode jdk_42_method_57_code 34 = .ok (.istore_n 2, 1) := by decide +kernel
theorem d21_35 : decode jdk_42_method_57_code 35 = .ok (.iload_n 1, 1) := by decide +kernel
theorem d21_36 : decode jdk_42_method_57_code 36 = .ok (.iload_n 2, 1) := by decide +kernel
theorem d21_37 : decode jdk_42_method_57_code 37 = .ok (.invokestatic 499, 3) := by decide +kernel
theorem d21_40 : decode jdk_42_method_57_code 40 = .ok (.aload_n 0, 1) := by decide +kernel
theorem d21_41 : decode jdk_42_method_57_code 41 = .ok (.getfield 9, 3) := by decide +kernel
theorem d21_44 : decode jdk_42_method_57_code 44 = .ok (.iload_n 1, 1) := by decide +kernel
theorem d21_45 : decode jdk_42_method_57_code 45 = .ok (.iload_n 2, 1) := by decide +kernel
theorem d21_46 : decode jdk_42_method_57_code 46 = .ok (.invokestatic 502, 3) := by decide +kernel
theorem pd___BII_I : parseMethodDescriptor "([BII)I" = some ⟨[(.array .byte), .int, .int], some .int⟩ := by decide +kernel
theorem d21_49 : decode jdk_42_method_57_code 49 = .ok (.ireturn, 1) := by decide +kernel
theorem d26_43 : decode jdk_52_method_7_code 43 = .ok (.iinc 1 1, 3) := by decide +kernel
theorem d26_46 : decode jdk_52_method_7_code 46 = .ok (.iload_n 1, 1) := by decide +kernel
theorem d26_47 : decode jdk_52_method_7_code 47 = .ok (.iload_n 2, 1) := by decide +kernel
theorem d26_48 : decode jdk_52_method_7_code 48 = .ok (.if_icmp .ge 35, 3) := by decide +kernel
theorem d26_51 : decode jdk_52_method_7_code 51 = .ok (.iload_n 3, 1) := by decide +kernel
theorem d26_52 : decode jdk_52_method_7_code 52 = .ok (.ifCond .eq 8, 3) := by decide +kernel
theorem d26_60 : decode jdk_52_method_7_code 60 = .ok (.aload_n 0, 1) := by decide +kernel
theorem d26_61 : decode jdk_52_method_7_code 61 = .ok (.iload_n 1, 1) := by decide +kernel
theorem d26_62 : decode jdk_52_method_7_code 62 = .ok (.invokestatic 71, 3) := by decide +kernel
theorem d26_65 : decode jdk_52_method_7_code 65 = .ok (.istore 5, 2) := by decide +kernel
theorem d26_67 : decode jdk_52_method_7_code 67 = .ok (.iload 5, 2) := by decide +kernel
theorem d26_69 : decode jdk_52_method_7_code 69 = .ok (.invokestatic 81, 3) := by decide +kernel
theorem d26_72 : decode jdk_52_method_7_code 72 = .ok (.ifCond .eq 11, 3) := by decide +kernel
theorem d26_75 : decode jdk_52_method_7_code 75 = .ok (.iload 4, 2) := by decide +kernel
theorem d26_77 : decode jdk_52_method_7_code 77 = .ok (.iload 5, 2) := by decide +kernel
theorem d26_79 : decode jdk_52_method_7_code 79 = .ok (.invokestatic 84, 3) := by decide +kernel
theorem pd__CC_I : parseMethodDescriptor "(CC)I" = some ⟨[.char, .char], some .int⟩ := by decide +kernel
theorem d26_82 : decode jdk_52_method_7_code 82 = .ok (.ireturn, 1) := by decide +kernel
theorem ef_8 (m : MethodId) (x0 : Addr) (x1 : Addr) : entryFrame m #[(.ref x0), (.ref x1)] 2 = mkF m 0 #[.val (.ref x0), .val (.ref x1)] [] := by first | (simp [entryFrame, mkF, argsToLocals, Value.category]; done) | rfl
theorem d8_0 : decode jdk_31_method_11_code 0 = .ok (.aload_n 0, 1) := by decide +kernel
theorem d8_1 : decode jdk_31_method_11_code 1 = .ok (.ifnonnull 12, 3) := by decide +kernel
theorem d8_13 : decode jdk_31_method_11_code 13 = .ok (.aload_n 0, 1) := by decide +kernel
theorem d8_14 : decode jdk_31_method_11_code 14 = .ok (.areturn, 1) := by decide +kernel
theorem pn_java_util_Objects : plainName "java/util/Objects" = true := by first | (simp [plainName, overriddenIn]; done) | decide +kernel
theorem ef_7 (m : MethodId) (x0 : Addr) : entryFrame m #[(.ref x0)] 3 = mkF m 0 #[.val (.ref x0), .unset, .unset] [] := by first | (simp [entryFrame, mkF, argsToLocals, Value.category]; done) | rfl
theorem d7_0 : decode prog_6_method_2_code 0 = .ok (.aload_n 0, 1) := by decide +kernel
theorem d7_1 : decode prog_6_method_2_code 1 = .ok (.ldc 7, 2) := by decide +kernel
theorem d7_3 : decode prog_6_method_2_code 3 = .ok (.invokestatic 9, 3) := by decide +kernel
theorem pd__Ljava_lang_Object_Ljava_lang_String__Ljava_lang_Object_ : parseMethodDescriptor "(Ljava/lang/Object;Ljava/lang/String;)Ljava/lang/Object;" = some ⟨[(.object "java/lang/Object"), (.object "java/lang/String")], some (.object "java/lang/Object")⟩ := by decide +kernel
theorem d7_6 : decode prog_6_method_2_code 6 = .ok (.pop, 1) := by decide +kernel
theorem d7_7 : decode prog_6_method_2_code 7 = .ok (.aload_n 0, 1) := by decide +kernel
theorem d7_8 : decode prog_6_method_2_code 8 = .ok (.invokevirtual 15, 3) := by decide +kernel
theorem pd___I : parseMethodDescriptor "()I" = some ⟨[], some .int⟩ := by decide +kernel
theorem d7_11 : decode prog_6_method_2_code 11 = .ok (.sipush 16384, 3) := by decide +kernel
theorem d7_14 : decode prog_6_method_2_code 14 = .ok (.if_icmp .le 24, 3) := by decide +kernel
theorem d7_38 : decode prog_6_method_2_code 38 = .ok (.iconst 0, 1) := by decide +kernel
theorem d7_39 : decode prog_6_method_2_code 39 = .ok (.istore_n 1, 1) := by decide +kernel
theorem d7_40 : decode prog_6_method_2_code 40 = .ok (.iload_n 1, 1) := by decide +kernel
theorem d7_41 : decode prog_6_method_2_code 41 = .ok (.aload_n 0, 1) := by decide +kernel
theorem d7_42 : decode prog_6_method_2_code 42 = .ok (.invokevirtual 15, 3) := by decide +kernel
theorem d7_45 : decode prog_6_method_2_code 45 = .ok (.if_icmp .ge 44, 3) := by decide +kernel
theorem d7_89 : decode prog_6_method_2_code 89 = .ok (.aload_n 0, 1) := by decide +kernel
theorem d7_90 : decode prog_6_method_2_code 90 = .ok (.areturn, 1) := by decide +kernel
theorem d7_48 : decode prog_6_method_2_code 48 = .ok (.aload_n 0, 1) := by decide +kernel
theorem d7_49 : decode prog_6_method_2_code 49 = .ok (.iload_n 1, 1) := by decide +kernel
theorem d7_50 : decode prog_6_method_2_code 50 = .ok (.invokevirtual 36, 3) := by decide +kernel
theorem d7_53 : decode prog_6_method_2_code 53 = .ok (.istore_n 2, 1) := by decide +kernel
theorem d7_54 : decode prog_6_method_2_code 54 = .ok (.iload_n 2, 1) := by decide +kernel
theorem d7_55 : decode prog_6_method_2_code 55 = .ok (.invokestatic 40, 3) := by decide +kernel
theorem pd__I_Z : parseMethodDescriptor "(I)Z" = some ⟨[.int], some .boolean⟩ := by decide +kernel
theorem d7_58 : decode prog_6_method_2_code 58 = .ok (.ifCond .eq 21, 3) := by decide +kernel
theorem d7_79 : decode prog_6_method_2_code 79 = .ok (.iload_n 1, 1) := by decide +kernel
theorem d7_80 : decode prog_6_method_2_code 80 = .ok (.iload_n 2, 1) := by decide +kernel
theorem d7_81 : decode prog_6_method_2_code 81 = .ok (.invokestatic 45, 3) := by decide +kernel
theorem d7_84 : decode prog_6_method_2_code 84 = .ok (.iadd, 1) := by decide +kernel
theorem d7_85 : decode prog_6_method_2_code 85 = .ok (.istore_n 1, 1) := by decide +kernel
theorem d7_86 : decode prog_6_method_2_code 86 = .ok (.goto (-46), 3) := by decide +kernel
theorem d5_8 : decode jdk_42_method_149_code 8 = .ok (.aload_n 0, 1) := by decide +kernel
theorem d5_9 : decode jdk_42_method_149_code 9 = .ok (.ldc 7, 2) := by decide +kernel
theorem d5_11 : decode jdk_42_method_149_code 11 = .ok (.getfield 9, 3) := by decide +kernel
theorem d5_14 : decode jdk_42_method_149_code 14 = .ok (.putfield 9, 3) := by decide +kernel
theorem d5_17 : decode jdk_42_method_149_code 17 = .ok (.aload_n 0, 1) := by decide +kernel
theorem d5_18 : decode jdk_42_method_149_code 18 = .ok (.ldc 7, 2) := by decide +kernel
theorem d5_20 : decode jdk_42_method_149_code 20 = .ok (.getfield 15, 3) := by decide +kernel
theorem d5_23 : decode jdk_42_method_149_code 23 = .ok (.putfield 15, 3) := by decide +kernel
theorem d5_26 : decode jdk_42_method_149_code 26 = .ok (.return_, 1) := by decide +kernel
theorem ef_11 (m : MethodId) (x0 : Int32) : entryFrame m #[(.int x0)] 1 = mkF m 0 #[.val (.int x0)] [] := by first | (simp [entryFrame, mkF, argsToLocals, Value.category]; done) | rfl
theorem d11_0 : decode method_3_code 0 = .ok (.iload_n 0, 1) := by decide +kernel
theorem d11_1 : decode method_3_code 1 = .ok (.ldc 7, 2) := by decide +kernel
theorem d11_3 : decode method_3_code 3 = .ok (.if_icmp .lt 13, 3) := by decide +kernel
theorem d11_16 : decode method_3_code 16 = .ok (.iconst 0, 1) := by decide +kernel
theorem d11_17 : decode method_3_code 17 = .ok (.ireturn, 1) := by decide +kernel
theorem d11_6 : decode method_3_code 6 = .ok (.iload_n 0, 1) := by decide +kernel
theorem d11_7 : decode method_3_code 7 = .ok (.ldc 10, 2) := by decide +kernel
theorem d11_9 : decode method_3_code 9 = .ok (.if_icmp .gt 7, 3) := by decide +kernel
theorem d11_12 : decode method_3_code 12 = .ok (.iconst 1, 1) := by decide +kernel
theorem d11_13 : decode method_3_code 13 = .ok (.goto 4, 3) := by decide +kernel
theorem pn_com_example_latchwork_latchwork_core_LockNamesCheckPinLaw : plainName "com/example/latchwork/latchwork/core/LockNamesCheckPinLaw" = true := by first | (simp [plainName, overriddenIn]; done) | decide +kernel
theorem ef_12 (m : MethodId) (x0 : Int32) : entryFrame m #[(.int x0)] 1 = mkF m 0 #[.val (.int x0)] [] := by first | (simp [entryFrame, mkF, argsToLocals, Value.category]; done) | rfl
theorem d12_0 : decode method_4_code 0 = .ok (.iload_n 0, 1) := by decide +kernel
theorem d12_1 : decode method_4_code 1 = .ok (.ldc 8, 2) := by decide +kernel
theorem d12_3 : decode method_4_code 3 = .ok (.if_icmp .lt 13, 3) := by decide +kernel
theorem d12_16 : decode method_4_code 16 = .ok (.iconst 0, 1) := by decide +kernel
theorem d12_17 : decode method_4_code 17 = .ok (.ireturn, 1) := by decide +kernel
theorem d12_6 : decode method_4_code 6 = .ok (.iload_n 0, 1) := by decide +kernel
theorem d12_7 : decode method_4_code 7 = .ok (.ldc 11, 2) := by decide +kernel
theorem d12_9 : decode method_4_code 9 = .ok (.if_icmp .gt 7, 3) := by decide +kernel
theorem d12_12 : decode method_4_code 12 = .ok (.iconst 1, 1) := by decide +kernel
theorem d12_13 : decode method_4_code 13 = .ok (.goto 4, 3) := by decide +kernel
theorem ef_1 (m : MethodId) (x0 : Int32) : entryFrame m #[(.int x0)] 3 = mkF m 0 #[.val (.int x0), .unset, .unset] [] := by first | (simp [entryFrame, mkF, argsToLocals, Value.category]; done) | rfl
theorem d1_0 : decode method_2_code 0 = .ok (.iload_n 0, 1) := by decide +kernel
theorem d1_1 : decode method_2_code 1 = .ok (.iconst 3, 1) := by decide +kernel
theorem d1_2 : decode method_2_code 2 = .ok (.iand, 1) := by decide +kernel
theorem d1_3 : decode method_2_code 3 = .ok (.istore_n 1, 1) := by decide +kernel
theorem d1_4 : decode method_2_code 4 = .ok (.iload_n 0, 1) := by decide +kernel
theorem d1_5 : decode method_2_code 5 = .ok (.iconst 2, 1) := by decide +kernel
theorem d1_6 : decode method_2_code 6 = .ok (.iushr, 1) := by decide +kernel
theorem d1_7 : decode method_2_code 7 = .ok (.istore_n 2, 1) := by decide +kernel
theorem d1_8 : decode method_2_code 8 = .ok (.iload_n 1, 1) := by decide +kernel
theorem d1_9 : decode method_2_code 9 = .ok (.iconst 2, 1) := by decide +kernel
theorem d1_10 : decode method_2_code 10 = .ok (.if_icmp .ne 13, 3) := by decide +kernel
theorem d1_13 : decode method_2_code 13 = .ok (.ldc 7, 2) := by decide +kernel
theorem d1_15 : decode method_2_code 15 = .ok (.iload_n 2, 1) := by decide +kernel
theorem d1_16 : decode method_2_code 16 = .ok (.sipush 1023, 3) := by decide +kernel
theorem d1_19 : decode method_2_code 19 = .ok (.iand, 1) := by decide +kernel
theorem d1_20 : decode method_2_code 20 = .ok (.ior, 1) := by decide +kernel
theorem d1_21 : decode method_2_code 21 = .ok (.i2c, 1) := by decide +kernel
theorem d1_22 : decode method_2_code 22 = .ok (.ireturn, 1) := by decide +kernel
theorem d1_23 : decode method_2_code 23 = .ok (.iload_n 1, 1) := by decide +kernel
theorem d1_24 : decode method_2_code 24 = .ok (.iconst 3, 1) := by decide +kernel
theorem d1_25 : decode method_2_code 25 = .ok (.if_icmp .ne 13, 3) := by decide +kernel
theorem d1_28 : decode method_2_code 28 = .ok (.ldc 8, 2) := by decide +kernel
theorem d1_30 : decode method_2_code 30 = .ok (.iload_n 2, 1) := by decide +kernel
theorem d1_31 : decode method_2_code 31 = .ok (.sipush 1023, 3) := by decide +kernel
theorem d1_34 : decode method_2_code 34 = .ok (.iand, 1) := by decide +kernel
theorem d1_35 : decode method_2_code 35 = .ok (.ior, 1) := by decide +kernel
theorem d1_36 : decode method_2_code 36 = .ok (.i2c, 1) := by decide +kernel
theorem d1_37 : decode method_2_code 37 = .ok (.ireturn, 1) := by decide +kernel
theorem d1_38 : decode method_2_code 38 = .ok (.iload_n 2, 1) := by decide +kernel
theorem d1_39 : decode method_2_code 39 = .ok (.ldc 9, 2) := by decide +kernel
theorem d1_41 : decode method_2_code 41 = .ok (.iand, 1) := by decide +kernel
theorem d1_42 : decode method_2_code 42 = .ok (.i2c, 1) := by decide +kernel
theorem d1_43 : decode method_2_code 43 = .ok (.ireturn, 1) := by decide +kernel
theorem ef_2 (m : MethodId) (x0 : Addr) (x1 : Int32) (x2 : Int32) : entryFrame m #[(.ref x0), (.int x1), (.int x2)] 3 = mkF m 0 #[.val (.ref x0), .val (.int x1), .val (.int x2)] [] := by first | (simp [entryFrame, mkF, argsToLocals, Value.category]; done) | rfl
theorem d2_0 : decode method_5_code 0 = .ok (.iload_n 2, 1) := by decide +kernel
theorem d2_1 : decode method_5_code 1 = .ok (.iload_n 1, 1) := by decide +kernel
theorem d2_2 : decode method_5_code 2 = .ok (.if_icmp .lt 5, 3) := by decide +kernel
theorem d2_5 : decode method_5_code 5 = .ok (.iconst 0, 1) := by decide +kernel
theorem d2_6 : decode method_5_code 6 = .ok (.ireturn, 1) := by decide +kernel
theorem d2_7 : decode method_5_code 7 = .ok (.aload_n 0, 1) := by decide +kernel
theorem d2_8 : decode method_5_code 8 = .ok (.iload_n 2, 1) := by decide +kernel
theorem d2_9 : decode method_5_code 9 = .ok (.caload, 1) := by decide +kernel
theorem d2_10 : decode method_5_code 10 = .ok (.invokestatic 12, 3) := by decide +kernel
theorem d2_13 : decode method_5_code 13 = .ok (.ifCond .eq 23, 3) := by decide +kernel
theorem d2_36 : decode method_5_code 36 = .ok (.aload_n 0, 1) := by decide +kernel
theorem d2_37 : decode method_5_code 37 = .ok (.iload_n 2, 1) := by decide +kernel
theorem d2_38 : decode method_5_code 38 = .ok (.caload, 1) := by decide +kernel
theorem d2_39 : decode method_5_code 39 = .ok (.invokestatic 18, 3) := by decide +kernel
theorem d2_42 : decode method_5_code 42 = .ok (.ifCond .eq 20, 3) := by decide +kernel
theorem d2_62 : decode method_5_code 62 = .ok (.iconst 0, 1) := by decide +kernel
theorem d2_63 : decode method_5_code 63 = .ok (.ireturn, 1) := by decide +kernel
theorem d2_45 : decode method_5_code 45 = .ok (.iload_n 2, 1) := by decide +kernel
theorem d2_46 : decode method_5_code 46 = .ok (.ifCond .le 14, 3) := by decide +kernel
theorem d2_60 : decode method_5_code 60 = .ok (.iconst 1, 1) := by decide +kernel
theorem d2_61 : decode method_5_code 61 = .ok (.ireturn, 1) := by decide +kernel
theorem d2_16 : decode method_5_code 16 = .ok (.iload_n 2, 1) := by decide +kernel
theorem d2_17 : decode method_5_code 17 = .ok (.iconst 1, 1) := by decide +kernel
theorem d2_18 : decode method_5_code 18 = .ok (.iadd, 1) := by decide +kernel
theorem d2_19 : decode method_5_code 19 = .ok (.iload_n 1, 1) := by decide +kernel
theorem d2_20 : decode method_5_code 20 = .ok (.if_icmp .ge 14, 3) := by decide +kernel
theorem d2_34 : decode method_5_code 34 = .ok (.iconst 1, 1) := by decide +kernel
theorem d2_35 : decode method_5_code 35 = .ok (.ireturn, 1) := by decide +kernel
theorem d2_23 : decode method_5_code 23 = .ok (.aload_n 0, 1) := by decide +kernel
theorem d2_24 : decode method_5_code 24 = .ok (.iload_n 2, 1) := by decide +kernel
theorem d2_25 : decode method_5_code 25 = .ok (.iconst 1, 1) := by decide +kernel
theorem d2_26 : decode method_5_code 26 = .ok (.iadd, 1) := by decide +kernel
theorem d2_27 : decode method_5_code 27 = .ok (.caload, 1) := by decide +kernel
theorem d2_28 : decode method_5_code 28 = .ok (.invokestatic 18, 3) := by decide +kernel
theorem d2_31 : decode method_5_code 31 = .ok (.ifCond .ne 5, 3) := by decide +kernel
theorem d2_49 : decode method_5_code 49 = .ok (.aload_n 0, 1) := by decide +kernel
theorem d2_50 : decode method_5_code 50 = .ok (.iload_n 2, 1) := by decide +kernel
theorem d2_51 : decode method_5_code 51 = .ok (.iconst 1, 1) := by decide +kernel
theorem d2_52 : decode method_5_code 52 = .ok (.isub, 1) := by decide +kernel
theorem d2_53 : decode method_5_code 53 = .ok (.caload, 1) := by decide +kernel
theorem d2_54 : decode method_5_code 54 = .ok (.invokestatic 12, 3) := by decide +kernel
theorem d2_57 : decode method_5_code 57 = .ok (.ifCond .ne 5, 3) := by decide +kernel
theorem ef_3 (m : MethodId) (x0 : Addr) (x1 : Int32) : entryFrame m #[(.ref x0), (.int x1)] 2 = mkF m 0 #[.val (.ref x0), .val (.int x1)] [] := by first | (simp [entryFrame, mkF, argsToLocals, Value.category]; done) | rfl
theorem d3_0 : decode method_6_code 0 = .ok (.iload_n 1, 1) := by decide +kernel
theorem d3_1 : decode method_6_code 1 = .ok (.ifCond .ne 14, 3) := by decide +kernel
theorem d3_4 : decode method_6_code 4 = .ok (.new 21, 3) := by decide +kernel
theorem d3_7 : decode method_6_code 7 = .ok (.dup, 1) := by decide +kernel
theorem d3_8 : decode method_6_code 8 = .ok (.iconst 0, 1) := by decide +kernel
theorem d3_9 : decode method_6_code 9 = .ok (.newarray .char, 2) := by decide +kernel
theorem d3_11 : decode method_6_code 11 = .ok (.invokespecial 23, 3) := by decide +kernel
theorem pd___C_V : parseMethodDescriptor "([C)V" = some ⟨[(.array .char)], none⟩ := by decide +kernel
theorem d3_14 : decode method_6_code 14 = .ok (.areturn, 1) := by decide +kernel
theorem d3_15 : decode method_6_code 15 = .ok (.iload_n 1, 1) := by decide +kernel
theorem d3_16 : decode method_6_code 16 = .ok (.iconst 1, 1) := by decide +kernel
theorem d3_17 : decode method_6_code 17 = .ok (.if_icmp .ne 20, 3) := by decide +kernel
theorem d3_20 : decode method_6_code 20 = .ok (.new 21, 3) := by decide +kernel
theorem d3_23 : decode method_6_code 23 = .ok (.dup, 1) := by decide +kernel
theorem d3_24 : decode method_6_code 24 = .ok (.iconst 1, 1) := by decide +kernel
theorem d3_25 : decode method_6_code 25 = .ok (.newarray .char, 2) := by decide +kernel
theorem d3_27 : decode method_6_code 27 = .ok (.dup, 1) := by decide +kernel
theorem d3_28 : decode method_6_code 28 = .ok (.iconst 0, 1) := by decide +kernel
theorem d3_29 : decode method_6_code 29 = .ok (.aload_n 0, 1) := by decide +kernel
theorem d3_30 : decode method_6_code 30 = .ok (.iconst 0, 1) := by decide +kernel
theorem d3_31 : decode method_6_code 31 = .ok (.caload, 1) := by decide +kernel
theorem d3_32 : decode method_6_code 32 = .ok (.castore, 1) := by decide +kernel
theorem d3_33 : decode method_6_code 33 = .ok (.invokespecial 23, 3) := by decide +kernel
theorem d3_36 : decode method_6_code 36 = .ok (.areturn, 1) := by decide +kernel
theorem d3_37 : decode method_6_code 37 = .ok (.iload_n 1, 1) := by decide +kernel
theorem d3_38 : decode method_6_code 38 = .ok (.iconst 2, 1) := by decide +kernel
theorem d3_39 : decode method_6_code 39 = .ok (.if_icmp .ne 26, 3) := by decide +kernel
theorem d3_42 : decode method_6_code 42 = .ok (.new 21, 3) := by decide +kernel
theorem d3_45 : decode method_6_code 45 = .ok (.dup, 1) := by decide +kernel
theorem d3_46 : decode method_6_code 46 = .ok (.iconst 2, 1) := by decide +kernel
theorem d3_47 : decode method_6_code 47 = .ok (.newarray .char, 2) := by decide +kernel
theorem d3_49 : decode method_6_code 49 = .ok (.dup, 1) := by decide +kernel
theorem d3_50 : decode method_6_code 50 = .ok (.iconst 0, 1) := by decide +kernel
theorem d3_51 : decode method_6_code 51 = .ok (.aload_n 0, 1) := by decide +kernel
theorem d3_52 : decode method_6_code 52 = .ok (.iconst 0, 1) := by decide +kernel
theorem d3_53 : decode method_6_code 53 = .ok (.caload, 1) := by decide +kernel
theorem d3_54 : decode method_6_code 54 = .ok (.castore, 1) := by decide +kernel
theorem d3_55 : decode method_6_code 55 = .ok (.dup, 1) := by decide +kernel
theorem d3_56 : decode method_6_code 56 = .ok (.iconst 1, 1) := by decide +kernel
theorem d3_57 : decode method_6_code 57 = .ok (.aload_n 0, 1) := by decide +kernel
theorem d3_58 : decode method_6_code 58 = .ok (.iconst 1, 1) := by decide +kernel
theorem d3_59 : decode method_6_code 59 = .ok (.caload, 1) := by decide +kernel
theorem d3_60 : decode method_6_code 60 = .ok (.castore, 1) := by decide +kernel
theorem d3_61 : decode method_6_code 61 = .ok (.invokespecial 23, 3) := by decide +kernel
theorem d3_64 : decode method_6_code 64 = .ok (.areturn, 1) := by decide +kernel
theorem d3_65 : decode method_6_code 65 = .ok (.iload_n 1, 1) := by decide +kernel
theorem d3_66 : decode method_6_code 66 = .ok (.iconst 3, 1) := by decide +kernel
theorem d3_67 : decode method_6_code 67 = .ok (.if_icmp .ne 32, 3) := by decide +kernel
theorem d3_70 : decode method_6_code 70 = .ok (.new 21, 3) := by decide +kernel
theorem d3_73 : decode method_6_code 73 = .ok (.dup, 1) := by decide +kernel
theorem d3_74 : decode method_6_code 74 = .ok (.iconst 3, 1) := by decide +kernel
theorem d3_75 : decode method_6_code 75 = .ok (.newarray .char, 2) := by decide +kernel
theorem d3_77 : decode method_6_code 77 = .ok (.dup, 1) := by decide +kernel
theorem d3_78 : decode method_6_code 78 = .ok (.iconst 0, 1) := by decide +kernel
theorem d3_79 : decode method_6_code 79 = .ok (.aload_n 0, 1) := by decide +kernel
theorem d3_80 : decode method_6_code 80 = .ok (.iconst 0, 1) := by decide +kernel
theorem d3_81 : decode method_6_code 81 = .ok (.caload, 1) := by decide +kernel
theorem d3_82 : decode method_6_code 82 = .ok (.castore, 1) := by decide +kernel
theorem d3_83 : decode method_6_code 83 = .ok (.dup, 1) := by decide +kernel
theorem d3_84 : decode method_6_code 84 = .ok (.iconst 1, 1) := by decide +kernel
theorem d3_85 : decode method_6_code 85 = .ok (.aload_n 0, 1) := by decide +kernel
theorem d3_86 : decode method_6_code 86 = .ok (.iconst 1, 1) := by decide +kernel
theorem d3_87 : decode method_6_code 87 = .ok (.caload, 1) := by decide +kernel
theorem d3_88 : decode method_6_code 88 = .ok (.castore, 1) := by decide +kernel
theorem d3_89 : decode method_6_code 89 = .ok (.dup, 1) := by decide +kernel
theorem d3_90 : decode method_6_code 90 = .ok (.iconst 2, 1) := by decide +kernel
theorem d3_91 : decode method_6_code 91 = .ok (.aload_n 0, 1) := by decide +kernel
theorem d3_92 : decode method_6_code 92 = .ok (.iconst 2, 1) := by decide +kernel
theorem d3_93 : decode method_6_code 93 = .ok (.caload, 1) := by decide +kernel
theorem d3_94 : decode method_6_code 94 = .ok (.castore, 1) := by decide +kernel
theorem d3_95 : decode method_6_code 95 = .ok (.invokespecial 23, 3) := by decide +kernel
theorem d3_98 : decode method_6_code 98 = .ok (.areturn, 1) := by decide +kernel
theorem d3_99 : decode method_6_code 99 = .ok (.new 21, 3) := by decide +kernel
theorem d3_102 : decode method_6_code 102 = .ok (.dup, 1) := by decide +kernel
theorem d3_103 : decode method_6_code 103 = .ok (.iconst 4, 1) := by decide +kernel
theorem d3_104 : decode method_6_code 104 = .ok (.newarray .char, 2) := by decide +kernel
theorem d3_106 : decode method_6_code 106 = .ok (.dup, 1) := by decide +kernel
theorem d3_107 : decode method_6_code 107 = .ok (.iconst 0, 1) := by decide +kernel
theorem d3_108 : decode method_6_code 108 = .ok (.aload_n 0, 1) := by decide +kernel
theorem d3_109 : decode method_6_code 109 = .ok (.iconst 0, 1) := by decide +kernel
theorem d3_110 : decode method_6_code 110 = .ok (.caload, 1) := by decide +kernel
theorem d3_111 : decode method_6_code 111 = .ok (.castore, 1) := by decide +kernel
theorem d3_112 : decode method_6_code 112 = .ok (.dup, 1) := by decide +kernel
theorem d3_113 : decode method_6_code 113 = .ok (.iconst 1, 1) := by decide +kernel
theorem d3_114 : decode method_6_code 114 = .ok (.aload_n 0, 1) := by decide +kernel
theorem d3_115 : decode method_6_code 115 = .ok (.iconst 1, 1) := by decide +kernel
theorem d3_116 : decode method_6_code 116 = .ok (.caload, 1) := by decide +kernel
theorem d3_117 : decode method_6_code 117 = .ok (.castore, 1) := by decide +kernel
theorem d3_118 : decode method_6_code 118 = .ok (.dup, 1) := by decide +kernel
theorem d3_119 : decode method_6_code 119 = .ok (.iconst 2, 1) := by decide +kernel
theorem d3_120 : decode method_6_code 120 = .ok (.aload_n 0, 1) := by decide +kernel
theorem d3_121 : decode method_6_code 121 = .ok (.iconst 2, 1) := by decide +kernel
theorem d3_122 : decode method_6_code 122 = .ok (.caload, 1) := by decide +kernel
theorem d3_123 : decode method_6_code 123 = .ok (.castore, 1) := by decide +kernel
theorem d3_124 : decode method_6_code 124 = .ok (.dup, 1) := by decide +kernel
theorem d3_125 : decode method_6_code 125 = .ok (.iconst 3, 1) := by decide +kernel
theorem d3_126 : decode method_6_code 126 = .ok (.aload_n 0, 1) := by decide +kernel
theorem d3_127 : decode method_6_code 127 = .ok (.iconst 3, 1) := by decide +kernel
theorem d3_128 : decode method_6_code 128 = .ok (.caload, 1) := by decide +kernel
theorem d3_129 : decode method_6_code 129 = .ok (.castore, 1) := by decide +kernel
theorem d3_130 : decode method_6_code 130 = .ok (.invokespecial 23, 3) := by decide +kernel
theorem d3_133 : decode method_6_code 133 = .ok (.areturn, 1) := by decide +kernel
theorem ef_0 (m : MethodId) (x0 : Int32) (x1 : Int32) (x2 : Int32) (x3 : Int32) (x4 : Int32) : entryFrame m #[(.int x0), (.int x1), (.int x2), (.int x3), (.int x4)] maxLocals = mkF m 0 #[.val (.int x0), .val (.int x1), .val (.int x2), .val (.int x3), .val (.int x4), .unset, .unset, .unset, .unset, .unset, .unset] [] := by first | (simp [entryFrame, mkF, argsToLocals, Value.category, maxLocals]; done) | rfl
theorem pd__I_C : parseMethodDescriptor "(I)C" = some ⟨[.int], some .char⟩ := by decide +kernel
theorem pd___CII_Z : parseMethodDescriptor "([CII)Z" = some ⟨[(.array .char), .int, .int], some .boolean⟩ := by decide +kernel
theorem pd___CI_Ljava_lang_String_ : parseMethodDescriptor "([CI)Ljava/lang/String;" = some ⟨[(.array .char), .int], some (.object "java/lang/String")⟩ := by decide +kernel
theorem pd__Ljava_lang_String__Ljava_lang_String_ : parseMethodDescriptor "(Ljava/lang/String;)Ljava/lang/String;" = some ⟨[(.object "java/lang/String")], some (.object "java/lang/String")⟩ := by decide +kernel
def EL : List (String × Nat) := [("java/lang/String", 7)]
theorem hELof {Z : State} {a0 : Array Value} (hw : ∀ d ∈ tables_1, d.before a0 Z = true) : EW Z a0 EL := EW.cons (hw _ (List.mem_of_getElem? (i := 27) rfl)) (by decide) (EW.nil)
theorem wSof {Z : State} {a0 : Array Value} (hw : ∀ d ∈ tables_1, d.before a0 Z = true) : ∀ a ∈ Bundle.stringAtoms, a.before a0 Z = true := by
  intro a ha
  simp only [Bundle.stringAtoms, Bundle.sN, List.mem_cons, List.not_mem_nil, or_false] at ha
  rcases ha with rfl | rfl | rfl | rfl | rfl | rfl | rfl
  · exact (hw _ (List.mem_of_getElem? (i := 16) rfl))
  · exact (hw _ (List.mem_of_getElem? (i := 15) rfl))
  · exact (hw _ (List.mem_of_getElem? (i := 28) rfl))
  · exact (hw _ (List.mem_of_getElem? (i := 29) rfl))
  · exact (hw _ (List.mem_of_getElem? (i := 30) rfl))
  · exact (hw _ (List.mem_of_getElem? (i := 31) rfl))
  · exact (hw _ (List.mem_of_getElem? (i := 32) rfl))
theorem on_int {a : Nat} (ha : a ≤ 40000) : (Int32.ofNat a).toInt = a := by
  rw [Int32.toInt_ofNat_of_lt (by omega)]
theorem on_lt {a b : Nat} (ha : a ≤ 40000) (hb : b ≤ 40000) : Int32.ofNat a < Int32.ofNat b ↔ a < b := by
  rw [Int32.lt_iff_toInt_lt, on_int ha, on_int hb]; omega
theorem on_nn {a : Nat} (ha : a ≤ 40000) : ¬ Int32.ofNat a < 0 := by
  rw [Int32.lt_iff_toInt_lt, on_int ha]; have : (0 : Int32).toInt = 0 := rfl; omega
theorem on_back {a : Nat} (ha : a ≤ 40000) : (Int32.ofNat a).toNatClampNeg = a := by
  show (Int32.ofNat a).toInt.toNat = a
  rw [on_int ha]; rfl
theorem on_inc {a : Nat} : Int32.ofNat a + 1 = Int32.ofNat (a + 1) := by
  rw [Int32.ofNat_add]; rfl
theorem drop_cons {cs r : List Int32} {c : Int32} {k : Nat} (h : cs.drop k = c :: r) : k < cs.length ∧ cs.getD k 0 = c ∧ cs.drop (k + 1) = r := by
  have hk : k < cs.length := by
    rcases Nat.lt_or_ge k cs.length with q | q
    · exact q
    · rw [List.drop_eq_nil_of_le q] at h; cases h
  rw [List.drop_eq_getElem_cons hk] at h
  injection h with h1 h2
  exact ⟨hk, by rw [List.getD_eq_getElem?_getD, List.getElem?_eq_getElem hk]; exact h1, h2⟩
theorem get_map {cs : List Int32} {k : Nat} {c : Int32} (hk : k < cs.length) (h : cs.getD k 0 = c) (hl : cs.length ≤ 40000) : (cs.map Value.int).getD (Int32.ofNat k).toNatClampNeg (.int 0) = .int c := by
  rw [on_back (by omega), List.getD_eq_getElem?_getD, List.getElem?_map, List.getElem?_eq_getElem hk]
  rw [List.getD_eq_getElem?_getD, List.getElem?_eq_getElem hk] at h
  simp at h ⊢
  exact h
def bv (c : Int32) : Value := .int (nar .byte (c.toInt8.toInt32))
def bl (cs : List Int32) (k : Nat) : List Value := (cs.take k).map bv ++ List.replicate (cs.length - k) (.int 0)
theorem bl_len {cs : List Int32} {k : Nat} (h : k ≤ cs.length) : (bl cs k).length = cs.length := by simp [bl]; omega
theorem bl_zero (cs : List Int32) : bl cs 0 = List.replicate cs.length (.int 0) := by simp [bl]
theorem bl_all (cs : List Int32) : bl cs cs.length = cs.map bv := by simp [bl]
theorem bl_set {cs : List Int32} {k : Nat} {c : Int32} (hk : k < cs.length) (h : cs.getD k 0 = c) : (bl cs k).set k (bv c) = bl cs (k + 1) := by
  have e : cs[k] = c := by rw [List.getD_eq_getElem?_getD, List.getElem?_eq_getElem hk] at h; simpa using h
  obtain ⟨j, hj⟩ : ∃ j, cs.length - k = j + 1 := ⟨cs.length - k - 1, by omega⟩
  have hl : ((cs.take k).map bv).length = k := by simp; omega
  unfold bl
  rw [hj, List.set_append_right _ _ (by rw [hl]; exact Nat.le_refl _), hl, Nat.sub_self, List.replicate_succ, List.set_cons_zero, List.take_add_one, List.getElem?_eq_getElem hk, e, show cs.length - (k + 1) = j by omega]
  simp
theorem st6 {a b c d f g : Value} {v : Int32} {s : Slot} (h : One s) : storeLocals #[.val a, .val b, .val c, .val d, .val f, .val g, s] 6 (.int v) = some #[.val a, .val b, .val c, .val d, .val f, .val g, .val (.int v)] := by
  rcases h with rfl | ⟨w, rfl, hw⟩
  · rfl
  · cases w <;> first | rfl | (simp [Value.category] at hw)
theorem on_shl {a : Nat} (ha : a ≤ 20000) : Int32.ofNat a <<< ((1 : Int32) &&& 31) = Int32.ofNat (2 * a) := by
  apply Int32.toBitVec_inj.mp
  show BitVec.ofNat 32 a <<< 1 = BitVec.ofNat 32 (2 * a)
  apply BitVec.eq_of_toNat_eq
  simp [BitVec.toNat_shiftLeft, Nat.shiftLeft_eq]
  omega
theorem on_big {a : Nat} (ha : a ≤ 40000) : Int32.ofNat a < (1073741823 : Int32) := by
  rw [Int32.lt_iff_toInt_lt, on_int ha]
  have : (1073741823 : Int32).toInt = 1073741823 := rfl
  omega
theorem arv_rep {Z : State} {h : Heap} {a : Addr} {k : ClassId} {ty : FieldType} {z : Int32} {d : Value} {A B : Nat} (V : Arv Z h a k ty z (List.replicate A d) d) : Arv Z h a k ty z (List.replicate B d) d := by
  obtain ⟨c, h1, h2, h3, h4, h5, h6⟩ := V
  have e : ∀ (i A : Nat), (List.replicate A d).getD i d = d := fun i A => by
    rw [List.getD_eq_getElem?_getD, List.getElem?_replicate]; split <;> rfl
  exact ⟨c, h1, h2, h3, h4, fun i hi => by rw [h5 i hi, e, e], fun i hi => by have q := h6 i hi; rw [e] at q ⊢; exact q⟩
def hbv (c : Int32) : Value := .int (nar .byte ((c >>> ((0 : Int32) &&& 31)).toInt8.toInt32))
def lbv (c : Int32) : Value := .int (nar .byte ((c >>> ((8 : Int32) &&& 31)).toInt8.toInt32))
def uf (c : Int32) : List Value := [hbv c, lbv c]
def ul (cs : List Int32) (k : Nat) : List Value := (cs.take k).flatMap uf ++ List.replicate (2 * (cs.length - k)) (.int 0)
theorem fl_len : ∀ l : List Int32, (l.flatMap uf).length = 2 * l.length
  | [] => rfl
  | c :: r => by rw [List.flatMap_cons, List.length_append, fl_len r]; simp [uf]; omega
theorem ul_len {cs : List Int32} {k : Nat} (h : k ≤ cs.length) : (ul cs k).length = 2 * cs.length := by
  rw [ul, List.length_append, fl_len, List.length_replicate, List.length_take]; omega
theorem ul_zero (cs : List Int32) : ul cs 0 = List.replicate (2 * cs.length) (.int 0) := by simp [ul]
theorem ul_all (cs : List Int32) : ul cs cs.length = cs.flatMap uf := by simp [ul]
theorem ul_set {cs : List Int32} {k : Nat} {c : Int32} (hk : k < cs.length) (h : cs.getD k 0 = c) : ((ul cs k).set (2 * k) (hbv c)).set (2 * k + 1) (lbv c) = ul cs (k + 1) := by
  have e : cs[k] = c := by rw [List.getD_eq_getElem?_getD, List.getElem?_eq_getElem hk] at h; simpa using h
  obtain ⟨j, hj⟩ : ∃ j, 2 * (cs.length - k) = j + 1 + 1 := ⟨2 * (cs.length - k) - 2, by omega⟩
  have hl : ((cs.take k).flatMap uf).length = 2 * k := by rw [fl_len, List.length_take]; omega
  unfold ul
  rw [hj, List.set_append_right _ _ (by rw [hl]; exact Nat.le_refl _), hl, Nat.sub_self, List.replicate_succ, List.set_cons_zero, List.set_append_right _ _ (by rw [hl]; omega), hl, show 2 * k + 1 - 2 * k = 1 by omega, List.replicate_succ, List.set_cons_succ, List.set_cons_zero, List.take_add_one, List.getElem?_eq_getElem hk, e, show 2 * (cs.length - (k + 1)) = j by omega]
  simp [uf, List.flatMap_append]
theorem fl_get : ∀ (l : List Int32) (k : Nat), k < l.length → (l.flatMap uf).getD (2 * k) (.int 0) = hbv (l.getD k 0) ∧ (l.flatMap uf).getD (2 * k + 1) (.int 0) = lbv (l.getD k 0)
  | [], _, h => absurd h (Nat.not_lt_zero _)
  | c :: r, 0, _ => ⟨rfl, rfl⟩
  | c :: r, k + 1, h => by
    have ih := fl_get r k (by simpa using h)
    rw [List.flatMap_cons, show 2 * (k + 1) = 2 * k + 1 + 1 by omega]
    exact ih
theorem on_ne {a b : Nat} (ha : a ≤ 40000) (hb : b ≤ 40000) (h : a < b) : ¬ Int32.ofNat a = Int32.ofNat b := fun q => by
  have e := congrArg Int32.toInt q
  rw [on_int ha, on_int hb] at e
  omega
theorem getD_mem {cs : List Int32} {k : Nat} (h : k < cs.length) : cs.getD k 0 ∈ cs := by
  rw [List.getD_eq_getElem?_getD, List.getElem?_eq_getElem h]
  exact List.getElem_mem h
theorem get_hi {cs : List Int32} {k : Nat} (h : k < cs.length) : (cs.flatMap uf).getD (2 * k) (.int 0) = .int (nar .byte ((cs.getD k 0 >>> ((0 : Int32) &&& 31)).toInt8.toInt32)) := (fl_get cs k h).1
theorem get_lo {cs : List Int32} {k : Nat} (h : k < cs.length) : (cs.flatMap uf).getD (2 * k + 1) (.int 0) = .int (nar .byte ((cs.getD k 0 >>> ((8 : Int32) &&& 31)).toInt8.toInt32)) := (fl_get cs k h).2
theorem coder0 (x : Int32) : nar .byte (((((x - x).toUInt32 >>> ((31 : Int32) &&& 31).toUInt32).toInt32)).toInt8.toInt32) = 0 := by
  rw [Int32.sub_self]; rfl
theorem coder1 {N : Nat} (h1 : 0 < N) (h2 : N ≤ 16384) : nar .byte (((((Int32.ofNat N - Int32.ofNat (2 * N)).toUInt32 >>> ((31 : Int32) &&& 31).toUInt32).toInt32)).toInt8.toInt32) = 1 := by
  have e : (Int32.ofNat N - Int32.ofNat (2 * N)).toUInt32 >>> ((31 : Int32) &&& 31).toUInt32 = 1 := by
    apply UInt32.toBitVec_inj.mp
    show ((BitVec.ofNat 32 N - BitVec.ofNat 32 (2 * N)) >>> 31 : BitVec 32) = 1#32
    apply BitVec.eq_of_toNat_eq
    rw [BitVec.toNat_ushiftRight, BitVec.toNat_sub, BitVec.toNat_ofNat, BitVec.toNat_ofNat, Nat.shiftRight_eq_div_pow]
    simp
    omega
  rw [e]; rfl
theorem on_ne0 {b : Nat} (h : 0 < b) (hb : b ≤ 40000) : ¬ Int32.ofNat b = 0 := fun q => on_ne (a := 0) (by omega) hb h q.symm
/-- at a there stands a String that spells cs -/
def StU (Z : State) (h : Heap) (a : Addr) (cs : List Int32) : Prop := Exa Z h a "java/lang/String" ∧ ∃ (t : Addr) (kb : ClassId), Fld Z h a "java/lang/String" "value" "[B" (.ref t) ∧ ((Fld Z h a "java/lang/String" "coder" "B" (.int 0) ∧ (∀ c ∈ cs, ¬ (255 : Int32) < c) ∧ Arv Z h t kb .byte (Int32.ofNat cs.length) (cs.map bv) (.int 0)) ∨ (0 < cs.length ∧ Fld Z h a "java/lang/String" "coder" "B" (.int 1) ∧ Arv Z h t kb .byte (Int32.ofNat (2 * cs.length)) (cs.flatMap uf) (.int 0)))
theorem on_shr {a : Nat} (ha : a ≤ 20000) : Int32.ofNat (2 * a) >>> ((1 : Int32) &&& 31) = Int32.ofNat a := by
  apply Int32.toInt_inj.mp
  rw [c_ishr _ 1 1 rfl, on_int (by omega), on_int (by omega)]
  omega
theorem on_shr0 (x : Int32) : x >>> ((0 : Int32) &&& 31) = x := by
  apply Int32.toInt_inj.mp
  rw [c_ishr _ 0 0 rfl]
  omega
def tcp (c d : Int32) : Int32 := ((c <<< ((10 : Int32) &&& 31)) + d) + (-56613888 : Int32)
theorem tcp_rng {c d : Int32} (hc : (55296 : Int32) ≤ c ∧ c < (56320 : Int32)) (hd : (56320 : Int32) ≤ d ∧ d < (57344 : Int32)) : ¬ tcp c d < (65536 : Int32) := by
  have e1 := c_ishl c 10 10 rfl
  have e2 := c_iadd (c <<< ((10 : Int32) &&& 31)) d
  have e3 := c_iadd ((c <<< ((10 : Int32) &&& 31)) + d) (-56613888 : Int32)
  have k1 : (55296 : Int32).toInt = 55296 := rfl
  have k2 : (56320 : Int32).toInt = 56320 := rfl
  have k3 : (57344 : Int32).toInt = 57344 := rfl
  have k4 : (65536 : Int32).toInt = 65536 := rfl
  have k5 : (-56613888 : Int32).toInt = -56613888 := rfl
  have b1 := (c <<< ((10 : Int32) &&& 31)).le_toInt
  have b2 := (c <<< ((10 : Int32) &&& 31)).toInt_lt
  have b3 := ((c <<< ((10 : Int32) &&& 31)) + d).le_toInt
  have b4 := ((c <<< ((10 : Int32) &&& 31)) + d).toInt_lt
  have b5 := (tcp c d).le_toInt
  have b6 := (tcp c d).toInt_lt
  simp only [Int32.le_iff_toInt_le, Int32.lt_iff_toInt_lt] at hc hd ⊢
  unfold tcp at *
  omega
theorem lat_get {cs : List Int32} {k : Nat} {c : Int32} (hk : k < cs.length) (h : cs.getD k 0 = c) (hl : cs.length ≤ 40000) : (cs.map bv).getD (Int32.ofNat k).toNatClampNeg (.int 0) = .int (nar .byte (c.toInt8.toInt32)) := by
  rw [on_back (by omega), List.getD_eq_getElem?_getD, List.getElem?_map, List.getElem?_eq_getElem hk]
  rw [List.getD_eq_getElem?_getD, List.getElem?_eq_getElem hk] at h
  simp at h ⊢
  rw [h]; rfl
theorem lat_val {c : Int32} (h0 : ¬ c < 0) (h1 : ¬ (255 : Int32) < c) : nar .byte (c.toInt8.toInt32) &&& (255 : Int32) = c := by
  have e := c_mask (nar .byte (c.toInt8.toInt32)) 255 8 (by decide) (by decide)
  have e1 := c_i2b c
  have e2 := c_i2b (c.toInt8.toInt32)
  have k0 : (0 : Int32).toInt = 0 := rfl
  have k1 : (255 : Int32).toInt = 255 := rfl
  have k2 : (nar .byte (c.toInt8.toInt32)).toInt = (c.toInt8.toInt32).toInt8.toInt32.toInt := rfl
  rw [Int32.lt_iff_toInt_lt] at h0 h1
  apply Int32.toInt_inj.mp
  rw [e]
  omega
def Hi (c : Int32) : Prop := (55296 : Int32) ≤ c ∧ c < (56320 : Int32)
def Lo (c : Int32) : Prop := (56320 : Int32) ≤ c ∧ c < (57344 : Int32)
def Pl (c : Int32) : Prop := c < (55296 : Int32) ∨ (57343 : Int32) < c
theorem le_not {a b : Int32} (h : a ≤ b) : ¬ b < a := by rw [Int32.lt_iff_toInt_lt]; rw [Int32.le_iff_toInt_le] at h; omega
theorem pl_two {c : Int32} (h : Pl c) : c < (55296 : Int32) ∨ (¬ c < (55296 : Int32) ∧ ¬ c < (56320 : Int32)) := by
  have k1 : (55296 : Int32).toInt = 55296 := rfl
  have k2 : (56320 : Int32).toInt = 56320 := rfl
  have k3 : (57343 : Int32).toInt = 57343 := rfl
  unfold Pl at h
  simp only [Int32.lt_iff_toInt_lt] at h ⊢
  omega
theorem big_pl {c : Int32} (h : ¬ c < (65536 : Int32)) : Pl c := by
  have k3 : (57343 : Int32).toInt = 57343 := rfl
  have k4 : (65536 : Int32).toInt = 65536 := rfl
  unfold Pl
  simp only [Int32.lt_iff_toInt_lt] at h ⊢
  omega
theorem u16_small {c : Int32} (h : ¬ (65535 : Int32) < c) : c < (65536 : Int32) := by
  have k3 : (65535 : Int32).toInt = 65535 := rfl
  have k4 : (65536 : Int32).toInt = 65536 := rfl
  rw [Int32.lt_iff_toInt_lt] at h ⊢
  omega
def Val : List Int32 → Prop
  | [] => True
  | [c] => Pl c
  | c :: d :: r => (Pl c ∧ Val (d :: r)) ∨ (Hi c ∧ Lo d ∧ Val r)
theorem val_step {cs : List Int32} {k : Nat} (hk : k < cs.length) (h : Val (cs.drop k)) : (Pl (cs.getD k 0) ∧ Val (cs.drop (k + 1))) ∨ (k + 1 < cs.length ∧ Hi (cs.getD k 0) ∧ Lo (cs.getD (k + 1) 0) ∧ Val (cs.drop (k + 2))) := by
  have e : cs.drop k = cs.getD k 0 :: cs.drop (k + 1) := by
    rw [List.drop_eq_getElem_cons hk, List.getD_eq_getElem?_getD, List.getElem?_eq_getElem hk]; rfl
  rw [e] at h
  by_cases h2 : k + 1 < cs.length
  · have e2 : cs.drop (k + 1) = cs.getD (k + 1) 0 :: cs.drop (k + 2) := by
      rw [List.drop_eq_getElem_cons h2, List.getD_eq_getElem?_getD, List.getElem?_eq_getElem h2]; rfl
    rw [e2] at h
    rcases h with ⟨h3, h4⟩ | ⟨h3, h4, h5⟩
    · exact Or.inl ⟨h3, by rw [e2]; exact h4⟩
    · exact Or.inr ⟨h2, h3, h4, h5⟩
  · have e2 : cs.drop (k + 1) = [] := List.drop_eq_nil_of_le (by omega)
    rw [e2] at h
    exact Or.inl ⟨h, by rw [e2]; trivial⟩
theorem on_two {a : Nat} : Int32.ofNat a + 2 = Int32.ofNat (a + 2) := by
  rw [Int32.ofNat_add]; rfl
theorem st2 {a b : Value} {v : Int32} {s : Slot} (h : One s) : storeLocals #[.val a, .val b, s] 2 (.int v) = some #[.val a, .val b, .val (.int v)] := by
  rcases h with rfl | ⟨w, rfl, hw⟩
  · rfl
  · cases w <;> first | rfl | (simp [Value.category] at hw)
theorem lat_pl {c : Int32} (h : ¬ (255 : Int32) < c) : Pl c := by
  have k1 : (255 : Int32).toInt = 255 := rfl
  have k2 : (55296 : Int32).toInt = 55296 := rfl
  unfold Pl
  rw [Int32.lt_iff_toInt_lt] at h ⊢
  omega
theorem on_max {a : Nat} (ha : a ≤ 16384) : ¬ (16384 : Int32) < Int32.ofNat a := by
  rw [Int32.lt_iff_toInt_lt, on_int (by omega)]
  have : (16384 : Int32).toInt = 16384 := rfl
  omega
def hiV (c : Int32) : Int32 := if c < (55296 : Int32) then (0 : Int32) else (if (56319 : Int32) < c then (0 : Int32) else (1 : Int32))
def loV (c : Int32) : Int32 := if c < (56320 : Int32) then (0 : Int32) else (if (57343 : Int32) < c then (0 : Int32) else (1 : Int32))
theorem narC {c : Int32} (h : ¬ c < 0 ∧ ¬ (65535 : Int32) < c) : nar .char c = c := by
  have e := c_i2c c
  have e0 : (0 : Int32).toInt = 0 := rfl
  have e1 : (65535 : Int32).toInt = 65535 := rfl
  obtain ⟨h1, h2⟩ := h
  rw [Int32.lt_iff_toInt_lt] at h1 h2
  show c.toUInt32.toUInt16.toUInt32.toInt32 = c
  apply Int32.toInt_inj.mp
  omega
theorem c8 (i : Int32) (h0 : 0 ≤ i.toInt) (h1 : i.toInt < 8) : i = (0 : Int32) ∨ i = (1 : Int32) ∨ i = (2 : Int32) ∨ i = (3 : Int32) ∨ i = (4 : Int32) ∨ i = (5 : Int32) ∨ i = (6 : Int32) ∨ i = (7 : Int32) := by
  have e0 : (0 : Int32).toInt = 0 := rfl
  have e1 : (1 : Int32).toInt = 1 := rfl
  have e2 : (2 : Int32).toInt = 2 := rfl
  have e3 : (3 : Int32).toInt = 3 := rfl
  have e4 : (4 : Int32).toInt = 4 := rfl
  have e5 : (5 : Int32).toInt = 5 := rfl
  have e6 : (6 : Int32).toInt = 6 := rfl
  have e7 : (7 : Int32).toInt = 7 := rfl
  simp only [← Int32.toInt_inj]
  omega
theorem rem5 (x : Int32) : ((x &&& (7 : Int32)) - ((x &&& (7 : Int32)) / (5 : Int32)) * (5 : Int32)) = (0 : Int32) ∨ ((x &&& (7 : Int32)) - ((x &&& (7 : Int32)) / (5 : Int32)) * (5 : Int32)) = (1 : Int32) ∨ ((x &&& (7 : Int32)) - ((x &&& (7 : Int32)) / (5 : Int32)) * (5 : Int32)) = (2 : Int32) ∨ ((x &&& (7 : Int32)) - ((x &&& (7 : Int32)) / (5 : Int32)) * (5 : Int32)) = (3 : Int32) ∨ ((x &&& (7 : Int32)) - ((x &&& (7 : Int32)) / (5 : Int32)) * (5 : Int32)) = (4 : Int32) := by
  have e := c_mask x 7 3 (by decide) (by decide)
  have q := c8 (x &&& (7 : Int32)) (by omega) (by omega)
  generalize x &&& (7 : Int32) = y at q ⊢
  rcases q with rfl | rfl | rfl | rfl | rfl | rfl | rfl | rfl <;> decide
theorem kind (c : Int32) : (Pl c ∧ hiV c = 0 ∧ loV c = 0) ∨ (Hi c ∧ hiV c = 1 ∧ loV c = 0) ∨ (Lo c ∧ hiV c = 0 ∧ loV c = 1) := by
  have k1 : (55296 : Int32).toInt = 55296 := rfl
  have k2 : (56320 : Int32).toInt = 56320 := rfl
  have k3 : (57343 : Int32).toInt = 57343 := rfl
  have k4 : (56319 : Int32).toInt = 56319 := rfl
  have k5 : (57344 : Int32).toInt = 57344 := rfl
  by_cases a : c < (55296 : Int32)
  · have b : c < (56320 : Int32) := by rw [Int32.lt_iff_toInt_lt] at a ⊢; omega
    exact Or.inl ⟨Or.inl a, if_pos a, if_pos b⟩
  · by_cases b : (56319 : Int32) < c
    · have b2 : ¬ c < (56320 : Int32) := by rw [Int32.lt_iff_toInt_lt] at b ⊢; omega
      by_cases d : (57343 : Int32) < c
      · exact Or.inl ⟨Or.inr d, (if_neg a).trans (if_pos b), (if_neg b2).trans (if_pos d)⟩
      · refine Or.inr (Or.inr ⟨⟨?_, ?_⟩, (if_neg a).trans (if_pos b), (if_neg b2).trans (if_neg d)⟩)
        · rw [Int32.le_iff_toInt_le]; rw [Int32.lt_iff_toInt_lt] at b2; omega
        · rw [Int32.lt_iff_toInt_lt] at d ⊢; omega
    · have b2 : c < (56320 : Int32) := by rw [Int32.lt_iff_toInt_lt] at b ⊢; omega
      refine Or.inr (Or.inl ⟨⟨?_, b2⟩, (if_neg a).trans (if_neg b), if_pos b2⟩)
      rw [Int32.le_iff_toInt_le]; rw [Int32.lt_iff_toInt_lt] at a; omega
theorem k10 : ((1 : Int32) = 0) = False := eq_false (by decide)
theorem val_cons {c : Int32} {r : List Int32} (h : Pl c) (hr : Val r) : Val (c :: r) := by
  cases r with
  | nil => exact h
  | cons d r => exact Or.inl ⟨h, hr⟩
theorem val_pair {c d : Int32} {r : List Int32} (h : Hi c) (h2 : Lo d) (hr : Val r) : Val (c :: d :: r) := Or.inr ⟨h, h2, hr⟩
theorem val_zero (n : Nat) {r : List Int32} (hr : Val r) : Val (List.replicate n 0 ++ r) := by
  induction n with
  | zero => exact hr
  | succ n ih => rw [List.replicate_succ, List.cons_append]; exact val_cons (Or.inl (by decide)) ih
theorem val_1 {c0 : Int32} (h0 : (if hiV c0 = (0 : Int32) then (if loV c0 = (0 : Int32) then (0 : Int32) else (1 : Int32)) else (1 : Int32)) = (0 : Int32)) : Val [c0] := by
  rcases kind c0 with ⟨q0, a0, b0⟩ | ⟨q0, a0, b0⟩ | ⟨q0, a0, b0⟩
  all_goals (try simp [a0, b0, k10] at h0)
  all_goals simp [Val, q0]
theorem val_2 {c0 c1 : Int32} (h0 : (if hiV c0 = (0 : Int32) then (if loV c0 = (0 : Int32) then (0 : Int32) else (1 : Int32)) else (if loV c1 = (0 : Int32) then (1 : Int32) else (if loV c0 = (0 : Int32) then (0 : Int32) else (1 : Int32)))) = (0 : Int32)) (h1 : (if hiV c1 = (0 : Int32) then (if loV c1 = (0 : Int32) then (0 : Int32) else (if hiV c0 = (0 : Int32) then (1 : Int32) else (0 : Int32))) else (1 : Int32)) = (0 : Int32)) : Val [c0, c1] := by
  rcases kind c0 with ⟨q0, a0, b0⟩ | ⟨q0, a0, b0⟩ | ⟨q0, a0, b0⟩
  <;> rcases kind c1 with ⟨q1, a1, b1⟩ | ⟨q1, a1, b1⟩ | ⟨q1, a1, b1⟩
  all_goals (try simp [a0, b0, a1, b1, k10] at h0 h1)
  all_goals simp [Val, q0, q1]
theorem val_3 {c0 c1 c2 : Int32} (h0 : (if hiV c0 = (0 : Int32) then (if loV c0 = (0 : Int32) then (0 : Int32) else (1 : Int32)) else (if loV c1 = (0 : Int32) then (1 : Int32) else (if loV c0 = (0 : Int32) then (0 : Int32) else (1 : Int32)))) = (0 : Int32)) (h1 : (if hiV c1 = (0 : Int32) then (if loV c1 = (0 : Int32) then (0 : Int32) else (if hiV c0 = (0 : Int32) then (1 : Int32) else (0 : Int32))) else (if loV c2 = (0 : Int32) then (1 : Int32) else (if loV c1 = (0 : Int32) then (0 : Int32) else (if hiV c0 = (0 : Int32) then (1 : Int32) else (0 : Int32))))) = (0 : Int32)) (h2 : (if hiV c2 = (0 : Int32) then (if loV c2 = (0 : Int32) then (0 : Int32) else (if hiV c1 = (0 : Int32) then (1 : Int32) else (0 : Int32))) else (1 : Int32)) = (0 : Int32)) : Val [c0, c1, c2] := by
  rcases kind c0 with ⟨q0, a0, b0⟩ | ⟨q0, a0, b0⟩ | ⟨q0, a0, b0⟩
  <;> rcases kind c1 with ⟨q1, a1, b1⟩ | ⟨q1, a1, b1⟩ | ⟨q1, a1, b1⟩
  <;> rcases kind c2 with ⟨q2, a2, b2⟩ | ⟨q2, a2, b2⟩ | ⟨q2, a2, b2⟩
  all_goals (try simp [a0, b0, a1, b1, a2, b2, k10] at h0 h1 h2)
  all_goals simp [Val, q0, q1, q2]
theorem val_4 {c0 c1 c2 c3 : Int32} (h0 : (if hiV c0 = (0 : Int32) then (if loV c0 = (0 : Int32) then (0 : Int32) else (1 : Int32)) else (if loV c1 = (0 : Int32) then (1 : Int32) else (if loV c0 = (0 : Int32) then (0 : Int32) else (1 : Int32)))) = (0 : Int32)) (h1 : (if hiV c1 = (0 : Int32) then (if loV c1 = (0 : Int32) then (0 : Int32) else (if hiV c0 = (0 : Int32) then (1 : Int32) else (0 : Int32))) else (if loV c2 = (0 : Int32) then (1 : Int32) else (if loV c1 = (0 : Int32) then (0 : Int32) else (if hiV c0 = (0 : Int32) then (1 : Int32) else (0 : Int32))))) = (0 : Int32)) (h2 : (if hiV c2 = (0 : Int32) then (if loV c2 = (0 : Int32) then (0 : Int32) else (if hiV c1 = (0 : Int32) then (1 : Int32) else (0 : Int32))) else (if loV c3 = (0 : Int32) then (1 : Int32) else (if loV c2 = (0 : Int32) then (0 : Int32) else (if hiV c1 = (0 : Int32) then (1 : Int32) else (0 : Int32))))) = (0 : Int32)) (h3 : (if hiV c3 = (0 : Int32) then (if loV c3 = (0 : Int32) then (0 : Int32) else (if hiV c2 = (0 : Int32) then (1 : Int32) else (0 : Int32))) else (1 : Int32)) = (0 : Int32)) : Val [c0, c1, c2, c3] := by
  rcases kind c0 with ⟨q0, a0, b0⟩ | ⟨q0, a0, b0⟩ | ⟨q0, a0, b0⟩
  <;> rcases kind c1 with ⟨q1, a1, b1⟩ | ⟨q1, a1, b1⟩ | ⟨q1, a1, b1⟩
  <;> rcases kind c2 with ⟨q2, a2, b2⟩ | ⟨q2, a2, b2⟩ | ⟨q2, a2, b2⟩
  <;> rcases kind c3 with ⟨q3, a3, b3⟩ | ⟨q3, a3, b3⟩ | ⟨q3, a3, b3⟩
  all_goals (try simp [a0, b0, a1, b1, a2, b2, a3, b3, k10] at h0 h1 h2 h3)
  all_goals simp [Val, q0, q1, q2, q3]
theorem hcs_0 {c0 c1 c2 c3 : Int32} (hz0 : ¬ c0 < 0 ∧ ¬ (65535 : Int32) < c0) (hz1 : ¬ c1 < 0 ∧ ¬ (65535 : Int32) < c1) (hz2 : ¬ c2 < 0 ∧ ¬ (65535 : Int32) < c2) (hz3 : ¬ c3 < 0 ∧ ¬ (65535 : Int32) < c3) : ∀ c ∈ ([] : List Int32), ¬ c < 0 ∧ ¬ (65535 : Int32) < c := by
  intro c hc
  cases hc
theorem hcs_1 {c0 c1 c2 c3 : Int32} (hz0 : ¬ c0 < 0 ∧ ¬ (65535 : Int32) < c0) (hz1 : ¬ c1 < 0 ∧ ¬ (65535 : Int32) < c1) (hz2 : ¬ c2 < 0 ∧ ¬ (65535 : Int32) < c2) (hz3 : ¬ c3 < 0 ∧ ¬ (65535 : Int32) < c3) : ∀ c ∈ ([c0] : List Int32), ¬ c < 0 ∧ ¬ (65535 : Int32) < c := by
  intro c hc
  simp only [List.mem_cons, List.not_mem_nil, or_false] at hc
  rcases hc with rfl <;> assumption
theorem hcs_2 {c0 c1 c2 c3 : Int32} (hz0 : ¬ c0 < 0 ∧ ¬ (65535 : Int32) < c0) (hz1 : ¬ c1 < 0 ∧ ¬ (65535 : Int32) < c1) (hz2 : ¬ c2 < 0 ∧ ¬ (65535 : Int32) < c2) (hz3 : ¬ c3 < 0 ∧ ¬ (65535 : Int32) < c3) : ∀ c ∈ ([c0, c1] : List Int32), ¬ c < 0 ∧ ¬ (65535 : Int32) < c := by
  intro c hc
  simp only [List.mem_cons, List.not_mem_nil, or_false] at hc
  rcases hc with rfl | rfl <;> assumption
theorem hcs_3 {c0 c1 c2 c3 : Int32} (hz0 : ¬ c0 < 0 ∧ ¬ (65535 : Int32) < c0) (hz1 : ¬ c1 < 0 ∧ ¬ (65535 : Int32) < c1) (hz2 : ¬ c2 < 0 ∧ ¬ (65535 : Int32) < c2) (hz3 : ¬ c3 < 0 ∧ ¬ (65535 : Int32) < c3) : ∀ c ∈ ([c0, c1, c2] : List Int32), ¬ c < 0 ∧ ¬ (65535 : Int32) < c := by
  intro c hc
  simp only [List.mem_cons, List.not_mem_nil, or_false] at hc
  rcases hc with rfl | rfl | rfl <;> assumption
theorem hcs_4 {c0 c1 c2 c3 : Int32} (hz0 : ¬ c0 < 0 ∧ ¬ (65535 : Int32) < c0) (hz1 : ¬ c1 < 0 ∧ ¬ (65535 : Int32) < c1) (hz2 : ¬ c2 < 0 ∧ ¬ (65535 : Int32) < c2) (hz3 : ¬ c3 < 0 ∧ ¬ (65535 : Int32) < c3) : ∀ c ∈ ([c0, c1, c2, c3] : List Int32), ¬ c < 0 ∧ ¬ (65535 : Int32) < c := by
  intro c hc
  simp only [List.mem_cons, List.not_mem_nil, or_false] at hc
  rcases hc with rfl | rfl | rfl | rfl <;> assumption
theorem big_set (n : Nat) (a b c d : Int32) : ((((List.replicate (n + 4) (Value.int 0)).set n (.int a)).set (n + 1) (.int b)).set (n + 2) (.int c)).set (n + 3) (.int d) = (List.replicate n (0 : Int32) ++ [a, b, c, d]).map Value.int := by
  have e : List.replicate (n + 4) (Value.int 0) = List.replicate n (Value.int 0) ++ [.int 0, .int 0, .int 0, .int 0] := by
    rw [show [Value.int 0, .int 0, .int 0, .int 0] = List.replicate 4 (Value.int 0) from rfl, List.replicate_append_replicate]
  rw [e, List.set_append_right _ _ (by simp), List.set_append_right _ _ (by simp), List.set_append_right _ _ (by simp), List.set_append_right _ _ (by simp)]
  simp
theorem big_len (c0 c1 c2 c3 : Int32) : (List.replicate 16380 (0 : Int32) ++ [c0, c1, c2, c3]).length = 16384 := by
  rw [List.length_append, List.length_replicate]; rfl
theorem big {c0 c1 c2 c3 : Int32} (hz0 : ¬ c0 < 0 ∧ ¬ (65535 : Int32) < c0) (hz1 : ¬ c1 < 0 ∧ ¬ (65535 : Int32) < c1) (hz2 : ¬ c2 < 0 ∧ ¬ (65535 : Int32) < c2) (hz3 : ¬ c3 < 0 ∧ ¬ (65535 : Int32) < c3) (hv : Val [c0, c1, c2, c3]) {Z : State} {h : Heap} {b : Addr} {k : ClassId} (V : Arv Z h b k .char (16384 : Int32) (((((List.replicate 16384 (.int 0)).set 16380 (.int (nar .char c0))).set 16381 (.int (nar .char c1))).set 16382 (.int (nar .char c2))).set 16383 (.int (nar .char c3))) (.int 0)) : ∃ cs : List Int32, cs.length = 16384 ∧ (∀ c ∈ cs, ¬ c < 0 ∧ ¬ (65535 : Int32) < c) ∧ Val cs ∧ Arv Z h b k .char (Int32.ofNat cs.length) (cs.map Value.int) (.int 0) := by
  refine ⟨List.replicate 16380 0 ++ [c0, c1, c2, c3], big_len c0 c1 c2 c3, ?_, val_zero _ hv, ?_⟩
  · intro c hc
    rcases List.mem_append.mp hc with hc | hc
    · rw [List.eq_of_mem_replicate hc]; decide
    · exact hcs_4 hz0 hz1 hz2 hz3 c hc
  · rw [narC hz0, narC hz1, narC hz2, narC hz3] at V
    rw [big_len, ← big_set 16380]
    exact V
set_option maxRecDepth 65536 in
set_option maxHeartbeats 40000000 in
theorem rm_comp5 (l : Launch) (Z : State) (a0 : Array Value) (hw : ∀ d ∈ tables_1, d.before a0 Z = true) (a b : Addr) (ka kb : ClassId) (cs : List Int32) (h0 : Heap) (n0 : Nat) (O0 : Old Z n0 h0) (hN : cs.length ≤ 16384) (g_b : n0 ≤ b) (hab : a ≠ b) (Va : Arv Z h0 a ka .char (Int32.ofNat cs.length) (cs.map Value.int) (.int 0)) (Vb : Arv Z h0 b kb .byte (Int32.ofNat cs.length) (List.replicate cs.length (.int 0)) (.int 0)) :
    Rm l (⟨"java/lang/StringUTF16", "compress", "([CI[BII)I"⟩ : MethodName) jdk_52_method_21_code 7 (some .int) ({ frames := 0, cells := 0, slots := 0, locals := 0 } : Room) [] Z #[(.ref a), (.int 0), (.ref b), (.int 0), (.int (Int32.ofNat cs.length))] h0 (fun v h L => ∃ k : Nat, v = some (.int (Int32.ofNat k)) ∧ Fr n0 L ∧ Keep h0 h [b] ∧ Arv Z h b kb .byte (Int32.ofNat cs.length) (bl cs k) (.int 0) ∧ (∀ c ∈ cs.take k, ¬ (255 : Int32) < c) ∧ (k = cs.length ∨ (k < cs.length ∧ (255 : Int32) < cs.getD k 0))) := by
  refine Rm.of (plainFor_of_name pn_java_lang_StringUTF16) ?_
  intro p e s m below meth cod T X hx hZ hby hml hown hnm hret hlk eT0
  have hown : s.vm.findClass "java/lang/StringUTF16" = some m.cls := hown
  have hnm : meth.name = "compress" := hnm
  have N0 := Fr.nil n0
  have Kp := Keep.refl h0 [b]
  have loop : ∀ (r : List Int32) (k : Nat) (s6 : Slot) (T : State) (h : Heap) (locs : List Loc), Stand p l e ({ frames := 0, cells := 0, slots := 0, locals := 0 } : Room) s m #[(.ref a), (.int 0), (.ref b), (.int 0), (.int (Int32.ofNat cs.length))] below meth cod T locs 0 0 → T.heap = h → Fr n0 locs → Keep h0 h [b] → Arv Z h a ka .char (Int32.ofNat cs.length) (cs.map Value.int) (.int 0) → Arv Z h b kb .byte (Int32.ofNat cs.length) (bl cs k) (.int 0) → Old Z n0 h → cs.drop k = r → k ≤ cs.length → (∀ c ∈ cs.take k, ¬ (255 : Int32) < c) → One s6 → Goes p e below (EndN s (fun v h L => ∃ k : Nat, v = some (.int (Int32.ofNat k)) ∧ Fr n0 L ∧ Keep h0 h [b] ∧ Arv Z h b kb .byte (Int32.ofNat cs.length) (bl cs k) (.int 0) ∧ (∀ c ∈ cs.take k, ¬ (255 : Int32) < c) ∧ (k = cs.length ∨ (k < cs.length ∧ (255 : Int32) < cs.getD k 0))) 0 0) T (mkF m 3 #[.val (.ref a), .val (.int (Int32.ofNat k)), .val (.ref b), .val (.int (Int32.ofNat k)), .val (.int (Int32.ofNat cs.length)), .val (.int (Int32.ofNat k)), s6] []) := by
    intro r
    induction r with
    | nil =>
      intro k s6 T h locs X eT Nl Kp Va Vb O0 hdr hk hall h6
      have hlt : ¬ Int32.ofNat k < Int32.ofNat cs.length := by rw [on_lt (by omega) (by omega)]; have := List.drop_eq_nil_iff.mp hdr; omega
      show Goes p e below _ T (mkF m 3 #[.val (.ref a), .val (.int (Int32.ofNat k)), .val (.ref b), .val (.int (Int32.ofNat k)), .val (.int (Int32.ofNat cs.length)), .val (.int (Int32.ofNat k)), s6] [])
      refine Goes.of (fun _ => XS.iload X.here hx rfl (hb hby d14_3) rfl) ?_
      show Goes p e below _ T (mkF m 5 #[.val (.ref a), .val (.int (Int32.ofNat k)), .val (.ref b), .val (.int (Int32.ofNat k)), .val (.int (Int32.ofNat cs.length)), .val (.int (Int32.ofNat k)), s6] [(.int (Int32.ofNat k))])
      refine Goes.of (fun _ => XS.iload X.here hx rfl (hb hby d14_5) rfl) ?_
      show Goes p e below _ T (mkF m 7 #[.val (.ref a), .val (.int (Int32.ofNat k)), .val (.ref b), .val (.int (Int32.ofNat k)), .val (.int (Int32.ofNat cs.length)), .val (.int (Int32.ofNat k)), s6] [(.int (Int32.ofNat cs.length)), (.int (Int32.ofNat k))])
      refine Goes.of (fun _ => XS.icmpYes X.here hx rfl (pc0 := 7) (pc' := 44) rfl (hb hby d14_7) rfl (flt hlt).2.1 (by decide) (by decide)) ?_
      show Goes p e below _ T (mkF m 44 #[.val (.ref a), .val (.int (Int32.ofNat k)), .val (.ref b), .val (.int (Int32.ofNat k)), .val (.int (Int32.ofNat cs.length)), .val (.int (Int32.ofNat k)), s6] [])
      refine Goes.of (fun _ => XS.iload X.here hx rfl (hb hby d14_44) rfl) ?_
      show Goes p e below _ T (mkF m 46 #[.val (.ref a), .val (.int (Int32.ofNat k)), .val (.ref b), .val (.int (Int32.ofNat k)), .val (.int (Int32.ofNat cs.length)), .val (.int (Int32.ofNat k)), s6] [(.int (Int32.ofNat cs.length))])
      exact retInt X hx hret hlk (hb hby d14_46) eT (by decide) (by decide) (by have e : k = cs.length := (by have := List.drop_eq_nil_iff.mp hdr; omega); subst e; exact ⟨cs.length, rfl, Nl, Kp, Vb, hall, Or.inl rfl⟩)
    | cons c' r ih =>
      intro k s6 T h locs X eT Nl Kp Va Vb O0 hdr hk hall h6
      have hdc := drop_cons hdr
      have hlt : Int32.ofNat k < Int32.ofNat cs.length := (on_lt (by omega) (by omega)).mpr hdc.1
      show Goes p e below _ T (mkF m 3 #[.val (.ref a), .val (.int (Int32.ofNat k)), .val (.ref b), .val (.int (Int32.ofNat k)), .val (.int (Int32.ofNat cs.length)), .val (.int (Int32.ofNat k)), s6] [])
      refine Goes.of (fun _ => XS.iload X.here hx rfl (hb hby d14_3) rfl) ?_
      show Goes p e below _ T (mkF m 5 #[.val (.ref a), .val (.int (Int32.ofNat k)), .val (.ref b), .val (.int (Int32.ofNat k)), .val (.int (Int32.ofNat cs.length)), .val (.int (Int32.ofNat k)), s6] [(.int (Int32.ofNat k))])
      refine Goes.of (fun _ => XS.iload X.here hx rfl (hb hby d14_5) rfl) ?_
      show Goes p e below _ T (mkF m 7 #[.val (.ref a), .val (.int (Int32.ofNat k)), .val (.ref b), .val (.int (Int32.ofNat k)), .val (.int (Int32.ofNat cs.length)), .val (.int (Int32.ofNat k)), s6] [(.int (Int32.ofNat cs.length)), (.int (Int32.ofNat k))])
      refine Goes.of (fun _ => XS.icmpNo X.here hx rfl (hb hby d14_7) rfl (tlt hlt).2.1) ?_
      show Goes p e below _ T (mkF m 10 #[.val (.ref a), .val (.int (Int32.ofNat k)), .val (.ref b), .val (.int (Int32.ofNat k)), .val (.int (Int32.ofNat cs.length)), .val (.int (Int32.ofNat k)), s6] [])
      refine Goes.of (fun _ => XS.aloadN X.here hx rfl (hb hby d14_10) rfl rfl) ?_
      show Goes p e below _ T (mkF m 11 #[.val (.ref a), .val (.int (Int32.ofNat k)), .val (.ref b), .val (.int (Int32.ofNat k)), .val (.int (Int32.ofNat cs.length)), .val (.int (Int32.ofNat k)), s6] [(.ref a)])
      refine Goes.of (fun _ => XS.iloadN X.here hx rfl (hb hby d14_11) rfl) ?_
      show Goes p e below _ T (mkF m 12 #[.val (.ref a), .val (.int (Int32.ofNat k)), .val (.ref b), .val (.int (Int32.ofNat k)), .val (.int (Int32.ofNat cs.length)), .val (.int (Int32.ofNat k)), s6] [(.int (Int32.ofNat k)), (.ref a)])
      refine goLdC (.int c') X hx hZ eT Va (on_nn (by omega)) hlt (get_map hdc.1 hdc.2.1 (by omega)) (g := (mkF m 12 #[.val (.ref a), .val (.int (Int32.ofNat k)), .val (.ref b), .val (.int (Int32.ofNat k)), .val (.int (Int32.ofNat cs.length)), .val (.int (Int32.ofNat k)), s6] [(.int (Int32.ofNat k)), (.ref a)])) rfl rfl (hb hby d14_12) ?_
      show Goes p e below _ T (mkF m 13 #[.val (.ref a), .val (.int (Int32.ofNat k)), .val (.ref b), .val (.int (Int32.ofNat k)), .val (.int (Int32.ofNat cs.length)), .val (.int (Int32.ofNat k)), s6] [(.int c')])
      refine Goes.of (fun _ => XS.istore X.here hx rfl (hb hby d14_13) rfl (l' := #[.val (.ref a), .val (.int (Int32.ofNat k)), .val (.ref b), .val (.int (Int32.ofNat k)), .val (.int (Int32.ofNat cs.length)), .val (.int (Int32.ofNat k)), .val (.int c')]) (st6 h6)) ?_
      show Goes p e below _ T (mkF m 15 #[.val (.ref a), .val (.int (Int32.ofNat k)), .val (.ref b), .val (.int (Int32.ofNat k)), .val (.int (Int32.ofNat cs.length)), .val (.int (Int32.ofNat k)), .val (.int c')] [])
      refine Goes.of (fun _ => XS.iload X.here hx rfl (hb hby d14_15) rfl) ?_
      show Goes p e below _ T (mkF m 17 #[.val (.ref a), .val (.int (Int32.ofNat k)), .val (.ref b), .val (.int (Int32.ofNat k)), .val (.int (Int32.ofNat cs.length)), .val (.int (Int32.ofNat k)), .val (.int c')] [(.int c')])
      refine Goes.of (fun _ => XS.sipush X.here hx rfl (hb hby d14_17)) ?_
      show Goes p e below _ T (mkF m 20 #[.val (.ref a), .val (.int (Int32.ofNat k)), .val (.ref b), .val (.int (Int32.ofNat k)), .val (.int (Int32.ofNat cs.length)), .val (.int (Int32.ofNat k)), .val (.int c')] [(.int 255), (.int c')])
      by_cases hpc20 : (255 : Int32) < c'
      · refine Goes.of (fun _ => XS.icmpNo X.here hx rfl (hb hby d14_20) rfl (tlt hpc20).2.2.2) ?_
        show Goes p e below _ T (mkF m 23 #[.val (.ref a), .val (.int (Int32.ofNat k)), .val (.ref b), .val (.int (Int32.ofNat k)), .val (.int (Int32.ofNat cs.length)), .val (.int (Int32.ofNat k)), .val (.int c')] [])
        refine Goes.of (fun _ => XS.iload X.here hx rfl (hb hby d14_23) rfl) ?_
        show Goes p e below _ T (mkF m 25 #[.val (.ref a), .val (.int (Int32.ofNat k)), .val (.ref b), .val (.int (Int32.ofNat k)), .val (.int (Int32.ofNat cs.length)), .val (.int (Int32.ofNat k)), .val (.int c')] [(.int (Int32.ofNat k))])
        exact retInt X hx hret hlk (hb hby d14_25) eT (by decide) (by decide) ⟨k, rfl, Nl, Kp, Vb, hall, Or.inr ⟨hdc.1, by rw [hdc.2.1]; exact hpc20⟩⟩
      · refine Goes.of (fun _ => XS.icmpYes X.here hx rfl (pc0 := 20) (pc' := 26) rfl (hb hby d14_20) rfl (flt hpc20).2.2.2 (by decide) (by decide)) ?_
        show Goes p e below _ T (mkF m 26 #[.val (.ref a), .val (.int (Int32.ofNat k)), .val (.ref b), .val (.int (Int32.ofNat k)), .val (.int (Int32.ofNat cs.length)), .val (.int (Int32.ofNat k)), .val (.int c')] [])
        refine Goes.of (fun _ => XS.aloadN X.here hx rfl (hb hby d14_26) rfl rfl) ?_
        show Goes p e below _ T (mkF m 27 #[.val (.ref a), .val (.int (Int32.ofNat k)), .val (.ref b), .val (.int (Int32.ofNat k)), .val (.int (Int32.ofNat cs.length)), .val (.int (Int32.ofNat k)), .val (.int c')] [(.ref b)])
        refine Goes.of (fun _ => XS.iloadN X.here hx rfl (hb hby d14_27) rfl) ?_
        show Goes p e below _ T (mkF m 28 #[.val (.ref a), .val (.int (Int32.ofNat k)), .val (.ref b), .val (.int (Int32.ofNat k)), .val (.int (Int32.ofNat cs.length)), .val (.int (Int32.ofNat k)), .val (.int c')] [(.int (Int32.ofNat k)), (.ref b)])
        refine Goes.of (fun _ => XS.iload X.here hx rfl (hb hby d14_28) rfl) ?_
        show Goes p e below _ T (mkF m 30 #[.val (.ref a), .val (.int (Int32.ofNat k)), .val (.ref b), .val (.int (Int32.ofNat k)), .val (.int (Int32.ofNat cs.length)), .val (.int (Int32.ofNat k)), .val (.int c')] [(.int c'), (.int (Int32.ofNat k)), (.ref b)])
        refine Goes.of (fun _ => XS.i2b X.here hx rfl (hb hby d14_30) rfl) ?_
        show Goes p e below _ T (mkF m 31 #[.val (.ref a), .val (.int (Int32.ofNat k)), .val (.ref b), .val (.int (Int32.ofNat k)), .val (.int (Int32.ofNat cs.length)), .val (.int (Int32.ofNat k)), .val (.int c')] [(.int (c'.toInt8.toInt32)), (.int (Int32.ofNat k)), (.ref b)])
        refine goStB k X hx hZ eT Vb (on_nn (by omega)) hlt (on_back (by omega)) (by rw [bl_len hk]; exact hdc.1) (g := (mkF m 31 #[.val (.ref a), .val (.int (Int32.ofNat k)), .val (.ref b), .val (.int (Int32.ofNat k)), .val (.int (Int32.ofNat cs.length)), .val (.int (Int32.ofNat k)), .val (.int c')] [(.int (c'.toInt8.toInt32)), (.int (Int32.ofNat k)), (.ref b)])) rfl rfl (hb hby d14_31) ?_
        intro T2 h2 X2 eT2 W2 Vb
        have N2 := Fr.snoc X2 Nl g_b
        have Va := Va.other W2 hab
        have Kp := Kp.wr W2 (Or.inl (List.mem_of_getElem? (i := 0) rfl))
        have O0 := O0.wr W2 g_b
        show Goes p e below _ T2 (mkF m 32 #[.val (.ref a), .val (.int (Int32.ofNat k)), .val (.ref b), .val (.int (Int32.ofNat k)), .val (.int (Int32.ofNat cs.length)), .val (.int (Int32.ofNat k)), .val (.int c')] [])
        refine Goes.of (fun _ => XS.iinc X2.here hx rfl (hb hby d14_32) rfl (l' := #[.val (.ref a), .val (.int ((Int32.ofNat k) + (1 : Int32))), .val (.ref b), .val (.int (Int32.ofNat k)), .val (.int (Int32.ofNat cs.length)), .val (.int (Int32.ofNat k)), .val (.int c')]) rfl) ?_
        show Goes p e below _ T2 (mkF m 35 #[.val (.ref a), .val (.int ((Int32.ofNat k) + (1 : Int32))), .val (.ref b), .val (.int (Int32.ofNat k)), .val (.int (Int32.ofNat cs.length)), .val (.int (Int32.ofNat k)), .val (.int c')] [])
        refine Goes.of (fun _ => XS.iinc X2.here hx rfl (hb hby d14_35) rfl (l' := #[.val (.ref a), .val (.int ((Int32.ofNat k) + (1 : Int32))), .val (.ref b), .val (.int ((Int32.ofNat k) + (1 : Int32))), .val (.int (Int32.ofNat cs.length)), .val (.int (Int32.ofNat k)), .val (.int c')]) rfl) ?_
        show Goes p e below _ T2 (mkF m 38 #[.val (.ref a), .val (.int ((Int32.ofNat k) + (1 : Int32))), .val (.ref b), .val (.int ((Int32.ofNat k) + (1 : Int32))), .val (.int (Int32.ofNat cs.length)), .val (.int (Int32.ofNat k)), .val (.int c')] [])
        refine Goes.of (fun _ => XS.iinc X2.here hx rfl (hb hby d14_38) rfl (l' := #[.val (.ref a), .val (.int ((Int32.ofNat k) + (1 : Int32))), .val (.ref b), .val (.int ((Int32.ofNat k) + (1 : Int32))), .val (.int (Int32.ofNat cs.length)), .val (.int ((Int32.ofNat k) + (1 : Int32))), .val (.int c')]) rfl) ?_
        show Goes p e below _ T2 (mkF m 41 #[.val (.ref a), .val (.int ((Int32.ofNat k) + (1 : Int32))), .val (.ref b), .val (.int ((Int32.ofNat k) + (1 : Int32))), .val (.int (Int32.ofNat cs.length)), .val (.int ((Int32.ofNat k) + (1 : Int32))), .val (.int c')] [])
        refine Goes.of (fun _ => XS.goto X2.here hx rfl (pc0 := 41) (pc' := 3) rfl (hb hby d14_41) (by decide) (by decide)) ?_
        show Goes p e below _ T2 (mkF m 3 #[.val (.ref a), .val (.int ((Int32.ofNat k) + (1 : Int32))), .val (.ref b), .val (.int ((Int32.ofNat k) + (1 : Int32))), .val (.int (Int32.ofNat cs.length)), .val (.int ((Int32.ofNat k) + (1 : Int32))), .val (.int c')] [])
        rw [on_inc]
        exact ih (k + 1) _ _ _ _ X2 eT2 N2 Kp Va (by rw [← bl_set hdc.1 hdc.2.1]; exact Vb) O0 hdc.2.2 hdc.1 (fun c hc => by rw [List.take_add_one, List.getElem?_eq_getElem hdc.1] at hc; simp only [Option.toList, List.mem_append, List.mem_singleton] at hc; rcases hc with hc | rfl; (· exact hall c hc); (· have e := hdc.2.1; rw [List.getD_eq_getElem?_getD, List.getElem?_eq_getElem hdc.1] at e; rw [show cs[k]'hdc.1 = c' from e]; exact hpc20)) (One.val rfl)
  refine Goes.cast (ef_14 m a (0 : Int32) b (0 : Int32) (Int32.ofNat cs.length)) ?_
  show Goes p e below _ T (mkF m 0 #[.val (.ref a), .val (.int 0), .val (.ref b), .val (.int 0), .val (.int (Int32.ofNat cs.length)), .unset, .unset] [])
  refine Goes.of (fun _ => XS.iconst X.here hx rfl (hb hby d14_0)) ?_
  show Goes p e below _ T (mkF m 1 #[.val (.ref a), .val (.int 0), .val (.ref b), .val (.int 0), .val (.int (Int32.ofNat cs.length)), .unset, .unset] [(.int 0)])
  refine Goes.of (fun _ => XS.istore X.here hx rfl (hb hby d14_1) rfl (l' := #[.val (.ref a), .val (.int 0), .val (.ref b), .val (.int 0), .val (.int (Int32.ofNat cs.length)), .val (.int 0), .unset]) rfl) ?_
  show Goes p e below _ T (mkF m 3 #[.val (.ref a), .val (.int 0), .val (.ref b), .val (.int 0), .val (.int (Int32.ofNat cs.length)), .val (.int 0), .unset] [])
  exact loop cs 0 _ _ _ _ X eT0 N0 Kp Va (by rw [bl_zero]; exact Vb) O0 rfl (Nat.zero_le _) (fun _ q => nomatch q) One.u
set_option maxRecDepth 65536 in
set_option maxHeartbeats 40000000 in
theorem rm_nbl (l : Launch) (Z : State) (a0 : Array Value) (hw : ∀ d ∈ tables_1, d.before a0 Z = true) (N : Nat) (h0 : Heap) (n0 : Nat) (O0 : Old Z n0 h0) (hN : N ≤ 16384) :
    Rm l (⟨"java/lang/StringUTF16", "newBytesLength", "(I)I"⟩ : MethodName) jdk_52_method_3_code 1 (some .int) ({ frames := 0, cells := 0, slots := 0, locals := 0 } : Room) [] Z #[(.int (Int32.ofNat N))] h0 (fun v h L => v = some (.int (Int32.ofNat (2 * N))) ∧ Fr n0 L ∧ h = h0) := by
  refine Rm.of (plainFor_of_name pn_java_lang_StringUTF16) ?_
  intro p e s m below meth cod T X hx hZ hby hml hown hnm hret hlk eT0
  have hown : s.vm.findClass "java/lang/StringUTF16" = some m.cls := hown
  have hnm : meth.name = "newBytesLength" := hnm
  have N0 := Fr.nil n0
  refine Goes.cast (ef_17 m (Int32.ofNat N)) ?_
  show Goes p e below _ T (mkF m 0 #[.val (.int (Int32.ofNat N))] [])
  refine Goes.of (fun _ => XS.iloadN X.here hx rfl (hb hby d17_0) rfl) ?_
  show Goes p e below _ T (mkF m 1 #[.val (.int (Int32.ofNat N))] [(.int (Int32.ofNat N))])
  refine Goes.of (fun _ => XS.ifYes X.here hx rfl (pc0 := 1) (pc' := 12) rfl (hb hby d17_1) rfl ((if0 _ _).trans (flt (on_nn (by omega))).2.1) (by decide) (by decide)) ?_
  show Goes p e below _ T (mkF m 12 #[.val (.int (Int32.ofNat N))] [])
  refine Goes.of (fun _ => XS.iloadN X.here hx rfl (hb hby d17_12) rfl) ?_
  show Goes p e below _ T (mkF m 13 #[.val (.int (Int32.ofNat N))] [(.int (Int32.ofNat N))])
  refine Goes.of (fun _ => X.ldcInt hx hown (mvT hZ (hw _ (List.mem_of_getElem? (i := 79) rfl))) (g := (mkF m 13 #[.val (.int (Int32.ofNat N))] [(.int (Int32.ofNat N))])) rfl (hb hby d17_13) _) ?_
  show Goes p e below _ T (mkF m 15 #[.val (.int (Int32.ofNat N))] [(.int 1073741823), (.int (Int32.ofNat N))])
  refine Goes.of (fun _ => XS.icmpYes X.here hx rfl (pc0 := 15) (pc' := 55) rfl (hb hby d17_15) rfl (tlt (on_big (by omega))).1 (by decide) (by decide)) ?_
  show Goes p e below _ T (mkF m 55 #[.val (.int (Int32.ofNat N))] [])
  refine Goes.of (fun _ => XS.iloadN X.here hx rfl (hb hby d17_55) rfl) ?_
  show Goes p e below _ T (mkF m 56 #[.val (.int (Int32.ofNat N))] [(.int (Int32.ofNat N))])
  refine Goes.of (fun _ => XS.iconst X.here hx rfl (hb hby d17_56)) ?_
  show Goes p e below _ T (mkF m 57 #[.val (.int (Int32.ofNat N))] [(.int 1), (.int (Int32.ofNat N))])
  refine Goes.of (fun _ => XS.ishl X.here hx rfl (hb hby d17_57) rfl) ?_
  show Goes p e below _ T (mkF m 58 #[.val (.int (Int32.ofNat N))] [(.int ((Int32.ofNat N) <<< ((1 : Int32) &&& 31)))])
  exact retInt X hx hret hlk (hb hby d17_58) eT0 (by decide) (by decide) ⟨by rw [on_shl (by omega)], N0, rfl⟩
set_option maxRecDepth 65536 in
set_option maxHeartbeats 40000000 in
theorem rm_nbf (l : Launch) (Z : State) (a0 : Array Value) (hw : ∀ d ∈ tables_1, d.before a0 Z = true) (N : Nat) (h0 : Heap) (n0 : Nat) (O0 : Old Z n0 h0) (hN : N ≤ 16384) :
    Rm l (⟨"java/lang/StringUTF16", "newBytesFor", "(I)[B"⟩ : MethodName) jdk_52_method_2_code 1 (some (.array .byte)) ({ frames := 1, cells := 1, slots := 32768, locals := 12 } : Room) [] Z #[(.int (Int32.ofNat N))] h0 (fun v h L => ∃ (b : Addr) (kb : ClassId), v = some (.ref b) ∧ Fr n0 L ∧ Keep h0 h [] ∧ n0 ≤ b ∧ h0.size ≤ b ∧ Arv Z h b kb .byte (Int32.ofNat (2 * N)) (List.replicate (2 * N) (.int 0)) (.int 0)) := by
  refine Rm.of (plainFor_of_name pn_java_lang_StringUTF16) ?_
  intro p e s m below meth cod T X hx hZ hby hml hown hnm hret hlk eT0
  have hown : s.vm.findClass "java/lang/StringUTF16" = some m.cls := hown
  have hnm : meth.name = "newBytesFor" := hnm
  have N0 := Fr.nil n0
  have Kp := Keep.refl h0 []
  refine Goes.cast (ef_16 m (Int32.ofNat N)) ?_
  show Goes p e below _ T (mkF m 0 #[.val (.int (Int32.ofNat N))] [])
  refine Goes.of (fun _ => XS.iloadN X.here hx rfl (hb hby d16_0) rfl) ?_
  show Goes p e below _ T (mkF m 1 #[.val (.int (Int32.ofNat N))] [(.int (Int32.ofNat N))])
  refine goStatic 0 X hx hZ hown (hw _ (List.mem_of_getElem? (i := 76) rfl)) (hw _ (List.mem_of_getElem? (i := 77) rfl)) (hw _ (List.mem_of_getElem? (i := 65) rfl)) (hw _ (List.mem_of_getElem? (i := 78) rfl)) (by decide) (rm_nbl l Z a0 hw N h0 n0 O0 hN) eT0 (g := (mkF m 1 #[.val (.int (Int32.ofNat N))] [(.int (Int32.ofNat N))])) rfl (by rw [hml]; rfl) [(.int (Int32.ofNat N))] [] (lenOf pd__I_I rfl) rfl rfl (by show 2 * 0 + _ ≤ _; exact Nat.le_of_eq rfl) (hb hby d16_1) (by decide) (by decide) (by decide) (by decide) ?_
  intro v1 T1 L1 X1 q1
  obtain ⟨rfl, Nq1, eT1⟩ := q1
  have N1 := Fr.app N0 Nq1
  show Goes p e below _ T1 (mkF m 4 #[.val (.int (Int32.ofNat N))] [(.int (Int32.ofNat (2 * N)))])
  refine goNewP 32768 X1 hx hZ (hw _ (List.mem_of_getElem? (i := 28) rfl)) eT1 (g := (mkF m 4 #[.val (.int (Int32.ofNat N))] [(.int (Int32.ofNat (2 * N)))])) rfl (hb hby d16_4) rfl (on_nn (by omega)) (by rw [on_back (by omega)]; omega) (by decide) (by decide) (by decide) (ad := "[B") (by first | rfl | decide) ?_
  intro T2 h2 b2 kA2 X2 eT2 E2 hb2 V2 A2
  have g_b2 : n0 ≤ b2 := Nat.le_trans (oldLe O0) hb2
  have sz_b2 : h0.size ≤ b2 := Nat.le_trans Kp.1 hb2
  have Kp := Kp.ext E2
  have O0 := O0.ext E2
  show Goes p e below _ T2 (mkF m 6 #[.val (.int (Int32.ofNat N))] [(.ref b2)])
  exact retRef X2 hx hret hlk rfl rfl (hb hby d16_6) eT2 (by decide) (by decide) ⟨b2, _, rfl, N1, Kp, g_b2, sz_b2, arv_rep (ty := .byte) (d := .int 0) V2⟩
set_option maxRecDepth 65536 in
set_option maxHeartbeats 40000000 in
theorem rm_put (l : Launch) (Z : State) (a0 : Array Value) (hw : ∀ d ∈ tables_1, d.before a0 Z = true) (b : Addr) (kb : ClassId) (vs : List Value) (M i : Nat) (c : Int32) (h0 : Heap) (n0 : Nat) (O0 : Old Z n0 h0) (Sa : Sta Z Z.heap "java/lang/StringUTF16" "$assertionsDisabled" "Z" (.int 1)) (Sh : Sta Z Z.heap "java/lang/StringUTF16" "HI_BYTE_SHIFT" "I" (.int 0)) (Sl : Sta Z Z.heap "java/lang/StringUTF16" "LO_BYTE_SHIFT" "I" (.int 8)) (g_b : n0 ≤ b) (hl : vs.length = M) (hM : M ≤ 32768) (hi : 2 * i + 1 < M) (Vb : Arv Z h0 b kb .byte (Int32.ofNat M) vs (.int 0)) :
    Rm l (⟨"java/lang/StringUTF16", "putChar", "([BII)V"⟩ : MethodName) jdk_52_method_4_code 3 none ({ frames := 0, cells := 0, slots := 0, locals := 0 } : Room) [] Z #[(.ref b), (.int (Int32.ofNat i)), (.int c)] h0 (fun v h L => v = none ∧ Fr n0 L ∧ Keep h0 h [b] ∧ Arv Z h b kb .byte (Int32.ofNat M) ((vs.set (2 * i) (hbv c)).set (2 * i + 1) (lbv c)) (.int 0)) := by
  refine Rm.of (plainFor_of_name pn_java_lang_StringUTF16) ?_
  intro p e s m below meth cod T X hx hZ hby hml hown hnm hret hlk eT0
  have hown : s.vm.findClass "java/lang/StringUTF16" = some m.cls := hown
  have hnm : meth.name = "putChar" := hnm
  have N0 := Fr.nil n0
  have Kp := Keep.refl h0 [b]
  refine Goes.cast (ef_18 m b (Int32.ofNat i) c) ?_
  show Goes p e below _ T (mkF m 0 #[.val (.ref b), .val (.int (Int32.ofNat i)), .val (.int c)] [])
  refine goGetS X hx hZ hown (host := "") (Or.inl (hw _ (List.mem_of_getElem? (i := 83) rfl))) Via.refl eT0 (Sa.ext O0.2) (g := (mkF m 0 #[.val (.ref b), .val (.int (Int32.ofNat i)), .val (.int c)] [])) rfl (hb hby d18_0) ?_
  intro T1 X1 eT1
  show Goes p e below _ T1 (mkF m 3 #[.val (.ref b), .val (.int (Int32.ofNat i)), .val (.int c)] [(.int 1)])
  refine Goes.of (fun _ => XS.ifYes X1.here hx rfl (pc0 := 3) (pc' := 28) rfl (hb hby d18_3) rfl ((if0 _ _).trans (feq (by decide)).2) (by decide) (by decide)) ?_
  show Goes p e below _ T1 (mkF m 28 #[.val (.ref b), .val (.int (Int32.ofNat i)), .val (.int c)] [])
  refine Goes.of (fun _ => XS.iloadN X1.here hx rfl (hb hby d18_28) rfl) ?_
  show Goes p e below _ T1 (mkF m 29 #[.val (.ref b), .val (.int (Int32.ofNat i)), .val (.int c)] [(.int (Int32.ofNat i))])
  refine Goes.of (fun _ => XS.iconst X1.here hx rfl (hb hby d18_29)) ?_
  show Goes p e below _ T1 (mkF m 30 #[.val (.ref b), .val (.int (Int32.ofNat i)), .val (.int c)] [(.int 1), (.int (Int32.ofNat i))])
  refine Goes.of (fun _ => XS.ishl X1.here hx rfl (hb hby d18_30) rfl) ?_
  show Goes p e below _ T1 (mkF m 31 #[.val (.ref b), .val (.int (Int32.ofNat i)), .val (.int c)] [(.int ((Int32.ofNat i) <<< ((1 : Int32) &&& 31)))])
  refine Goes.of (fun _ => XS.istoreN X1.here hx rfl (hb hby d18_31) rfl (l' := #[.val (.ref b), .val (.int ((Int32.ofNat i) <<< ((1 : Int32) &&& 31))), .val (.int c)]) rfl) ?_
  show Goes p e below _ T1 (mkF m 32 #[.val (.ref b), .val (.int ((Int32.ofNat i) <<< ((1 : Int32) &&& 31))), .val (.int c)] [])
  rw [on_shl (by omega)]
  show Goes p e below _ T1 (mkF m 32 #[.val (.ref b), .val (.int (Int32.ofNat (2 * i))), .val (.int c)] [])
  refine Goes.of (fun _ => XS.aloadN X1.here hx rfl (hb hby d18_32) rfl rfl) ?_
  show Goes p e below _ T1 (mkF m 33 #[.val (.ref b), .val (.int (Int32.ofNat (2 * i))), .val (.int c)] [(.ref b)])
  refine Goes.of (fun _ => XS.iloadN X1.here hx rfl (hb hby d18_33) rfl) ?_
  show Goes p e below _ T1 (mkF m 34 #[.val (.ref b), .val (.int (Int32.ofNat (2 * i))), .val (.int c)] [(.int (Int32.ofNat (2 * i))), (.ref b)])
  refine Goes.of (fun _ => XS.iinc X1.here hx rfl (hb hby d18_34) rfl (l' := #[.val (.ref b), .val (.int ((Int32.ofNat (2 * i)) + (1 : Int32))), .val (.int c)]) rfl) ?_
  show Goes p e below _ T1 (mkF m 37 #[.val (.ref b), .val (.int ((Int32.ofNat (2 * i)) + (1 : Int32))), .val (.int c)] [(.int (Int32.ofNat (2 * i))), (.ref b)])
  rw [on_inc]
  show Goes p e below _ T1 (mkF m 37 #[.val (.ref b), .val (.int (Int32.ofNat (2 * i + 1))), .val (.int c)] [(.int (Int32.ofNat (2 * i))), (.ref b)])
  refine Goes.of (fun _ => XS.iloadN X1.here hx rfl (hb hby d18_37) rfl) ?_
  show Goes p e below _ T1 (mkF m 38 #[.val (.ref b), .val (.int (Int32.ofNat (2 * i + 1))), .val (.int c)] [(.int c), (.int (Int32.ofNat (2 * i))), (.ref b)])
  refine goGetS X1 hx hZ hown (host := "") (Or.inl (hw _ (List.mem_of_getElem? (i := 84) rfl))) Via.refl eT1 (Sh.ext O0.2) (g := (mkF m 38 #[.val (.ref b), .val (.int (Int32.ofNat (2 * i + 1))), .val (.int c)] [(.int c), (.int (Int32.ofNat (2 * i))), (.ref b)])) rfl (hb hby d18_38) ?_
  intro T2 X2 eT2
  show Goes p e below _ T2 (mkF m 41 #[.val (.ref b), .val (.int (Int32.ofNat (2 * i + 1))), .val (.int c)] [(.int 0), (.int c), (.int (Int32.ofNat (2 * i))), (.ref b)])
  refine Goes.of (fun _ => XS.ishr X2.here hx rfl (hb hby d18_41) rfl) ?_
  show Goes p e below _ T2 (mkF m 42 #[.val (.ref b), .val (.int (Int32.ofNat (2 * i + 1))), .val (.int c)] [(.int (c >>> ((0 : Int32) &&& 31))), (.int (Int32.ofNat (2 * i))), (.ref b)])
  refine Goes.of (fun _ => XS.i2b X2.here hx rfl (hb hby d18_42) rfl) ?_
  show Goes p e below _ T2 (mkF m 43 #[.val (.ref b), .val (.int (Int32.ofNat (2 * i + 1))), .val (.int c)] [(.int ((c >>> ((0 : Int32) &&& 31)).toInt8.toInt32)), (.int (Int32.ofNat (2 * i))), (.ref b)])
  refine goStB (2 * i) X2 hx hZ eT2 Vb (on_nn (by omega)) ((on_lt (by omega) (by omega)).mpr (by omega)) (on_back (by omega)) (by rw [hl]; omega) (g := (mkF m 43 #[.val (.ref b), .val (.int (Int32.ofNat (2 * i + 1))), .val (.int c)] [(.int ((c >>> ((0 : Int32) &&& 31)).toInt8.toInt32)), (.int (Int32.ofNat (2 * i))), (.ref b)])) rfl rfl (hb hby d18_43) ?_
  intro T3 h3 X3 eT3 W3 Vb
  have N3 := Fr.snoc X3 N0 g_b
  have Kp := Kp.wr W3 (Or.inl (List.mem_of_getElem? (i := 0) rfl))
  have O0 := O0.wr W3 g_b
  show Goes p e below _ T3 (mkF m 44 #[.val (.ref b), .val (.int (Int32.ofNat (2 * i + 1))), .val (.int c)] [])
  refine Goes.of (fun _ => XS.aloadN X3.here hx rfl (hb hby d18_44) rfl rfl) ?_
  show Goes p e below _ T3 (mkF m 45 #[.val (.ref b), .val (.int (Int32.ofNat (2 * i + 1))), .val (.int c)] [(.ref b)])
  refine Goes.of (fun _ => XS.iloadN X3.here hx rfl (hb hby d18_45) rfl) ?_
  show Goes p e below _ T3 (mkF m 46 #[.val (.ref b), .val (.int (Int32.ofNat (2 * i + 1))), .val (.int c)] [(.int (Int32.ofNat (2 * i + 1))), (.ref b)])
  refine Goes.of (fun _ => XS.iloadN X3.here hx rfl (hb hby d18_46) rfl) ?_
  show Goes p e below _ T3 (mkF m 47 #[.val (.ref b), .val (.int (Int32.ofNat (2 * i + 1))), .val (.int c)] [(.int c), (.int (Int32.ofNat (2 * i + 1))), (.ref b)])
  refine goGetS X3 hx hZ hown (host := "") (Or.inl (hw _ (List.mem_of_getElem? (i := 85) rfl))) Via.refl eT3 (Sl.ext O0.2) (g := (mkF m 47 #[.val (.ref b), .val (.int (Int32.ofNat (2 * i + 1))), .val (.int c)] [(.int c), (.int (Int32.ofNat (2 * i + 1))), (.ref b)])) rfl (hb hby d18_47) ?_
  intro T4 X4 eT4
  show Goes p e below _ T4 (mkF m 50 #[.val (.ref b), .val (.int (Int32.ofNat (2 * i + 1))), .val (.int c)] [(.int 8), (.int c), (.int (Int32.ofNat (2 * i + 1))), (.ref b)])
  refine Goes.of (fun _ => XS.ishr X4.here hx rfl (hb hby d18_50) rfl) ?_
  show Goes p e below _ T4 (mkF m 51 #[.val (.ref b), .val (.int (Int32.ofNat (2 * i + 1))), .val (.int c)] [(.int (c >>> ((8 : Int32) &&& 31))), (.int (Int32.ofNat (2 * i + 1))), (.ref b)])
  refine Goes.of (fun _ => XS.i2b X4.here hx rfl (hb hby d18_51) rfl) ?_
  show Goes p e below _ T4 (mkF m 52 #[.val (.ref b), .val (.int (Int32.ofNat (2 * i + 1))), .val (.int c)] [(.int ((c >>> ((8 : Int32) &&& 31)).toInt8.toInt32)), (.int (Int32.ofNat (2 * i + 1))), (.ref b)])
  refine goStB (2 * i + 1) X4 hx hZ eT4 Vb (on_nn (by omega)) ((on_lt (by omega) (by omega)).mpr (by omega)) (on_back (by omega)) (by rw [List.length_set, hl]; omega) (g := (mkF m 52 #[.val (.ref b), .val (.int (Int32.ofNat (2 * i + 1))), .val (.int c)] [(.int ((c >>> ((8 : Int32) &&& 31)).toInt8.toInt32)), (.int (Int32.ofNat (2 * i + 1))), (.ref b)])) rfl rfl (hb hby d18_52) ?_
  intro T5 h5 X5 eT5 W5 Vb
  have N5 := Fr.snoc X5 N3 g_b
  have Kp := Kp.wr W5 (Or.inl (List.mem_of_getElem? (i := 0) rfl))
  have O0 := O0.wr W5 g_b
  show Goes p e below _ T5 (mkF m 53 #[.val (.ref b), .val (.int (Int32.ofNat (2 * i + 1))), .val (.int c)] [])
  exact retVoid X5 hx hret hlk (hb hby d18_53) eT5 (by decide) (by decide) ⟨rfl, N5, Kp, Vb⟩
set_option maxRecDepth 65536 in
set_option maxHeartbeats 40000000 in
theorem rm_get (l : Launch) (Z : State) (a0 : Array Value) (hw : ∀ d ∈ tables_1, d.before a0 Z = true) (b : Addr) (kb : ClassId) (vs : List Value) (M i : Nat) (x y : Int32) (h0 : Heap) (n0 : Nat) (O0 : Old Z n0 h0) (Sa : Sta Z Z.heap "java/lang/StringUTF16" "$assertionsDisabled" "Z" (.int 1)) (Sh : Sta Z Z.heap "java/lang/StringUTF16" "HI_BYTE_SHIFT" "I" (.int 0)) (Sl : Sta Z Z.heap "java/lang/StringUTF16" "LO_BYTE_SHIFT" "I" (.int 8)) (hM : M ≤ 32768) (hi : 2 * i + 1 < M) (Vb : Arv Z h0 b kb .byte (Int32.ofNat M) vs (.int 0)) (hx0 : vs.getD (2 * i) (.int 0) = .int x) (hy0 : vs.getD (2 * i + 1) (.int 0) = .int y) :
    Rm l (⟨"java/lang/StringUTF16", "getChar", "([BI)C"⟩ : MethodName) jdk_52_method_5_code 2 (some .char) ({ frames := 0, cells := 0, slots := 0, locals := 0 } : Room) [] Z #[(.ref b), (.int (Int32.ofNat i))] h0 (fun v h L => v = some (.int (nar .char ((((x &&& (255 : Int32)) <<< ((0 : Int32) &&& 31)) ||| ((y &&& (255 : Int32)) <<< ((8 : Int32) &&& 31))).toUInt32.toUInt16.toUInt32.toInt32))) ∧ Fr n0 L ∧ h = h0) := by
  refine Rm.of (plainFor_of_name pn_java_lang_StringUTF16) ?_
  intro p e s m below meth cod T X hx hZ hby hml hown hnm hret hlk eT0
  have hown : s.vm.findClass "java/lang/StringUTF16" = some m.cls := hown
  have hnm : meth.name = "getChar" := hnm
  have N0 := Fr.nil n0
  refine Goes.cast (ef_19 m b (Int32.ofNat i)) ?_
  show Goes p e below _ T (mkF m 0 #[.val (.ref b), .val (.int (Int32.ofNat i))] [])
  refine goGetS X hx hZ hown (host := "") (Or.inl (hw _ (List.mem_of_getElem? (i := 83) rfl))) Via.refl eT0 (Sa.ext O0.2) (g := (mkF m 0 #[.val (.ref b), .val (.int (Int32.ofNat i))] [])) rfl (hb hby d19_0) ?_
  intro T1 X1 eT1
  show Goes p e below _ T1 (mkF m 3 #[.val (.ref b), .val (.int (Int32.ofNat i))] [(.int 1)])
  refine Goes.of (fun _ => XS.ifYes X1.here hx rfl (pc0 := 3) (pc' := 28) rfl (hb hby d19_3) rfl ((if0 _ _).trans (feq (by decide)).2) (by decide) (by decide)) ?_
  show Goes p e below _ T1 (mkF m 28 #[.val (.ref b), .val (.int (Int32.ofNat i))] [])
  refine Goes.of (fun _ => XS.iloadN X1.here hx rfl (hb hby d19_28) rfl) ?_
  show Goes p e below _ T1 (mkF m 29 #[.val (.ref b), .val (.int (Int32.ofNat i))] [(.int (Int32.ofNat i))])
  refine Goes.of (fun _ => XS.iconst X1.here hx rfl (hb hby d19_29)) ?_
  show Goes p e below _ T1 (mkF m 30 #[.val (.ref b), .val (.int (Int32.ofNat i))] [(.int 1), (.int (Int32.ofNat i))])
  refine Goes.of (fun _ => XS.ishl X1.here hx rfl (hb hby d19_30) rfl) ?_
  show Goes p e below _ T1 (mkF m 31 #[.val (.ref b), .val (.int (Int32.ofNat i))] [(.int ((Int32.ofNat i) <<< ((1 : Int32) &&& 31)))])
  refine Goes.of (fun _ => XS.istoreN X1.here hx rfl (hb hby d19_31) rfl (l' := #[.val (.ref b), .val (.int ((Int32.ofNat i) <<< ((1 : Int32) &&& 31)))]) rfl) ?_
  show Goes p e below _ T1 (mkF m 32 #[.val (.ref b), .val (.int ((Int32.ofNat i) <<< ((1 : Int32) &&& 31)))] [])
  rw [on_shl (by omega)]
  show Goes p e below _ T1 (mkF m 32 #[.val (.ref b), .val (.int (Int32.ofNat (2 * i)))] [])
  refine Goes.of (fun _ => XS.aloadN X1.here hx rfl (hb hby d19_32) rfl rfl) ?_
  show Goes p e below _ T1 (mkF m 33 #[.val (.ref b), .val (.int (Int32.ofNat (2 * i)))] [(.ref b)])
  refine Goes.of (fun _ => XS.iloadN X1.here hx rfl (hb hby d19_33) rfl) ?_
  show Goes p e below _ T1 (mkF m 34 #[.val (.ref b), .val (.int (Int32.ofNat (2 * i)))] [(.int (Int32.ofNat (2 * i))), (.ref b)])
  refine Goes.of (fun _ => XS.iinc X1.here hx rfl (hb hby d19_34) rfl (l' := #[.val (.ref b), .val (.int ((Int32.ofNat (2 * i)) + (1 : Int32)))]) rfl) ?_
  show Goes p e below _ T1 (mkF m 37 #[.val (.ref b), .val (.int ((Int32.ofNat (2 * i)) + (1 : Int32)))] [(.int (Int32.ofNat (2 * i))), (.ref b)])
  rw [on_inc]
  show Goes p e below _ T1 (mkF m 37 #[.val (.ref b), .val (.int (Int32.ofNat (2 * i + 1)))] [(.int (Int32.ofNat (2 * i))), (.ref b)])
  refine goLdB (.int x) X1 hx hZ eT1 Vb (on_nn (by omega)) ((on_lt (by omega) (by omega)).mpr (by omega)) (by rw [on_back (by omega)]; exact hx0) (g := (mkF m 37 #[.val (.ref b), .val (.int (Int32.ofNat (2 * i + 1)))] [(.int (Int32.ofNat (2 * i))), (.ref b)])) rfl rfl (hb hby d19_37) ?_
  show Goes p e below _ T1 (mkF m 38 #[.val (.ref b), .val (.int (Int32.ofNat (2 * i + 1)))] [(.int x)])
  refine Goes.of (fun _ => XS.sipush X1.here hx rfl (hb hby d19_38)) ?_
  show Goes p e below _ T1 (mkF m 41 #[.val (.ref b), .val (.int (Int32.ofNat (2 * i + 1)))] [(.int 255), (.int x)])
  refine Goes.of (fun _ => XS.iand X1.here hx rfl (hb hby d19_41) rfl) ?_
  show Goes p e below _ T1 (mkF m 42 #[.val (.ref b), .val (.int (Int32.ofNat (2 * i + 1)))] [(.int (x &&& (255 : Int32)))])
  refine goGetS X1 hx hZ hown (host := "") (Or.inl (hw _ (List.mem_of_getElem? (i := 84) rfl))) Via.refl eT1 (Sh.ext O0.2) (g := (mkF m 42 #[.val (.ref b), .val (.int (Int32.ofNat (2 * i + 1)))] [(.int (x &&& (255 : Int32)))])) rfl (hb hby d19_42) ?_
  intro T3 X3 eT3
  show Goes p e below _ T3 (mkF m 45 #[.val (.ref b), .val (.int (Int32.ofNat (2 * i + 1)))] [(.int 0), (.int (x &&& (255 : Int32)))])
  refine Goes.of (fun _ => XS.ishl X3.here hx rfl (hb hby d19_45) rfl) ?_
  show Goes p e below _ T3 (mkF m 46 #[.val (.ref b), .val (.int (Int32.ofNat (2 * i + 1)))] [(.int ((x &&& (255 : Int32)) <<< ((0 : Int32) &&& 31)))])
  refine Goes.of (fun _ => XS.aloadN X3.here hx rfl (hb hby d19_46) rfl rfl) ?_
  show Goes p e below _ T3 (mkF m 47 #[.val (.ref b), .val (.int (Int32.ofNat (2 * i + 1)))] [(.ref b), (.int ((x &&& (255 : Int32)) <<< ((0 : Int32) &&& 31)))])
  refine Goes.of (fun _ => XS.iloadN X3.here hx rfl (hb hby d19_47) rfl) ?_
  show Goes p e below _ T3 (mkF m 48 #[.val (.ref b), .val (.int (Int32.ofNat (2 * i + 1)))] [(.int (Int32.ofNat (2 * i + 1))), (.ref b), (.int ((x &&& (255 : Int32)) <<< ((0 : Int32) &&& 31)))])
  refine goLdB (.int y) X3 hx hZ eT3 Vb (on_nn (by omega)) ((on_lt (by omega) (by omega)).mpr (by omega)) (by rw [on_back (by omega)]; exact hy0) (g := (mkF m 48 #[.val (.ref b), .val (.int (Int32.ofNat (2 * i + 1)))] [(.int (Int32.ofNat (2 * i + 1))), (.ref b), (.int ((x &&& (255 : Int32)) <<< ((0 : Int32) &&& 31)))])) rfl rfl (hb hby d19_48) ?_
  show Goes p e below _ T3 (mkF m 49 #[.val (.ref b), .val (.int (Int32.ofNat (2 * i + 1)))] [(.int y), (.int ((x &&& (255 : Int32)) <<< ((0 : Int32) &&& 31)))])
  refine Goes.of (fun _ => XS.sipush X3.here hx rfl (hb hby d19_49)) ?_
  show Goes p e below _ T3 (mkF m 52 #[.val (.ref b), .val (.int (Int32.ofNat (2 * i + 1)))] [(.int 255), (.int y), (.int ((x &&& (255 : Int32)) <<< ((0 : Int32) &&& 31)))])
  refine Goes.of (fun _ => XS.iand X3.here hx rfl (hb hby d19_52) rfl) ?_
  show Goes p e below _ T3 (mkF m 53 #[.val (.ref b), .val (.int (Int32.ofNat (2 * i + 1)))] [(.int (y &&& (255 : Int32))), (.int ((x &&& (255 : Int32)) <<< ((0 : Int32) &&& 31)))])
  refine goGetS X3 hx hZ hown (host := "") (Or.inl (hw _ (List.mem_of_getElem? (i := 85) rfl))) Via.refl eT3 (Sl.ext O0.2) (g := (mkF m 53 #[.val (.ref b), .val (.int (Int32.ofNat (2 * i + 1)))] [(.int (y &&& (255 : Int32))), (.int ((x &&& (255 : Int32)) <<< ((0 : Int32) &&& 31)))])) rfl (hb hby d19_53) ?_
  intro T5 X5 eT5
  show Goes p e below _ T5 (mkF m 56 #[.val (.ref b), .val (.int (Int32.ofNat (2 * i + 1)))] [(.int 8), (.int (y &&& (255 : Int32))), (.int ((x &&& (255 : Int32)) <<< ((0 : Int32) &&& 31)))])
  refine Goes.of (fun _ => XS.ishl X5.here hx rfl (hb hby d19_56) rfl) ?_
  show Goes p e below _ T5 (mkF m 57 #[.val (.ref b), .val (.int (Int32.ofNat (2 * i + 1)))] [(.int ((y &&& (255 : Int32)) <<< ((8 : Int32) &&& 31))), (.int ((x &&& (255 : Int32)) <<< ((0 : Int32) &&& 31)))])
  refine Goes.of (fun _ => XS.ior X5.here hx rfl (hb hby d19_57) rfl) ?_
  show Goes p e below _ T5 (mkF m 58 #[.val (.ref b), .val (.int (Int32.ofNat (2 * i + 1)))] [(.int (((x &&& (255 : Int32)) <<< ((0 : Int32) &&& 31)) ||| ((y &&& (255 : Int32)) <<< ((8 : Int32) &&& 31))))])
  refine Goes.of (fun _ => XS.i2c X5.here hx rfl (hb hby d19_58) rfl) ?_
  show Goes p e below _ T5 (mkF m 59 #[.val (.ref b), .val (.int (Int32.ofNat (2 * i + 1)))] [(.int ((((x &&& (255 : Int32)) <<< ((0 : Int32) &&& 31)) ||| ((y &&& (255 : Int32)) <<< ((8 : Int32) &&& 31))).toUInt32.toUInt16.toUInt32.toInt32))])
  exact retZ (t := .char) X5 hx hret hlk (by simp) (hb hby d19_59) eT5 (by decide) (by decide) ⟨rfl, N0, rfl⟩
set_option maxRecDepth 65536 in
set_option maxHeartbeats 40000000 in
theorem rm_tob3 (l : Launch) (Z : State) (a0 : Array Value) (hw : ∀ d ∈ tables_1, d.before a0 Z = true) (a : Addr) (ka : ClassId) (cs : List Int32) (h0 : Heap) (n0 : Nat) (O0 : Old Z n0 h0) (Sa : Sta Z Z.heap "java/lang/StringUTF16" "$assertionsDisabled" "Z" (.int 1)) (Sh : Sta Z Z.heap "java/lang/StringUTF16" "HI_BYTE_SHIFT" "I" (.int 0)) (Sl : Sta Z Z.heap "java/lang/StringUTF16" "LO_BYTE_SHIFT" "I" (.int 8)) (hN : cs.length ≤ 16384) (Va : Arv Z h0 a ka .char (Int32.ofNat cs.length) (cs.map Value.int) (.int 0)) :
    Rm l (⟨"java/lang/StringUTF16", "toBytes", "([CII)[B"⟩ : MethodName) jdk_52_method_14_code 5 (some (.array .byte)) ({ frames := 2, cells := 1, slots := 32768, locals := 24 } : Room) [] Z #[(.ref a), (.int 0), (.int (Int32.ofNat cs.length))] h0 (fun v h L => ∃ (b : Addr) (kb : ClassId), v = some (.ref b) ∧ Fr n0 L ∧ Keep h0 h [] ∧ n0 ≤ b ∧ h0.size ≤ b ∧ Arv Z h b kb .byte (Int32.ofNat (2 * cs.length)) (cs.flatMap uf) (.int 0)) := by
  refine Rm.of (plainFor_of_name pn_java_lang_StringUTF16) ?_
  intro p e s m below meth cod T X hx hZ hby hml hown hnm hret hlk eT0
  have hown : s.vm.findClass "java/lang/StringUTF16" = some m.cls := hown
  have hnm : meth.name = "toBytes" := hnm
  have N0 := Fr.nil n0
  have Kp := Keep.refl h0 []
  refine Goes.cast (ef_15 m a (0 : Int32) (Int32.ofNat cs.length)) ?_
  show Goes p e below _ T (mkF m 0 #[.val (.ref a), .val (.int 0), .val (.int (Int32.ofNat cs.length)), .unset, .unset] [])
  refine Goes.of (fun _ => XS.iloadN X.here hx rfl (hb hby d15_0) rfl) ?_
  show Goes p e below _ T (mkF m 1 #[.val (.ref a), .val (.int 0), .val (.int (Int32.ofNat cs.length)), .unset, .unset] [(.int (Int32.ofNat cs.length))])
  refine goStatic 0 X hx hZ hown (hw _ (List.mem_of_getElem? (i := 73) rfl)) (hw _ (List.mem_of_getElem? (i := 74) rfl)) (hw _ (List.mem_of_getElem? (i := 65) rfl)) (hw _ (List.mem_of_getElem? (i := 75) rfl)) (by decide) (rm_nbf l Z a0 hw cs.length h0 n0 O0 hN) eT0 (g := (mkF m 1 #[.val (.ref a), .val (.int 0), .val (.int (Int32.ofNat cs.length)), .unset, .unset] [(.int (Int32.ofNat cs.length))])) rfl (by rw [hml]; rfl) [(.int (Int32.ofNat cs.length))] [] (lenOf pd__I__B rfl) rfl rfl (by show 2 * 0 + _ ≤ _; exact Nat.le_of_eq rfl) (hb hby d15_1) (by decide) (by decide) (by decide) (by decide) ?_
  intro v1 T1 L1 X1 q1
  obtain ⟨nb1, kn1, rfl, Nq1, Kq1, gq1, sq1, Vn1⟩ := q1
  have N1 := Fr.app N0 Nq1
  have g_nb1 : n0 ≤ nb1 := gq1
  have sz_nb1 : h0.size ≤ nb1 := Nat.le_trans Kp.1 sq1
  have ne_a_nb1 : a ≠ nb1 := Nat.ne_of_lt (Nat.lt_of_lt_of_le Va.lt sq1)
  have Va := Va.keep Kq1 nin0
  have Kp := Kp.trans Kq1 all0
  have O0 := O0.keep Kq1 all0
  show Goes p e below _ T1 (mkF m 4 #[.val (.ref a), .val (.int 0), .val (.int (Int32.ofNat cs.length)), .unset, .unset] [(.ref nb1)])
  refine Goes.of (fun _ => XS.astoreN X1.here hx rfl (hb hby d15_4) rfl rfl (l' := #[.val (.ref a), .val (.int 0), .val (.int (Int32.ofNat cs.length)), .val (.ref nb1), .unset]) rfl) ?_
  show Goes p e below _ T1 (mkF m 5 #[.val (.ref a), .val (.int 0), .val (.int (Int32.ofNat cs.length)), .val (.ref nb1), .unset] [])
  refine Goes.of (fun _ => XS.iconst X1.here hx rfl (hb hby d15_5)) ?_
  show Goes p e below _ T1 (mkF m 6 #[.val (.ref a), .val (.int 0), .val (.int (Int32.ofNat cs.length)), .val (.ref nb1), .unset] [(.int 0)])
  refine Goes.of (fun _ => XS.istore X1.here hx rfl (hb hby d15_6) rfl (l' := #[.val (.ref a), .val (.int 0), .val (.int (Int32.ofNat cs.length)), .val (.ref nb1), .val (.int 0)]) rfl) ?_
  show Goes p e below _ T1 (mkF m 8 #[.val (.ref a), .val (.int 0), .val (.int (Int32.ofNat cs.length)), .val (.ref nb1), .val (.int 0)] [])
  have loop : ∀ (r : List Int32) (k : Nat) (T : State) (h : Heap) (locs : List Loc), Stand p l e ({ frames := 2, cells := 1, slots := 32768, locals := 24 } : Room) s m #[(.ref a), (.int 0), (.int (Int32.ofNat cs.length))] below meth cod T locs 1 32768 → T.heap = h → Fr n0 locs → Keep h0 h [] → Arv Z h a ka .char (Int32.ofNat cs.length) (cs.map Value.int) (.int 0) → Arv Z h nb1 kn1 .byte (Int32.ofNat (2 * cs.length)) (ul cs k) (.int 0) → Old Z n0 h → cs.drop k = r → k ≤ cs.length → Goes p e below (EndN s (fun v h L => ∃ (b : Addr) (kb : ClassId), v = some (.ref b) ∧ Fr n0 L ∧ Keep h0 h [] ∧ n0 ≤ b ∧ h0.size ≤ b ∧ Arv Z h b kb .byte (Int32.ofNat (2 * cs.length)) (cs.flatMap uf) (.int 0)) 1 32768) T (mkF m 8 #[.val (.ref a), .val (.int (Int32.ofNat k)), .val (.int (Int32.ofNat cs.length)), .val (.ref nb1), .val (.int (Int32.ofNat k))] []) := by
    intro r
    induction r with
    | nil =>
      intro k T h locs X eT Nl Kp Va Vn1 O0 hdr hk
      have hlt : ¬ Int32.ofNat k < Int32.ofNat cs.length := by rw [on_lt (by omega) (by omega)]; have := List.drop_eq_nil_iff.mp hdr; omega
      have hke : k = cs.length := by have := List.drop_eq_nil_iff.mp hdr; omega
      show Goes p e below _ T (mkF m 8 #[.val (.ref a), .val (.int (Int32.ofNat k)), .val (.int (Int32.ofNat cs.length)), .val (.ref nb1), .val (.int (Int32.ofNat k))] [])
      refine Goes.of (fun _ => XS.iload X.here hx rfl (hb hby d15_8) rfl) ?_
      show Goes p e below _ T (mkF m 10 #[.val (.ref a), .val (.int (Int32.ofNat k)), .val (.int (Int32.ofNat cs.length)), .val (.ref nb1), .val (.int (Int32.ofNat k))] [(.int (Int32.ofNat k))])
      refine Goes.of (fun _ => XS.iloadN X.here hx rfl (hb hby d15_10) rfl) ?_
      show Goes p e below _ T (mkF m 11 #[.val (.ref a), .val (.int (Int32.ofNat k)), .val (.int (Int32.ofNat cs.length)), .val (.ref nb1), .val (.int (Int32.ofNat k))] [(.int (Int32.ofNat cs.length)), (.int (Int32.ofNat k))])
      refine Goes.of (fun _ => XS.icmpYes X.here hx rfl (pc0 := 11) (pc' := 32) rfl (hb hby d15_11) rfl (flt hlt).2.1 (by decide) (by decide)) ?_
      show Goes p e below _ T (mkF m 32 #[.val (.ref a), .val (.int (Int32.ofNat k)), .val (.int (Int32.ofNat cs.length)), .val (.ref nb1), .val (.int (Int32.ofNat k))] [])
      refine Goes.of (fun _ => XS.aloadN X.here hx rfl (hb hby d15_32) rfl rfl) ?_
      show Goes p e below _ T (mkF m 33 #[.val (.ref a), .val (.int (Int32.ofNat k)), .val (.int (Int32.ofNat cs.length)), .val (.ref nb1), .val (.int (Int32.ofNat k))] [(.ref nb1)])
      exact retRef X hx hret hlk rfl rfl (hb hby d15_33) eT (by decide) (by decide) (by subst hke; exact ⟨nb1, _, rfl, Nl, Kp, g_nb1, sz_nb1, by rw [← ul_all]; exact Vn1⟩)
    | cons c' r ih =>
      intro k T h locs X eT Nl Kp Va Vn1 O0 hdr hk
      have hdc := drop_cons hdr
      have hlt : Int32.ofNat k < Int32.ofNat cs.length := (on_lt (by omega) (by omega)).mpr hdc.1
      show Goes p e below _ T (mkF m 8 #[.val (.ref a), .val (.int (Int32.ofNat k)), .val (.int (Int32.ofNat cs.length)), .val (.ref nb1), .val (.int (Int32.ofNat k))] [])
      refine Goes.of (fun _ => XS.iload X.here hx rfl (hb hby d15_8) rfl) ?_
      show Goes p e below _ T (mkF m 10 #[.val (.ref a), .val (.int (Int32.ofNat k)), .val (.int (Int32.ofNat cs.length)), .val (.ref nb1), .val (.int (Int32.ofNat k))] [(.int (Int32.ofNat k))])
      refine Goes.of (fun _ => XS.iloadN X.here hx rfl (hb hby d15_10) rfl) ?_
      show Goes p e below _ T (mkF m 11 #[.val (.ref a), .val (.int (Int32.ofNat k)), .val (.int (Int32.ofNat cs.length)), .val (.ref nb1), .val (.int (Int32.ofNat k))] [(.int (Int32.ofNat cs.length)), (.int (Int32.ofNat k))])
      refine Goes.of (fun _ => XS.icmpNo X.here hx rfl (hb hby d15_11) rfl (tlt hlt).2.1) ?_
      show Goes p e below _ T (mkF m 14 #[.val (.ref a), .val (.int (Int32.ofNat k)), .val (.int (Int32.ofNat cs.length)), .val (.ref nb1), .val (.int (Int32.ofNat k))] [])
      refine Goes.of (fun _ => XS.aloadN X.here hx rfl (hb hby d15_14) rfl rfl) ?_
      show Goes p e below _ T (mkF m 15 #[.val (.ref a), .val (.int (Int32.ofNat k)), .val (.int (Int32.ofNat cs.length)), .val (.ref nb1), .val (.int (Int32.ofNat k))] [(.ref nb1)])
      refine Goes.of (fun _ => XS.iload X.here hx rfl (hb hby d15_15) rfl) ?_
      show Goes p e below _ T (mkF m 17 #[.val (.ref a), .val (.int (Int32.ofNat k)), .val (.int (Int32.ofNat cs.length)), .val (.ref nb1), .val (.int (Int32.ofNat k))] [(.int (Int32.ofNat k)), (.ref nb1)])
      refine Goes.of (fun _ => XS.aloadN X.here hx rfl (hb hby d15_17) rfl rfl) ?_
      show Goes p e below _ T (mkF m 18 #[.val (.ref a), .val (.int (Int32.ofNat k)), .val (.int (Int32.ofNat cs.length)), .val (.ref nb1), .val (.int (Int32.ofNat k))] [(.ref a), (.int (Int32.ofNat k)), (.ref nb1)])
      refine Goes.of (fun _ => XS.iloadN X.here hx rfl (hb hby d15_18) rfl) ?_
      show Goes p e below _ T (mkF m 19 #[.val (.ref a), .val (.int (Int32.ofNat k)), .val (.int (Int32.ofNat cs.length)), .val (.ref nb1), .val (.int (Int32.ofNat k))] [(.int (Int32.ofNat k)), (.ref a), (.int (Int32.ofNat k)), (.ref nb1)])
      refine goLdC (.int c') X hx hZ eT Va (on_nn (by omega)) hlt (get_map hdc.1 hdc.2.1 (by omega)) (g := (mkF m 19 #[.val (.ref a), .val (.int (Int32.ofNat k)), .val (.int (Int32.ofNat cs.length)), .val (.ref nb1), .val (.int (Int32.ofNat k))] [(.int (Int32.ofNat k)), (.ref a), (.int (Int32.ofNat k)), (.ref nb1)])) rfl rfl (hb hby d15_19) ?_
      show Goes p e below _ T (mkF m 20 #[.val (.ref a), .val (.int (Int32.ofNat k)), .val (.int (Int32.ofNat cs.length)), .val (.ref nb1), .val (.int (Int32.ofNat k))] [(.int c'), (.int (Int32.ofNat k)), (.ref nb1)])
      refine goStatic 0 X hx hZ hown (hw _ (List.mem_of_getElem? (i := 80) rfl)) (hw _ (List.mem_of_getElem? (i := 81) rfl)) (hw _ (List.mem_of_getElem? (i := 65) rfl)) (hw _ (List.mem_of_getElem? (i := 82) rfl)) (by decide) (rm_put l Z a0 hw nb1 _ _ (2 * cs.length) k c' h n0 O0 Sa Sh Sl g_nb1 (ul_len hk) (by omega) (by have := hdc.1; omega) Vn1) eT (g := (mkF m 20 #[.val (.ref a), .val (.int (Int32.ofNat k)), .val (.int (Int32.ofNat cs.length)), .val (.ref nb1), .val (.int (Int32.ofNat k))] [(.int c'), (.int (Int32.ofNat k)), (.ref nb1)])) rfl (by rw [hml]; rfl) [(.ref nb1), (.int (Int32.ofNat k)), (.int c')] [] (lenOf pd___BII_V rfl) rfl rfl (by show 2 * 0 + _ ≤ _; exact Nat.le_of_eq rfl) (hb hby d15_20) (by decide) (by decide) (by decide) (by decide) ?_
      intro v3 T3 L3 X3 q3
      obtain ⟨rfl, Nq3, Kq3, Vn1⟩ := q3
      have N3 := Fr.app Nl Nq3
      have Va := Va.keep Kq3 (ninS ne_a_nb1 nin0)
      have Kp := Kp.trans Kq3 (allS (Or.inr sz_nb1) all0)
      have O0 := O0.keep Kq3 (allS g_nb1 all0)
      show Goes p e below _ T3 (mkF m 23 #[.val (.ref a), .val (.int (Int32.ofNat k)), .val (.int (Int32.ofNat cs.length)), .val (.ref nb1), .val (.int (Int32.ofNat k))] [])
      refine Goes.of (fun _ => XS.iinc X3.here hx rfl (hb hby d15_23) rfl (l' := #[.val (.ref a), .val (.int ((Int32.ofNat k) + (1 : Int32))), .val (.int (Int32.ofNat cs.length)), .val (.ref nb1), .val (.int (Int32.ofNat k))]) rfl) ?_
      show Goes p e below _ T3 (mkF m 26 #[.val (.ref a), .val (.int ((Int32.ofNat k) + (1 : Int32))), .val (.int (Int32.ofNat cs.length)), .val (.ref nb1), .val (.int (Int32.ofNat k))] [])
      refine Goes.of (fun _ => XS.iinc X3.here hx rfl (hb hby d15_26) rfl (l' := #[.val (.ref a), .val (.int ((Int32.ofNat k) + (1 : Int32))), .val (.int (Int32.ofNat cs.length)), .val (.ref nb1), .val (.int ((Int32.ofNat k) + (1 : Int32)))]) rfl) ?_
      show Goes p e below _ T3 (mkF m 29 #[.val (.ref a), .val (.int ((Int32.ofNat k) + (1 : Int32))), .val (.int (Int32.ofNat cs.length)), .val (.ref nb1), .val (.int ((Int32.ofNat k) + (1 : Int32)))] [])
      refine Goes.of (fun _ => XS.goto X3.here hx rfl (pc0 := 29) (pc' := 8) rfl (hb hby d15_29) (by decide) (by decide)) ?_
      show Goes p e below _ T3 (mkF m 8 #[.val (.ref a), .val (.int ((Int32.ofNat k) + (1 : Int32))), .val (.int (Int32.ofNat cs.length)), .val (.ref nb1), .val (.int ((Int32.ofNat k) + (1 : Int32)))] [])
      rw [on_inc]
      exact ih (k + 1) _ _ _ X3 (rfl : T3.heap = _) N3 Kp Va (by rw [← ul_set hdc.1 hdc.2.1]; exact Vn1) O0 hdc.2.2 hdc.1
  exact loop cs 0 _ _ _ X1 (rfl : T1.heap = _) N1 Kp Va (by rw [ul_zero]; exact Vn1) O0 rfl (Nat.zero_le _)
set_option maxRecDepth 65536 in
set_option maxHeartbeats 40000000 in
theorem rm_comp3 (l : Launch) (Z : State) (a0 : Array Value) (hw : ∀ d ∈ tables_1, d.before a0 Z = true) (a : Addr) (ka : ClassId) (cs : List Int32) (h0 : Heap) (n0 : Nat) (O0 : Old Z n0 h0) (Sa : Sta Z Z.heap "java/lang/StringUTF16" "$assertionsDisabled" "Z" (.int 1)) (Sh : Sta Z Z.heap "java/lang/StringUTF16" "HI_BYTE_SHIFT" "I" (.int 0)) (Sl : Sta Z Z.heap "java/lang/StringUTF16" "LO_BYTE_SHIFT" "I" (.int 8)) (hN : cs.length ≤ 16384) (hcs : ∀ c ∈ cs, ¬ c < 0 ∧ ¬ (65535 : Int32) < c) (Va : Arv Z h0 a ka .char (Int32.ofNat cs.length) (cs.map Value.int) (.int 0)) :
    Rm l (⟨"java/lang/StringUTF16", "compress", "([CII)[B"⟩ : MethodName) jdk_52_method_16_code 6 (some (.array .byte)) ({ frames := 3, cells := 2, slots := 49152, locals := 40 } : Room) [] Z #[(.ref a), (.int 0), (.int (Int32.ofNat cs.length))] h0 (fun v h L => ∃ (b : Addr) (kb : ClassId), v = some (.ref b) ∧ Fr n0 L ∧ Keep h0 h [] ∧ n0 ≤ b ∧ h0.size ≤ b ∧ (((∀ c ∈ cs, ¬ (255 : Int32) < c) ∧ Arv Z h b kb .byte (Int32.ofNat cs.length) (cs.map bv) (.int 0)) ∨ Arv Z h b kb .byte (Int32.ofNat (2 * cs.length)) (cs.flatMap uf) (.int 0))) := by
  refine Rm.of (plainFor_of_name pn_java_lang_StringUTF16) ?_
  intro p e s m below meth cod T X hx hZ hby hml hown hnm hret hlk eT0
  have hown : s.vm.findClass "java/lang/StringUTF16" = some m.cls := hown
  have hnm : meth.name = "compress" := hnm
  have N0 := Fr.nil n0
  have Kp := Keep.refl h0 []
  refine Goes.cast (ef_13 m a (0 : Int32) (Int32.ofNat cs.length)) ?_
  show Goes p e below _ T (mkF m 0 #[.val (.ref a), .val (.int 0), .val (.int (Int32.ofNat cs.length)), .unset, .unset, .unset] [])
  refine Goes.of (fun _ => XS.iloadN X.here hx rfl (hb hby d13_0) rfl) ?_
  show Goes p e below _ T (mkF m 1 #[.val (.ref a), .val (.int 0), .val (.int (Int32.ofNat cs.length)), .unset, .unset, .unset] [(.int (Int32.ofNat cs.length))])
  refine goNewP 16384 X hx hZ (hw _ (List.mem_of_getElem? (i := 28) rfl)) eT0 (g := (mkF m 1 #[.val (.ref a), .val (.int 0), .val (.int (Int32.ofNat cs.length)), .unset, .unset, .unset] [(.int (Int32.ofNat cs.length))])) rfl (hb hby d13_1) rfl (on_nn (by omega)) (by rw [on_back (by omega)]; exact hN) (by decide) (by decide) (by decide) (ad := "[B") (by first | rfl | decide) ?_
  intro T1 h1 b1 kA1 X1 eT1 E1 hb1 V1 A1
  have g_b1 : n0 ≤ b1 := Nat.le_trans (oldLe O0) hb1
  have sz_b1 : h0.size ≤ b1 := Nat.le_trans Kp.1 hb1
  have ne_a_b1 : a ≠ b1 := Nat.ne_of_lt (Nat.lt_of_lt_of_le Va.lt hb1)
  have Va := Va.ext E1
  have Kp := Kp.ext E1
  have O0 := O0.ext E1
  show Goes p e below _ T1 (mkF m 3 #[.val (.ref a), .val (.int 0), .val (.int (Int32.ofNat cs.length)), .unset, .unset, .unset] [(.ref b1)])
  have V1 : Arv Z _ b1 _ .byte (Int32.ofNat cs.length) (List.replicate cs.length (.int 0)) (.int 0) := arv_rep (ty := .byte) (d := .int 0) V1
  show Goes p e below _ T1 (mkF m 3 #[.val (.ref a), .val (.int 0), .val (.int (Int32.ofNat cs.length)), .unset, .unset, .unset] [(.ref b1)])
  refine Goes.of (fun _ => XS.astoreN X1.here hx rfl (hb hby d13_3) rfl rfl (l' := #[.val (.ref a), .val (.int 0), .val (.int (Int32.ofNat cs.length)), .val (.ref b1), .unset, .unset]) rfl) ?_
  show Goes p e below _ T1 (mkF m 4 #[.val (.ref a), .val (.int 0), .val (.int (Int32.ofNat cs.length)), .val (.ref b1), .unset, .unset] [])
  refine Goes.of (fun _ => XS.aloadN X1.here hx rfl (hb hby d13_4) rfl rfl) ?_
  show Goes p e below _ T1 (mkF m 5 #[.val (.ref a), .val (.int 0), .val (.int (Int32.ofNat cs.length)), .val (.ref b1), .unset, .unset] [(.ref a)])
  refine Goes.of (fun _ => XS.iloadN X1.here hx rfl (hb hby d13_5) rfl) ?_
  show Goes p e below _ T1 (mkF m 6 #[.val (.ref a), .val (.int 0), .val (.int (Int32.ofNat cs.length)), .val (.ref b1), .unset, .unset] [(.int 0), (.ref a)])
  refine Goes.of (fun _ => XS.aloadN X1.here hx rfl (hb hby d13_6) rfl rfl) ?_
  show Goes p e below _ T1 (mkF m 7 #[.val (.ref a), .val (.int 0), .val (.int (Int32.ofNat cs.length)), .val (.ref b1), .unset, .unset] [(.ref b1), (.int 0), (.ref a)])
  refine Goes.of (fun _ => XS.iconst X1.here hx rfl (hb hby d13_7)) ?_
  show Goes p e below _ T1 (mkF m 8 #[.val (.ref a), .val (.int 0), .val (.int (Int32.ofNat cs.length)), .val (.ref b1), .unset, .unset] [(.int 0), (.ref b1), (.int 0), (.ref a)])
  refine Goes.of (fun _ => XS.iloadN X1.here hx rfl (hb hby d13_8) rfl) ?_
  show Goes p e below _ T1 (mkF m 9 #[.val (.ref a), .val (.int 0), .val (.int (Int32.ofNat cs.length)), .val (.ref b1), .unset, .unset] [(.int (Int32.ofNat cs.length)), (.int 0), (.ref b1), (.int 0), (.ref a)])
  refine goStatic 0 X1 hx hZ hown (hw _ (List.mem_of_getElem? (i := 67) rfl)) (hw _ (List.mem_of_getElem? (i := 68) rfl)) (hw _ (List.mem_of_getElem? (i := 65) rfl)) (hw _ (List.mem_of_getElem? (i := 69) rfl)) (by decide) (rm_comp5 l Z a0 hw a b1 _ _ cs h1 n0 O0 hN g_b1 ne_a_b1 Va V1) eT1 (g := (mkF m 9 #[.val (.ref a), .val (.int 0), .val (.int (Int32.ofNat cs.length)), .val (.ref b1), .unset, .unset] [(.int (Int32.ofNat cs.length)), (.int 0), (.ref b1), (.int 0), (.ref a)])) rfl (by rw [hml]; rfl) [(.ref a), (.int 0), (.ref b1), (.int 0), (.int (Int32.ofNat cs.length))] [] (lenOf pd___CI_BII_I rfl) rfl rfl (by show 2 * 0 + _ ≤ _; exact Nat.le_of_eq rfl) (hb hby d13_9) (by decide) (by decide) (by decide) (by decide) ?_
  intro v2 T2 L2 X2 q2
  obtain ⟨kq2, rfl, Nq2, Kq2, Vq2, hall2, hor2⟩ := q2
  have N2 := Fr.app N0 Nq2
  have Va := Va.keep Kq2 (ninS ne_a_b1 nin0)
  have A1 := A1.keep Kq2
  have Kp := Kp.trans Kq2 (allS (Or.inr sz_b1) all0)
  have O0 := O0.keep Kq2 (allS g_b1 all0)
  rcases hor2 with hkq | ⟨hkl, hkg⟩
  · subst hkq
    show Goes p e below _ T2 (mkF m 12 #[.val (.ref a), .val (.int 0), .val (.int (Int32.ofNat cs.length)), .val (.ref b1), .unset, .unset] [(.int (Int32.ofNat cs.length))])
    refine Goes.of (fun _ => XS.istore X2.here hx rfl (hb hby d13_12) rfl (l' := #[.val (.ref a), .val (.int 0), .val (.int (Int32.ofNat cs.length)), .val (.ref b1), .val (.int (Int32.ofNat cs.length)), .unset]) rfl) ?_
    show Goes p e below _ T2 (mkF m 14 #[.val (.ref a), .val (.int 0), .val (.int (Int32.ofNat cs.length)), .val (.ref b1), .val (.int (Int32.ofNat cs.length)), .unset] [])
    refine Goes.of (fun _ => XS.iload X2.here hx rfl (hb hby d13_14) rfl) ?_
    show Goes p e below _ T2 (mkF m 16 #[.val (.ref a), .val (.int 0), .val (.int (Int32.ofNat cs.length)), .val (.ref b1), .val (.int (Int32.ofNat cs.length)), .unset] [(.int (Int32.ofNat cs.length))])
    refine Goes.of (fun _ => XS.iloadN X2.here hx rfl (hb hby d13_16) rfl) ?_
    show Goes p e below _ T2 (mkF m 17 #[.val (.ref a), .val (.int 0), .val (.int (Int32.ofNat cs.length)), .val (.ref b1), .val (.int (Int32.ofNat cs.length)), .unset] [(.int (Int32.ofNat cs.length)), (.int (Int32.ofNat cs.length))])
    refine Goes.of (fun _ => XS.icmpYes X2.here hx rfl (pc0 := 17) (pc' := 57) rfl (hb hby d13_17) rfl (teq rfl).1 (by decide) (by decide)) ?_
    show Goes p e below _ T2 (mkF m 57 #[.val (.ref a), .val (.int 0), .val (.int (Int32.ofNat cs.length)), .val (.ref b1), .val (.int (Int32.ofNat cs.length)), .unset] [])
    refine Goes.of (fun _ => XS.aloadN X2.here hx rfl (hb hby d13_57) rfl rfl) ?_
    show Goes p e below _ T2 (mkF m 58 #[.val (.ref a), .val (.int 0), .val (.int (Int32.ofNat cs.length)), .val (.ref b1), .val (.int (Int32.ofNat cs.length)), .unset] [(.ref b1)])
    exact retRef X2 hx hret hlk rfl rfl (hb hby d13_58) (rfl : T2.heap = _) (by decide) (by decide) ⟨b1, _, rfl, N2, Kp, g_b1, sz_b1, Or.inl ⟨by simpa using hall2, by rw [← bl_all]; exact Vq2⟩⟩
  · show Goes p e below _ T2 (mkF m 12 #[.val (.ref a), .val (.int 0), .val (.int (Int32.ofNat cs.length)), .val (.ref b1), .unset, .unset] [(.int (Int32.ofNat kq2))])
    refine Goes.of (fun _ => XS.istore X2.here hx rfl (hb hby d13_12) rfl (l' := #[.val (.ref a), .val (.int 0), .val (.int (Int32.ofNat cs.length)), .val (.ref b1), .val (.int (Int32.ofNat kq2)), .unset]) rfl) ?_
    show Goes p e below _ T2 (mkF m 14 #[.val (.ref a), .val (.int 0), .val (.int (Int32.ofNat cs.length)), .val (.ref b1), .val (.int (Int32.ofNat kq2)), .unset] [])
    refine Goes.of (fun _ => XS.iload X2.here hx rfl (hb hby d13_14) rfl) ?_
    show Goes p e below _ T2 (mkF m 16 #[.val (.ref a), .val (.int 0), .val (.int (Int32.ofNat cs.length)), .val (.ref b1), .val (.int (Int32.ofNat kq2)), .unset] [(.int (Int32.ofNat kq2))])
    refine Goes.of (fun _ => XS.iloadN X2.here hx rfl (hb hby d13_16) rfl) ?_
    show Goes p e below _ T2 (mkF m 17 #[.val (.ref a), .val (.int 0), .val (.int (Int32.ofNat cs.length)), .val (.ref b1), .val (.int (Int32.ofNat kq2)), .unset] [(.int (Int32.ofNat cs.length)), (.int (Int32.ofNat kq2))])
    refine Goes.of (fun _ => XS.icmpNo X2.here hx rfl (hb hby d13_17) rfl (feq (on_ne (by omega) (by omega) hkl)).1) ?_
    show Goes p e below _ T2 (mkF m 20 #[.val (.ref a), .val (.int 0), .val (.int (Int32.ofNat cs.length)), .val (.ref b1), .val (.int (Int32.ofNat kq2)), .unset] [])
    refine Goes.of (fun _ => XS.aloadN X2.here hx rfl (hb hby d13_20) rfl rfl) ?_
    show Goes p e below _ T2 (mkF m 21 #[.val (.ref a), .val (.int 0), .val (.int (Int32.ofNat cs.length)), .val (.ref b1), .val (.int (Int32.ofNat kq2)), .unset] [(.ref a)])
    refine Goes.of (fun _ => XS.iloadN X2.here hx rfl (hb hby d13_21) rfl) ?_
    show Goes p e below _ T2 (mkF m 22 #[.val (.ref a), .val (.int 0), .val (.int (Int32.ofNat cs.length)), .val (.ref b1), .val (.int (Int32.ofNat kq2)), .unset] [(.int 0), (.ref a)])
    refine Goes.of (fun _ => XS.iloadN X2.here hx rfl (hb hby d13_22) rfl) ?_
    show Goes p e below _ T2 (mkF m 23 #[.val (.ref a), .val (.int 0), .val (.int (Int32.ofNat cs.length)), .val (.ref b1), .val (.int (Int32.ofNat kq2)), .unset] [(.int (Int32.ofNat cs.length)), (.int 0), (.ref a)])
    refine goStatic 0 X2 hx hZ hown (hw _ (List.mem_of_getElem? (i := 70) rfl)) (hw _ (List.mem_of_getElem? (i := 71) rfl)) (hw _ (List.mem_of_getElem? (i := 65) rfl)) (hw _ (List.mem_of_getElem? (i := 72) rfl)) (by decide) (rm_tob3 l Z a0 hw a _ cs T2.heap n0 O0 Sa Sh Sl hN Va) (rfl : T2.heap = _) (g := (mkF m 23 #[.val (.ref a), .val (.int 0), .val (.int (Int32.ofNat cs.length)), .val (.ref b1), .val (.int (Int32.ofNat kq2)), .unset] [(.int (Int32.ofNat cs.length)), (.int 0), (.ref a)])) rfl (by rw [hml]; rfl) [(.ref a), (.int 0), (.int (Int32.ofNat cs.length))] [] (lenOf pd___CII__B rfl) rfl rfl (by show 2 * 0 + _ ≤ _; exact Nat.le_of_eq rfl) (hb hby d13_23) (by decide) (by decide) (by decide) (by decide) ?_
    intro v3 T3 L3 X3 q3
    obtain ⟨tb3, kt3, rfl, Nq3, Kq3, gq3, sq3, Vt3⟩ := q3
    have N3 := Fr.app N2 Nq3
    have g_tb3 : n0 ≤ tb3 := gq3
    have sz_tb3 : h0.size ≤ tb3 := Nat.le_trans Kp.1 sq3
    have ne_a_tb3 : a ≠ tb3 := Nat.ne_of_lt (Nat.lt_of_lt_of_le Va.lt sq3)
    have ne_b1_tb3 : b1 ≠ tb3 := Nat.ne_of_lt (Nat.lt_of_lt_of_le A1.lt sq3)
    have Va := Va.keep Kq3 nin0
    have A1 := A1.keep Kq3
    have Vq2 := Vq2.keep Kq3 nin0
    have Kp := Kp.trans Kq3 all0
    have O0 := O0.keep Kq3 all0
    show Goes p e below _ T3 (mkF m 26 #[.val (.ref a), .val (.int 0), .val (.int (Int32.ofNat cs.length)), .val (.ref b1), .val (.int (Int32.ofNat kq2)), .unset] [(.ref tb3)])
    refine Goes.of (fun _ => XS.astore X3.here hx rfl (hb hby d13_26) rfl rfl (l' := #[.val (.ref a), .val (.int 0), .val (.int (Int32.ofNat cs.length)), .val (.ref b1), .val (.int (Int32.ofNat kq2)), .val (.ref tb3)]) rfl) ?_
    show Goes p e below _ T3 (mkF m 28 #[.val (.ref a), .val (.int 0), .val (.int (Int32.ofNat cs.length)), .val (.ref b1), .val (.int (Int32.ofNat kq2)), .val (.ref tb3)] [])
    refine Goes.of (fun _ => XS.aload X3.here hx rfl (hb hby d13_28) rfl rfl) ?_
    show Goes p e below _ T3 (mkF m 30 #[.val (.ref a), .val (.int 0), .val (.int (Int32.ofNat cs.length)), .val (.ref b1), .val (.int (Int32.ofNat kq2)), .val (.ref tb3)] [(.ref tb3)])
    refine Goes.of (fun _ => XS.iload X3.here hx rfl (hb hby d13_30) rfl) ?_
    show Goes p e below _ T3 (mkF m 32 #[.val (.ref a), .val (.int 0), .val (.int (Int32.ofNat cs.length)), .val (.ref b1), .val (.int (Int32.ofNat kq2)), .val (.ref tb3)] [(.int (Int32.ofNat kq2)), (.ref tb3)])
    refine goStatic 0 X3 hx hZ hown (hw _ (List.mem_of_getElem? (i := 86) rfl)) (hw _ (List.mem_of_getElem? (i := 87) rfl)) (hw _ (List.mem_of_getElem? (i := 65) rfl)) (hw _ (List.mem_of_getElem? (i := 88) rfl)) (by decide) (rm_get l Z a0 hw tb3 _ _ (2 * cs.length) kq2 (nar .byte ((cs.getD kq2 0 >>> ((0 : Int32) &&& 31)).toInt8.toInt32)) (nar .byte ((cs.getD kq2 0 >>> ((8 : Int32) &&& 31)).toInt8.toInt32)) T3.heap n0 O0 Sa Sh Sl (by omega) (by omega) Vt3 (get_hi hkl) (get_lo hkl)) (rfl : T3.heap = _) (g := (mkF m 32 #[.val (.ref a), .val (.int 0), .val (.int (Int32.ofNat cs.length)), .val (.ref b1), .val (.int (Int32.ofNat kq2)), .val (.ref tb3)] [(.int (Int32.ofNat kq2)), (.ref tb3)])) rfl (by rw [hml]; rfl) [(.ref tb3), (.int (Int32.ofNat kq2))] [] (lenOf pd___BI_C rfl) rfl rfl (by show 2 * 0 + _ ≤ _; exact Nat.le_of_eq rfl) (hb hby d13_32) (by decide) (by decide) (by decide) (by decide) ?_
    intro v4 T4 L4 X4 q4
    obtain ⟨rfl, Nq4, eT4⟩ := q4
    have N4 := Fr.app N3 Nq4
    show Goes p e below _ T4 (mkF m 35 #[.val (.ref a), .val (.int 0), .val (.int (Int32.ofNat cs.length)), .val (.ref b1), .val (.int (Int32.ofNat kq2)), .val (.ref tb3)] [(.int (nar .char (((((nar .byte ((cs.getD kq2 0 >>> ((0 : Int32) &&& 31)).toInt8.toInt32)) &&& (255 : Int32)) <<< ((0 : Int32) &&& 31)) ||| (((nar .byte ((cs.getD kq2 0 >>> ((8 : Int32) &&& 31)).toInt8.toInt32)) &&& (255 : Int32)) <<< ((8 : Int32) &&& 31))).toUInt32.toUInt16.toUInt32.toInt32)))])
    refine Goes.of (fun _ => XS.sipush X4.here hx rfl (hb hby d13_35)) ?_
    show Goes p e below _ T4 (mkF m 38 #[.val (.ref a), .val (.int 0), .val (.int (Int32.ofNat cs.length)), .val (.ref b1), .val (.int (Int32.ofNat kq2)), .val (.ref tb3)] [(.int 255), (.int (nar .char (((((nar .byte ((cs.getD kq2 0 >>> ((0 : Int32) &&& 31)).toInt8.toInt32)) &&& (255 : Int32)) <<< ((0 : Int32) &&& 31)) ||| (((nar .byte ((cs.getD kq2 0 >>> ((8 : Int32) &&& 31)).toInt8.toInt32)) &&& (255 : Int32)) <<< ((8 : Int32) &&& 31))).toUInt32.toUInt16.toUInt32.toInt32)))])
    refine Goes.of (fun _ => XS.icmpYes X4.here hx rfl (pc0 := 38) (pc' := 54) rfl (hb hby d13_38) rfl (tlt (by rw [getc _ (hcs _ (getD_mem hkl))]; exact hkg)).2.2.1 (by decide) (by decide)) ?_
    show Goes p e below _ T4 (mkF m 54 #[.val (.ref a), .val (.int 0), .val (.int (Int32.ofNat cs.length)), .val (.ref b1), .val (.int (Int32.ofNat kq2)), .val (.ref tb3)] [])
    refine Goes.of (fun _ => XS.aload X4.here hx rfl (hb hby d13_54) rfl rfl) ?_
    show Goes p e below _ T4 (mkF m 56 #[.val (.ref a), .val (.int 0), .val (.int (Int32.ofNat cs.length)), .val (.ref b1), .val (.int (Int32.ofNat kq2)), .val (.ref tb3)] [(.ref tb3)])
    exact retRef X4 hx hret hlk rfl rfl (hb hby d13_56) eT4 (by decide) (by decide) ⟨tb3, _, rfl, N4, Kp, g_tb3, sz_tb3, Or.inr Vt3⟩
set_option maxRecDepth 65536 in
set_option maxHeartbeats 40000000 in
theorem rm_cod_lat (l : Launch) (Z : State) (a0 : Array Value) (hw : ∀ d ∈ tables_1, d.before a0 Z = true) (b : Addr) (kb : ClassId) (cs : List Int32) (vs : List Value) (h0 : Heap) (n0 : Nat) (O0 : Old Z n0 h0) (hN : cs.length ≤ 16384) (h1 : 0 < cs.length) (Vb : Arv Z h0 b kb .byte (Int32.ofNat cs.length) vs (.int 0)) :
    Rm l (⟨"java/lang/StringUTF16", "coderFromArrayLen", "([BI)B"⟩ : MethodName) jdk_52_method_15_code 2 (some .byte) ({ frames := 0, cells := 0, slots := 0, locals := 0 } : Room) [] Z #[(.ref b), (.int (Int32.ofNat cs.length))] h0 (fun v h L => v = some (.int 0) ∧ Fr n0 L ∧ h = h0) := by
  refine Rm.of (plainFor_of_name pn_java_lang_StringUTF16) ?_
  intro p e s m below meth cod T X hx hZ hby hml hown hnm hret hlk eT0
  have hown : s.vm.findClass "java/lang/StringUTF16" = some m.cls := hown
  have hnm : meth.name = "coderFromArrayLen" := hnm
  have N0 := Fr.nil n0
  refine Goes.cast (ef_20 m b (Int32.ofNat cs.length)) ?_
  show Goes p e below _ T (mkF m 0 #[.val (.ref b), .val (.int (Int32.ofNat cs.length))] [])
  refine Goes.of (fun _ => XS.iloadN X.here hx rfl (hb hby d20_0) rfl) ?_
  show Goes p e below _ T (mkF m 1 #[.val (.ref b), .val (.int (Int32.ofNat cs.length))] [(.int (Int32.ofNat cs.length))])
  refine Goes.of (fun _ => XS.aloadN X.here hx rfl (hb hby d20_1) rfl rfl) ?_
  show Goes p e below _ T (mkF m 2 #[.val (.ref b), .val (.int (Int32.ofNat cs.length))] [(.ref b), (.int (Int32.ofNat cs.length))])
  refine goLen X hx hZ eT0 Vb (g := (mkF m 2 #[.val (.ref b), .val (.int (Int32.ofNat cs.length))] [(.ref b), (.int (Int32.ofNat cs.length))])) rfl rfl (hb hby d20_2) ?_
  show Goes p e below _ T (mkF m 3 #[.val (.ref b), .val (.int (Int32.ofNat cs.length))] [(.int (Int32.ofNat cs.length)), (.int (Int32.ofNat cs.length))])
  refine Goes.of (fun _ => XS.isub X.here hx rfl (hb hby d20_3) rfl) ?_
  show Goes p e below _ T (mkF m 4 #[.val (.ref b), .val (.int (Int32.ofNat cs.length))] [(.int ((Int32.ofNat cs.length) - (Int32.ofNat cs.length)))])
  refine Goes.of (fun _ => XS.bipush X.here hx rfl (hb hby d20_4)) ?_
  show Goes p e below _ T (mkF m 6 #[.val (.ref b), .val (.int (Int32.ofNat cs.length))] [(.int 31), (.int ((Int32.ofNat cs.length) - (Int32.ofNat cs.length)))])
  refine Goes.of (fun _ => XS.iushr X.here hx rfl (hb hby d20_6) rfl) ?_
  show Goes p e below _ T (mkF m 7 #[.val (.ref b), .val (.int (Int32.ofNat cs.length))] [(.int ((((Int32.ofNat cs.length) - (Int32.ofNat cs.length)).toUInt32 >>> ((31 : Int32) &&& 31).toUInt32).toInt32))])
  refine Goes.of (fun _ => XS.i2b X.here hx rfl (hb hby d20_7) rfl) ?_
  show Goes p e below _ T (mkF m 8 #[.val (.ref b), .val (.int (Int32.ofNat cs.length))] [(.int (((((Int32.ofNat cs.length) - (Int32.ofNat cs.length)).toUInt32 >>> ((31 : Int32) &&& 31).toUInt32).toInt32).toInt8.toInt32))])
  exact retZ (t := .byte) X hx hret hlk (by simp) (hb hby d20_8) eT0 (by decide) (by decide) ⟨by rw [coder0], N0, rfl⟩
set_option maxRecDepth 65536 in
set_option maxHeartbeats 40000000 in
theorem rm_cod_utf (l : Launch) (Z : State) (a0 : Array Value) (hw : ∀ d ∈ tables_1, d.before a0 Z = true) (b : Addr) (kb : ClassId) (cs : List Int32) (vs : List Value) (h0 : Heap) (n0 : Nat) (O0 : Old Z n0 h0) (hN : cs.length ≤ 16384) (h1 : 0 < cs.length) (Vb : Arv Z h0 b kb .byte (Int32.ofNat (2 * cs.length)) vs (.int 0)) :
    Rm l (⟨"java/lang/StringUTF16", "coderFromArrayLen", "([BI)B"⟩ : MethodName) jdk_52_method_15_code 2 (some .byte) ({ frames := 0, cells := 0, slots := 0, locals := 0 } : Room) [] Z #[(.ref b), (.int (Int32.ofNat cs.length))] h0 (fun v h L => v = some (.int 1) ∧ Fr n0 L ∧ h = h0) := by
  refine Rm.of (plainFor_of_name pn_java_lang_StringUTF16) ?_
  intro p e s m below meth cod T X hx hZ hby hml hown hnm hret hlk eT0
  have hown : s.vm.findClass "java/lang/StringUTF16" = some m.cls := hown
  have hnm : meth.name = "coderFromArrayLen" := hnm
  have N0 := Fr.nil n0
  refine Goes.cast (ef_20 m b (Int32.ofNat cs.length)) ?_
  show Goes p e below _ T (mkF m 0 #[.val (.ref b), .val (.int (Int32.ofNat cs.length))] [])
  refine Goes.of (fun _ => XS.iloadN X.here hx rfl (hb hby d20_0) rfl) ?_
  show Goes p e below _ T (mkF m 1 #[.val (.ref b), .val (.int (Int32.ofNat cs.length))] [(.int (Int32.ofNat cs.length))])
  refine Goes.of (fun _ => XS.aloadN X.here hx rfl (hb hby d20_1) rfl rfl) ?_
  show Goes p e below _ T (mkF m 2 #[.val (.ref b), .val (.int (Int32.ofNat cs.length))] [(.ref b), (.int (Int32.ofNat cs.length))])
  refine goLen X hx hZ eT0 Vb (g := (mkF m 2 #[.val (.ref b), .val (.int (Int32.ofNat cs.length))] [(.ref b), (.int (Int32.ofNat cs.length))])) rfl rfl (hb hby d20_2) ?_
  show Goes p e below _ T (mkF m 3 #[.val (.ref b), .val (.int (Int32.ofNat cs.length))] [(.int (Int32.ofNat (2 * cs.length))), (.int (Int32.ofNat cs.length))])
  refine Goes.of (fun _ => XS.isub X.here hx rfl (hb hby d20_3) rfl) ?_
  show Goes p e below _ T (mkF m 4 #[.val (.ref b), .val (.int (Int32.ofNat cs.length))] [(.int ((Int32.ofNat cs.length) - (Int32.ofNat (2 * cs.length))))])
  refine Goes.of (fun _ => XS.bipush X.here hx rfl (hb hby d20_4)) ?_
  show Goes p e below _ T (mkF m 6 #[.val (.ref b), .val (.int (Int32.ofNat cs.length))] [(.int 31), (.int ((Int32.ofNat cs.length) - (Int32.ofNat (2 * cs.length))))])
  refine Goes.of (fun _ => XS.iushr X.here hx rfl (hb hby d20_6) rfl) ?_
  show Goes p e below _ T (mkF m 7 #[.val (.ref b), .val (.int (Int32.ofNat cs.length))] [(.int ((((Int32.ofNat cs.length) - (Int32.ofNat (2 * cs.length))).toUInt32 >>> ((31 : Int32) &&& 31).toUInt32).toInt32))])
  refine Goes.of (fun _ => XS.i2b X.here hx rfl (hb hby d20_7) rfl) ?_
  show Goes p e below _ T (mkF m 8 #[.val (.ref b), .val (.int (Int32.ofNat cs.length))] [(.int (((((Int32.ofNat cs.length) - (Int32.ofNat (2 * cs.length))).toUInt32 >>> ((31 : Int32) &&& 31).toUInt32).toInt32).toInt8.toInt32))])
  exact retZ (t := .byte) X hx hret hlk (by simp) (hb hby d20_8) eT0 (by decide) (by decide) ⟨by rw [coder1 h1 hN], N0, rfl⟩
set_option maxRecDepth 65536 in
set_option maxHeartbeats 40000000 in
theorem rm_sin4 (l : Launch) (Z : State) (a0 : Array Value) (hw : ∀ d ∈ tables_1, d.before a0 Z = true) (a b : Addr) (kb : ClassId) (cs : List Int32) (cz : Int32) (h0 : Heap) (n0 : Nat) (O0 : Old Z n0 h0) (Sa : Sta Z Z.heap "java/lang/StringUTF16" "$assertionsDisabled" "Z" (.int 1)) (Sh : Sta Z Z.heap "java/lang/StringUTF16" "HI_BYTE_SHIFT" "I" (.int 0)) (Sl : Sta Z Z.heap "java/lang/StringUTF16" "LO_BYTE_SHIFT" "I" (.int 8)) (Sc : Sta Z Z.heap "java/lang/String" "COMPACT_STRINGS" "Z" (.int cz)) (hcz : ¬ cz = 0) (g_a : n0 ≤ a) (Ex : Exa Z h0 a "java/lang/String") (Fv : Fld Z h0 a "java/lang/String" "value" "[B" .null) (Fc : Fld Z h0 a "java/lang/String" "coder" "B" (.int 0)) (hN : cs.length ≤ 16384) (h1 : 0 < cs.length) (hcs : ∀ c ∈ cs, ¬ c < 0 ∧ ¬ (65535 : Int32) < c) (hab : a ≠ b) (Vb : Arv Z h0 b kb .char (Int32.ofNat cs.length) (cs.map Value.int) (.int 0)) :
    Rm l (⟨"java/lang/String", "<init>", "([CIILjava/lang/Void;)V"⟩ : MethodName) jdk_42_method_149_code 6 none ({ frames := 4, cells := 2, slots := 49152, locals := 57 } : Room) [] Z #[(.ref a), (.ref b), (.int 0), (.int (Int32.ofNat cs.length)), .null] h0 (fun v h L => v = none ∧ Fr n0 L ∧ Keep h0 h [a] ∧ StU Z h a cs) := by
  refine Rm.of (plainFor_of_name pn_java_lang_String) ?_
  intro p e s m below meth cod T X hx hZ hby hml hown hnm hret hlk eT0
  have hown : s.vm.findClass "java/lang/String" = some m.cls := hown
  have hnm : meth.name = "<init>" := hnm
  have N0 := Fr.nil n0
  have Kp := Keep.refl h0 [a]
  refine Goes.cast (ef_5n4 m a b (0 : Int32) (Int32.ofNat cs.length)) ?_
  show Goes p e below _ T (mkF m 0 #[.val (.ref a), .val (.ref b), .val (.int 0), .val (.int (Int32.ofNat cs.length)), .val .null, .unset] [])
  refine Goes.of (fun _ => XS.aloadN X.here hx rfl (hb hby d5_0) rfl rfl) ?_
  show Goes p e below _ T (mkF m 1 #[.val (.ref a), .val (.ref b), .val (.int 0), .val (.int (Int32.ofNat cs.length)), .val .null, .unset] [(.ref a)])
  refine goInitO 0 X hx hZ hown (hw _ (List.mem_of_getElem? (i := 24) rfl)) (hw _ (List.mem_of_getElem? (i := 25) rfl)) (hw _ (List.mem_of_getElem? (i := 26) rfl)) eT0 (g := (mkF m 1 #[.val (.ref a), .val (.ref b), .val (.int 0), .val (.int (Int32.ofNat cs.length)), .val .null, .unset] [(.ref a)])) rfl (by rw [hml]; rfl) rfl (hb hby d5_1) (by decide) (by show 2 * 0 + _ ≤ _; exact Nat.le_of_eq rfl) (by decide) ?_
  intro T1 X1 eT1
  show Goes p e below _ T1 (mkF m 4 #[.val (.ref a), .val (.ref b), .val (.int 0), .val (.int (Int32.ofNat cs.length)), .val .null, .unset] [])
  refine Goes.of (fun _ => XS.iloadN X1.here hx rfl (hb hby d5_4) rfl) ?_
  show Goes p e below _ T1 (mkF m 5 #[.val (.ref a), .val (.ref b), .val (.int 0), .val (.int (Int32.ofNat cs.length)), .val .null, .unset] [(.int (Int32.ofNat cs.length))])
  refine Goes.of (fun _ => XS.ifYes X1.here hx rfl (pc0 := 5) (pc' := 27) rfl (hb hby d5_5) rfl ((if0 _ _).trans (feq (on_ne0 h1 (by omega))).2) (by decide) (by decide)) ?_
  show Goes p e below _ T1 (mkF m 27 #[.val (.ref a), .val (.ref b), .val (.int 0), .val (.int (Int32.ofNat cs.length)), .val .null, .unset] [])
  refine goGetS X1 hx hZ hown (host := "") (Or.inl (hw _ (List.mem_of_getElem? (i := 54) rfl))) Via.refl eT1 (Sc.ext O0.2) (g := (mkF m 27 #[.val (.ref a), .val (.ref b), .val (.int 0), .val (.int (Int32.ofNat cs.length)), .val .null, .unset] [])) rfl (hb hby d5_27) ?_
  intro T2 X2 eT2
  show Goes p e below _ T2 (mkF m 30 #[.val (.ref a), .val (.ref b), .val (.int 0), .val (.int (Int32.ofNat cs.length)), .val .null, .unset] [(.int cz)])
  refine Goes.of (fun _ => XS.ifNo X2.here hx rfl (hb hby d5_30) rfl ((if0 _ _).trans (feq hcz).1)) ?_
  show Goes p e below _ T2 (mkF m 33 #[.val (.ref a), .val (.ref b), .val (.int 0), .val (.int (Int32.ofNat cs.length)), .val .null, .unset] [])
  refine Goes.of (fun _ => XS.aloadN X2.here hx rfl (hb hby d5_33) rfl rfl) ?_
  show Goes p e below _ T2 (mkF m 34 #[.val (.ref a), .val (.ref b), .val (.int 0), .val (.int (Int32.ofNat cs.length)), .val .null, .unset] [(.ref b)])
  refine Goes.of (fun _ => XS.iloadN X2.here hx rfl (hb hby d5_34) rfl) ?_
  show Goes p e below _ T2 (mkF m 35 #[.val (.ref a), .val (.ref b), .val (.int 0), .val (.int (Int32.ofNat cs.length)), .val .null, .unset] [(.int 0), (.ref b)])
  refine Goes.of (fun _ => XS.iloadN X2.here hx rfl (hb hby d5_35) rfl) ?_
  show Goes p e below _ T2 (mkF m 36 #[.val (.ref a), .val (.ref b), .val (.int 0), .val (.int (Int32.ofNat cs.length)), .val .null, .unset] [(.int (Int32.ofNat cs.length)), (.int 0), (.ref b)])
  refine goStatic 0 X2 hx hZ hown (hw _ (List.mem_of_getElem? (i := 63) rfl)) (hw _ (List.mem_of_getElem? (i := 64) rfl)) (hw _ (List.mem_of_getElem? (i := 65) rfl)) (hw _ (List.mem_of_getElem? (i := 66) rfl)) (by decide) (rm_comp3 l Z a0 hw b _ cs h0 n0 O0 Sa Sh Sl hN hcs Vb) eT2 (g := (mkF m 36 #[.val (.ref a), .val (.ref b), .val (.int 0), .val (.int (Int32.ofNat cs.length)), .val .null, .unset] [(.int (Int32.ofNat cs.length)), (.int 0), (.ref b)])) rfl (by rw [hml]; rfl) [(.ref b), (.int 0), (.int (Int32.ofNat cs.length))] [] (lenOf pd___CII__B rfl) rfl rfl (by show 2 * 0 + _ ≤ _; exact Nat.le_of_eq rfl) (hb hby d5_36) (by decide) (by decide) (by decide) (by decide) ?_
  intro v3 T3 L3 X3 q3
  obtain ⟨tb3, kt3, rfl, Nq3, Kq3, gq3, sq3, hor3⟩ := q3
  have N3 := Fr.app N0 Nq3
  have g_tb3 : n0 ≤ tb3 := gq3
  have sz_tb3 : h0.size ≤ tb3 := Nat.le_trans Kp.1 sq3
  have ne_a_tb3 : a ≠ tb3 := Nat.ne_of_lt (Nat.lt_of_lt_of_le Ex.lt sq3)
  have ne_b_tb3 : b ≠ tb3 := Nat.ne_of_lt (Nat.lt_of_lt_of_le Vb.lt sq3)
  have Ex := Ex.keep Kq3
  have Fv := Fv.keep Kq3 nin0
  have Fc := Fc.keep Kq3 nin0
  have Vb := Vb.keep Kq3 nin0
  have Kp := Kp.trans Kq3 all0
  have O0 := O0.keep Kq3 all0
  rcases hor3 with ⟨hlat, Vt3⟩ | Vt3
  · show Goes p e below _ T3 (mkF m 39 #[.val (.ref a), .val (.ref b), .val (.int 0), .val (.int (Int32.ofNat cs.length)), .val .null, .unset] [(.ref tb3)])
    refine Goes.of (fun _ => XS.astore X3.here hx rfl (hb hby d5_39) rfl rfl (l' := #[.val (.ref a), .val (.ref b), .val (.int 0), .val (.int (Int32.ofNat cs.length)), .val .null, .val (.ref tb3)]) rfl) ?_
    show Goes p e below _ T3 (mkF m 41 #[.val (.ref a), .val (.ref b), .val (.int 0), .val (.int (Int32.ofNat cs.length)), .val .null, .val (.ref tb3)] [])
    refine Goes.of (fun _ => XS.aloadN X3.here hx rfl (hb hby d5_41) rfl rfl) ?_
    show Goes p e below _ T3 (mkF m 42 #[.val (.ref a), .val (.ref b), .val (.int 0), .val (.int (Int32.ofNat cs.length)), .val .null, .val (.ref tb3)] [(.ref a)])
    refine Goes.of (fun _ => XS.aload X3.here hx rfl (hb hby d5_42) rfl rfl) ?_
    show Goes p e below _ T3 (mkF m 44 #[.val (.ref a), .val (.ref b), .val (.int 0), .val (.int (Int32.ofNat cs.length)), .val .null, .val (.ref tb3)] [(.ref tb3), (.ref a)])
    refine Goes.of (fun _ => XS.iloadN X3.here hx rfl (hb hby d5_44) rfl) ?_
    show Goes p e below _ T3 (mkF m 45 #[.val (.ref a), .val (.ref b), .val (.int 0), .val (.int (Int32.ofNat cs.length)), .val .null, .val (.ref tb3)] [(.int (Int32.ofNat cs.length)), (.ref tb3), (.ref a)])
    refine goStatic 1 X3 hx hZ hown (hw _ (List.mem_of_getElem? (i := 89) rfl)) (hw _ (List.mem_of_getElem? (i := 90) rfl)) (hw _ (List.mem_of_getElem? (i := 65) rfl)) (hw _ (List.mem_of_getElem? (i := 91) rfl)) (by decide) (rm_cod_lat l Z a0 hw tb3 _ cs _ T3.heap n0 O0 hN h1 Vt3) (rfl : T3.heap = _) (g := (mkF m 45 #[.val (.ref a), .val (.ref b), .val (.int 0), .val (.int (Int32.ofNat cs.length)), .val .null, .val (.ref tb3)] [(.int (Int32.ofNat cs.length)), (.ref tb3), (.ref a)])) rfl (by rw [hml]; rfl) [(.ref tb3), (.int (Int32.ofNat cs.length))] [(.ref a)] (lenOf pd___BI_B rfl) rfl rfl (by show 2 * 0 + _ ≤ _; exact Nat.le_of_eq rfl) (hb hby d5_45) (by decide) (by decide) (by decide) (by decide) ?_
    intro v4 T4 L4 X4 q4
    obtain ⟨rfl, Nq4, eT4⟩ := q4
    have N4 := Fr.app N3 Nq4
    show Goes p e below _ T4 (mkF m 48 #[.val (.ref a), .val (.ref b), .val (.int 0), .val (.int (Int32.ofNat cs.length)), .val .null, .val (.ref tb3)] [(.int 0), (.ref a)])
    refine goPut (ty := .byte) X4 hx hZ hown (host := "") (Or.inl (hw _ (List.mem_of_getElem? (i := 34) rfl))) Via.refl eT4 Fc Ex (Or.inr ⟨(hw _ (List.mem_of_getElem? (i := 30) rfl)), rfl, hnm⟩) (hw _ (List.mem_of_getElem? (i := 15) rfl)) (by decide) rfl rfl (g := (mkF m 48 #[.val (.ref a), .val (.ref b), .val (.int 0), .val (.int (Int32.ofNat cs.length)), .val .null, .val (.ref tb3)] [(.int 0), (.ref a)])) rfl rfl (hb hby d5_48) ?_
    intro T5 h5 X5 eT5 W5
    have Fc := Fld.same W5 Fc
    have N5 := Fr.snoc X5 N4 g_a
    have Ex := Ex.wr W5
    have Fv := Fv.other W5 (Or.inr (slot_ne (Or.inr (hw _ (List.mem_of_getElem? (i := 29) rfl))) (Or.inr (hw _ (List.mem_of_getElem? (i := 30) rfl))) (by decide) (t := (.array .byte)) (t' := .byte) (by decide) (by decide)))
    have Vb := Vb.other W5 (Ne.symm hab)
    have Vt3 := Vt3.other W5 (Ne.symm ne_a_tb3)
    have Kp := Kp.wr W5 (Or.inl (List.mem_of_getElem? (i := 0) rfl))
    have O0 := O0.wr W5 g_a
    show Goes p e below _ T5 (mkF m 51 #[.val (.ref a), .val (.ref b), .val (.int 0), .val (.int (Int32.ofNat cs.length)), .val .null, .val (.ref tb3)] [])
    refine Goes.of (fun _ => XS.aloadN X5.here hx rfl (hb hby d5_51) rfl rfl) ?_
    show Goes p e below _ T5 (mkF m 52 #[.val (.ref a), .val (.ref b), .val (.int 0), .val (.int (Int32.ofNat cs.length)), .val .null, .val (.ref tb3)] [(.ref a)])
    refine Goes.of (fun _ => XS.aload X5.here hx rfl (hb hby d5_52) rfl rfl) ?_
    show Goes p e below _ T5 (mkF m 54 #[.val (.ref a), .val (.ref b), .val (.int 0), .val (.int (Int32.ofNat cs.length)), .val .null, .val (.ref tb3)] [(.ref tb3), (.ref a)])
    refine goPut (ty := (.array .byte)) X5 hx hZ hown (host := "") (Or.inl (hw _ (List.mem_of_getElem? (i := 33) rfl))) Via.refl eT5 Fv Ex (Or.inr ⟨(hw _ (List.mem_of_getElem? (i := 29) rfl)), rfl, hnm⟩) (hw _ (List.mem_of_getElem? (i := 15) rfl)) (by decide) rfl rfl (g := (mkF m 54 #[.val (.ref a), .val (.ref b), .val (.int 0), .val (.int (Int32.ofNat cs.length)), .val .null, .val (.ref tb3)] [(.ref tb3), (.ref a)])) rfl rfl (hb hby d5_54) ?_
    intro T6 h6 X6 eT6 W6
    have Fv := Fld.same W6 Fv
    have N6 := Fr.snoc X6 N5 g_a
    have Ex := Ex.wr W6
    have Fc := Fc.other W6 (Or.inr (slot_ne (Or.inr (hw _ (List.mem_of_getElem? (i := 30) rfl))) (Or.inr (hw _ (List.mem_of_getElem? (i := 29) rfl))) (by decide) (t := .byte) (t' := (.array .byte)) (by decide) (by decide)))
    have Vb := Vb.other W6 (Ne.symm hab)
    have Vt3 := Vt3.other W6 (Ne.symm ne_a_tb3)
    have Kp := Kp.wr W6 (Or.inl (List.mem_of_getElem? (i := 0) rfl))
    have O0 := O0.wr W6 g_a
    show Goes p e below _ T6 (mkF m 57 #[.val (.ref a), .val (.ref b), .val (.int 0), .val (.int (Int32.ofNat cs.length)), .val .null, .val (.ref tb3)] [])
    exact retVoid X6 hx hret hlk (hb hby d5_57) eT6 (by decide) (by decide) ⟨rfl, N6, Kp, Ex, tb3, _, Fv, Or.inl ⟨Fc, hlat, Vt3⟩⟩
  · show Goes p e below _ T3 (mkF m 39 #[.val (.ref a), .val (.ref b), .val (.int 0), .val (.int (Int32.ofNat cs.length)), .val .null, .unset] [(.ref tb3)])
    refine Goes.of (fun _ => XS.astore X3.here hx rfl (hb hby d5_39) rfl rfl (l' := #[.val (.ref a), .val (.ref b), .val (.int 0), .val (.int (Int32.ofNat cs.length)), .val .null, .val (.ref tb3)]) rfl) ?_
    show Goes p e below _ T3 (mkF m 41 #[.val (.ref a), .val (.ref b), .val (.int 0), .val (.int (Int32.ofNat cs.length)), .val .null, .val (.ref tb3)] [])
    refine Goes.of (fun _ => XS.aloadN X3.here hx rfl (hb hby d5_41) rfl rfl) ?_
    show Goes p e below _ T3 (mkF m 42 #[.val (.ref a), .val (.ref b), .val (.int 0), .val (.int (Int32.ofNat cs.length)), .val .null, .val (.ref tb3)] [(.ref a)])
    refine Goes.of (fun _ => XS.aload X3.here hx rfl (hb hby d5_42) rfl rfl) ?_
    show Goes p e below _ T3 (mkF m 44 #[.val (.ref a), .val (.ref b), .val (.int 0), .val (.int (Int32.ofNat cs.length)), .val .null, .val (.ref tb3)] [(.ref tb3), (.ref a)])
    refine Goes.of (fun _ => XS.iloadN X3.here hx rfl (hb hby d5_44) rfl) ?_
    show Goes p e below _ T3 (mkF m 45 #[.val (.ref a), .val (.ref b), .val (.int 0), .val (.int (Int32.ofNat cs.length)), .val .null, .val (.ref tb3)] [(.int (Int32.ofNat cs.length)), (.ref tb3), (.ref a)])
    refine goStatic 1 X3 hx hZ hown (hw _ (List.mem_of_getElem? (i := 89) rfl)) (hw _ (List.mem_of_getElem? (i := 90) rfl)) (hw _ (List.mem_of_getElem? (i := 65) rfl)) (hw _ (List.mem_of_getElem? (i := 91) rfl)) (by decide) (rm_cod_utf l Z a0 hw tb3 _ cs _ T3.heap n0 O0 hN h1 Vt3) (rfl : T3.heap = _) (g := (mkF m 45 #[.val (.ref a), .val (.ref b), .val (.int 0), .val (.int (Int32.ofNat cs.length)), .val .null, .val (.ref tb3)] [(.int (Int32.ofNat cs.length)), (.ref tb3), (.ref a)])) rfl (by rw [hml]; rfl) [(.ref tb3), (.int (Int32.ofNat cs.length))] [(.ref a)] (lenOf pd___BI_B rfl) rfl rfl (by show 2 * 0 + _ ≤ _; exact Nat.le_of_eq rfl) (hb hby d5_45) (by decide) (by decide) (by decide) (by decide) ?_
    intro v7 T7 L7 X7 q7
    obtain ⟨rfl, Nq7, eT7⟩ := q7
    have N7 := Fr.app N3 Nq7
    show Goes p e below _ T7 (mkF m 48 #[.val (.ref a), .val (.ref b), .val (.int 0), .val (.int (Int32.ofNat cs.length)), .val .null, .val (.ref tb3)] [(.int 1), (.ref a)])
    refine goPut (ty := .byte) X7 hx hZ hown (host := "") (Or.inl (hw _ (List.mem_of_getElem? (i := 34) rfl))) Via.refl eT7 Fc Ex (Or.inr ⟨(hw _ (List.mem_of_getElem? (i := 30) rfl)), rfl, hnm⟩) (hw _ (List.mem_of_getElem? (i := 15) rfl)) (by decide) rfl rfl (g := (mkF m 48 #[.val (.ref a), .val (.ref b), .val (.int 0), .val (.int (Int32.ofNat cs.length)), .val .null, .val (.ref tb3)] [(.int 1), (.ref a)])) rfl rfl (hb hby d5_48) ?_
    intro T8 h8 X8 eT8 W8
    have Fc := Fld.same W8 Fc
    have N8 := Fr.snoc X8 N7 g_a
    have Ex := Ex.wr W8
    have Fv := Fv.other W8 (Or.inr (slot_ne (Or.inr (hw _ (List.mem_of_getElem? (i := 29) rfl))) (Or.inr (hw _ (List.mem_of_getElem? (i := 30) rfl))) (by decide) (t := (.array .byte)) (t' := .byte) (by decide) (by decide)))
    have Vb := Vb.other W8 (Ne.symm hab)
    have Vt3 := Vt3.other W8 (Ne.symm ne_a_tb3)
    have Kp := Kp.wr W8 (Or.inl (List.mem_of_getElem? (i := 0) rfl))
    have O0 := O0.wr W8 g_a
    show Goes p e below _ T8 (mkF m 51 #[.val (.ref a), .val (.ref b), .val (.int 0), .val (.int (Int32.ofNat cs.length)), .val .null, .val (.ref tb3)] [])
    refine Goes.of (fun _ => XS.aloadN X8.here hx rfl (hb hby d5_51) rfl rfl) ?_
    show Goes p e below _ T8 (mkF m 52 #[.val (.ref a), .val (.ref b), .val (.int 0), .val (.int (Int32.ofNat cs.length)), .val .null, .val (.ref tb3)] [(.ref a)])
    refine Goes.of (fun _ => XS.aload X8.here hx rfl (hb hby d5_52) rfl rfl) ?_
    show Goes p e below _ T8 (mkF m 54 #[.val (.ref a), .val (.ref b), .val (.int 0), .val (.int (Int32.ofNat cs.length)), .val .null, .val (.ref tb3)] [(.ref tb3), (.ref a)])
    refine goPut (ty := (.array .byte)) X8 hx hZ hown (host := "") (Or.inl (hw _ (List.mem_of_getElem? (i := 33) rfl))) Via.refl eT8 Fv Ex (Or.inr ⟨(hw _ (List.mem_of_getElem? (i := 29) rfl)), rfl, hnm⟩) (hw _ (List.mem_of_getElem? (i := 15) rfl)) (by decide) rfl rfl (g := (mkF m 54 #[.val (.ref a), .val (.ref b), .val (.int 0), .val (.int (Int32.ofNat cs.length)), .val .null, .val (.ref tb3)] [(.ref tb3), (.ref a)])) rfl rfl (hb hby d5_54) ?_
    intro T9 h9 X9 eT9 W9
    have Fv := Fld.same W9 Fv
    have N9 := Fr.snoc X9 N8 g_a
    have Ex := Ex.wr W9
    have Fc := Fc.other W9 (Or.inr (slot_ne (Or.inr (hw _ (List.mem_of_getElem? (i := 30) rfl))) (Or.inr (hw _ (List.mem_of_getElem? (i := 29) rfl))) (by decide) (t := .byte) (t' := (.array .byte)) (by decide) (by decide)))
    have Vb := Vb.other W9 (Ne.symm hab)
    have Vt3 := Vt3.other W9 (Ne.symm ne_a_tb3)
    have Kp := Kp.wr W9 (Or.inl (List.mem_of_getElem? (i := 0) rfl))
    have O0 := O0.wr W9 g_a
    show Goes p e below _ T9 (mkF m 57 #[.val (.ref a), .val (.ref b), .val (.int 0), .val (.int (Int32.ofNat cs.length)), .val .null, .val (.ref tb3)] [])
    exact retVoid X9 hx hret hlk (hb hby d5_57) eT9 (by decide) (by decide) ⟨rfl, N9, Kp, Ex, tb3, _, Fv, Or.inr ⟨h1, Fc, Vt3⟩⟩
set_option maxRecDepth 65536 in
set_option maxHeartbeats 40000000 in
theorem rm_sin1 (l : Launch) (Z : State) (a0 : Array Value) (hw : ∀ d ∈ tables_1, d.before a0 Z = true) (a b : Addr) (kb : ClassId) (cs : List Int32) (cz : Int32) (h0 : Heap) (n0 : Nat) (O0 : Old Z n0 h0) (Sa : Sta Z Z.heap "java/lang/StringUTF16" "$assertionsDisabled" "Z" (.int 1)) (Sh : Sta Z Z.heap "java/lang/StringUTF16" "HI_BYTE_SHIFT" "I" (.int 0)) (Sl : Sta Z Z.heap "java/lang/StringUTF16" "LO_BYTE_SHIFT" "I" (.int 8)) (Sc : Sta Z Z.heap "java/lang/String" "COMPACT_STRINGS" "Z" (.int cz)) (hcz : ¬ cz = 0) (g_a : n0 ≤ a) (Ex : Exa Z h0 a "java/lang/String") (Fv : Fld Z h0 a "java/lang/String" "value" "[B" .null) (Fc : Fld Z h0 a "java/lang/String" "coder" "B" (.int 0)) (hN : cs.length ≤ 16384) (h1 : 0 < cs.length) (hcs : ∀ c ∈ cs, ¬ c < 0 ∧ ¬ (65535 : Int32) < c) (hab : a ≠ b) (Vb : Arv Z h0 b kb .char (Int32.ofNat cs.length) (cs.map Value.int) (.int 0)) :
    Rm l (⟨"java/lang/String", "<init>", "([C)V"⟩ : MethodName) jdk_42_method_3_code 2 none ({ frames := 5, cells := 2, slots := 49152, locals := 74 } : Room) [] Z #[(.ref a), (.ref b)] h0 (fun v h L => v = none ∧ Fr n0 L ∧ Keep h0 h [a] ∧ StU Z h a cs) := by
  refine Rm.of (plainFor_of_name pn_java_lang_String) ?_
  intro p e s m below meth cod T X hx hZ hby hml hown hnm hret hlk eT0
  have hown : s.vm.findClass "java/lang/String" = some m.cls := hown
  have hnm : meth.name = "<init>" := hnm
  have N0 := Fr.nil n0
  have Kp := Keep.refl h0 [a]
  refine Goes.cast (ef_4 m a b) ?_
  show Goes p e below _ T (mkF m 0 #[.val (.ref a), .val (.ref b)] [])
  refine Goes.of (fun _ => XS.aloadN X.here hx rfl (hb hby d4_0) rfl rfl) ?_
  show Goes p e below _ T (mkF m 1 #[.val (.ref a), .val (.ref b)] [(.ref a)])
  refine Goes.of (fun _ => XS.aloadN X.here hx rfl (hb hby d4_1) rfl rfl) ?_
  show Goes p e below _ T (mkF m 2 #[.val (.ref a), .val (.ref b)] [(.ref b), (.ref a)])
  refine Goes.of (fun _ => XS.iconst X.here hx rfl (hb hby d4_2)) ?_
  show Goes p e below _ T (mkF m 3 #[.val (.ref a), .val (.ref b)] [(.int 0), (.ref b), (.ref a)])
  refine Goes.of (fun _ => XS.aloadN X.here hx rfl (hb hby d4_3) rfl rfl) ?_
  show Goes p e below _ T (mkF m 4 #[.val (.ref a), .val (.ref b)] [(.ref b), (.int 0), (.ref b), (.ref a)])
  refine goLen X hx hZ eT0 Vb (g := (mkF m 4 #[.val (.ref a), .val (.ref b)] [(.ref b), (.int 0), (.ref b), (.ref a)])) rfl rfl (hb hby d4_4) ?_
  show Goes p e below _ T (mkF m 5 #[.val (.ref a), .val (.ref b)] [(.int (Int32.ofNat cs.length)), (.int 0), (.ref b), (.ref a)])
  refine Goes.of (fun _ => XS.aconstNull X.here hx rfl (hb hby d4_5)) ?_
  show Goes p e below _ T (mkF m 6 #[.val (.ref a), .val (.ref b)] [.null, (.int (Int32.ofNat cs.length)), (.int 0), (.ref b), (.ref a)])
  refine goSpecial 0 X hx hZ rfl hown (hw _ (List.mem_of_getElem? (i := 20) rfl)) (hw _ (List.mem_of_getElem? (i := 21) rfl)) (hw _ (List.mem_of_getElem? (i := 16) rfl)) (hw _ (List.mem_of_getElem? (i := 23) rfl)) (by decide) (rm_sin4 l Z a0 hw a b _ cs cz h0 n0 O0 Sa Sh Sl Sc hcz g_a Ex Fv Fc hN h1 hcs hab Vb) eT0 (g := (mkF m 6 #[.val (.ref a), .val (.ref b)] [.null, (.int (Int32.ofNat cs.length)), (.int 0), (.ref b), (.ref a)])) rfl (by rw [hml]; rfl) a [(.ref b), (.int 0), (.int (Int32.ofNat cs.length)), .null] [] (lenOf pd___CIILjava_lang_Void__V rfl) rfl rfl (by show 2 * 0 + _ ≤ _; exact Nat.le_of_eq rfl) (hb hby d4_6) (by decide) (by decide) (by decide) (by decide) ?_
  intro v2 T2 L2 X2 q2
  obtain ⟨rfl, Nq2, Kq2, Su2⟩ := q2
  have N2 := Fr.app N0 Nq2
  have Ex := Ex.keep Kq2
  have Vb := Vb.keep Kq2 (ninS (Ne.symm hab) nin0)
  have Kp := Kp.trans Kq2 (allS (Or.inl (List.mem_of_getElem? (i := 0) rfl)) all0)
  have O0 := O0.keep Kq2 (allS g_a all0)
  show Goes p e below _ T2 (mkF m 9 #[.val (.ref a), .val (.ref b)] [])
  exact retVoid X2 hx hret hlk (hb hby d4_9) (rfl : T2.heap = _) (by decide) (by decide) ⟨rfl, N2, Kp, Su2⟩
set_option maxRecDepth 65536 in
set_option maxHeartbeats 40000000 in
theorem rm_codm_lat (l : Launch) (Z : State) (a0 : Array Value) (hw : ∀ d ∈ tables_1, d.before a0 Z = true) (a t : Addr) (kb : ClassId) (cs : List Int32) (cz : Int32) (h0 : Heap) (n0 : Nat) (O0 : Old Z n0 h0) (Sc : Sta Z Z.heap "java/lang/String" "COMPACT_STRINGS" "Z" (.int cz)) (hcz : ¬ cz = 0) (hN : cs.length ≤ 16384) (Ex : Exa Z h0 a "java/lang/String") (Fv : Fld Z h0 a "java/lang/String" "value" "[B" (.ref t)) (Fc : Fld Z h0 a "java/lang/String" "coder" "B" (.int 0)) (Vt : Arv Z h0 t kb .byte (Int32.ofNat cs.length) (cs.map bv) (.int 0)) :
    Rm l (⟨"java/lang/String", "coder", "()B"⟩ : MethodName) jdk_42_method_152_code 1 (some .byte) ({ frames := 0, cells := 0, slots := 0, locals := 0 } : Room) [] Z #[(.ref a)] h0 (fun v h L => v = some (.int 0) ∧ Fr n0 L ∧ h = h0) := by
  refine Rm.of (plainFor_of_name pn_java_lang_String) ?_
  intro p e s m below meth cod T X hx hZ hby hml hown hnm hret hlk eT0
  have hown : s.vm.findClass "java/lang/String" = some m.cls := hown
  have hnm : meth.name = "coder" := hnm
  have N0 := Fr.nil n0
  refine Goes.cast (ef_10 m a) ?_
  show Goes p e below _ T (mkF m 0 #[.val (.ref a)] [])
  refine goGetS X hx hZ hown (host := "") (Or.inl (hw _ (List.mem_of_getElem? (i := 54) rfl))) Via.refl eT0 (Sc.ext O0.2) (g := (mkF m 0 #[.val (.ref a)] [])) rfl (hb hby d10_0) ?_
  intro T1 X1 eT1
  show Goes p e below _ T1 (mkF m 3 #[.val (.ref a)] [(.int cz)])
  refine Goes.of (fun _ => XS.ifNo X1.here hx rfl (hb hby d10_3) rfl ((if0 _ _).trans (feq hcz).1)) ?_
  show Goes p e below _ T1 (mkF m 6 #[.val (.ref a)] [])
  refine Goes.of (fun _ => XS.aloadN X1.here hx rfl (hb hby d10_6) rfl rfl) ?_
  show Goes p e below _ T1 (mkF m 7 #[.val (.ref a)] [(.ref a)])
  refine goGet X1 hx hZ hown (host := "") (Or.inl (hw _ (List.mem_of_getElem? (i := 34) rfl))) Via.refl eT1 Fc (g := (mkF m 7 #[.val (.ref a)] [(.ref a)])) rfl rfl (hb hby d10_7) ?_
  intro T2 X2 eT2
  show Goes p e below _ T2 (mkF m 10 #[.val (.ref a)] [(.int 0)])
  refine Goes.of (fun _ => XS.goto X2.here hx rfl (pc0 := 10) (pc' := 14) rfl (hb hby d10_10) (by decide) (by decide)) ?_
  show Goes p e below _ T2 (mkF m 14 #[.val (.ref a)] [(.int 0)])
  exact retZ (t := .byte) X2 hx hret hlk (by simp) (hb hby d10_14) eT2 (by decide) (by decide) ⟨rfl, N0, rfl⟩
set_option maxRecDepth 65536 in
set_option maxHeartbeats 40000000 in
theorem rm_len_lat (l : Launch) (Z : State) (a0 : Array Value) (hw : ∀ d ∈ tables_1, d.before a0 Z = true) (a t : Addr) (kb : ClassId) (cs : List Int32) (cz : Int32) (h0 : Heap) (n0 : Nat) (O0 : Old Z n0 h0) (Sc : Sta Z Z.heap "java/lang/String" "COMPACT_STRINGS" "Z" (.int cz)) (hcz : ¬ cz = 0) (hN : cs.length ≤ 16384) (Ex : Exa Z h0 a "java/lang/String") (Fv : Fld Z h0 a "java/lang/String" "value" "[B" (.ref t)) (Fc : Fld Z h0 a "java/lang/String" "coder" "B" (.int 0)) (Vt : Arv Z h0 t kb .byte (Int32.ofNat cs.length) (cs.map bv) (.int 0)) :
    Rm l (⟨"java/lang/String", "length", "()I"⟩ : MethodName) jdk_42_method_54_code 1 (some .int) ({ frames := 1, cells := 0, slots := 0, locals := 13 } : Room) [] Z #[(.ref a)] h0 (fun v h L => v = some (.int (Int32.ofNat cs.length)) ∧ Fr n0 L ∧ h = h0) := by
  refine Rm.of (plainFor_of_name pn_java_lang_String) ?_
  intro p e s m below meth cod T X hx hZ hby hml hown hnm hret hlk eT0
  have hown : s.vm.findClass "java/lang/String" = some m.cls := hown
  have hnm : meth.name = "length" := hnm
  have N0 := Fr.nil n0
  refine Goes.cast (ef_9 m a) ?_
  show Goes p e below _ T (mkF m 0 #[.val (.ref a)] [])
  refine Goes.of (fun _ => XS.aloadN X.here hx rfl (hb hby d9_0) rfl rfl) ?_
  show Goes p e below _ T (mkF m 1 #[.val (.ref a)] [(.ref a)])
  refine goGet X hx hZ hown (host := "") (Or.inl (hw _ (List.mem_of_getElem? (i := 33) rfl))) Via.refl eT0 Fv (g := (mkF m 1 #[.val (.ref a)] [(.ref a)])) rfl rfl (hb hby d9_1) ?_
  intro T1 X1 eT1
  show Goes p e below _ T1 (mkF m 4 #[.val (.ref a)] [(.ref t)])
  refine goLen X1 hx hZ eT1 Vt (g := (mkF m 4 #[.val (.ref a)] [(.ref t)])) rfl rfl (hb hby d9_4) ?_
  show Goes p e below _ T1 (mkF m 5 #[.val (.ref a)] [(.int (Int32.ofNat cs.length))])
  refine Goes.of (fun _ => XS.aloadN X1.here hx rfl (hb hby d9_5) rfl rfl) ?_
  show Goes p e below _ T1 (mkF m 6 #[.val (.ref a)] [(.ref a), (.int (Int32.ofNat cs.length))])
  refine goVirtual 1 X1 hx hZ hown (hw _ (List.mem_of_getElem? (i := 49) rfl)) (hw _ (List.mem_of_getElem? (i := 50) rfl)) (notFace_of_selects (args := #[]) (mvT hZ (hw _ (List.mem_of_getElem? (i := 52) rfl)))) (hw _ (List.mem_of_getElem? (i := 52) rfl)) (hw _ (List.mem_of_getElem? (i := 51) rfl)) (hw _ (List.mem_of_getElem? (i := 16) rfl)) (hw _ (List.mem_of_getElem? (i := 53) rfl)) (by decide) (rm_codm_lat l Z a0 hw a t _ cs cz h0 n0 O0 Sc hcz hN Ex Fv Fc Vt) eT1 Ex (g := (mkF m 6 #[.val (.ref a)] [(.ref a), (.int (Int32.ofNat cs.length))])) rfl (by rw [hml]; rfl) [] [(.int (Int32.ofNat cs.length))] (lenOf pd___B rfl) rfl rfl (by show 2 * 0 + _ ≤ _; exact Nat.le_of_eq rfl) (hb hby d9_6) (by decide) (by decide) (by decide) (by decide) ?_
  intro v3 T3 L3 X3 q3
  obtain ⟨rfl, Nq3, eT3⟩ := q3
  have N3 := Fr.app N0 Nq3
  show Goes p e below _ T3 (mkF m 9 #[.val (.ref a)] [(.int 0), (.int (Int32.ofNat cs.length))])
  refine Goes.of (fun _ => XS.ishr X3.here hx rfl (hb hby d9_9) rfl) ?_
  show Goes p e below _ T3 (mkF m 10 #[.val (.ref a)] [(.int ((Int32.ofNat cs.length) >>> ((0 : Int32) &&& 31)))])
  exact retInt X3 hx hret hlk (hb hby d9_10) eT3 (by decide) (by decide) ⟨by rw [on_shr0], N3, rfl⟩
set_option maxRecDepth 65536 in
set_option maxHeartbeats 40000000 in
theorem rm_isl_lat (l : Launch) (Z : State) (a0 : Array Value) (hw : ∀ d ∈ tables_1, d.before a0 Z = true) (a t : Addr) (kb : ClassId) (cs : List Int32) (cz : Int32) (h0 : Heap) (n0 : Nat) (O0 : Old Z n0 h0) (Sc : Sta Z Z.heap "java/lang/String" "COMPACT_STRINGS" "Z" (.int cz)) (hcz : ¬ cz = 0) (hN : cs.length ≤ 16384) (Ex : Exa Z h0 a "java/lang/String") (Fv : Fld Z h0 a "java/lang/String" "value" "[B" (.ref t)) (Fc : Fld Z h0 a "java/lang/String" "coder" "B" (.int 0)) (Vt : Arv Z h0 t kb .byte (Int32.ofNat cs.length) (cs.map bv) (.int 0)) :
    Rm l (⟨"java/lang/String", "isLatin1", "()Z"⟩ : MethodName) jdk_42_method_154_code 1 (some .boolean) ({ frames := 0, cells := 0, slots := 0, locals := 0 } : Room) [] Z #[(.ref a)] h0 (fun v h L => v = some (.int 1) ∧ Fr n0 L ∧ h = h0) := by
  refine Rm.of (plainFor_of_name pn_java_lang_String) ?_
  intro p e s m below meth cod T X hx hZ hby hml hown hnm hret hlk eT0
  have hown : s.vm.findClass "java/lang/String" = some m.cls := hown
  have hnm : meth.name = "isLatin1" := hnm
  have N0 := Fr.nil n0
  refine Goes.cast (ef_22 m a) ?_
  show Goes p e below _ T (mkF m 0 #[.val (.ref a)] [])
  refine goGetS X hx hZ hown (host := "") (Or.inl (hw _ (List.mem_of_getElem? (i := 54) rfl))) Via.refl eT0 (Sc.ext O0.2) (g := (mkF m 0 #[.val (.ref a)] [])) rfl (hb hby d22_0) ?_
  intro T1 X1 eT1
  show Goes p e below _ T1 (mkF m 3 #[.val (.ref a)] [(.int cz)])
  refine Goes.of (fun _ => XS.ifNo X1.here hx rfl (hb hby d22_3) rfl ((if0 _ _).trans (feq hcz).1)) ?_
  show Goes p e below _ T1 (mkF m 6 #[.val (.ref a)] [])
  refine Goes.of (fun _ => XS.aloadN X1.here hx rfl (hb hby d22_6) rfl rfl) ?_
  show Goes p e below _ T1 (mkF m 7 #[.val (.ref a)] [(.ref a)])
  refine goGet X1 hx hZ hown (host := "") (Or.inl (hw _ (List.mem_of_getElem? (i := 34) rfl))) Via.refl eT1 Fc (g := (mkF m 7 #[.val (.ref a)] [(.ref a)])) rfl rfl (hb hby d22_7) ?_
  intro T2 X2 eT2
  show Goes p e below _ T2 (mkF m 10 #[.val (.ref a)] [(.int 0)])
  refine Goes.of (fun _ => XS.ifNo X2.here hx rfl (hb hby d22_10) rfl ((if0 _ _).trans (teq (by decide)).2)) ?_
  show Goes p e below _ T2 (mkF m 13 #[.val (.ref a)] [])
  refine Goes.of (fun _ => XS.iconst X2.here hx rfl (hb hby d22_13)) ?_
  show Goes p e below _ T2 (mkF m 14 #[.val (.ref a)] [(.int 1)])
  refine Goes.of (fun _ => XS.goto X2.here hx rfl (pc0 := 14) (pc' := 18) rfl (hb hby d22_14) (by decide) (by decide)) ?_
  show Goes p e below _ T2 (mkF m 18 #[.val (.ref a)] [(.int 1)])
  exact retZ (t := .boolean) X2 hx hret hlk (by simp) (hb hby d22_18) eT2 (by decide) (by decide) ⟨rfl, N0, rfl⟩
set_option maxRecDepth 65536 in
set_option maxHeartbeats 40000000 in
theorem rm_codm_utf (l : Launch) (Z : State) (a0 : Array Value) (hw : ∀ d ∈ tables_1, d.before a0 Z = true) (a t : Addr) (kb : ClassId) (cs : List Int32) (cz : Int32) (h0 : Heap) (n0 : Nat) (O0 : Old Z n0 h0) (Sc : Sta Z Z.heap "java/lang/String" "COMPACT_STRINGS" "Z" (.int cz)) (hcz : ¬ cz = 0) (hN : cs.length ≤ 16384) (Ex : Exa Z h0 a "java/lang/String") (Fv : Fld Z h0 a "java/lang/String" "value" "[B" (.ref t)) (Fc : Fld Z h0 a "java/lang/String" "coder" "B" (.int 1)) (Vt : Arv Z h0 t kb .byte (Int32.ofNat (2 * cs.length)) (cs.flatMap uf) (.int 0)) :
    Rm l (⟨"java/lang/String", "coder", "()B"⟩ : MethodName) jdk_42_method_152_code 1 (some .byte) ({ frames := 0, cells := 0, slots := 0, locals := 0 } : Room) [] Z #[(.ref a)] h0 (fun v h L => v = some (.int 1) ∧ Fr n0 L ∧ h = h0) := by
  refine Rm.of (plainFor_of_name pn_java_lang_String) ?_
  intro p e s m below meth cod T X hx hZ hby hml hown hnm hret hlk eT0
  have hown : s.vm.findClass "java/lang/String" = some m.cls := hown
  have hnm : meth.name = "coder" := hnm
  have N0 := Fr.nil n0
  refine Goes.cast (ef_10 m a) ?_
  show Goes p e below _ T (mkF m 0 #[.val (.ref a)] [])
  refine goGetS X hx hZ hown (host := "") (Or.inl (hw _ (List.mem_of_getElem? (i := 54) rfl))) Via.refl eT0 (Sc.ext O0.2) (g := (mkF m 0 #[.val (.ref a)] [])) rfl (hb hby d10_0) ?_
  intro T1 X1 eT1
  show Goes p e below _ T1 (mkF m 3 #[.val (.ref a)] [(.int cz)])
  refine Goes.of (fun _ => XS.ifNo X1.here hx rfl (hb hby d10_3) rfl ((if0 _ _).trans (feq hcz).1)) ?_
  show Goes p e below _ T1 (mkF m 6 #[.val (.ref a)] [])
  refine Goes.of (fun _ => XS.aloadN X1.here hx rfl (hb hby d10_6) rfl rfl) ?_
  show Goes p e below _ T1 (mkF m 7 #[.val (.ref a)] [(.ref a)])
  refine goGet X1 hx hZ hown (host := "") (Or.inl (hw _ (List.mem_of_getElem? (i := 34) rfl))) Via.refl eT1 Fc (g := (mkF m 7 #[.val (.ref a)] [(.ref a)])) rfl rfl (hb hby d10_7) ?_
  intro T2 X2 eT2
  show Goes p e below _ T2 (mkF m 10 #[.val (.ref a)] [(.int 1)])
  refine Goes.of (fun _ => XS.goto X2.here hx rfl (pc0 := 10) (pc' := 14) rfl (hb hby d10_10) (by decide) (by decide)) ?_
  show Goes p e below _ T2 (mkF m 14 #[.val (.ref a)] [(.int 1)])
  exact retZ (t := .byte) X2 hx hret hlk (by simp) (hb hby d10_14) eT2 (by decide) (by decide) ⟨rfl, N0, rfl⟩
set_option maxRecDepth 65536 in
set_option maxHeartbeats 40000000 in
theorem rm_len_utf (l : Launch) (Z : State) (a0 : Array Value) (hw : ∀ d ∈ tables_1, d.before a0 Z = true) (a t : Addr) (kb : ClassId) (cs : List Int32) (cz : Int32) (h0 : Heap) (n0 : Nat) (O0 : Old Z n0 h0) (Sc : Sta Z Z.heap "java/lang/String" "COMPACT_STRINGS" "Z" (.int cz)) (hcz : ¬ cz = 0) (hN : cs.length ≤ 16384) (Ex : Exa Z h0 a "java/lang/String") (Fv : Fld Z h0 a "java/lang/String" "value" "[B" (.ref t)) (Fc : Fld Z h0 a "java/lang/String" "coder" "B" (.int 1)) (Vt : Arv Z h0 t kb .byte (Int32.ofNat (2 * cs.length)) (cs.flatMap uf) (.int 0)) :
    Rm l (⟨"java/lang/String", "length", "()I"⟩ : MethodName) jdk_42_method_54_code 1 (some .int) ({ frames := 1, cells := 0, slots := 0, locals := 13 } : Room) [] Z #[(.ref a)] h0 (fun v h L => v = some (.int (Int32.ofNat cs.length)) ∧ Fr n0 L ∧ h = h0) := by
  refine Rm.of (plainFor_of_name pn_java_lang_String) ?_
  intro p e s m below meth cod T X hx hZ hby hml hown hnm hret hlk eT0
  have hown : s.vm.findClass "java/lang/String" = some m.cls := hown
  have hnm : meth.name = "length" := hnm
  have N0 := Fr.nil n0
  refine Goes.cast (ef_9 m a) ?_
  show Goes p e below _ T (mkF m 0 #[.val (.ref a)] [])
  refine Goes.of (fun _ => XS.aloadN X.here hx rfl (hb hby d9_0) rfl rfl) ?_
  show Goes p e below _ T (mkF m 1 #[.val (.ref a)] [(.ref a)])
  refine goGet X hx hZ hown (host := "") (Or.inl (hw _ (List.mem_of_getElem? (i := 33) rfl))) Via.refl eT0 Fv (g := (mkF m 1 #[.val (.ref a)] [(.ref a)])) rfl rfl (hb hby d9_1) ?_
  intro T1 X1 eT1
  show Goes p e below _ T1 (mkF m 4 #[.val (.ref a)] [(.ref t)])
  refine goLen X1 hx hZ eT1 Vt (g := (mkF m 4 #[.val (.ref a)] [(.ref t)])) rfl rfl (hb hby d9_4) ?_
  show Goes p e below _ T1 (mkF m 5 #[.val (.ref a)] [(.int (Int32.ofNat (2 * cs.length)))])
  refine Goes.of (fun _ => XS.aloadN X1.here hx rfl (hb hby d9_5) rfl rfl) ?_
  show Goes p e below _ T1 (mkF m 6 #[.val (.ref a)] [(.ref a), (.int (Int32.ofNat (2 * cs.length)))])
  refine goVirtual 1 X1 hx hZ hown (hw _ (List.mem_of_getElem? (i := 49) rfl)) (hw _ (List.mem_of_getElem? (i := 50) rfl)) (notFace_of_selects (args := #[]) (mvT hZ (hw _ (List.mem_of_getElem? (i := 52) rfl)))) (hw _ (List.mem_of_getElem? (i := 52) rfl)) (hw _ (List.mem_of_getElem? (i := 51) rfl)) (hw _ (List.mem_of_getElem? (i := 16) rfl)) (hw _ (List.mem_of_getElem? (i := 53) rfl)) (by decide) (rm_codm_utf l Z a0 hw a t _ cs cz h0 n0 O0 Sc hcz hN Ex Fv Fc Vt) eT1 Ex (g := (mkF m 6 #[.val (.ref a)] [(.ref a), (.int (Int32.ofNat (2 * cs.length)))])) rfl (by rw [hml]; rfl) [] [(.int (Int32.ofNat (2 * cs.length)))] (lenOf pd___B rfl) rfl rfl (by show 2 * 0 + _ ≤ _; exact Nat.le_of_eq rfl) (hb hby d9_6) (by decide) (by decide) (by decide) (by decide) ?_
  intro v3 T3 L3 X3 q3
  obtain ⟨rfl, Nq3, eT3⟩ := q3
  have N3 := Fr.app N0 Nq3
  show Goes p e below _ T3 (mkF m 9 #[.val (.ref a)] [(.int 1), (.int (Int32.ofNat (2 * cs.length)))])
  refine Goes.of (fun _ => XS.ishr X3.here hx rfl (hb hby d9_9) rfl) ?_
  show Goes p e below _ T3 (mkF m 10 #[.val (.ref a)] [(.int ((Int32.ofNat (2 * cs.length)) >>> ((1 : Int32) &&& 31)))])
  exact retInt X3 hx hret hlk (hb hby d9_10) eT3 (by decide) (by decide) ⟨by rw [on_shr (by omega)], N3, rfl⟩
set_option maxRecDepth 65536 in
set_option maxHeartbeats 40000000 in
theorem rm_isl_utf (l : Launch) (Z : State) (a0 : Array Value) (hw : ∀ d ∈ tables_1, d.before a0 Z = true) (a t : Addr) (kb : ClassId) (cs : List Int32) (cz : Int32) (h0 : Heap) (n0 : Nat) (O0 : Old Z n0 h0) (Sc : Sta Z Z.heap "java/lang/String" "COMPACT_STRINGS" "Z" (.int cz)) (hcz : ¬ cz = 0) (hN : cs.length ≤ 16384) (Ex : Exa Z h0 a "java/lang/String") (Fv : Fld Z h0 a "java/lang/String" "value" "[B" (.ref t)) (Fc : Fld Z h0 a "java/lang/String" "coder" "B" (.int 1)) (Vt : Arv Z h0 t kb .byte (Int32.ofNat (2 * cs.length)) (cs.flatMap uf) (.int 0)) :
    Rm l (⟨"java/lang/String", "isLatin1", "()Z"⟩ : MethodName) jdk_42_method_154_code 1 (some .boolean) ({ frames := 0, cells := 0, slots := 0, locals := 0 } : Room) [] Z #[(.ref a)] h0 (fun v h L => v = some (.int 0) ∧ Fr n0 L ∧ h = h0) := by
  refine Rm.of (plainFor_of_name pn_java_lang_String) ?_
  intro p e s m below meth cod T X hx hZ hby hml hown hnm hret hlk eT0
  have hown : s.vm.findClass "java/lang/String" = some m.cls := hown
  have hnm : meth.name = "isLatin1" := hnm
  have N0 := Fr.nil n0
  refine Goes.cast (ef_22 m a) ?_
  show Goes p e below _ T (mkF m 0 #[.val (.ref a)] [])
  refine goGetS X hx hZ hown (host := "") (Or.inl (hw _ (List.mem_of_getElem? (i := 54) rfl))) Via.refl eT0 (Sc.ext O0.2) (g := (mkF m 0 #[.val (.ref a)] [])) rfl (hb hby d22_0) ?_
  intro T1 X1 eT1
  show Goes p e below _ T1 (mkF m 3 #[.val (.ref a)] [(.int cz)])
  refine Goes.of (fun _ => XS.ifNo X1.here hx rfl (hb hby d22_3) rfl ((if0 _ _).trans (feq hcz).1)) ?_
  show Goes p e below _ T1 (mkF m 6 #[.val (.ref a)] [])
  refine Goes.of (fun _ => XS.aloadN X1.here hx rfl (hb hby d22_6) rfl rfl) ?_
  show Goes p e below _ T1 (mkF m 7 #[.val (.ref a)] [(.ref a)])
  refine goGet X1 hx hZ hown (host := "") (Or.inl (hw _ (List.mem_of_getElem? (i := 34) rfl))) Via.refl eT1 Fc (g := (mkF m 7 #[.val (.ref a)] [(.ref a)])) rfl rfl (hb hby d22_7) ?_
  intro T2 X2 eT2
  show Goes p e below _ T2 (mkF m 10 #[.val (.ref a)] [(.int 1)])
  refine Goes.of (fun _ => XS.ifYes X2.here hx rfl (pc0 := 10) (pc' := 17) rfl (hb hby d22_10) rfl ((if0 _ _).trans (feq (by decide)).2) (by decide) (by decide)) ?_
  show Goes p e below _ T2 (mkF m 17 #[.val (.ref a)] [])
  refine Goes.of (fun _ => XS.iconst X2.here hx rfl (hb hby d22_17)) ?_
  show Goes p e below _ T2 (mkF m 18 #[.val (.ref a)] [(.int 0)])
  exact retZ (t := .boolean) X2 hx hret hlk (by simp) (hb hby d22_18) eT2 (by decide) (by decide) ⟨rfl, N0, rfl⟩
set_option maxRecDepth 65536 in
set_option maxHeartbeats 40000000 in
theorem rm_ckp_n (l : Launch) (Z : State) (a0 : Array Value) (hw : ∀ d ∈ tables_1, d.before a0 Z = true) (i n : Int32) (h0 : Heap) (n0 : Nat) (O0 : Old Z n0 h0) (h1 : ¬ i < 0) (h2 : i < n) :
    Rm l (⟨"jdk/internal/util/Preconditions", "checkIndex", "(IILjava/util/function/BiFunction;)I"⟩ : MethodName) jdk_41_method_11_code 3 (some .int) ({ frames := 0, cells := 0, slots := 0, locals := 0 } : Room) [] Z #[(.int i), (.int n), .null] h0 (fun v h L => v = some (.int i) ∧ Fr n0 L ∧ h = h0) := by
  refine Rm.of (plainFor_of_name pn_jdk_internal_util_Preconditions) ?_
  intro p e s m below meth cod T X hx hZ hby hml hown hnm hret hlk eT0
  have hown : s.vm.findClass "jdk/internal/util/Preconditions" = some m.cls := hown
  have hnm : meth.name = "checkIndex" := hnm
  have N0 := Fr.nil n0
  refine Goes.cast (ef_24n2 m i n) ?_
  show Goes p e below _ T (mkF m 0 #[.val (.int i), .val (.int n), .val .null] [])
  refine Goes.of (fun _ => XS.iloadN X.here hx rfl (hb hby d24_0) rfl) ?_
  show Goes p e below _ T (mkF m 1 #[.val (.int i), .val (.int n), .val .null] [(.int i)])
  refine Goes.of (fun _ => XS.ifNo X.here hx rfl (hb hby d24_1) rfl ((if0 _ _).trans (flt h1).1)) ?_
  show Goes p e below _ T (mkF m 4 #[.val (.int i), .val (.int n), .val .null] [])
  refine Goes.of (fun _ => XS.iloadN X.here hx rfl (hb hby d24_4) rfl) ?_
  show Goes p e below _ T (mkF m 5 #[.val (.int i), .val (.int n), .val .null] [(.int i)])
  refine Goes.of (fun _ => XS.iloadN X.here hx rfl (hb hby d24_5) rfl) ?_
  show Goes p e below _ T (mkF m 6 #[.val (.int i), .val (.int n), .val .null] [(.int n), (.int i)])
  refine Goes.of (fun _ => XS.icmpYes X.here hx rfl (pc0 := 6) (pc' := 16) rfl (hb hby d24_6) rfl (tlt h2).1 (by decide) (by decide)) ?_
  show Goes p e below _ T (mkF m 16 #[.val (.int i), .val (.int n), .val .null] [])
  refine Goes.of (fun _ => XS.iloadN X.here hx rfl (hb hby d24_16) rfl) ?_
  show Goes p e below _ T (mkF m 17 #[.val (.int i), .val (.int n), .val .null] [(.int i)])
  exact retInt X hx hret hlk (hb hby d24_17) eT0 (by decide) (by decide) ⟨rfl, N0, rfl⟩
set_option maxRecDepth 65536 in
set_option maxHeartbeats 40000000 in
theorem rm_ck_n (l : Launch) (Z : State) (a0 : Array Value) (hw : ∀ d ∈ tables_1, d.before a0 Z = true) (i n : Int32) (h0 : Heap) (n0 : Nat) (O0 : Old Z n0 h0) (Sf : Sta Z Z.heap "jdk/internal/util/Preconditions" "SIOOBE_FORMATTER" "Ljava/util/function/BiFunction;" .null) (h1 : ¬ i < 0) (h2 : i < n) :
    Rm l (⟨"java/lang/String", "checkIndex", "(II)V"⟩ : MethodName) jdk_42_method_155_code 2 none ({ frames := 1, cells := 0, slots := 0, locals := 14 } : Room) [] Z #[(.int i), (.int n)] h0 (fun v h L => v = none ∧ Fr n0 L ∧ h = h0) := by
  refine Rm.of (plainFor_of_name pn_java_lang_String) ?_
  intro p e s m below meth cod T X hx hZ hby hml hown hnm hret hlk eT0
  have hown : s.vm.findClass "java/lang/String" = some m.cls := hown
  have hnm : meth.name = "checkIndex" := hnm
  have N0 := Fr.nil n0
  refine Goes.cast (ef_23 m i n) ?_
  show Goes p e below _ T (mkF m 0 #[.val (.int i), .val (.int n)] [])
  refine Goes.of (fun _ => XS.iloadN X.here hx rfl (hb hby d23_0) rfl) ?_
  show Goes p e below _ T (mkF m 1 #[.val (.int i), .val (.int n)] [(.int i)])
  refine Goes.of (fun _ => XS.iloadN X.here hx rfl (hb hby d23_1) rfl) ?_
  show Goes p e below _ T (mkF m 2 #[.val (.int i), .val (.int n)] [(.int n), (.int i)])
  refine goGetS X hx hZ hown (host := "") (Or.inl (hw _ (List.mem_of_getElem? (i := 105) rfl))) Via.refl eT0 (Sf.ext O0.2) (g := (mkF m 2 #[.val (.int i), .val (.int n)] [(.int n), (.int i)])) rfl (hb hby d23_2) ?_
  intro T1 X1 eT1
  show Goes p e below _ T1 (mkF m 5 #[.val (.int i), .val (.int n)] [.null, (.int n), (.int i)])
  refine goStatic 0 X1 hx hZ hown (hw _ (List.mem_of_getElem? (i := 107) rfl)) (hw _ (List.mem_of_getElem? (i := 108) rfl)) (hw _ (List.mem_of_getElem? (i := 106) rfl)) (hw _ (List.mem_of_getElem? (i := 109) rfl)) (by decide) (rm_ckp_n l Z a0 hw i n h0 n0 O0 h1 h2) eT1 (g := (mkF m 5 #[.val (.int i), .val (.int n)] [.null, (.int n), (.int i)])) rfl (by rw [hml]; rfl) [(.int i), (.int n), .null] [] (lenOf pd__IILjava_util_function_BiFunction__I rfl) rfl rfl (by show 2 * 0 + _ ≤ _; exact Nat.le_of_eq rfl) (hb hby d23_5) (by decide) (by decide) (by decide) (by decide) ?_
  intro v2 T2 L2 X2 q2
  obtain ⟨rfl, Nq2, eT2⟩ := q2
  have N2 := Fr.app N0 Nq2
  show Goes p e below _ T2 (mkF m 8 #[.val (.int i), .val (.int n)] [(.int i)])
  refine Goes.of (fun _ => XS.pop X2.here hx rfl (hb hby d23_8) rfl rfl) ?_
  show Goes p e below _ T2 (mkF m 9 #[.val (.int i), .val (.int n)] [])
  exact retVoid X2 hx hret hlk (hb hby d23_9) eT2 (by decide) (by decide) ⟨rfl, N2, rfl⟩
set_option maxRecDepth 65536 in
set_option maxHeartbeats 40000000 in
theorem rm_ckp_r (l : Launch) (Z : State) (a0 : Array Value) (hw : ∀ d ∈ tables_1, d.before a0 Z = true) (i n : Int32) (fm : Addr) (h0 : Heap) (n0 : Nat) (O0 : Old Z n0 h0) (h1 : ¬ i < 0) (h2 : i < n) :
    Rm l (⟨"jdk/internal/util/Preconditions", "checkIndex", "(IILjava/util/function/BiFunction;)I"⟩ : MethodName) jdk_41_method_11_code 3 (some .int) ({ frames := 0, cells := 0, slots := 0, locals := 0 } : Room) [] Z #[(.int i), (.int n), (.ref fm)] h0 (fun v h L => v = some (.int i) ∧ Fr n0 L ∧ h = h0) := by
  refine Rm.of (plainFor_of_name pn_jdk_internal_util_Preconditions) ?_
  intro p e s m below meth cod T X hx hZ hby hml hown hnm hret hlk eT0
  have hown : s.vm.findClass "jdk/internal/util/Preconditions" = some m.cls := hown
  have hnm : meth.name = "checkIndex" := hnm
  have N0 := Fr.nil n0
  refine Goes.cast (ef_24 m i n fm) ?_
  show Goes p e below _ T (mkF m 0 #[.val (.int i), .val (.int n), .val (.ref fm)] [])
  refine Goes.of (fun _ => XS.iloadN X.here hx rfl (hb hby d24_0) rfl) ?_
  show Goes p e below _ T (mkF m 1 #[.val (.int i), .val (.int n), .val (.ref fm)] [(.int i)])
  refine Goes.of (fun _ => XS.ifNo X.here hx rfl (hb hby d24_1) rfl ((if0 _ _).trans (flt h1).1)) ?_
  show Goes p e below _ T (mkF m 4 #[.val (.int i), .val (.int n), .val (.ref fm)] [])
  refine Goes.of (fun _ => XS.iloadN X.here hx rfl (hb hby d24_4) rfl) ?_
  show Goes p e below _ T (mkF m 5 #[.val (.int i), .val (.int n), .val (.ref fm)] [(.int i)])
  refine Goes.of (fun _ => XS.iloadN X.here hx rfl (hb hby d24_5) rfl) ?_
  show Goes p e below _ T (mkF m 6 #[.val (.int i), .val (.int n), .val (.ref fm)] [(.int n), (.int i)])
  refine Goes.of (fun _ => XS.icmpYes X.here hx rfl (pc0 := 6) (pc' := 16) rfl (hb hby d24_6) rfl (tlt h2).1 (by decide) (by decide)) ?_
  show Goes p e below _ T (mkF m 16 #[.val (.int i), .val (.int n), .val (.ref fm)] [])
  refine Goes.of (fun _ => XS.iloadN X.here hx rfl (hb hby d24_16) rfl) ?_
  show Goes p e below _ T (mkF m 17 #[.val (.int i), .val (.int n), .val (.ref fm)] [(.int i)])
  exact retInt X hx hret hlk (hb hby d24_17) eT0 (by decide) (by decide) ⟨rfl, N0, rfl⟩
set_option maxRecDepth 65536 in
set_option maxHeartbeats 40000000 in
theorem rm_ck_r (l : Launch) (Z : State) (a0 : Array Value) (hw : ∀ d ∈ tables_1, d.before a0 Z = true) (i n : Int32) (fm : Addr) (h0 : Heap) (n0 : Nat) (O0 : Old Z n0 h0) (Sf : Sta Z Z.heap "jdk/internal/util/Preconditions" "SIOOBE_FORMATTER" "Ljava/util/function/BiFunction;" (.ref fm)) (h1 : ¬ i < 0) (h2 : i < n) :
    Rm l (⟨"java/lang/String", "checkIndex", "(II)V"⟩ : MethodName) jdk_42_method_155_code 2 none ({ frames := 1, cells := 0, slots := 0, locals := 14 } : Room) [] Z #[(.int i), (.int n)] h0 (fun v h L => v = none ∧ Fr n0 L ∧ h = h0) := by
  refine Rm.of (plainFor_of_name pn_java_lang_String) ?_
  intro p e s m below meth cod T X hx hZ hby hml hown hnm hret hlk eT0
  have hown : s.vm.findClass "java/lang/String" = some m.cls := hown
  have hnm : meth.name = "checkIndex" := hnm
  have N0 := Fr.nil n0
  refine Goes.cast (ef_23 m i n) ?_
  show Goes p e below _ T (mkF m 0 #[.val (.int i), .val (.int n)] [])
  refine Goes.of (fun _ => XS.iloadN X.here hx rfl (hb hby d23_0) rfl) ?_
  show Goes p e below _ T (mkF m 1 #[.val (.int i), .val (.int n)] [(.int i)])
  refine Goes.of (fun _ => XS.iloadN X.here hx rfl (hb hby d23_1) rfl) ?_
  show Goes p e below _ T (mkF m 2 #[.val (.int i), .val (.int n)] [(.int n), (.int i)])
  refine goGetS X hx hZ hown (host := "") (Or.inl (hw _ (List.mem_of_getElem? (i := 105) rfl))) Via.refl eT0 (Sf.ext O0.2) (g := (mkF m 2 #[.val (.int i), .val (.int n)] [(.int n), (.int i)])) rfl (hb hby d23_2) ?_
  intro T1 X1 eT1
  show Goes p e below _ T1 (mkF m 5 #[.val (.int i), .val (.int n)] [(.ref fm), (.int n), (.int i)])
  refine goStatic 0 X1 hx hZ hown (hw _ (List.mem_of_getElem? (i := 107) rfl)) (hw _ (List.mem_of_getElem? (i := 108) rfl)) (hw _ (List.mem_of_getElem? (i := 106) rfl)) (hw _ (List.mem_of_getElem? (i := 109) rfl)) (by decide) (rm_ckp_r l Z a0 hw i n fm h0 n0 O0 h1 h2) eT1 (g := (mkF m 5 #[.val (.int i), .val (.int n)] [(.ref fm), (.int n), (.int i)])) rfl (by rw [hml]; rfl) [(.int i), (.int n), (.ref fm)] [] (lenOf pd__IILjava_util_function_BiFunction__I rfl) rfl rfl (by show 2 * 0 + _ ≤ _; exact Nat.le_of_eq rfl) (hb hby d23_5) (by decide) (by decide) (by decide) (by decide) ?_
  intro v2 T2 L2 X2 q2
  obtain ⟨rfl, Nq2, eT2⟩ := q2
  have N2 := Fr.app N0 Nq2
  show Goes p e below _ T2 (mkF m 8 #[.val (.int i), .val (.int n)] [(.int i)])
  refine Goes.of (fun _ => XS.pop X2.here hx rfl (hb hby d23_8) rfl rfl) ?_
  show Goes p e below _ T2 (mkF m 9 #[.val (.int i), .val (.int n)] [])
  exact retVoid X2 hx hret hlk (hb hby d23_9) eT2 (by decide) (by decide) ⟨rfl, N2, rfl⟩
set_option maxRecDepth 65536 in
set_option maxHeartbeats 40000000 in
theorem rm_ck (l : Launch) (Z : State) (a0 : Array Value) (hw : ∀ d ∈ tables_1, d.before a0 Z = true) (i n : Int32) (fm : Value) (h0 : Heap) (n0 : Nat) (O0 : Old Z n0 h0) (Sf : Sta Z Z.heap "jdk/internal/util/Preconditions" "SIOOBE_FORMATTER" "Ljava/util/function/BiFunction;" fm) (hfm : fm.isRef = true) (h1 : ¬ i < 0) (h2 : i < n) :
    Rm l (⟨"java/lang/String", "checkIndex", "(II)V"⟩ : MethodName) jdk_42_method_155_code 2 none ({ frames := 1, cells := 0, slots := 0, locals := 14 } : Room) [] Z #[(.int i), (.int n)] h0 (fun v h L => v = none ∧ Fr n0 L ∧ h = h0) := by
  cases fm with
  | null => exact rm_ck_n l Z a0 hw i n h0 n0 O0 Sf h1 h2
  | ref q => exact rm_ck_r l Z a0 hw i n q h0 n0 O0 Sf h1 h2
  | _ => simp [Value.isRef] at hfm
set_option maxRecDepth 65536 in
set_option maxHeartbeats 40000000 in
theorem rm_cpl (l : Launch) (Z : State) (a0 : Array Value) (hw : ∀ d ∈ tables_1, d.before a0 Z = true) (a t : Addr) (kb : ClassId) (cs : List Int32) (cz : Int32) (fm : Value) (i : Nat) (c : Int32) (h0 : Heap) (n0 : Nat) (O0 : Old Z n0 h0) (Sc : Sta Z Z.heap "java/lang/String" "COMPACT_STRINGS" "Z" (.int cz)) (hcz : ¬ cz = 0) (Sf : Sta Z Z.heap "jdk/internal/util/Preconditions" "SIOOBE_FORMATTER" "Ljava/util/function/BiFunction;" fm) (hfm : fm.isRef = true) (hN : cs.length ≤ 16384) (Ex : Exa Z h0 a "java/lang/String") (Fv : Fld Z h0 a "java/lang/String" "value" "[B" (.ref t)) (Fc : Fld Z h0 a "java/lang/String" "coder" "B" (.int 0)) (Vt : Arv Z h0 t kb .byte (Int32.ofNat cs.length) (cs.map bv) (.int 0)) (hi : i < cs.length) (hci : cs.getD i 0 = c) (hc0 : ¬ c < 0 ∧ ¬ (255 : Int32) < c) :
    Rm l (⟨"java/lang/String", "codePointAt", "(I)I"⟩ : MethodName) jdk_42_method_57_code 3 (some .int) ({ frames := 2, cells := 0, slots := 0, locals := 27 } : Room) [] Z #[(.ref a), (.int (Int32.ofNat i))] h0 (fun v h L => v = some (.int c) ∧ Fr n0 L ∧ h = h0) := by
  refine Rm.of (plainFor_of_name pn_java_lang_String) ?_
  intro p e s m below meth cod T X hx hZ hby hml hown hnm hret hlk eT0
  have hown : s.vm.findClass "java/lang/String" = some m.cls := hown
  have hnm : meth.name = "codePointAt" := hnm
  have N0 := Fr.nil n0
  refine Goes.cast (ef_21 m a (Int32.ofNat i)) ?_
  show Goes p e below _ T (mkF m 0 #[.val (.ref a), .val (.int (Int32.ofNat i)), .unset] [])
  refine Goes.of (fun _ => XS.aloadN X.here hx rfl (hb hby d21_0) rfl rfl) ?_
  show Goes p e below _ T (mkF m 1 #[.val (.ref a), .val (.int (Int32.ofNat i)), .unset] [(.ref a)])
  refine goVirtual 0 X hx hZ hown (hw _ (List.mem_of_getElem? (i := 97) rfl)) (hw _ (List.mem_of_getElem? (i := 98) rfl)) (notFace_of_selects (args := #[]) (mvT hZ (hw _ (List.mem_of_getElem? (i := 100) rfl)))) (hw _ (List.mem_of_getElem? (i := 100) rfl)) (hw _ (List.mem_of_getElem? (i := 99) rfl)) (hw _ (List.mem_of_getElem? (i := 16) rfl)) (hw _ (List.mem_of_getElem? (i := 101) rfl)) (by decide) (rm_isl_lat l Z a0 hw a t _ cs cz h0 n0 O0 Sc hcz hN Ex Fv Fc Vt) eT0 Ex (g := (mkF m 1 #[.val (.ref a), .val (.int (Int32.ofNat i)), .unset] [(.ref a)])) rfl (by rw [hml]; rfl) [] [] (lenOf pd___Z rfl) rfl rfl (by show 2 * 0 + _ ≤ _; exact Nat.le_of_eq rfl) (hb hby d21_1) (by decide) (by decide) (by decide) (by decide) ?_
  intro v1 T1 L1 X1 q1
  obtain ⟨rfl, Nq1, eT1⟩ := q1
  have N1 := Fr.app N0 Nq1
  show Goes p e below _ T1 (mkF m 4 #[.val (.ref a), .val (.int (Int32.ofNat i)), .unset] [(.int 1)])
  refine Goes.of (fun _ => XS.ifNo X1.here hx rfl (hb hby d21_4) rfl ((if0 _ _).trans (feq (by decide)).1)) ?_
  show Goes p e below _ T1 (mkF m 7 #[.val (.ref a), .val (.int (Int32.ofNat i)), .unset] [])
  refine Goes.of (fun _ => XS.iloadN X1.here hx rfl (hb hby d21_7) rfl) ?_
  show Goes p e below _ T1 (mkF m 8 #[.val (.ref a), .val (.int (Int32.ofNat i)), .unset] [(.int (Int32.ofNat i))])
  refine Goes.of (fun _ => XS.aloadN X1.here hx rfl (hb hby d21_8) rfl rfl) ?_
  show Goes p e below _ T1 (mkF m 9 #[.val (.ref a), .val (.int (Int32.ofNat i)), .unset] [(.ref a), (.int (Int32.ofNat i))])
  refine goGet X1 hx hZ hown (host := "") (Or.inl (hw _ (List.mem_of_getElem? (i := 33) rfl))) Via.refl eT1 Fv (g := (mkF m 9 #[.val (.ref a), .val (.int (Int32.ofNat i)), .unset] [(.ref a), (.int (Int32.ofNat i))])) rfl rfl (hb hby d21_9) ?_
  intro T2 X2 eT2
  show Goes p e below _ T2 (mkF m 12 #[.val (.ref a), .val (.int (Int32.ofNat i)), .unset] [(.ref t), (.int (Int32.ofNat i))])
  refine goLen X2 hx hZ eT2 Vt (g := (mkF m 12 #[.val (.ref a), .val (.int (Int32.ofNat i)), .unset] [(.ref t), (.int (Int32.ofNat i))])) rfl rfl (hb hby d21_12) ?_
  show Goes p e below _ T2 (mkF m 13 #[.val (.ref a), .val (.int (Int32.ofNat i)), .unset] [(.int (Int32.ofNat cs.length)), (.int (Int32.ofNat i))])
  refine goStatic 0 X2 hx hZ hown (hw _ (List.mem_of_getElem? (i := 102) rfl)) (hw _ (List.mem_of_getElem? (i := 103) rfl)) (hw _ (List.mem_of_getElem? (i := 16) rfl)) (hw _ (List.mem_of_getElem? (i := 104) rfl)) (by decide) (rm_ck l Z a0 hw (Int32.ofNat i) (Int32.ofNat cs.length) fm h0 n0 O0 Sf hfm (on_nn (by omega)) ((on_lt (by omega) (by omega)).mpr hi)) eT2 (g := (mkF m 13 #[.val (.ref a), .val (.int (Int32.ofNat i)), .unset] [(.int (Int32.ofNat cs.length)), (.int (Int32.ofNat i))])) rfl (by rw [hml]; rfl) [(.int (Int32.ofNat i)), (.int (Int32.ofNat cs.length))] [] (lenOf pd__II_V rfl) rfl rfl (by show 2 * 0 + _ ≤ _; exact Nat.le_of_eq rfl) (hb hby d21_13) (by decide) (by decide) (by decide) (by decide) ?_
  intro v4 T4 L4 X4 q4
  obtain ⟨rfl, Nq4, eT4⟩ := q4
  have N4 := Fr.app N1 Nq4
  show Goes p e below _ T4 (mkF m 16 #[.val (.ref a), .val (.int (Int32.ofNat i)), .unset] [])
  refine Goes.of (fun _ => XS.aloadN X4.here hx rfl (hb hby d21_16) rfl rfl) ?_
  show Goes p e below _ T4 (mkF m 17 #[.val (.ref a), .val (.int (Int32.ofNat i)), .unset] [(.ref a)])
  refine goGet X4 hx hZ hown (host := "") (Or.inl (hw _ (List.mem_of_getElem? (i := 33) rfl))) Via.refl eT4 Fv (g := (mkF m 17 #[.val (.ref a), .val (.int (Int32.ofNat i)), .unset] [(.ref a)])) rfl rfl (hb hby d21_17) ?_
  intro T5 X5 eT5
  show Goes p e below _ T5 (mkF m 20 #[.val (.ref a), .val (.int (Int32.ofNat i)), .unset] [(.ref t)])
  refine Goes.of (fun _ => XS.iloadN X5.here hx rfl (hb hby d21_20) rfl) ?_
  show Goes p e below _ T5 (mkF m 21 #[.val (.ref a), .val (.int (Int32.ofNat i)), .unset] [(.int (Int32.ofNat i)), (.ref t)])
  refine goLdB (.int (nar .byte (c.toInt8.toInt32))) X5 hx hZ eT5 Vt (on_nn (by omega)) ((on_lt (by omega) (by omega)).mpr hi) (lat_get hi hci (by omega)) (g := (mkF m 21 #[.val (.ref a), .val (.int (Int32.ofNat i)), .unset] [(.int (Int32.ofNat i)), (.ref t)])) rfl rfl (hb hby d21_21) ?_
  show Goes p e below _ T5 (mkF m 22 #[.val (.ref a), .val (.int (Int32.ofNat i)), .unset] [(.int (nar .byte (c.toInt8.toInt32)))])
  refine Goes.of (fun _ => XS.sipush X5.here hx rfl (hb hby d21_22)) ?_
  show Goes p e below _ T5 (mkF m 25 #[.val (.ref a), .val (.int (Int32.ofNat i)), .unset] [(.int 255), (.int (nar .byte (c.toInt8.toInt32)))])
  refine Goes.of (fun _ => XS.iand X5.here hx rfl (hb hby d21_25) rfl) ?_
  show Goes p e below _ T5 (mkF m 26 #[.val (.ref a), .val (.int (Int32.ofNat i)), .unset] [(.int ((nar .byte (c.toInt8.toInt32)) &&& (255 : Int32)))])
  exact retInt X5 hx hret hlk (hb hby d21_26) eT5 (by decide) (by decide) ⟨by rw [lat_val hc0.1 hc0.2], N4, rfl⟩
set_option maxRecDepth 65536 in
set_option maxHeartbeats 40000000 in
theorem rm_hs1 (l : Launch) (Z : State) (a0 : Array Value) (hw : ∀ d ∈ tables_1, d.before a0 Z = true) (c : Int32) (h0 : Heap) (n0 : Nat) (O0 : Old Z n0 h0) (hc : Hi c) :
    Rm l (⟨"java/lang/Character", "isHighSurrogate", "(C)Z"⟩ : MethodName) jdk_89_method_14_code 1 (some .boolean) ({ frames := 0, cells := 0, slots := 0, locals := 0 } : Room) [] Z #[(.int c)] h0 (fun v h L => v = some (.int 1) ∧ Fr n0 L ∧ h = h0) := by
  refine Rm.of (plainFor_of_name pn_java_lang_Character) ?_
  intro p e s m below meth cod T X hx hZ hby hml hown hnm hret hlk eT0
  have hown : s.vm.findClass "java/lang/Character" = some m.cls := hown
  have hnm : meth.name = "isHighSurrogate" := hnm
  have N0 := Fr.nil n0
  refine Goes.cast (ef_27 m c) ?_
  show Goes p e below _ T (mkF m 0 #[.val (.int c)] [])
  refine Goes.of (fun _ => XS.iloadN X.here hx rfl (hb hby d27_0) rfl) ?_
  show Goes p e below _ T (mkF m 1 #[.val (.int c)] [(.int c)])
  refine Goes.of (fun _ => X.ldcInt hx hown (mvT hZ (hw _ (List.mem_of_getElem? (i := 120) rfl))) (g := (mkF m 1 #[.val (.int c)] [(.int c)])) rfl (hb hby d27_1) _) ?_
  show Goes p e below _ T (mkF m 3 #[.val (.int c)] [(.int 55296), (.int c)])
  refine Goes.of (fun _ => XS.icmpNo X.here hx rfl (hb hby d27_3) rfl (flt (le_not hc.1)).1) ?_
  show Goes p e below _ T (mkF m 6 #[.val (.int c)] [])
  refine Goes.of (fun _ => XS.iloadN X.here hx rfl (hb hby d27_6) rfl) ?_
  show Goes p e below _ T (mkF m 7 #[.val (.int c)] [(.int c)])
  refine Goes.of (fun _ => X.ldcInt hx hown (mvT hZ (hw _ (List.mem_of_getElem? (i := 129) rfl))) (g := (mkF m 7 #[.val (.int c)] [(.int c)])) rfl (hb hby d27_7) _) ?_
  show Goes p e below _ T (mkF m 9 #[.val (.int c)] [(.int 56320), (.int c)])
  refine Goes.of (fun _ => XS.icmpNo X.here hx rfl (hb hby d27_9) rfl (tlt hc.2).2.1) ?_
  show Goes p e below _ T (mkF m 12 #[.val (.int c)] [])
  refine Goes.of (fun _ => XS.iconst X.here hx rfl (hb hby d27_12)) ?_
  show Goes p e below _ T (mkF m 13 #[.val (.int c)] [(.int 1)])
  refine Goes.of (fun _ => XS.goto X.here hx rfl (pc0 := 13) (pc' := 17) rfl (hb hby d27_13) (by decide) (by decide)) ?_
  show Goes p e below _ T (mkF m 17 #[.val (.int c)] [(.int 1)])
  exact retZ (t := .boolean) X hx hret hlk (by simp) (hb hby d27_17) eT0 (by decide) (by decide) ⟨rfl, N0, rfl⟩
set_option maxRecDepth 65536 in
set_option maxHeartbeats 40000000 in
theorem rm_hs0a (l : Launch) (Z : State) (a0 : Array Value) (hw : ∀ d ∈ tables_1, d.before a0 Z = true) (c : Int32) (h0 : Heap) (n0 : Nat) (O0 : Old Z n0 h0) (hc : c < (55296 : Int32)) :
    Rm l (⟨"java/lang/Character", "isHighSurrogate", "(C)Z"⟩ : MethodName) jdk_89_method_14_code 1 (some .boolean) ({ frames := 0, cells := 0, slots := 0, locals := 0 } : Room) [] Z #[(.int c)] h0 (fun v h L => v = some (.int 0) ∧ Fr n0 L ∧ h = h0) := by
  refine Rm.of (plainFor_of_name pn_java_lang_Character) ?_
  intro p e s m below meth cod T X hx hZ hby hml hown hnm hret hlk eT0
  have hown : s.vm.findClass "java/lang/Character" = some m.cls := hown
  have hnm : meth.name = "isHighSurrogate" := hnm
  have N0 := Fr.nil n0
  refine Goes.cast (ef_27 m c) ?_
  show Goes p e below _ T (mkF m 0 #[.val (.int c)] [])
  refine Goes.of (fun _ => XS.iloadN X.here hx rfl (hb hby d27_0) rfl) ?_
  show Goes p e below _ T (mkF m 1 #[.val (.int c)] [(.int c)])
  refine Goes.of (fun _ => X.ldcInt hx hown (mvT hZ (hw _ (List.mem_of_getElem? (i := 120) rfl))) (g := (mkF m 1 #[.val (.int c)] [(.int c)])) rfl (hb hby d27_1) _) ?_
  show Goes p e below _ T (mkF m 3 #[.val (.int c)] [(.int 55296), (.int c)])
  refine Goes.of (fun _ => XS.icmpYes X.here hx rfl (pc0 := 3) (pc' := 16) rfl (hb hby d27_3) rfl (tlt hc).1 (by decide) (by decide)) ?_
  show Goes p e below _ T (mkF m 16 #[.val (.int c)] [])
  refine Goes.of (fun _ => XS.iconst X.here hx rfl (hb hby d27_16)) ?_
  show Goes p e below _ T (mkF m 17 #[.val (.int c)] [(.int 0)])
  exact retZ (t := .boolean) X hx hret hlk (by simp) (hb hby d27_17) eT0 (by decide) (by decide) ⟨rfl, N0, rfl⟩
set_option maxRecDepth 65536 in
set_option maxHeartbeats 40000000 in
theorem rm_hs0b (l : Launch) (Z : State) (a0 : Array Value) (hw : ∀ d ∈ tables_1, d.before a0 Z = true) (c : Int32) (h0 : Heap) (n0 : Nat) (O0 : Old Z n0 h0) (hc : ¬ c < (55296 : Int32)) (hd : ¬ c < (56320 : Int32)) :
    Rm l (⟨"java/lang/Character", "isHighSurrogate", "(C)Z"⟩ : MethodName) jdk_89_method_14_code 1 (some .boolean) ({ frames := 0, cells := 0, slots := 0, locals := 0 } : Room) [] Z #[(.int c)] h0 (fun v h L => v = some (.int 0) ∧ Fr n0 L ∧ h = h0) := by
  refine Rm.of (plainFor_of_name pn_java_lang_Character) ?_
  intro p e s m below meth cod T X hx hZ hby hml hown hnm hret hlk eT0
  have hown : s.vm.findClass "java/lang/Character" = some m.cls := hown
  have hnm : meth.name = "isHighSurrogate" := hnm
  have N0 := Fr.nil n0
  refine Goes.cast (ef_27 m c) ?_
  show Goes p e below _ T (mkF m 0 #[.val (.int c)] [])
  refine Goes.of (fun _ => XS.iloadN X.here hx rfl (hb hby d27_0) rfl) ?_
  show Goes p e below _ T (mkF m 1 #[.val (.int c)] [(.int c)])
  refine Goes.of (fun _ => X.ldcInt hx hown (mvT hZ (hw _ (List.mem_of_getElem? (i := 120) rfl))) (g := (mkF m 1 #[.val (.int c)] [(.int c)])) rfl (hb hby d27_1) _) ?_
  show Goes p e below _ T (mkF m 3 #[.val (.int c)] [(.int 55296), (.int c)])
  refine Goes.of (fun _ => XS.icmpNo X.here hx rfl (hb hby d27_3) rfl (flt hc).1) ?_
  show Goes p e below _ T (mkF m 6 #[.val (.int c)] [])
  refine Goes.of (fun _ => XS.iloadN X.here hx rfl (hb hby d27_6) rfl) ?_
  show Goes p e below _ T (mkF m 7 #[.val (.int c)] [(.int c)])
  refine Goes.of (fun _ => X.ldcInt hx hown (mvT hZ (hw _ (List.mem_of_getElem? (i := 129) rfl))) (g := (mkF m 7 #[.val (.int c)] [(.int c)])) rfl (hb hby d27_7) _) ?_
  show Goes p e below _ T (mkF m 9 #[.val (.int c)] [(.int 56320), (.int c)])
  refine Goes.of (fun _ => XS.icmpYes X.here hx rfl (pc0 := 9) (pc' := 16) rfl (hb hby d27_9) rfl (flt hd).2.1 (by decide) (by decide)) ?_
  show Goes p e below _ T (mkF m 16 #[.val (.int c)] [])
  refine Goes.of (fun _ => XS.iconst X.here hx rfl (hb hby d27_16)) ?_
  show Goes p e below _ T (mkF m 17 #[.val (.int c)] [(.int 0)])
  exact retZ (t := .boolean) X hx hret hlk (by simp) (hb hby d27_17) eT0 (by decide) (by decide) ⟨rfl, N0, rfl⟩
set_option maxRecDepth 65536 in
set_option maxHeartbeats 40000000 in
theorem rm_ls1 (l : Launch) (Z : State) (a0 : Array Value) (hw : ∀ d ∈ tables_1, d.before a0 Z = true) (c : Int32) (h0 : Heap) (n0 : Nat) (O0 : Old Z n0 h0) (hc : Lo c) :
    Rm l (⟨"java/lang/Character", "isLowSurrogate", "(C)Z"⟩ : MethodName) jdk_89_method_15_code 1 (some .boolean) ({ frames := 0, cells := 0, slots := 0, locals := 0 } : Room) [] Z #[(.int c)] h0 (fun v h L => v = some (.int 1) ∧ Fr n0 L ∧ h = h0) := by
  refine Rm.of (plainFor_of_name pn_java_lang_Character) ?_
  intro p e s m below meth cod T X hx hZ hby hml hown hnm hret hlk eT0
  have hown : s.vm.findClass "java/lang/Character" = some m.cls := hown
  have hnm : meth.name = "isLowSurrogate" := hnm
  have N0 := Fr.nil n0
  refine Goes.cast (ef_30 m c) ?_
  show Goes p e below _ T (mkF m 0 #[.val (.int c)] [])
  refine Goes.of (fun _ => XS.iloadN X.here hx rfl (hb hby d30_0) rfl) ?_
  show Goes p e below _ T (mkF m 1 #[.val (.int c)] [(.int c)])
  refine Goes.of (fun _ => X.ldcInt hx hown (mvT hZ (hw _ (List.mem_of_getElem? (i := 129) rfl))) (g := (mkF m 1 #[.val (.int c)] [(.int c)])) rfl (hb hby d30_1) _) ?_
  show Goes p e below _ T (mkF m 3 #[.val (.int c)] [(.int 56320), (.int c)])
  refine Goes.of (fun _ => XS.icmpNo X.here hx rfl (hb hby d30_3) rfl (flt (le_not hc.1)).1) ?_
  show Goes p e below _ T (mkF m 6 #[.val (.int c)] [])
  refine Goes.of (fun _ => XS.iloadN X.here hx rfl (hb hby d30_6) rfl) ?_
  show Goes p e below _ T (mkF m 7 #[.val (.int c)] [(.int c)])
  refine Goes.of (fun _ => X.ldcInt hx hown (mvT hZ (hw _ (List.mem_of_getElem? (i := 133) rfl))) (g := (mkF m 7 #[.val (.int c)] [(.int c)])) rfl (hb hby d30_7) _) ?_
  show Goes p e below _ T (mkF m 9 #[.val (.int c)] [(.int 57344), (.int c)])
  refine Goes.of (fun _ => XS.icmpNo X.here hx rfl (hb hby d30_9) rfl (tlt hc.2).2.1) ?_
  show Goes p e below _ T (mkF m 12 #[.val (.int c)] [])
  refine Goes.of (fun _ => XS.iconst X.here hx rfl (hb hby d30_12)) ?_
  show Goes p e below _ T (mkF m 13 #[.val (.int c)] [(.int 1)])
  refine Goes.of (fun _ => XS.goto X.here hx rfl (pc0 := 13) (pc' := 17) rfl (hb hby d30_13) (by decide) (by decide)) ?_
  show Goes p e below _ T (mkF m 17 #[.val (.int c)] [(.int 1)])
  exact retZ (t := .boolean) X hx hret hlk (by simp) (hb hby d30_17) eT0 (by decide) (by decide) ⟨rfl, N0, rfl⟩
set_option maxRecDepth 65536 in
set_option maxHeartbeats 40000000 in
theorem rm_cc1 (l : Launch) (Z : State) (a0 : Array Value) (hw : ∀ d ∈ tables_1, d.before a0 Z = true) (c : Int32) (h0 : Heap) (n0 : Nat) (O0 : Old Z n0 h0) (hc : c < (65536 : Int32)) :
    Rm l (⟨"java/lang/Character", "charCount", "(I)I"⟩ : MethodName) jdk_89_method_18_code 1 (some .int) ({ frames := 0, cells := 0, slots := 0, locals := 0 } : Room) [] Z #[(.int c)] h0 (fun v h L => v = some (.int 1) ∧ Fr n0 L ∧ h = h0) := by
  refine Rm.of (plainFor_of_name pn_java_lang_Character) ?_
  intro p e s m below meth cod T X hx hZ hby hml hown hnm hret hlk eT0
  have hown : s.vm.findClass "java/lang/Character" = some m.cls := hown
  have hnm : meth.name = "charCount" := hnm
  have N0 := Fr.nil n0
  refine Goes.cast (ef_29 m c) ?_
  show Goes p e below _ T (mkF m 0 #[.val (.int c)] [])
  refine Goes.of (fun _ => XS.iloadN X.here hx rfl (hb hby d29_0) rfl) ?_
  show Goes p e below _ T (mkF m 1 #[.val (.int c)] [(.int c)])
  refine Goes.of (fun _ => X.ldcInt hx hown (mvT hZ (hw _ (List.mem_of_getElem? (i := 128) rfl))) (g := (mkF m 1 #[.val (.int c)] [(.int c)])) rfl (hb hby d29_1) _) ?_
  show Goes p e below _ T (mkF m 3 #[.val (.int c)] [(.int 65536), (.int c)])
  refine Goes.of (fun _ => XS.icmpYes X.here hx rfl (pc0 := 3) (pc' := 10) rfl (hb hby d29_3) rfl (tlt hc).1 (by decide) (by decide)) ?_
  show Goes p e below _ T (mkF m 10 #[.val (.int c)] [])
  refine Goes.of (fun _ => XS.iconst X.here hx rfl (hb hby d29_10)) ?_
  show Goes p e below _ T (mkF m 11 #[.val (.int c)] [(.int 1)])
  exact retInt X hx hret hlk (hb hby d29_11) eT0 (by decide) (by decide) ⟨rfl, N0, rfl⟩
set_option maxRecDepth 65536 in
set_option maxHeartbeats 40000000 in
theorem rm_cc2 (l : Launch) (Z : State) (a0 : Array Value) (hw : ∀ d ∈ tables_1, d.before a0 Z = true) (c : Int32) (h0 : Heap) (n0 : Nat) (O0 : Old Z n0 h0) (hc : ¬ c < (65536 : Int32)) :
    Rm l (⟨"java/lang/Character", "charCount", "(I)I"⟩ : MethodName) jdk_89_method_18_code 1 (some .int) ({ frames := 0, cells := 0, slots := 0, locals := 0 } : Room) [] Z #[(.int c)] h0 (fun v h L => v = some (.int 2) ∧ Fr n0 L ∧ h = h0) := by
  refine Rm.of (plainFor_of_name pn_java_lang_Character) ?_
  intro p e s m below meth cod T X hx hZ hby hml hown hnm hret hlk eT0
  have hown : s.vm.findClass "java/lang/Character" = some m.cls := hown
  have hnm : meth.name = "charCount" := hnm
  have N0 := Fr.nil n0
  refine Goes.cast (ef_29 m c) ?_
  show Goes p e below _ T (mkF m 0 #[.val (.int c)] [])
  refine Goes.of (fun _ => XS.iloadN X.here hx rfl (hb hby d29_0) rfl) ?_
  show Goes p e below _ T (mkF m 1 #[.val (.int c)] [(.int c)])
  refine Goes.of (fun _ => X.ldcInt hx hown (mvT hZ (hw _ (List.mem_of_getElem? (i := 128) rfl))) (g := (mkF m 1 #[.val (.int c)] [(.int c)])) rfl (hb hby d29_1) _) ?_
  show Goes p e below _ T (mkF m 3 #[.val (.int c)] [(.int 65536), (.int c)])
  refine Goes.of (fun _ => XS.icmpNo X.here hx rfl (hb hby d29_3) rfl (flt hc).1) ?_
  show Goes p e below _ T (mkF m 6 #[.val (.int c)] [])
  refine Goes.of (fun _ => XS.iconst X.here hx rfl (hb hby d29_6)) ?_
  show Goes p e below _ T (mkF m 7 #[.val (.int c)] [(.int 2)])
  refine Goes.of (fun _ => XS.goto X.here hx rfl (pc0 := 7) (pc' := 11) rfl (hb hby d29_7) (by decide) (by decide)) ?_
  show Goes p e below _ T (mkF m 11 #[.val (.int c)] [(.int 2)])
  exact retInt X hx hret hlk (hb hby d29_11) eT0 (by decide) (by decide) ⟨rfl, N0, rfl⟩
set_option maxRecDepth 65536 in
set_option maxHeartbeats 40000000 in
theorem rm_loa (l : Launch) (Z : State) (a0 : Array Value) (hw : ∀ d ∈ tables_1, d.before a0 Z = true) (c : Int32) (h0 : Heap) (n0 : Nat) (O0 : Old Z n0 h0) (hc : c < (55296 : Int32)) :
    Rm l (⟨"com/example/latchwork/latchwork/core/LockNames", "isLoneSurrogate", "(I)Z"⟩ : MethodName) prog_6_method_4_code 1 (some .boolean) ({ frames := 0, cells := 0, slots := 0, locals := 0 } : Room) [] Z #[(.int c)] h0 (fun v h L => v = some (.int 0) ∧ Fr n0 L ∧ h = h0) := by
  refine Rm.of (plainFor_of_name pn_com_example_latchwork_latchwork_core_LockNames) ?_
  intro p e s m below meth cod T X hx hZ hby hml hown hnm hret hlk eT0
  have hown : s.vm.findClass "com/example/latchwork/latchwork/core/LockNames" = some m.cls := hown
  have hnm : meth.name = "isLoneSurrogate" := hnm
  have N0 := Fr.nil n0
  refine Goes.cast (ef_28 m c) ?_
  show Goes p e below _ T (mkF m 0 #[.val (.int c)] [])
  refine Goes.of (fun _ => XS.iloadN X.here hx rfl (hb hby d28_0) rfl) ?_
  show Goes p e below _ T (mkF m 1 #[.val (.int c)] [(.int c)])
  refine Goes.of (fun _ => X.ldcInt hx hown (mvT hZ (hw _ (List.mem_of_getElem? (i := 124) rfl))) (g := (mkF m 1 #[.val (.int c)] [(.int c)])) rfl (hb hby d28_1) _) ?_
  show Goes p e below _ T (mkF m 3 #[.val (.int c)] [(.int 55296), (.int c)])
  refine Goes.of (fun _ => XS.icmpYes X.here hx rfl (pc0 := 3) (pc' := 16) rfl (hb hby d28_3) rfl (tlt hc).1 (by decide) (by decide)) ?_
  show Goes p e below _ T (mkF m 16 #[.val (.int c)] [])
  refine Goes.of (fun _ => XS.iconst X.here hx rfl (hb hby d28_16)) ?_
  show Goes p e below _ T (mkF m 17 #[.val (.int c)] [(.int 0)])
  exact retZ (t := .boolean) X hx hret hlk (by simp) (hb hby d28_17) eT0 (by decide) (by decide) ⟨rfl, N0, rfl⟩
set_option maxRecDepth 65536 in
set_option maxHeartbeats 40000000 in
theorem rm_lob (l : Launch) (Z : State) (a0 : Array Value) (hw : ∀ d ∈ tables_1, d.before a0 Z = true) (c : Int32) (h0 : Heap) (n0 : Nat) (O0 : Old Z n0 h0) (hc : ¬ c < (55296 : Int32)) (hd : (57343 : Int32) < c) :
    Rm l (⟨"com/example/latchwork/latchwork/core/LockNames", "isLoneSurrogate", "(I)Z"⟩ : MethodName) prog_6_method_4_code 1 (some .boolean) ({ frames := 0, cells := 0, slots := 0, locals := 0 } : Room) [] Z #[(.int c)] h0 (fun v h L => v = some (.int 0) ∧ Fr n0 L ∧ h = h0) := by
  refine Rm.of (plainFor_of_name pn_com_example_latchwork_latchwork_core_LockNames) ?_
  intro p e s m below meth cod T X hx hZ hby hml hown hnm hret hlk eT0
  have hown : s.vm.findClass "com/example/latchwork/latchwork/core/LockNames" = some m.cls := hown
  have hnm : meth.name = "isLoneSurrogate" := hnm
  have N0 := Fr.nil n0
  refine Goes.cast (ef_28 m c) ?_
  show Goes p e below _ T (mkF m 0 #[.val (.int c)] [])
  refine Goes.of (fun _ => XS.iloadN X.here hx rfl (hb hby d28_0) rfl) ?_
  show Goes p e below _ T (mkF m 1 #[.val (.int c)] [(.int c)])
  refine Goes.of (fun _ => X.ldcInt hx hown (mvT hZ (hw _ (List.mem_of_getElem? (i := 124) rfl))) (g := (mkF m 1 #[.val (.int c)] [(.int c)])) rfl (hb hby d28_1) _) ?_
  show Goes p e below _ T (mkF m 3 #[.val (.int c)] [(.int 55296), (.int c)])
  refine Goes.of (fun _ => XS.icmpNo X.here hx rfl (hb hby d28_3) rfl (flt hc).1) ?_
  show Goes p e below _ T (mkF m 6 #[.val (.int c)] [])
  refine Goes.of (fun _ => XS.iloadN X.here hx rfl (hb hby d28_6) rfl) ?_
  show Goes p e below _ T (mkF m 7 #[.val (.int c)] [(.int c)])
  refine Goes.of (fun _ => X.ldcInt hx hown (mvT hZ (hw _ (List.mem_of_getElem? (i := 138) rfl))) (g := (mkF m 7 #[.val (.int c)] [(.int c)])) rfl (hb hby d28_7) _) ?_
  show Goes p e below _ T (mkF m 9 #[.val (.int c)] [(.int 57343), (.int c)])
  refine Goes.of (fun _ => XS.icmpYes X.here hx rfl (pc0 := 9) (pc' := 16) rfl (hb hby d28_9) rfl (tlt hd).2.2.1 (by decide) (by decide)) ?_
  show Goes p e below _ T (mkF m 16 #[.val (.int c)] [])
  refine Goes.of (fun _ => XS.iconst X.here hx rfl (hb hby d28_16)) ?_
  show Goes p e below _ T (mkF m 17 #[.val (.int c)] [(.int 0)])
  exact retZ (t := .boolean) X hx hret hlk (by simp) (hb hby d28_17) eT0 (by decide) (by decide) ⟨rfl, N0, rfl⟩
set_option maxRecDepth 65536 in
set_option maxHeartbeats 40000000 in
theorem rm_tcp (l : Launch) (Z : State) (a0 : Array Value) (hw : ∀ d ∈ tables_1, d.before a0 Z = true) (c d : Int32) (h0 : Heap) (n0 : Nat) (O0 : Old Z n0 h0)  :
    Rm l (⟨"java/lang/Character", "toCodePoint", "(CC)I"⟩ : MethodName) jdk_89_method_19_code 2 (some .int) ({ frames := 0, cells := 0, slots := 0, locals := 0 } : Room) [] Z #[(.int c), (.int d)] h0 (fun v h L => v = some (.int (tcp c d)) ∧ Fr n0 L ∧ h = h0) := by
  refine Rm.of (plainFor_of_name pn_java_lang_Character) ?_
  intro p e s m below meth cod T X hx hZ hby hml hown hnm hret hlk eT0
  have hown : s.vm.findClass "java/lang/Character" = some m.cls := hown
  have hnm : meth.name = "toCodePoint" := hnm
  have N0 := Fr.nil n0
  refine Goes.cast (ef_31 m c d) ?_
  show Goes p e below _ T (mkF m 0 #[.val (.int c), .val (.int d)] [])
  refine Goes.of (fun _ => XS.iloadN X.here hx rfl (hb hby d31_0) rfl) ?_
  show Goes p e below _ T (mkF m 1 #[.val (.int c), .val (.int d)] [(.int c)])
  refine Goes.of (fun _ => XS.bipush X.here hx rfl (hb hby d31_1)) ?_
  show Goes p e below _ T (mkF m 3 #[.val (.int c), .val (.int d)] [(.int 10), (.int c)])
  refine Goes.of (fun _ => XS.ishl X.here hx rfl (hb hby d31_3) rfl) ?_
  show Goes p e below _ T (mkF m 4 #[.val (.int c), .val (.int d)] [(.int (c <<< ((10 : Int32) &&& 31)))])
  refine Goes.of (fun _ => XS.iloadN X.here hx rfl (hb hby d31_4) rfl) ?_
  show Goes p e below _ T (mkF m 5 #[.val (.int c), .val (.int d)] [(.int d), (.int (c <<< ((10 : Int32) &&& 31)))])
  refine Goes.of (fun _ => XS.iadd X.here hx rfl (hb hby d31_5) rfl) ?_
  show Goes p e below _ T (mkF m 6 #[.val (.int c), .val (.int d)] [(.int ((c <<< ((10 : Int32) &&& 31)) + d))])
  refine Goes.of (fun _ => X.ldcInt hx hown (mvT hZ (hw _ (List.mem_of_getElem? (i := 137) rfl))) (g := (mkF m 6 #[.val (.int c), .val (.int d)] [(.int ((c <<< ((10 : Int32) &&& 31)) + d))])) rfl (hb hby d31_6) _) ?_
  show Goes p e below _ T (mkF m 8 #[.val (.int c), .val (.int d)] [(.int (-56613888 : Int32)), (.int ((c <<< ((10 : Int32) &&& 31)) + d))])
  refine Goes.of (fun _ => XS.iadd X.here hx rfl (hb hby d31_8) rfl) ?_
  show Goes p e below _ T (mkF m 9 #[.val (.int c), .val (.int d)] [(.int (((c <<< ((10 : Int32) &&& 31)) + d) + (-56613888 : Int32)))])
  exact retInt X hx hret hlk (hb hby d31_9) eT0 (by decide) (by decide) ⟨rfl, N0, rfl⟩
set_option maxRecDepth 65536 in
set_option maxHeartbeats 40000000 in
theorem rm_cpz_a (l : Launch) (Z : State) (a0 : Array Value) (hw : ∀ d ∈ tables_1, d.before a0 Z = true) (b : Addr) (kb : ClassId) (cs : List Int32) (i : Nat) (c : Int32) (h0 : Heap) (n0 : Nat) (O0 : Old Z n0 h0) (Sa : Sta Z Z.heap "java/lang/StringUTF16" "$assertionsDisabled" "Z" (.int 1)) (Sh : Sta Z Z.heap "java/lang/StringUTF16" "HI_BYTE_SHIFT" "I" (.int 0)) (Sl : Sta Z Z.heap "java/lang/StringUTF16" "LO_BYTE_SHIFT" "I" (.int 8)) (hN : cs.length ≤ 16384) (Vb : Arv Z h0 b kb .byte (Int32.ofNat (2 * cs.length)) (cs.flatMap uf) (.int 0)) (hi : i < cs.length) (hci : cs.getD i 0 = c) (hcb : ¬ c < 0 ∧ ¬ (65535 : Int32) < c) (hpl : c < (55296 : Int32)) :
    Rm l (⟨"java/lang/StringUTF16", "codePointAt", "([BIIZ)I"⟩ : MethodName) jdk_52_method_7_code 6 (some .int) ({ frames := 1, cells := 0, slots := 0, locals := 13 } : Room) [] Z #[(.ref b), (.int (Int32.ofNat i)), (.int (Int32.ofNat cs.length)), (.int 0)] h0 (fun v h L => v = some (.int c) ∧ Fr n0 L ∧ h = h0) := by
  refine Rm.of (plainFor_of_name pn_java_lang_StringUTF16) ?_
  intro p e s m below meth cod T X hx hZ hby hml hown hnm hret hlk eT0
  have hown : s.vm.findClass "java/lang/StringUTF16" = some m.cls := hown
  have hnm : meth.name = "codePointAt" := hnm
  have N0 := Fr.nil n0
  refine Goes.cast (ef_26 m b (Int32.ofNat i) (Int32.ofNat cs.length) (0 : Int32)) ?_
  show Goes p e below _ T (mkF m 0 #[.val (.ref b), .val (.int (Int32.ofNat i)), .val (.int (Int32.ofNat cs.length)), .val (.int 0), .unset, .unset] [])
  refine goGetS X hx hZ hown (host := "") (Or.inl (hw _ (List.mem_of_getElem? (i := 83) rfl))) Via.refl eT0 (Sa.ext O0.2) (g := (mkF m 0 #[.val (.ref b), .val (.int (Int32.ofNat i)), .val (.int (Int32.ofNat cs.length)), .val (.int 0), .unset, .unset] [])) rfl (hb hby d26_0) ?_
  intro T1 X1 eT1
  show Goes p e below _ T1 (mkF m 3 #[.val (.ref b), .val (.int (Int32.ofNat i)), .val (.int (Int32.ofNat cs.length)), .val (.int 0), .unset, .unset] [(.int 1)])
  refine Goes.of (fun _ => XS.ifYes X1.here hx rfl (pc0 := 3) (pc' := 19) rfl (hb hby d26_3) rfl ((if0 _ _).trans (feq (by decide)).2) (by decide) (by decide)) ?_
  show Goes p e below _ T1 (mkF m 19 #[.val (.ref b), .val (.int (Int32.ofNat i)), .val (.int (Int32.ofNat cs.length)), .val (.int 0), .unset, .unset] [])
  refine Goes.of (fun _ => XS.iloadN X1.here hx rfl (hb hby d26_19) rfl) ?_
  show Goes p e below _ T1 (mkF m 20 #[.val (.ref b), .val (.int (Int32.ofNat i)), .val (.int (Int32.ofNat cs.length)), .val (.int 0), .unset, .unset] [(.int 0)])
  refine Goes.of (fun _ => XS.ifYes X1.here hx rfl (pc0 := 20) (pc' := 28) rfl (hb hby d26_20) rfl ((if0 _ _).trans (teq (by decide)).1) (by decide) (by decide)) ?_
  show Goes p e below _ T1 (mkF m 28 #[.val (.ref b), .val (.int (Int32.ofNat i)), .val (.int (Int32.ofNat cs.length)), .val (.int 0), .unset, .unset] [])
  refine Goes.of (fun _ => XS.aloadN X1.here hx rfl (hb hby d26_28) rfl rfl) ?_
  show Goes p e below _ T1 (mkF m 29 #[.val (.ref b), .val (.int (Int32.ofNat i)), .val (.int (Int32.ofNat cs.length)), .val (.int 0), .unset, .unset] [(.ref b)])
  refine Goes.of (fun _ => XS.iloadN X1.here hx rfl (hb hby d26_29) rfl) ?_
  show Goes p e below _ T1 (mkF m 30 #[.val (.ref b), .val (.int (Int32.ofNat i)), .val (.int (Int32.ofNat cs.length)), .val (.int 0), .unset, .unset] [(.int (Int32.ofNat i)), (.ref b)])
  refine goStatic 0 X1 hx hZ hown (hw _ (List.mem_of_getElem? (i := 86) rfl)) (hw _ (List.mem_of_getElem? (i := 87) rfl)) (hw _ (List.mem_of_getElem? (i := 65) rfl)) (hw _ (List.mem_of_getElem? (i := 88) rfl)) (by decide) (rm_get l Z a0 hw b _ _ (2 * cs.length) i (nar .byte ((c >>> ((0 : Int32) &&& 31)).toInt8.toInt32)) (nar .byte ((c >>> ((8 : Int32) &&& 31)).toInt8.toInt32)) h0 n0 O0 Sa Sh Sl (by omega) (by omega) Vb (by rw [get_hi hi, hci]) (by rw [get_lo hi, hci])) eT1 (g := (mkF m 30 #[.val (.ref b), .val (.int (Int32.ofNat i)), .val (.int (Int32.ofNat cs.length)), .val (.int 0), .unset, .unset] [(.int (Int32.ofNat i)), (.ref b)])) rfl (by rw [hml]; rfl) [(.ref b), (.int (Int32.ofNat i))] [] (lenOf pd___BI_C rfl) rfl rfl (by show 2 * 0 + _ ≤ _; exact Nat.le_of_eq rfl) (hb hby d26_30) (by decide) (by decide) (by decide) (by decide) ?_
  intro v2 T2 L2 X2 q2
  obtain ⟨rfl, Nq2, eT2⟩ := q2
  have N2 := Fr.app N0 Nq2
  rw [getc c hcb]
  show Goes p e below _ T2 (mkF m 33 #[.val (.ref b), .val (.int (Int32.ofNat i)), .val (.int (Int32.ofNat cs.length)), .val (.int 0), .unset, .unset] [(.int c)])
  refine Goes.of (fun _ => XS.istore X2.here hx rfl (hb hby d26_33) rfl (l' := #[.val (.ref b), .val (.int (Int32.ofNat i)), .val (.int (Int32.ofNat cs.length)), .val (.int 0), .val (.int c), .unset]) rfl) ?_
  show Goes p e below _ T2 (mkF m 35 #[.val (.ref b), .val (.int (Int32.ofNat i)), .val (.int (Int32.ofNat cs.length)), .val (.int 0), .val (.int c), .unset] [])
  refine Goes.of (fun _ => XS.iload X2.here hx rfl (hb hby d26_35) rfl) ?_
  show Goes p e below _ T2 (mkF m 37 #[.val (.ref b), .val (.int (Int32.ofNat i)), .val (.int (Int32.ofNat cs.length)), .val (.int 0), .val (.int c), .unset] [(.int c)])
  refine goStatic 0 X2 hx hZ hown (hw _ (List.mem_of_getElem? (i := 116) rfl)) (hw _ (List.mem_of_getElem? (i := 117) rfl)) (hw _ (List.mem_of_getElem? (i := 118) rfl)) (hw _ (List.mem_of_getElem? (i := 119) rfl)) (by decide) (rm_hs0a l Z a0 hw c h0 n0 O0 hpl) eT2 (g := (mkF m 37 #[.val (.ref b), .val (.int (Int32.ofNat i)), .val (.int (Int32.ofNat cs.length)), .val (.int 0), .val (.int c), .unset] [(.int c)])) rfl (by rw [hml]; rfl) [(.int c)] [] (lenOf pd__C_Z rfl) rfl rfl (by show 2 * 0 + _ ≤ _; exact Nat.le_of_eq rfl) (hb hby d26_37) (by decide) (by decide) (by decide) (by decide) ?_
  intro v3 T3 L3 X3 q3
  obtain ⟨rfl, Nq3, eT3⟩ := q3
  have N3 := Fr.app N2 Nq3
  show Goes p e below _ T3 (mkF m 40 #[.val (.ref b), .val (.int (Int32.ofNat i)), .val (.int (Int32.ofNat cs.length)), .val (.int 0), .val (.int c), .unset] [(.int 0)])
  refine Goes.of (fun _ => XS.ifYes X3.here hx rfl (pc0 := 40) (pc' := 83) rfl (hb hby d26_40) rfl ((if0 _ _).trans (teq (by decide)).1) (by decide) (by decide)) ?_
  show Goes p e below _ T3 (mkF m 83 #[.val (.ref b), .val (.int (Int32.ofNat i)), .val (.int (Int32.ofNat cs.length)), .val (.int 0), .val (.int c), .unset] [])
  refine Goes.of (fun _ => XS.iload X3.here hx rfl (hb hby d26_83) rfl) ?_
  show Goes p e below _ T3 (mkF m 85 #[.val (.ref b), .val (.int (Int32.ofNat i)), .val (.int (Int32.ofNat cs.length)), .val (.int 0), .val (.int c), .unset] [(.int c)])
  exact retInt X3 hx hret hlk (hb hby d26_85) eT3 (by decide) (by decide) ⟨rfl, N3, rfl⟩
set_option maxRecDepth 65536 in
set_option maxHeartbeats 40000000 in
theorem rm_cpu_a (l : Launch) (Z : State) (a0 : Array Value) (hw : ∀ d ∈ tables_1, d.before a0 Z = true) (b : Addr) (kb : ClassId) (cs : List Int32) (i : Nat) (c : Int32) (h0 : Heap) (n0 : Nat) (O0 : Old Z n0 h0) (Sa : Sta Z Z.heap "java/lang/StringUTF16" "$assertionsDisabled" "Z" (.int 1)) (Sh : Sta Z Z.heap "java/lang/StringUTF16" "HI_BYTE_SHIFT" "I" (.int 0)) (Sl : Sta Z Z.heap "java/lang/StringUTF16" "LO_BYTE_SHIFT" "I" (.int 8)) (hN : cs.length ≤ 16384) (Vb : Arv Z h0 b kb .byte (Int32.ofNat (2 * cs.length)) (cs.flatMap uf) (.int 0)) (hi : i < cs.length) (hci : cs.getD i 0 = c) (hcb : ¬ c < 0 ∧ ¬ (65535 : Int32) < c) (hpl : c < (55296 : Int32)) :
    Rm l (⟨"java/lang/StringUTF16", "codePointAt", "([BII)I"⟩ : MethodName) jdk_52_method_8_code 3 (some .int) ({ frames := 2, cells := 0, slots := 0, locals := 30 } : Room) [] Z #[(.ref b), (.int (Int32.ofNat i)), (.int (Int32.ofNat cs.length))] h0 (fun v h L => v = some (.int c) ∧ Fr n0 L ∧ h = h0) := by
  refine Rm.of (plainFor_of_name pn_java_lang_StringUTF16) ?_
  intro p e s m below meth cod T X hx hZ hby hml hown hnm hret hlk eT0
  have hown : s.vm.findClass "java/lang/StringUTF16" = some m.cls := hown
  have hnm : meth.name = "codePointAt" := hnm
  have N0 := Fr.nil n0
  refine Goes.cast (ef_25 m b (Int32.ofNat i) (Int32.ofNat cs.length)) ?_
  show Goes p e below _ T (mkF m 0 #[.val (.ref b), .val (.int (Int32.ofNat i)), .val (.int (Int32.ofNat cs.length))] [])
  refine Goes.of (fun _ => XS.aloadN X.here hx rfl (hb hby d25_0) rfl rfl) ?_
  show Goes p e below _ T (mkF m 1 #[.val (.ref b), .val (.int (Int32.ofNat i)), .val (.int (Int32.ofNat cs.length))] [(.ref b)])
  refine Goes.of (fun _ => XS.iloadN X.here hx rfl (hb hby d25_1) rfl) ?_
  show Goes p e below _ T (mkF m 2 #[.val (.ref b), .val (.int (Int32.ofNat i)), .val (.int (Int32.ofNat cs.length))] [(.int (Int32.ofNat i)), (.ref b)])
  refine Goes.of (fun _ => XS.iloadN X.here hx rfl (hb hby d25_2) rfl) ?_
  show Goes p e below _ T (mkF m 3 #[.val (.ref b), .val (.int (Int32.ofNat i)), .val (.int (Int32.ofNat cs.length))] [(.int (Int32.ofNat cs.length)), (.int (Int32.ofNat i)), (.ref b)])
  refine Goes.of (fun _ => XS.iconst X.here hx rfl (hb hby d25_3)) ?_
  show Goes p e below _ T (mkF m 4 #[.val (.ref b), .val (.int (Int32.ofNat i)), .val (.int (Int32.ofNat cs.length))] [(.int 0), (.int (Int32.ofNat cs.length)), (.int (Int32.ofNat i)), (.ref b)])
  refine goStatic 0 X hx hZ hown (hw _ (List.mem_of_getElem? (i := 113) rfl)) (hw _ (List.mem_of_getElem? (i := 114) rfl)) (hw _ (List.mem_of_getElem? (i := 65) rfl)) (hw _ (List.mem_of_getElem? (i := 115) rfl)) (by decide) (rm_cpz_a l Z a0 hw b _ cs i c h0 n0 O0 Sa Sh Sl hN Vb hi hci hcb hpl) eT0 (g := (mkF m 4 #[.val (.ref b), .val (.int (Int32.ofNat i)), .val (.int (Int32.ofNat cs.length))] [(.int 0), (.int (Int32.ofNat cs.length)), (.int (Int32.ofNat i)), (.ref b)])) rfl (by rw [hml]; rfl) [(.ref b), (.int (Int32.ofNat i)), (.int (Int32.ofNat cs.length)), (.int 0)] [] (lenOf pd___BIIZ_I rfl) rfl rfl (by show 2 * 0 + _ ≤ _; exact Nat.le_of_eq rfl) (hb hby d25_4) (by decide) (by decide) (by decide) (by decide) ?_
  intro v1 T1 L1 X1 q1
  obtain ⟨rfl, Nq1, eT1⟩ := q1
  have N1 := Fr.app N0 Nq1
  show Goes p e below _ T1 (mkF m 7 #[.val (.ref b), .val (.int (Int32.ofNat i)), .val (.int (Int32.ofNat cs.length))] [(.int c)])
  exact retInt X1 hx hret hlk (hb hby d25_7) eT1 (by decide) (by decide) ⟨rfl, N1, rfl⟩
set_option maxRecDepth 65536 in
set_option maxHeartbeats 40000000 in
theorem rm_cpa_a (l : Launch) (Z : State) (a0 : Array Value) (hw : ∀ d ∈ tables_1, d.before a0 Z = true) (a t : Addr) (kb : ClassId) (cs : List Int32) (cz : Int32) (fm : Value) (i : Nat) (c : Int32) (h0 : Heap) (n0 : Nat) (O0 : Old Z n0 h0) (Sa : Sta Z Z.heap "java/lang/StringUTF16" "$assertionsDisabled" "Z" (.int 1)) (Sh : Sta Z Z.heap "java/lang/StringUTF16" "HI_BYTE_SHIFT" "I" (.int 0)) (Sl : Sta Z Z.heap "java/lang/StringUTF16" "LO_BYTE_SHIFT" "I" (.int 8)) (Sc : Sta Z Z.heap "java/lang/String" "COMPACT_STRINGS" "Z" (.int cz)) (hcz : ¬ cz = 0) (Sf : Sta Z Z.heap "jdk/internal/util/Preconditions" "SIOOBE_FORMATTER" "Ljava/util/function/BiFunction;" fm) (hfm : fm.isRef = true) (hN : cs.length ≤ 16384) (Ex : Exa Z h0 a "java/lang/String") (Fv : Fld Z h0 a "java/lang/String" "value" "[B" (.ref t)) (Fc : Fld Z h0 a "java/lang/String" "coder" "B" (.int 1)) (Vt : Arv Z h0 t kb .byte (Int32.ofNat (2 * cs.length)) (cs.flatMap uf) (.int 0)) (hi : i < cs.length) (hci : cs.getD i 0 = c) (hcb : ¬ c < 0 ∧ ¬ (65535 : Int32) < c) (hpl : c < (55296 : Int32)) :
    Rm l (⟨"java/lang/String", "codePointAt", "(I)I"⟩ : MethodName) jdk_42_method_57_code 3 (some .int) ({ frames := 3, cells := 0, slots := 0, locals := 44 } : Room) [] Z #[(.ref a), (.int (Int32.ofNat i))] h0 (fun v h L => v = some (.int c) ∧ Fr n0 L ∧ h = h0) := by
  refine Rm.of (plainFor_of_name pn_java_lang_String) ?_
  intro p e s m below meth cod T X hx hZ hby hml hown hnm hret hlk eT0
  have hown : s.vm.findClass "java/lang/String" = some m.cls := hown
  have hnm : meth.name = "codePointAt" := hnm
  have N0 := Fr.nil n0
  refine Goes.cast (ef_21 m a (Int32.ofNat i)) ?_
  show Goes p e below _ T (mkF m 0 #[.val (.ref a), .val (.int (Int32.ofNat i)), .unset] [])
  refine Goes.of (fun _ => XS.aloadN X.here hx rfl (hb hby d21_0) rfl rfl) ?_
  show Goes p e below _ T (mkF m 1 #[.val (.ref a), .val (.int (Int32.ofNat i)), .unset] [(.ref a)])
  refine goVirtual 0 X hx hZ hown (hw _ (List.mem_of_getElem? (i := 97) rfl)) (hw _ (List.mem_of_getElem? (i := 98) rfl)) (notFace_of_selects (args := #[]) (mvT hZ (hw _ (List.mem_of_getElem? (i := 100) rfl)))) (hw _ (List.mem_of_getElem? (i := 100) rfl)) (hw _ (List.mem_of_getElem? (i := 99) rfl)) (hw _ (List.mem_of_getElem? (i := 16) rfl)) (hw _ (List.mem_of_getElem? (i := 101) rfl)) (by decide) (rm_isl_utf l Z a0 hw a t _ cs cz h0 n0 O0 Sc hcz hN Ex Fv Fc Vt) eT0 Ex (g := (mkF m 1 #[.val (.ref a), .val (.int (Int32.ofNat i)), .unset] [(.ref a)])) rfl (by rw [hml]; rfl) [] [] (lenOf pd___Z rfl) rfl rfl (by show 2 * 0 + _ ≤ _; exact Nat.le_of_eq rfl) (hb hby d21_1) (by decide) (by decide) (by decide) (by decide) ?_
  intro v1 T1 L1 X1 q1
  obtain ⟨rfl, Nq1, eT1⟩ := q1
  have N1 := Fr.app N0 Nq1
  show Goes p e below _ T1 (mkF m 4 #[.val (.ref a), .val (.int (Int32.ofNat i)), .unset] [(.int 0)])
  refine Goes.of (fun _ => XS.ifYes X1.here hx rfl (pc0 := 4) (pc' := 27) rfl (hb hby d21_4) rfl ((if0 _ _).trans (teq (by decide)).1) (by decide) (by decide)) ?_
  show Goes p e below _ T1 (mkF m 27 #[.val (.ref a), .val (.int (Int32.ofNat i)), .unset] [])
  refine Goes.of (fun _ => XS.aloadN X1.here hx rfl (hb hby d21_27) rfl rfl) ?_
  show Goes p e below _ T1 (mkF m 28 #[.val (.ref a), .val (.int (Int32.ofNat i)), .unset] [(.ref a)])
  refine goGet X1 hx hZ hown (host := "") (Or.inl (hw _ (List.mem_of_getElem? (i := 33) rfl))) Via.refl eT1 Fv (g := (mkF m 28 #[.val (.ref a), .val (.int (Int32.ofNat i)), .unset] [(.ref a)])) rfl rfl (hb hby d21_28) ?_
  intro T2 X2 eT2
  show Goes p e below _ T2 (mkF m 31 #[.val (.ref a), .val (.int (Int32.ofNat i)), .unset] [(.ref t)])
  refine goLen X2 hx hZ eT2 Vt (g := (mkF m 31 #[.val (.ref a), .val (.int (Int32.ofNat i)), .unset] [(.ref t)])) rfl rfl (hb hby d21_31) ?_
  show Goes p e below _ T2 (mkF m 32 #[.val (.ref a), .val (.int (Int32.ofNat i)), .unset] [(.int (Int32.ofNat (2 * cs.length)))])
  refine Goes.of (fun _ => XS.iconst X2.here hx rfl (hb hby d21_32)) ?_
  show Goes p e below _ T2 (mkF m 33 #[.val (.ref a), .val (.int (Int32.ofNat i)), .unset] [(.int 1), (.int (Int32.ofNat (2 * cs.length)))])
  refine Goes.of (fun _ => XS.ishr X2.here hx rfl (hb hby d21_33) rfl) ?_
  show Goes p e below _ T2 (mkF m 34 #[.val (.ref a), .val (.int (Int32.ofNat i)), .unset] [(.int ((Int32.ofNat (2 * cs.length)) >>> ((1 : Int32) &&& 31)))])
  refine Goes.of (fun _ => XS.istoreN X2.here hx rfl (hb hby d21_34) rfl (l' := #[.val (.ref a), .val (.int (Int32.ofNat i)), .val (.int ((Int32.ofNat (2 * cs.length)) >>> ((1 : Int32) &&& 31)))]) rfl) ?_
  show Goes p e below _ T2 (mkF m 35 #[.val (.ref a), .val (.int (Int32.ofNat i)), .val (.int ((Int32.ofNat (2 * cs.length)) >>> ((1 : Int32) &&& 31)))] [])
  rw [on_shr (by omega)]
  show Goes p e below _ T2 (mkF m 35 #[.val (.ref a), .val (.int (Int32.ofNat i)), .val (.int (Int32.ofNat cs.length))] [])
  refine Goes.of (fun _ => XS.iloadN X2.here hx rfl (hb hby d21_35) rfl) ?_
  show Goes p e below _ T2 (mkF m 36 #[.val (.ref a), .val (.int (Int32.ofNat i)), .val (.int (Int32.ofNat cs.length))] [(.int (Int32.ofNat i))])
  refine Goes.of (fun _ => XS.iloadN X2.here hx rfl (hb hby d21_36) rfl) ?_
  show Goes p e below _ T2 (mkF m 37 #[.val (.ref a), .val (.int (Int32.ofNat i)), .val (.int (Int32.ofNat cs.length))] [(.int (Int32.ofNat cs.length)), (.int (Int32.ofNat i))])
  refine goStatic 0 X2 hx hZ hown (hw _ (List.mem_of_getElem? (i := 102) rfl)) (hw _ (List.mem_of_getElem? (i := 103) rfl)) (hw _ (List.mem_of_getElem? (i := 16) rfl)) (hw _ (List.mem_of_getElem? (i := 104) rfl)) (by decide) (rm_ck l Z a0 hw (Int32.ofNat i) (Int32.ofNat cs.length) fm h0 n0 O0 Sf hfm (on_nn (by omega)) ((on_lt (by omega) (by omega)).mpr hi)) eT2 (g := (mkF m 37 #[.val (.ref a), .val (.int (Int32.ofNat i)), .val (.int (Int32.ofNat cs.length))] [(.int (Int32.ofNat cs.length)), (.int (Int32.ofNat i))])) rfl (by rw [hml]; rfl) [(.int (Int32.ofNat i)), (.int (Int32.ofNat cs.length))] [] (lenOf pd__II_V rfl) rfl rfl (by show 2 * 0 + _ ≤ _; exact Nat.le_of_eq rfl) (hb hby d21_37) (by decide) (by decide) (by decide) (by decide) ?_
  intro v4 T4 L4 X4 q4
  obtain ⟨rfl, Nq4, eT4⟩ := q4
  have N4 := Fr.app N1 Nq4
  show Goes p e below _ T4 (mkF m 40 #[.val (.ref a), .val (.int (Int32.ofNat i)), .val (.int (Int32.ofNat cs.length))] [])
  refine Goes.of (fun _ => XS.aloadN X4.here hx rfl (hb hby d21_40) rfl rfl) ?_
  show Goes p e below _ T4 (mkF m 41 #[.val (.ref a), .val (.int (Int32.ofNat i)), .val (.int (Int32.ofNat cs.length))] [(.ref a)])
  refine goGet X4 hx hZ hown (host := "") (Or.inl (hw _ (List.mem_of_getElem? (i := 33) rfl))) Via.refl eT4 Fv (g := (mkF m 41 #[.val (.ref a), .val (.int (Int32.ofNat i)), .val (.int (Int32.ofNat cs.length))] [(.ref a)])) rfl rfl (hb hby d21_41) ?_
  intro T5 X5 eT5
  show Goes p e below _ T5 (mkF m 44 #[.val (.ref a), .val (.int (Int32.ofNat i)), .val (.int (Int32.ofNat cs.length))] [(.ref t)])
  refine Goes.of (fun _ => XS.iloadN X5.here hx rfl (hb hby d21_44) rfl) ?_
  show Goes p e below _ T5 (mkF m 45 #[.val (.ref a), .val (.int (Int32.ofNat i)), .val (.int (Int32.ofNat cs.length))] [(.int (Int32.ofNat i)), (.ref t)])
  refine Goes.of (fun _ => XS.iloadN X5.here hx rfl (hb hby d21_45) rfl) ?_
  show Goes p e below _ T5 (mkF m 46 #[.val (.ref a), .val (.int (Int32.ofNat i)), .val (.int (Int32.ofNat cs.length))] [(.int (Int32.ofNat cs.length)), (.int (Int32.ofNat i)), (.ref t)])
  refine goStatic 0 X5 hx hZ hown (hw _ (List.mem_of_getElem? (i := 110) rfl)) (hw _ (List.mem_of_getElem? (i := 111) rfl)) (hw _ (List.mem_of_getElem? (i := 65) rfl)) (hw _ (List.mem_of_getElem? (i := 112) rfl)) (by decide) (rm_cpu_a l Z a0 hw t _ cs i c h0 n0 O0 Sa Sh Sl hN Vt hi hci hcb hpl) eT5 (g := (mkF m 46 #[.val (.ref a), .val (.int (Int32.ofNat i)), .val (.int (Int32.ofNat cs.length))] [(.int (Int32.ofNat cs.length)), (.int (Int32.ofNat i)), (.ref t)])) rfl (by rw [hml]; rfl) [(.ref t), (.int (Int32.ofNat i)), (.int (Int32.ofNat cs.length))] [] (lenOf pd___BII_I rfl) rfl rfl (by show 2 * 0 + _ ≤ _; exact Nat.le_of_eq rfl) (hb hby d21_46) (by decide) (by decide) (by decide) (by decide) ?_
  intro v6 T6 L6 X6 q6
  obtain ⟨rfl, Nq6, eT6⟩ := q6
  have N6 := Fr.app N4 Nq6
  show Goes p e below _ T6 (mkF m 49 #[.val (.ref a), .val (.int (Int32.ofNat i)), .val (.int (Int32.ofNat cs.length))] [(.int c)])
  exact retInt X6 hx hret hlk (hb hby d21_49) eT6 (by decide) (by decide) ⟨rfl, N6, rfl⟩
set_option maxRecDepth 65536 in
set_option maxHeartbeats 40000000 in
theorem rm_cpz_b (l : Launch) (Z : State) (a0 : Array Value) (hw : ∀ d ∈ tables_1, d.before a0 Z = true) (b : Addr) (kb : ClassId) (cs : List Int32) (i : Nat) (c : Int32) (h0 : Heap) (n0 : Nat) (O0 : Old Z n0 h0) (Sa : Sta Z Z.heap "java/lang/StringUTF16" "$assertionsDisabled" "Z" (.int 1)) (Sh : Sta Z Z.heap "java/lang/StringUTF16" "HI_BYTE_SHIFT" "I" (.int 0)) (Sl : Sta Z Z.heap "java/lang/StringUTF16" "LO_BYTE_SHIFT" "I" (.int 8)) (hN : cs.length ≤ 16384) (Vb : Arv Z h0 b kb .byte (Int32.ofNat (2 * cs.length)) (cs.flatMap uf) (.int 0)) (hi : i < cs.length) (hci : cs.getD i 0 = c) (hcb : ¬ c < 0 ∧ ¬ (65535 : Int32) < c) (hpl : ¬ c < (55296 : Int32) ∧ ¬ c < (56320 : Int32)) :
    Rm l (⟨"java/lang/StringUTF16", "codePointAt", "([BIIZ)I"⟩ : MethodName) jdk_52_method_7_code 6 (some .int) ({ frames := 1, cells := 0, slots := 0, locals := 13 } : Room) [] Z #[(.ref b), (.int (Int32.ofNat i)), (.int (Int32.ofNat cs.length)), (.int 0)] h0 (fun v h L => v = some (.int c) ∧ Fr n0 L ∧ h = h0) := by
  refine Rm.of (plainFor_of_name pn_java_lang_StringUTF16) ?_
  intro p e s m below meth cod T X hx hZ hby hml hown hnm hret hlk eT0
  have hown : s.vm.findClass "java/lang/StringUTF16" = some m.cls := hown
  have hnm : meth.name = "codePointAt" := hnm
  have N0 := Fr.nil n0
  refine Goes.cast (ef_26 m b (Int32.ofNat i) (Int32.ofNat cs.length) (0 : Int32)) ?_
  show Goes p e below _ T (mkF m 0 #[.val (.ref b), .val (.int (Int32.ofNat i)), .val (.int (Int32.ofNat cs.length)), .val (.int 0), .unset, .unset] [])
  refine goGetS X hx hZ hown (host := "") (Or.inl (hw _ (List.mem_of_getElem? (i := 83) rfl))) Via.refl eT0 (Sa.ext O0.2) (g := (mkF m 0 #[.val (.ref b), .val (.int (Int32.ofNat i)), .val (.int (Int32.ofNat cs.length)), .val (.int 0), .unset, .unset] [])) rfl (hb hby d26_0) ?_
  intro T1 X1 eT1
  show Goes p e below _ T1 (mkF m 3 #[.val (.ref b), .val (.int (Int32.ofNat i)), .val (.int (Int32.ofNat cs.length)), .val (.int 0), .unset, .unset] [(.int 1)])
  refine Goes.of (fun _ => XS.ifYes X1.here hx rfl (pc0 := 3) (pc' := 19) rfl (hb hby d26_3) rfl ((if0 _ _).trans (feq (by decide)).2) (by decide) (by decide)) ?_
  show Goes p e below _ T1 (mkF m 19 #[.val (.ref b), .val (.int (Int32.ofNat i)), .val (.int (Int32.ofNat cs.length)), .val (.int 0), .unset, .unset] [])
  refine Goes.of (fun _ => XS.iloadN X1.here hx rfl (hb hby d26_19) rfl) ?_
  show Goes p e below _ T1 (mkF m 20 #[.val (.ref b), .val (.int (Int32.ofNat i)), .val (.int (Int32.ofNat cs.length)), .val (.int 0), .unset, .unset] [(.int 0)])
  refine Goes.of (fun _ => XS.ifYes X1.here hx rfl (pc0 := 20) (pc' := 28) rfl (hb hby d26_20) rfl ((if0 _ _).trans (teq (by decide)).1) (by decide) (by decide)) ?_
  show Goes p e below _ T1 (mkF m 28 #[.val (.ref b), .val (.int (Int32.ofNat i)), .val (.int (Int32.ofNat cs.length)), .val (.int 0), .unset, .unset] [])
  refine Goes.of (fun _ => XS.aloadN X1.here hx rfl (hb hby d26_28) rfl rfl) ?_
  show Goes p e below _ T1 (mkF m 29 #[.val (.ref b), .val (.int (Int32.ofNat i)), .val (.int (Int32.ofNat cs.length)), .val (.int 0), .unset, .unset] [(.ref b)])
  refine Goes.of (fun _ => XS.iloadN X1.here hx rfl (hb hby d26_29) rfl) ?_
  show Goes p e below _ T1 (mkF m 30 #[.val (.ref b), .val (.int (Int32.ofNat i)), .val (.int (Int32.ofNat cs.length)), .val (.int 0), .unset, .unset] [(.int (Int32.ofNat i)), (.ref b)])
  refine goStatic 0 X1 hx hZ hown (hw _ (List.mem_of_getElem? (i := 86) rfl)) (hw _ (List.mem_of_getElem? (i := 87) rfl)) (hw _ (List.mem_of_getElem? (i := 65) rfl)) (hw _ (List.mem_of_getElem? (i := 88) rfl)) (by decide) (rm_get l Z a0 hw b _ _ (2 * cs.length) i (nar .byte ((c >>> ((0 : Int32) &&& 31)).toInt8.toInt32)) (nar .byte ((c >>> ((8 : Int32) &&& 31)).toInt8.toInt32)) h0 n0 O0 Sa Sh Sl (by omega) (by omega) Vb (by rw [get_hi hi, hci]) (by rw [get_lo hi, hci])) eT1 (g := (mkF m 30 #[.val (.ref b), .val (.int (Int32.ofNat i)), .val (.int (Int32.ofNat cs.length)), .val (.int 0), .unset, .unset] [(.int (Int32.ofNat i)), (.ref b)])) rfl (by rw [hml]; rfl) [(.ref b), (.int (Int32.ofNat i))] [] (lenOf pd___BI_C rfl) rfl rfl (by show 2 * 0 + _ ≤ _; exact Nat.le_of_eq rfl) (hb hby d26_30) (by decide) (by decide) (by decide) (by decide) ?_
  intro v2 T2 L2 X2 q2
  obtain ⟨rfl, Nq2, eT2⟩ := q2
  have N2 := Fr.app N0 Nq2
  rw [getc c hcb]
  show Goes p e below _ T2 (mkF m 33 #[.val (.ref b), .val (.int (Int32.ofNat i)), .val (.int (Int32.ofNat cs.length)), .val (.int 0), .unset, .unset] [(.int c)])
  refine Goes.of (fun _ => XS.istore X2.here hx rfl (hb hby d26_33) rfl (l' := #[.val (.ref b), .val (.int (Int32.ofNat i)), .val (.int (Int32.ofNat cs.length)), .val (.int 0), .val (.int c), .unset]) rfl) ?_
  show Goes p e below _ T2 (mkF m 35 #[.val (.ref b), .val (.int (Int32.ofNat i)), .val (.int (Int32.ofNat cs.length)), .val (.int 0), .val (.int c), .unset] [])
  refine Goes.of (fun _ => XS.iload X2.here hx rfl (hb hby d26_35) rfl) ?_
  show Goes p e below _ T2 (mkF m 37 #[.val (.ref b), .val (.int (Int32.ofNat i)), .val (.int (Int32.ofNat cs.length)), .val (.int 0), .val (.int c), .unset] [(.int c)])
  refine goStatic 0 X2 hx hZ hown (hw _ (List.mem_of_getElem? (i := 116) rfl)) (hw _ (List.mem_of_getElem? (i := 117) rfl)) (hw _ (List.mem_of_getElem? (i := 118) rfl)) (hw _ (List.mem_of_getElem? (i := 119) rfl)) (by decide) (rm_hs0b l Z a0 hw c h0 n0 O0 hpl.1 hpl.2) eT2 (g := (mkF m 37 #[.val (.ref b), .val (.int (Int32.ofNat i)), .val (.int (Int32.ofNat cs.length)), .val (.int 0), .val (.int c), .unset] [(.int c)])) rfl (by rw [hml]; rfl) [(.int c)] [] (lenOf pd__C_Z rfl) rfl rfl (by show 2 * 0 + _ ≤ _; exact Nat.le_of_eq rfl) (hb hby d26_37) (by decide) (by decide) (by decide) (by decide) ?_
  intro v3 T3 L3 X3 q3
  obtain ⟨rfl, Nq3, eT3⟩ := q3
  have N3 := Fr.app N2 Nq3
  show Goes p e below _ T3 (mkF m 40 #[.val (.ref b), .val (.int (Int32.ofNat i)), .val (.int (Int32.ofNat cs.length)), .val (.int 0), .val (.int c), .unset] [(.int 0)])
  refine Goes.of (fun _ => XS.ifYes X3.here hx rfl (pc0 := 40) (pc' := 83) rfl (hb hby d26_40) rfl ((if0 _ _).trans (teq (by decide)).1) (by decide) (by decide)) ?_
  show Goes p e below _ T3 (mkF m 83 #[.val (.ref b), .val (.int (Int32.ofNat i)), .val (.int (Int32.ofNat cs.length)), .val (.int 0), .val (.int c), .unset] [])
  refine Goes.of (fun _ => XS.iload X3.here hx rfl (hb hby d26_83) rfl) ?_
  show Goes p e below _ T3 (mkF m 85 #[.val (.ref b), .val (.int (Int32.ofNat i)), .val (.int (Int32.ofNat cs.length)), .val (.int 0), .val (.int c), .unset] [(.int c)])
  exact retInt X3 hx hret hlk (hb hby d26_85) eT3 (by decide) (by decide) ⟨rfl, N3, rfl⟩
set_option maxRecDepth 65536 in
set_option maxHeartbeats 40000000 in
theorem rm_cpu_b (l : Launch) (Z : State) (a0 : Array Value) (hw : ∀ d ∈ tables_1, d.before a0 Z = true) (b : Addr) (kb : ClassId) (cs : List Int32) (i : Nat) (c : Int32) (h0 : Heap) (n0 : Nat) (O0 : Old Z n0 h0) (Sa : Sta Z Z.heap "java/lang/StringUTF16" "$assertionsDisabled" "Z" (.int 1)) (Sh : Sta Z Z.heap "java/lang/StringUTF16" "HI_BYTE_SHIFT" "I" (.int 0)) (Sl : Sta Z Z.heap "java/lang/StringUTF16" "LO_BYTE_SHIFT" "I" (.int 8)) (hN : cs.length ≤ 16384) (Vb : Arv Z h0 b kb .byte (Int32.ofNat (2 * cs.length)) (cs.flatMap uf) (.int 0)) (hi : i < cs.length) (hci : cs.getD i 0 = c) (hcb : ¬ c < 0 ∧ ¬ (65535 : Int32) < c) (hpl : ¬ c < (55296 : Int32) ∧ ¬ c < (56320 : Int32)) :
    Rm l (⟨"java/lang/StringUTF16", "codePointAt", "([BII)I"⟩ : MethodName) jdk_52_method_8_code 3 (some .int) ({ frames := 2, cells := 0, slots := 0, locals := 30 } : Room) [] Z #[(.ref b), (.int (Int32.ofNat i)), (.int (Int32.ofNat cs.length))] h0 (fun v h L => v = some (.int c) ∧ Fr n0 L ∧ h = h0) := by
  refine Rm.of (plainFor_of_name pn_java_lang_StringUTF16) ?_
  intro p e s m below meth cod T X hx hZ hby hml hown hnm hret hlk eT0
  have hown : s.vm.findClass "java/lang/StringUTF16" = some m.cls := hown
  have hnm : meth.name = "codePointAt" := hnm
  have N0 := Fr.nil n0
  refine Goes.cast (ef_25 m b (Int32.ofNat i) (Int32.ofNat cs.length)) ?_
  show Goes p e below _ T (mkF m 0 #[.val (.ref b), .val (.int (Int32.ofNat i)), .val (.int (Int32.ofNat cs.length))] [])
  refine Goes.of (fun _ => XS.aloadN X.here hx rfl (hb hby d25_0) rfl rfl) ?_
  show Goes p e below _ T (mkF m 1 #[.val (.ref b), .val (.int (Int32.ofNat i)), .val (.int (Int32.ofNat cs.length))] [(.ref b)])
  refine Goes.of (fun _ => XS.iloadN X.here hx rfl (hb hby d25_1) rfl) ?_
  show Goes p e below _ T (mkF m 2 #[.val (.ref b), .val (.int (Int32.ofNat i)), .val (.int (Int32.ofNat cs.length))] [(.int (Int32.ofNat i)), (.ref b)])
  refine Goes.of (fun _ => XS.iloadN X.here hx rfl (hb hby d25_2) rfl) ?_
  show Goes p e below _ T (mkF m 3 #[.val (.ref b), .val (.int (Int32.ofNat i)), .val (.int (Int32.ofNat cs.length))] [(.int (Int32.ofNat cs.length)), (.int (Int32.ofNat i)), (.ref b)])
  refine Goes.of (fun _ => XS.iconst X.here hx rfl (hb hby d25_3)) ?_
  show Goes p e below _ T (mkF m 4 #[.val (.ref b), .val (.int (Int32.ofNat i)), .val (.int (Int32.ofNat cs.length))] [(.int 0), (.int (Int32.ofNat cs.length)), (.int (Int32.ofNat i)), (.ref b)])
  refine goStatic 0 X hx hZ hown (hw _ (List.mem_of_getElem? (i := 113) rfl)) (hw _ (List.mem_of_getElem? (i := 114) rfl)) (hw _ (List.mem_of_getElem? (i := 65) rfl)) (hw _ (List.mem_of_getElem? (i := 115) rfl)) (by decide) (rm_cpz_b l Z a0 hw b _ cs i c h0 n0 O0 Sa Sh Sl hN Vb hi hci hcb hpl) eT0 (g := (mkF m 4 #[.val (.ref b), .val (.int (Int32.ofNat i)), .val (.int (Int32.ofNat cs.length))] [(.int 0), (.int (Int32.ofNat cs.length)), (.int (Int32.ofNat i)), (.ref b)])) rfl (by rw [hml]; rfl) [(.ref b), (.int (Int32.ofNat i)), (.int (Int32.ofNat cs.length)), (.int 0)] [] (lenOf pd___BIIZ_I rfl) rfl rfl (by show 2 * 0 + _ ≤ _; exact Nat.le_of_eq rfl) (hb hby d25_4) (by decide) (by decide) (by decide) (by decide) ?_
  intro v1 T1 L1 X1 q1
  obtain ⟨rfl, Nq1, eT1⟩ := q1
  have N1 := Fr.app N0 Nq1
  show Goes p e below _ T1 (mkF m 7 #[.val (.ref b), .val (.int (Int32.ofNat i)), .val (.int (Int32.ofNat cs.length))] [(.int c)])
  exact retInt X1 hx hret hlk (hb hby d25_7) eT1 (by decide) (by decide) ⟨rfl, N1, rfl⟩
set_option maxRecDepth 65536 in
set_option maxHeartbeats 40000000 in
theorem rm_cpa_b (l : Launch) (Z : State) (a0 : Array Value) (hw : ∀ d ∈ tables_1, d.before a0 Z = true) (a t : Addr) (kb : ClassId) (cs : List Int32) (cz : Int32) (fm : Value) (i : Nat) (c : Int32) (h0 : Heap) (n0 : Nat) (O0 : Old Z n0 h0) (Sa : Sta Z Z.heap "java/lang/StringUTF16" "$assertionsDisabled" "Z" (.int 1)) (Sh : Sta Z Z.heap "java/lang/StringUTF16" "HI_BYTE_SHIFT" "I" (.int 0)) (Sl : Sta Z Z.heap "java/lang/StringUTF16" "LO_BYTE_SHIFT" "I" (.int 8)) (Sc : Sta Z Z.heap "java/lang/String" "COMPACT_STRINGS" "Z" (.int cz)) (hcz : ¬ cz = 0) (Sf : Sta Z Z.heap "jdk/internal/util/Preconditions" "SIOOBE_FORMATTER" "Ljava/util/function/BiFunction;" fm) (hfm : fm.isRef = true) (hN : cs.length ≤ 16384) (Ex : Exa Z h0 a "java/lang/String") (Fv : Fld Z h0 a "java/lang/String" "value" "[B" (.ref t)) (Fc : Fld Z h0 a "java/lang/String" "coder" "B" (.int 1)) (Vt : Arv Z h0 t kb .byte (Int32.ofNat (2 * cs.length)) (cs.flatMap uf) (.int 0)) (hi : i < cs.length) (hci : cs.getD i 0 = c) (hcb : ¬ c < 0 ∧ ¬ (65535 : Int32) < c) (hpl : ¬ c < (55296 : Int32) ∧ ¬ c < (56320 : Int32)) :
    Rm l (⟨"java/lang/String", "codePointAt", "(I)I"⟩ : MethodName) jdk_42_method_57_code 3 (some .int) ({ frames := 3, cells := 0, slots := 0, locals := 44 } : Room) [] Z #[(.ref a), (.int (Int32.ofNat i))] h0 (fun v h L => v = some (.int c) ∧ Fr n0 L ∧ h = h0) := by
  refine Rm.of (plainFor_of_name pn_java_lang_String) ?_
  intro p e s m below meth cod T X hx hZ hby hml hown hnm hret hlk eT0
  have hown : s.vm.findClass "java/lang/String" = some m.cls := hown
  have hnm : meth.name = "codePointAt" := hnm
  have N0 := Fr.nil n0
  refine Goes.cast (ef_21 m a (Int32.ofNat i)) ?_
  show Goes p e below _ T (mkF m 0 #[.val (.ref a), .val (.int (Int32.ofNat i)), .unset] [])
  refine Goes.of (fun _ => XS.aloadN X.here hx rfl (hb hby d21_0) rfl rfl) ?_
  show Goes p e below _ T (mkF m 1 #[.val (.ref a), .val (.int (Int32.ofNat i)), .unset] [(.ref a)])
  refine goVirtual 0 X hx hZ hown (hw _ (List.mem_of_getElem? (i := 97) rfl)) (hw _ (List.mem_of_getElem? (i := 98) rfl)) (notFace_of_selects (args := #[]) (mvT hZ (hw _ (List.mem_of_getElem? (i := 100) rfl)))) (hw _ (List.mem_of_getElem? (i := 100) rfl)) (hw _ (List.mem_of_getElem? (i := 99) rfl)) (hw _ (List.mem_of_getElem? (i := 16) rfl)) (hw _ (List.mem_of_getElem? (i := 101) rfl)) (by decide) (rm_isl_utf l Z a0 hw a t _ cs cz h0 n0 O0 Sc hcz hN Ex Fv Fc Vt) eT0 Ex (g := (mkF m 1 #[.val (.ref a), .val (.int (Int32.ofNat i)), .unset] [(.ref a)])) rfl (by rw [hml]; rfl) [] [] (lenOf pd___Z rfl) rfl rfl (by show 2 * 0 + _ ≤ _; exact Nat.le_of_eq rfl) (hb hby d21_1) (by decide) (by decide) (by decide) (by decide) ?_
  intro v1 T1 L1 X1 q1
  obtain ⟨rfl, Nq1, eT1⟩ := q1
  have N1 := Fr.app N0 Nq1
  show Goes p e below _ T1 (mkF m 4 #[.val (.ref a), .val (.int (Int32.ofNat i)), .unset] [(.int 0)])
  refine Goes.of (fun _ => XS.ifYes X1.here hx rfl (pc0 := 4) (pc' := 27) rfl (hb hby d21_4) rfl ((if0 _ _).trans (teq (by decide)).1) (by decide) (by decide)) ?_
  show Goes p e below _ T1 (mkF m 27 #[.val (.ref a), .val (.int (Int32.ofNat i)), .unset] [])
  refine Goes.of (fun _ => XS.aloadN X1.here hx rfl (hb hby d21_27) rfl rfl) ?_
  show Goes p e below _ T1 (mkF m 28 #[.val (.ref a), .val (.int (Int32.ofNat i)), .unset] [(.ref a)])
  refine goGet X1 hx hZ hown (host := "") (Or.inl (hw _ (List.mem_of_getElem? (i := 33) rfl))) Via.refl eT1 Fv (g := (mkF m 28 #[.val (.ref a), .val (.int (Int32.ofNat i)), .unset] [(.ref a)])) rfl rfl (hb hby d21_28) ?_
  intro T2 X2 eT2
  show Goes p e below _ T2 (mkF m 31 #[.val (.ref a), .val (.int (Int32.ofNat i)), .unset] [(.ref t)])
  refine goLen X2 hx hZ eT2 Vt (g := (mkF m 31 #[.val (.ref a), .val (.int (Int32.ofNat i)), .unset] [(.ref t)])) rfl rfl (hb hby d21_31) ?_
  show Goes p e below _ T2 (mkF m 32 #[.val (.ref a), .val (.int (Int32.ofNat i)), .unset] [(.int (Int32.ofNat (2 * cs.length)))])
  refine Goes.of (fun _ => XS.iconst X2.here hx rfl (hb hby d21_32)) ?_
  show Goes p e below _ T2 (mkF m 33 #[.val (.ref a), .val (.int (Int32.ofNat i)), .unset] [(.int 1), (.int (Int32.ofNat (2 * cs.length)))])
  refine Goes.of (fun _ => XS.ishr X2.here hx rfl (hb hby d21_33) rfl) ?_
  show Goes p e below _ T2 (mkF m 34 #[.val (.ref a), .val (.int (Int32.ofNat i)), .unset] [(.int ((Int32.ofNat (2 * cs.length)) >>> ((1 : Int32) &&& 31)))])
  refine Goes.of (fun _ => XS.istoreN X2.here hx rfl (hb hby d21_34) rfl (l' := #[.val (.ref a), .val (.int (Int32.ofNat i)), .val (.int ((Int32.ofNat (2 * cs.length)) >>> ((1 : Int32) &&& 31)))]) rfl) ?_
  show Goes p e below _ T2 (mkF m 35 #[.val (.ref a), .val (.int (Int32.ofNat i)), .val (.int ((Int32.ofNat (2 * cs.length)) >>> ((1 : Int32) &&& 31)))] [])
  rw [on_shr (by omega)]
  show Goes p e below _ T2 (mkF m 35 #[.val (.ref a), .val (.int (Int32.ofNat i)), .val (.int (Int32.ofNat cs.length))] [])
  refine Goes.of (fun _ => XS.iloadN X2.here hx rfl (hb hby d21_35) rfl) ?_
  show Goes p e below _ T2 (mkF m 36 #[.val (.ref a), .val (.int (Int32.ofNat i)), .val (.int (Int32.ofNat cs.length))] [(.int (Int32.ofNat i))])
  refine Goes.of (fun _ => XS.iloadN X2.here hx rfl (hb hby d21_36) rfl) ?_
  show Goes p e below _ T2 (mkF m 37 #[.val (.ref a), .val (.int (Int32.ofNat i)), .val (.int (Int32.ofNat cs.length))] [(.int (Int32.ofNat cs.length)), (.int (Int32.ofNat i))])
  refine goStatic 0 X2 hx hZ hown (hw _ (List.mem_of_getElem? (i := 102) rfl)) (hw _ (List.mem_of_getElem? (i := 103) rfl)) (hw _ (List.mem_of_getElem? (i := 16) rfl)) (hw _ (List.mem_of_getElem? (i := 104) rfl)) (by decide) (rm_ck l Z a0 hw (Int32.ofNat i) (Int32.ofNat cs.length) fm h0 n0 O0 Sf hfm (on_nn (by omega)) ((on_lt (by omega) (by omega)).mpr hi)) eT2 (g := (mkF m 37 #[.val (.ref a), .val (.int (Int32.ofNat i)), .val (.int (Int32.ofNat cs.length))] [(.int (Int32.ofNat cs.length)), (.int (Int32.ofNat i))])) rfl (by rw [hml]; rfl) [(.int (Int32.ofNat i)), (.int (Int32.ofNat cs.length))] [] (lenOf pd__II_V rfl) rfl rfl (by show 2 * 0 + _ ≤ _; exact Nat.le_of_eq rfl) (hb hby d21_37) (by decide) (by decide) (by decide) (by decide) ?_
  intro v4 T4 L4 X4 q4
  obtain ⟨rfl, Nq4, eT4⟩ := q4
  have N4 := Fr.app N1 Nq4
  show Goes p e below _ T4 (mkF m 40 #[.val (.ref a), .val (.int (Int32.ofNat i)), .val (.int (Int32.ofNat cs.length))] [])
  refine Goes.of (fun _ => XS.aloadN X4.here hx rfl (hb hby d21_40) rfl rfl) ?_
  show Goes p e below _ T4 (mkF m 41 #[.val (.ref a), .val (.int (Int32.ofNat i)), .val (.int (Int32.ofNat cs.length))] [(.ref a)])
  refine goGet X4 hx hZ hown (host := "") (Or.inl (hw _ (List.mem_of_getElem? (i := 33) rfl))) Via.refl eT4 Fv (g := (mkF m 41 #[.val (.ref a), .val (.int (Int32.ofNat i)), .val (.int (Int32.ofNat cs.length))] [(.ref a)])) rfl rfl (hb hby d21_41) ?_
  intro T5 X5 eT5
  show Goes p e below _ T5 (mkF m 44 #[.val (.ref a), .val (.int (Int32.ofNat i)), .val (.int (Int32.ofNat cs.length))] [(.ref t)])
  refine Goes.of (fun _ => XS.iloadN X5.here hx rfl (hb hby d21_44) rfl) ?_
  show Goes p e below _ T5 (mkF m 45 #[.val (.ref a), .val (.int (Int32.ofNat i)), .val (.int (Int32.ofNat cs.length))] [(.int (Int32.ofNat i)), (.ref t)])
  refine Goes.of (fun _ => XS.iloadN X5.here hx rfl (hb hby d21_45) rfl) ?_
  show Goes p e below _ T5 (mkF m 46 #[.val (.ref a), .val (.int (Int32.ofNat i)), .val (.int (Int32.ofNat cs.length))] [(.int (Int32.ofNat cs.length)), (.int (Int32.ofNat i)), (.ref t)])
  refine goStatic 0 X5 hx hZ hown (hw _ (List.mem_of_getElem? (i := 110) rfl)) (hw _ (List.mem_of_getElem? (i := 111) rfl)) (hw _ (List.mem_of_getElem? (i := 65) rfl)) (hw _ (List.mem_of_getElem? (i := 112) rfl)) (by decide) (rm_cpu_b l Z a0 hw t _ cs i c h0 n0 O0 Sa Sh Sl hN Vt hi hci hcb hpl) eT5 (g := (mkF m 46 #[.val (.ref a), .val (.int (Int32.ofNat i)), .val (.int (Int32.ofNat cs.length))] [(.int (Int32.ofNat cs.length)), (.int (Int32.ofNat i)), (.ref t)])) rfl (by rw [hml]; rfl) [(.ref t), (.int (Int32.ofNat i)), (.int (Int32.ofNat cs.length))] [] (lenOf pd___BII_I rfl) rfl rfl (by show 2 * 0 + _ ≤ _; exact Nat.le_of_eq rfl) (hb hby d21_46) (by decide) (by decide) (by decide) (by decide) ?_
  intro v6 T6 L6 X6 q6
  obtain ⟨rfl, Nq6, eT6⟩ := q6
  have N6 := Fr.app N4 Nq6
  show Goes p e below _ T6 (mkF m 49 #[.val (.ref a), .val (.int (Int32.ofNat i)), .val (.int (Int32.ofNat cs.length))] [(.int c)])
  exact retInt X6 hx hret hlk (hb hby d21_49) eT6 (by decide) (by decide) ⟨rfl, N6, rfl⟩
set_option maxRecDepth 65536 in
set_option maxHeartbeats 40000000 in
theorem rm_cpz_p (l : Launch) (Z : State) (a0 : Array Value) (hw : ∀ d ∈ tables_1, d.before a0 Z = true) (b : Addr) (kb : ClassId) (cs : List Int32) (i : Nat) (c d : Int32) (h0 : Heap) (n0 : Nat) (O0 : Old Z n0 h0) (Sa : Sta Z Z.heap "java/lang/StringUTF16" "$assertionsDisabled" "Z" (.int 1)) (Sh : Sta Z Z.heap "java/lang/StringUTF16" "HI_BYTE_SHIFT" "I" (.int 0)) (Sl : Sta Z Z.heap "java/lang/StringUTF16" "LO_BYTE_SHIFT" "I" (.int 8)) (hN : cs.length ≤ 16384) (Vb : Arv Z h0 b kb .byte (Int32.ofNat (2 * cs.length)) (cs.flatMap uf) (.int 0)) (hi : i < cs.length) (hci : cs.getD i 0 = c) (hcb : ¬ c < 0 ∧ ¬ (65535 : Int32) < c) (hi2 : i + 1 < cs.length) (hdi : cs.getD (i + 1) 0 = d) (hdb : ¬ d < 0 ∧ ¬ (65535 : Int32) < d) (hH : Hi c) (hL : Lo d) :
    Rm l (⟨"java/lang/StringUTF16", "codePointAt", "([BIIZ)I"⟩ : MethodName) jdk_52_method_7_code 6 (some .int) ({ frames := 1, cells := 0, slots := 0, locals := 13 } : Room) [] Z #[(.ref b), (.int (Int32.ofNat i)), (.int (Int32.ofNat cs.length)), (.int 0)] h0 (fun v h L => v = some (.int (tcp c d)) ∧ Fr n0 L ∧ h = h0) := by
  refine Rm.of (plainFor_of_name pn_java_lang_StringUTF16) ?_
  intro p e s m below meth cod T X hx hZ hby hml hown hnm hret hlk eT0
  have hown : s.vm.findClass "java/lang/StringUTF16" = some m.cls := hown
  have hnm : meth.name = "codePointAt" := hnm
  have N0 := Fr.nil n0
  refine Goes.cast (ef_26 m b (Int32.ofNat i) (Int32.ofNat cs.length) (0 : Int32)) ?_
  show Goes p e below _ T (mkF m 0 #[.val (.ref b), .val (.int (Int32.ofNat i)), .val (.int (Int32.ofNat cs.length)), .val (.int 0), .unset, .unset] [])
  refine goGetS X hx hZ hown (host := "") (Or.inl (hw _ (List.mem_of_getElem? (i := 83) rfl))) Via.refl eT0 (Sa.ext O0.2) (g := (mkF m 0 #[.val (.ref b), .val (.int (Int32.ofNat i)), .val (.int (Int32.ofNat cs.length)), .val (.int 0), .unset, .unset] [])) rfl (hb hby d26_0) ?_
  intro T1 X1 eT1
  show Goes p e below _ T1 (mkF m 3 #[.val (.ref b), .val (.int (Int32.ofNat i)), .val (.int (Int32.ofNat cs.length)), .val (.int 0), .unset, .unset] [(.int 1)])
  refine Goes.of (fun _ => XS.ifYes X1.here hx rfl (pc0 := 3) (pc' := 19) rfl (hb hby d26_3) rfl ((if0 _ _).trans (feq (by decide)).2) (by decide) (by decide)) ?_
  show Goes p e below _ T1 (mkF m 19 #[.val (.ref b), .val (.int (Int32.ofNat i)), .val (.int (Int32.ofNat cs.length)), .val (.int 0), .unset, .unset] [])
  refine Goes.of (fun _ => XS.iloadN X1.here hx rfl (hb hby d26_19) rfl) ?_
  show Goes p e below _ T1 (mkF m 20 #[.val (.ref b), .val (.int (Int32.ofNat i)), .val (.int (Int32.ofNat cs.length)), .val (.int 0), .unset, .unset] [(.int 0)])
  refine Goes.of (fun _ => XS.ifYes X1.here hx rfl (pc0 := 20) (pc' := 28) rfl (hb hby d26_20) rfl ((if0 _ _).trans (teq (by decide)).1) (by decide) (by decide)) ?_
  show Goes p e below _ T1 (mkF m 28 #[.val (.ref b), .val (.int (Int32.ofNat i)), .val (.int (Int32.ofNat cs.length)), .val (.int 0), .unset, .unset] [])
  refine Goes.of (fun _ => XS.aloadN X1.here hx rfl (hb hby d26_28) rfl rfl) ?_
  show Goes p e below _ T1 (mkF m 29 #[.val (.ref b), .val (.int (Int32.ofNat i)), .val (.int (Int32.ofNat cs.length)), .val (.int 0), .unset, .unset] [(.ref b)])
  refine Goes.of (fun _ => XS.iloadN X1.here hx rfl (hb hby d26_29) rfl) ?_
  show Goes p e below _ T1 (mkF m 30 #[.val (.ref b), .val (.int (Int32.ofNat i)), .val (.int (Int32.ofNat cs.length)), .val (.int 0), .unset, .unset] [(.int (Int32.ofNat i)), (.ref b)])
  refine goStatic 0 X1 hx hZ hown (hw _ (List.mem_of_getElem? (i := 86) rfl)) (hw _ (List.mem_of_getElem? (i := 87) rfl)) (hw _ (List.mem_of_getElem? (i := 65) rfl)) (hw _ (List.mem_of_getElem? (i := 88) rfl)) (by decide) (rm_get l Z a0 hw b _ _ (2 * cs.length) i (nar .byte ((c >>> ((0 : Int32) &&& 31)).toInt8.toInt32)) (nar .byte ((c >>> ((8 : Int32) &&& 31)).toInt8.toInt32)) h0 n0 O0 Sa Sh Sl (by omega) (by omega) Vb (by rw [get_hi hi, hci]) (by rw [get_lo hi, hci])) eT1 (g := (mkF m 30 #[.val (.ref b), .val (.int (Int32.ofNat i)), .val (.int (Int32.ofNat cs.length)), .val (.int 0), .unset, .unset] [(.int (Int32.ofNat i)), (.ref b)])) rfl (by rw [hml]; rfl) [(.ref b), (.int (Int32.ofNat i))] [] (lenOf pd___BI_C rfl) rfl rfl (by show 2 * 0 + _ ≤ _; exact Nat.le_of_eq rfl) (hb hby d26_30) (by decide) (by decide) (by decide) (by decide) ?_
  intro v2 T2 L2 X2 q2
  obtain ⟨rfl, Nq2, eT2⟩ := q2
  have N2 := Fr.app N0 Nq2
  rw [getc c hcb]
  show Goes p e below _ T2 (mkF m 33 #[.val (.ref b), .val (.int (Int32.ofNat i)), .val (.int (Int32.ofNat cs.length)), .val (.int 0), .unset, .unset] [(.int c)])
  refine Goes.of (fun _ => XS.istore X2.here hx rfl (hb hby d26_33) rfl (l' := #[.val (.ref b), .val (.int (Int32.ofNat i)), .val (.int (Int32.ofNat cs.length)), .val (.int 0), .val (.int c), .unset]) rfl) ?_
  show Goes p e below _ T2 (mkF m 35 #[.val (.ref b), .val (.int (Int32.ofNat i)), .val (.int (Int32.ofNat cs.length)), .val (.int 0), .val (.int c), .unset] [])
  refine Goes.of (fun _ => XS.iload X2.here hx rfl (hb hby d26_35) rfl) ?_
  show Goes p e below _ T2 (mkF m 37 #[.val (.ref b), .val (.int (Int32.ofNat i)), .val (.int (Int32.ofNat cs.length)), .val (.int 0), .val (.int c), .unset] [(.int c)])
  refine goStatic 0 X2 hx hZ hown (hw _ (List.mem_of_getElem? (i := 116) rfl)) (hw _ (List.mem_of_getElem? (i := 117) rfl)) (hw _ (List.mem_of_getElem? (i := 118) rfl)) (hw _ (List.mem_of_getElem? (i := 119) rfl)) (by decide) (rm_hs1 l Z a0 hw c h0 n0 O0 hH) eT2 (g := (mkF m 37 #[.val (.ref b), .val (.int (Int32.ofNat i)), .val (.int (Int32.ofNat cs.length)), .val (.int 0), .val (.int c), .unset] [(.int c)])) rfl (by rw [hml]; rfl) [(.int c)] [] (lenOf pd__C_Z rfl) rfl rfl (by show 2 * 0 + _ ≤ _; exact Nat.le_of_eq rfl) (hb hby d26_37) (by decide) (by decide) (by decide) (by decide) ?_
  intro v3 T3 L3 X3 q3
  obtain ⟨rfl, Nq3, eT3⟩ := q3
  have N3 := Fr.app N2 Nq3
  show Goes p e below _ T3 (mkF m 40 #[.val (.ref b), .val (.int (Int32.ofNat i)), .val (.int (Int32.ofNat cs.length)), .val (.int 0), .val (.int c), .unset] [(.int 1)])
  refine Goes.of (fun _ => XS.ifNo X3.here hx rfl (hb hby d26_40) rfl ((if0 _ _).trans (feq (by decide)).1)) ?_
  show Goes p e below _ T3 (mkF m 43 #[.val (.ref b), .val (.int (Int32.ofNat i)), .val (.int (Int32.ofNat cs.length)), .val (.int 0), .val (.int c), .unset] [])
  refine Goes.of (fun _ => XS.iinc X3.here hx rfl (hb hby d26_43) rfl (l' := #[.val (.ref b), .val (.int ((Int32.ofNat i) + (1 : Int32))), .val (.int (Int32.ofNat cs.length)), .val (.int 0), .val (.int c), .unset]) rfl) ?_
  show Goes p e below _ T3 (mkF m 46 #[.val (.ref b), .val (.int ((Int32.ofNat i) + (1 : Int32))), .val (.int (Int32.ofNat cs.length)), .val (.int 0), .val (.int c), .unset] [])
  rw [on_inc]
  show Goes p e below _ T3 (mkF m 46 #[.val (.ref b), .val (.int (Int32.ofNat (i + 1))), .val (.int (Int32.ofNat cs.length)), .val (.int 0), .val (.int c), .unset] [])
  refine Goes.of (fun _ => XS.iloadN X3.here hx rfl (hb hby d26_46) rfl) ?_
  show Goes p e below _ T3 (mkF m 47 #[.val (.ref b), .val (.int (Int32.ofNat (i + 1))), .val (.int (Int32.ofNat cs.length)), .val (.int 0), .val (.int c), .unset] [(.int (Int32.ofNat (i + 1)))])
  refine Goes.of (fun _ => XS.iloadN X3.here hx rfl (hb hby d26_47) rfl) ?_
  show Goes p e below _ T3 (mkF m 48 #[.val (.ref b), .val (.int (Int32.ofNat (i + 1))), .val (.int (Int32.ofNat cs.length)), .val (.int 0), .val (.int c), .unset] [(.int (Int32.ofNat cs.length)), (.int (Int32.ofNat (i + 1)))])
  refine Goes.of (fun _ => XS.icmpNo X3.here hx rfl (hb hby d26_48) rfl (tlt ((on_lt (by omega) (by omega)).mpr hi2)).2.1) ?_
  show Goes p e below _ T3 (mkF m 51 #[.val (.ref b), .val (.int (Int32.ofNat (i + 1))), .val (.int (Int32.ofNat cs.length)), .val (.int 0), .val (.int c), .unset] [])
  refine Goes.of (fun _ => XS.iloadN X3.here hx rfl (hb hby d26_51) rfl) ?_
  show Goes p e below _ T3 (mkF m 52 #[.val (.ref b), .val (.int (Int32.ofNat (i + 1))), .val (.int (Int32.ofNat cs.length)), .val (.int 0), .val (.int c), .unset] [(.int 0)])
  refine Goes.of (fun _ => XS.ifYes X3.here hx rfl (pc0 := 52) (pc' := 60) rfl (hb hby d26_52) rfl ((if0 _ _).trans (teq (by decide)).1) (by decide) (by decide)) ?_
  show Goes p e below _ T3 (mkF m 60 #[.val (.ref b), .val (.int (Int32.ofNat (i + 1))), .val (.int (Int32.ofNat cs.length)), .val (.int 0), .val (.int c), .unset] [])
  refine Goes.of (fun _ => XS.aloadN X3.here hx rfl (hb hby d26_60) rfl rfl) ?_
  show Goes p e below _ T3 (mkF m 61 #[.val (.ref b), .val (.int (Int32.ofNat (i + 1))), .val (.int (Int32.ofNat cs.length)), .val (.int 0), .val (.int c), .unset] [(.ref b)])
  refine Goes.of (fun _ => XS.iloadN X3.here hx rfl (hb hby d26_61) rfl) ?_
  show Goes p e below _ T3 (mkF m 62 #[.val (.ref b), .val (.int (Int32.ofNat (i + 1))), .val (.int (Int32.ofNat cs.length)), .val (.int 0), .val (.int c), .unset] [(.int (Int32.ofNat (i + 1))), (.ref b)])
  refine goStatic 0 X3 hx hZ hown (hw _ (List.mem_of_getElem? (i := 86) rfl)) (hw _ (List.mem_of_getElem? (i := 87) rfl)) (hw _ (List.mem_of_getElem? (i := 65) rfl)) (hw _ (List.mem_of_getElem? (i := 88) rfl)) (by decide) (rm_get l Z a0 hw b _ _ (2 * cs.length) (i + 1) (nar .byte ((d >>> ((0 : Int32) &&& 31)).toInt8.toInt32)) (nar .byte ((d >>> ((8 : Int32) &&& 31)).toInt8.toInt32)) h0 n0 O0 Sa Sh Sl (by omega) (by omega) Vb (by rw [get_hi hi2, hdi]) (by rw [get_lo hi2, hdi])) eT3 (g := (mkF m 62 #[.val (.ref b), .val (.int (Int32.ofNat (i + 1))), .val (.int (Int32.ofNat cs.length)), .val (.int 0), .val (.int c), .unset] [(.int (Int32.ofNat (i + 1))), (.ref b)])) rfl (by rw [hml]; rfl) [(.ref b), (.int (Int32.ofNat (i + 1)))] [] (lenOf pd___BI_C rfl) rfl rfl (by show 2 * 0 + _ ≤ _; exact Nat.le_of_eq rfl) (hb hby d26_62) (by decide) (by decide) (by decide) (by decide) ?_
  intro v4 T4 L4 X4 q4
  obtain ⟨rfl, Nq4, eT4⟩ := q4
  have N4 := Fr.app N3 Nq4
  rw [getc d hdb]
  show Goes p e below _ T4 (mkF m 65 #[.val (.ref b), .val (.int (Int32.ofNat (i + 1))), .val (.int (Int32.ofNat cs.length)), .val (.int 0), .val (.int c), .unset] [(.int d)])
  refine Goes.of (fun _ => XS.istore X4.here hx rfl (hb hby d26_65) rfl (l' := #[.val (.ref b), .val (.int (Int32.ofNat (i + 1))), .val (.int (Int32.ofNat cs.length)), .val (.int 0), .val (.int c), .val (.int d)]) rfl) ?_
  show Goes p e below _ T4 (mkF m 67 #[.val (.ref b), .val (.int (Int32.ofNat (i + 1))), .val (.int (Int32.ofNat cs.length)), .val (.int 0), .val (.int c), .val (.int d)] [])
  refine Goes.of (fun _ => XS.iload X4.here hx rfl (hb hby d26_67) rfl) ?_
  show Goes p e below _ T4 (mkF m 69 #[.val (.ref b), .val (.int (Int32.ofNat (i + 1))), .val (.int (Int32.ofNat cs.length)), .val (.int 0), .val (.int c), .val (.int d)] [(.int d)])
  refine goStatic 0 X4 hx hZ hown (hw _ (List.mem_of_getElem? (i := 130) rfl)) (hw _ (List.mem_of_getElem? (i := 131) rfl)) (hw _ (List.mem_of_getElem? (i := 118) rfl)) (hw _ (List.mem_of_getElem? (i := 132) rfl)) (by decide) (rm_ls1 l Z a0 hw d h0 n0 O0 hL) eT4 (g := (mkF m 69 #[.val (.ref b), .val (.int (Int32.ofNat (i + 1))), .val (.int (Int32.ofNat cs.length)), .val (.int 0), .val (.int c), .val (.int d)] [(.int d)])) rfl (by rw [hml]; rfl) [(.int d)] [] (lenOf pd__C_Z rfl) rfl rfl (by show 2 * 0 + _ ≤ _; exact Nat.le_of_eq rfl) (hb hby d26_69) (by decide) (by decide) (by decide) (by decide) ?_
  intro v5 T5 L5 X5 q5
  obtain ⟨rfl, Nq5, eT5⟩ := q5
  have N5 := Fr.app N4 Nq5
  show Goes p e below _ T5 (mkF m 72 #[.val (.ref b), .val (.int (Int32.ofNat (i + 1))), .val (.int (Int32.ofNat cs.length)), .val (.int 0), .val (.int c), .val (.int d)] [(.int 1)])
  refine Goes.of (fun _ => XS.ifNo X5.here hx rfl (hb hby d26_72) rfl ((if0 _ _).trans (feq (by decide)).1)) ?_
  show Goes p e below _ T5 (mkF m 75 #[.val (.ref b), .val (.int (Int32.ofNat (i + 1))), .val (.int (Int32.ofNat cs.length)), .val (.int 0), .val (.int c), .val (.int d)] [])
  refine Goes.of (fun _ => XS.iload X5.here hx rfl (hb hby d26_75) rfl) ?_
  show Goes p e below _ T5 (mkF m 77 #[.val (.ref b), .val (.int (Int32.ofNat (i + 1))), .val (.int (Int32.ofNat cs.length)), .val (.int 0), .val (.int c), .val (.int d)] [(.int c)])
  refine Goes.of (fun _ => XS.iload X5.here hx rfl (hb hby d26_77) rfl) ?_
  show Goes p e below _ T5 (mkF m 79 #[.val (.ref b), .val (.int (Int32.ofNat (i + 1))), .val (.int (Int32.ofNat cs.length)), .val (.int 0), .val (.int c), .val (.int d)] [(.int d), (.int c)])
  refine goStatic 0 X5 hx hZ hown (hw _ (List.mem_of_getElem? (i := 134) rfl)) (hw _ (List.mem_of_getElem? (i := 135) rfl)) (hw _ (List.mem_of_getElem? (i := 118) rfl)) (hw _ (List.mem_of_getElem? (i := 136) rfl)) (by decide) (rm_tcp l Z a0 hw c d h0 n0 O0) eT5 (g := (mkF m 79 #[.val (.ref b), .val (.int (Int32.ofNat (i + 1))), .val (.int (Int32.ofNat cs.length)), .val (.int 0), .val (.int c), .val (.int d)] [(.int d), (.int c)])) rfl (by rw [hml]; rfl) [(.int c), (.int d)] [] (lenOf pd__CC_I rfl) rfl rfl (by show 2 * 0 + _ ≤ _; exact Nat.le_of_eq rfl) (hb hby d26_79) (by decide) (by decide) (by decide) (by decide) ?_
  intro v6 T6 L6 X6 q6
  obtain ⟨rfl, Nq6, eT6⟩ := q6
  have N6 := Fr.app N5 Nq6
  show Goes p e below _ T6 (mkF m 82 #[.val (.ref b), .val (.int (Int32.ofNat (i + 1))), .val (.int (Int32.ofNat cs.length)), .val (.int 0), .val (.int c), .val (.int d)] [(.int (tcp c d))])
  exact retInt X6 hx hret hlk (hb hby d26_82) eT6 (by decide) (by decide) ⟨rfl, N6, rfl⟩
set_option maxRecDepth 65536 in
set_option maxHeartbeats 40000000 in
theorem rm_cpu_p (l : Launch) (Z : State) (a0 : Array Value) (hw : ∀ d ∈ tables_1, d.before a0 Z = true) (b : Addr) (kb : ClassId) (cs : List Int32) (i : Nat) (c d : Int32) (h0 : Heap) (n0 : Nat) (O0 : Old Z n0 h0) (Sa : Sta Z Z.heap "java/lang/StringUTF16" "$assertionsDisabled" "Z" (.int 1)) (Sh : Sta Z Z.heap "java/lang/StringUTF16" "HI_BYTE_SHIFT" "I" (.int 0)) (Sl : Sta Z Z.heap "java/lang/StringUTF16" "LO_BYTE_SHIFT" "I" (.int 8)) (hN : cs.length ≤ 16384) (Vb : Arv Z h0 b kb .byte (Int32.ofNat (2 * cs.length)) (cs.flatMap uf) (.int 0)) (hi : i < cs.length) (hci : cs.getD i 0 = c) (hcb : ¬ c < 0 ∧ ¬ (65535 : Int32) < c) (hi2 : i + 1 < cs.length) (hdi : cs.getD (i + 1) 0 = d) (hdb : ¬ d < 0 ∧ ¬ (65535 : Int32) < d) (hH : Hi c) (hL : Lo d) :
    Rm l (⟨"java/lang/StringUTF16", "codePointAt", "([BII)I"⟩ : MethodName) jdk_52_method_8_code 3 (some .int) ({ frames := 2, cells := 0, slots := 0, locals := 30 } : Room) [] Z #[(.ref b), (.int (Int32.ofNat i)), (.int (Int32.ofNat cs.length))] h0 (fun v h L => v = some (.int (tcp c d)) ∧ Fr n0 L ∧ h = h0) := by
  refine Rm.of (plainFor_of_name pn_java_lang_StringUTF16) ?_
  intro p e s m below meth cod T X hx hZ hby hml hown hnm hret hlk eT0
  have hown : s.vm.findClass "java/lang/StringUTF16" = some m.cls := hown
  have hnm : meth.name = "codePointAt" := hnm
  have N0 := Fr.nil n0
  refine Goes.cast (ef_25 m b (Int32.ofNat i) (Int32.ofNat cs.length)) ?_
  show Goes p e below _ T (mkF m 0 #[.val (.ref b), .val (.int (Int32.ofNat i)), .val (.int (Int32.ofNat cs.length))] [])
  refine Goes.of (fun _ => XS.aloadN X.here hx rfl (hb hby d25_0) rfl rfl) ?_
  show Goes p e below _ T (mkF m 1 #[.val (.ref b), .val (.int (Int32.ofNat i)), .val (.int (Int32.ofNat cs.length))] [(.ref b)])
  refine Goes.of (fun _ => XS.iloadN X.here hx rfl (hb hby d25_1) rfl) ?_
  show Goes p e below _ T (mkF m 2 #[.val (.ref b), .val (.int (Int32.ofNat i)), .val (.int (Int32.ofNat cs.length))] [(.int (Int32.ofNat i)), (.ref b)])
  refine Goes.of (fun _ => XS.iloadN X.here hx rfl (hb hby d25_2) rfl) ?_
  show Goes p e below _ T (mkF m 3 #[.val (.ref b), .val (.int (Int32.ofNat i)), .val (.int (Int32.ofNat cs.length))] [(.int (Int32.ofNat cs.length)), (.int (Int32.ofNat i)), (.ref b)])
  refine Goes.of (fun _ => XS.iconst X.here hx rfl (hb hby d25_3)) ?_
  show Goes p e below _ T (mkF m 4 #[.val (.ref b), .val (.int (Int32.ofNat i)), .val (.int (Int32.ofNat cs.length))] [(.int 0), (.int (Int32.ofNat cs.length)), (.int (Int32.ofNat i)), (.ref b)])
  refine goStatic 0 X hx hZ hown (hw _ (List.mem_of_getElem? (i := 113) rfl)) (hw _ (List.mem_of_getElem? (i := 114) rfl)) (hw _ (List.mem_of_getElem? (i := 65) rfl)) (hw _ (List.mem_of_getElem? (i := 115) rfl)) (by decide) (rm_cpz_p l Z a0 hw b _ cs i c d h0 n0 O0 Sa Sh Sl hN Vb hi hci hcb hi2 hdi hdb hH hL) eT0 (g := (mkF m 4 #[.val (.ref b), .val (.int (Int32.ofNat i)), .val (.int (Int32.ofNat cs.length))] [(.int 0), (.int (Int32.ofNat cs.length)), (.int (Int32.ofNat i)), (.ref b)])) rfl (by rw [hml]; rfl) [(.ref b), (.int (Int32.ofNat i)), (.int (Int32.ofNat cs.length)), (.int 0)] [] (lenOf pd___BIIZ_I rfl) rfl rfl (by show 2 * 0 + _ ≤ _; exact Nat.le_of_eq rfl) (hb hby d25_4) (by decide) (by decide) (by decide) (by decide) ?_
  intro v1 T1 L1 X1 q1
  obtain ⟨rfl, Nq1, eT1⟩ := q1
  have N1 := Fr.app N0 Nq1
  show Goes p e below _ T1 (mkF m 7 #[.val (.ref b), .val (.int (Int32.ofNat i)), .val (.int (Int32.ofNat cs.length))] [(.int (tcp c d))])
  exact retInt X1 hx hret hlk (hb hby d25_7) eT1 (by decide) (by decide) ⟨rfl, N1, rfl⟩
set_option maxRecDepth 65536 in
set_option maxHeartbeats 40000000 in
theorem rm_cpa_p (l : Launch) (Z : State) (a0 : Array Value) (hw : ∀ d ∈ tables_1, d.before a0 Z = true) (a t : Addr) (kb : ClassId) (cs : List Int32) (cz : Int32) (fm : Value) (i : Nat) (c d : Int32) (h0 : Heap) (n0 : Nat) (O0 : Old Z n0 h0) (Sa : Sta Z Z.heap "java/lang/StringUTF16" "$assertionsDisabled" "Z" (.int 1)) (Sh : Sta Z Z.heap "java/lang/StringUTF16" "HI_BYTE_SHIFT" "I" (.int 0)) (Sl : Sta Z Z.heap "java/lang/StringUTF16" "LO_BYTE_SHIFT" "I" (.int 8)) (Sc : Sta Z Z.heap "java/lang/String" "COMPACT_STRINGS" "Z" (.int cz)) (hcz : ¬ cz = 0) (Sf : Sta Z Z.heap "jdk/internal/util/Preconditions" "SIOOBE_FORMATTER" "Ljava/util/function/BiFunction;" fm) (hfm : fm.isRef = true) (hN : cs.length ≤ 16384) (Ex : Exa Z h0 a "java/lang/String") (Fv : Fld Z h0 a "java/lang/String" "value" "[B" (.ref t)) (Fc : Fld Z h0 a "java/lang/String" "coder" "B" (.int 1)) (Vt : Arv Z h0 t kb .byte (Int32.ofNat (2 * cs.length)) (cs.flatMap uf) (.int 0)) (hi : i < cs.length) (hci : cs.getD i 0 = c) (hcb : ¬ c < 0 ∧ ¬ (65535 : Int32) < c) (hi2 : i + 1 < cs.length) (hdi : cs.getD (i + 1) 0 = d) (hdb : ¬ d < 0 ∧ ¬ (65535 : Int32) < d) (hH : Hi c) (hL : Lo d) :
    Rm l (⟨"java/lang/String", "codePointAt", "(I)I"⟩ : MethodName) jdk_42_method_57_code 3 (some .int) ({ frames := 3, cells := 0, slots := 0, locals := 44 } : Room) [] Z #[(.ref a), (.int (Int32.ofNat i))] h0 (fun v h L => v = some (.int (tcp c d)) ∧ Fr n0 L ∧ h = h0) := by
  refine Rm.of (plainFor_of_name pn_java_lang_String) ?_
  intro p e s m below meth cod T X hx hZ hby hml hown hnm hret hlk eT0
  have hown : s.vm.findClass "java/lang/String" = some m.cls := hown
  have hnm : meth.name = "codePointAt" := hnm
  have N0 := Fr.nil n0
  refine Goes.cast (ef_21 m a (Int32.ofNat i)) ?_
  show Goes p e below _ T (mkF m 0 #[.val (.ref a), .val (.int (Int32.ofNat i)), .unset] [])
  refine Goes.of (fun _ => XS.aloadN X.here hx rfl (hb hby d21_0) rfl rfl) ?_
  show Goes p e below _ T (mkF m 1 #[.val (.ref a), .val (.int (Int32.ofNat i)), .unset] [(.ref a)])
  refine goVirtual 0 X hx hZ hown (hw _ (List.mem_of_getElem? (i := 97) rfl)) (hw _ (List.mem_of_getElem? (i := 98) rfl)) (notFace_of_selects (args := #[]) (mvT hZ (hw _ (List.mem_of_getElem? (i := 100) rfl)))) (hw _ (List.mem_of_getElem? (i := 100) rfl)) (hw _ (List.mem_of_getElem? (i := 99) rfl)) (hw _ (List.mem_of_getElem? (i := 16) rfl)) (hw _ (List.mem_of_getElem? (i := 101) rfl)) (by decide) (rm_isl_utf l Z a0 hw a t _ cs cz h0 n0 O0 Sc hcz hN Ex Fv Fc Vt) eT0 Ex (g := (mkF m 1 #[.val (.ref a), .val (.int (Int32.ofNat i)), .unset] [(.ref a)])) rfl (by rw [hml]; rfl) [] [] (lenOf pd___Z rfl) rfl rfl (by show 2 * 0 + _ ≤ _; exact Nat.le_of_eq rfl) (hb hby d21_1) (by decide) (by decide) (by decide) (by decide) ?_
  intro v1 T1 L1 X1 q1
  obtain ⟨rfl, Nq1, eT1⟩ := q1
  have N1 := Fr.app N0 Nq1
  show Goes p e below _ T1 (mkF m 4 #[.val (.ref a), .val (.int (Int32.ofNat i)), .unset] [(.int 0)])
  refine Goes.of (fun _ => XS.ifYes X1.here hx rfl (pc0 := 4) (pc' := 27) rfl (hb hby d21_4) rfl ((if0 _ _).trans (teq (by decide)).1) (by decide) (by decide)) ?_
  show Goes p e below _ T1 (mkF m 27 #[.val (.ref a), .val (.int (Int32.ofNat i)), .unset] [])
  refine Goes.of (fun _ => XS.aloadN X1.here hx rfl (hb hby d21_27) rfl rfl) ?_
  show Goes p e below _ T1 (mkF m 28 #[.val (.ref a), .val (.int (Int32.ofNat i)), .unset] [(.ref a)])
  refine goGet X1 hx hZ hown (host := "") (Or.inl (hw _ (List.mem_of_getElem? (i := 33) rfl))) Via.refl eT1 Fv (g := (mkF m 28 #[.val (.ref a), .val (.int (Int32.ofNat i)), .unset] [(.ref a)])) rfl rfl (hb hby d21_28) ?_
  intro T2 X2 eT2
  show Goes p e below _ T2 (mkF m 31 #[.val (.ref a), .val (.int (Int32.ofNat i)), .unset] [(.ref t)])
  refine goLen X2 hx hZ eT2 Vt (g := (mkF m 31 #[.val (.ref a), .val (.int (Int32.ofNat i)), .unset] [(.ref t)])) rfl rfl (hb hby d21_31) ?_
  show Goes p e below _ T2 (mkF m 32 #[.val (.ref a), .val (.int (Int32.ofNat i)), .unset] [(.int (Int32.ofNat (2 * cs.length)))])
  refine Goes.of (fun _ => XS.iconst X2.here hx rfl (hb hby d21_32)) ?_
  show Goes p e below _ T2 (mkF m 33 #[.val (.ref a), .val (.int (Int32.ofNat i)), .unset] [(.int 1), (.int (Int32.ofNat (2 * cs.length)))])
  refine Goes.of (fun _ => XS.ishr X2.here hx rfl (hb hby d21_33) rfl) ?_
  show Goes p e below _ T2 (mkF m 34 #[.val (.ref a), .val (.int (Int32.ofNat i)), .unset] [(.int ((Int32.ofNat (2 * cs.length)) >>> ((1 : Int32) &&& 31)))])
  refine Goes.of (fun _ => XS.istoreN X2.here hx rfl (hb hby d21_34) rfl (l' := #[.val (.ref a), .val (.int (Int32.ofNat i)), .val (.int ((Int32.ofNat (2 * cs.length)) >>> ((1 : Int32) &&& 31)))]) rfl) ?_
  show Goes p e below _ T2 (mkF m 35 #[.val (.ref a), .val (.int (Int32.ofNat i)), .val (.int ((Int32.ofNat (2 * cs.length)) >>> ((1 : Int32) &&& 31)))] [])
  rw [on_shr (by omega)]
  show Goes p e below _ T2 (mkF m 35 #[.val (.ref a), .val (.int (Int32.ofNat i)), .val (.int (Int32.ofNat cs.length))] [])
  refine Goes.of (fun _ => XS.iloadN X2.here hx rfl (hb hby d21_35) rfl) ?_
  show Goes p e below _ T2 (mkF m 36 #[.val (.ref a), .val (.int (Int32.ofNat i)), .val (.int (Int32.ofNat cs.length))] [(.int (Int32.ofNat i))])
  refine Goes.of (fun _ => XS.iloadN X2.here hx rfl (hb hby d21_36) rfl) ?_
  show Goes p e below _ T2 (mkF m 37 #[.val (.ref a), .val (.int (Int32.ofNat i)), .val (.int (Int32.ofNat cs.length))] [(.int (Int32.ofNat cs.length)), (.int (Int32.ofNat i))])
  refine goStatic 0 X2 hx hZ hown (hw _ (List.mem_of_getElem? (i := 102) rfl)) (hw _ (List.mem_of_getElem? (i := 103) rfl)) (hw _ (List.mem_of_getElem? (i := 16) rfl)) (hw _ (List.mem_of_getElem? (i := 104) rfl)) (by decide) (rm_ck l Z a0 hw (Int32.ofNat i) (Int32.ofNat cs.length) fm h0 n0 O0 Sf hfm (on_nn (by omega)) ((on_lt (by omega) (by omega)).mpr hi)) eT2 (g := (mkF m 37 #[.val (.ref a), .val (.int (Int32.ofNat i)), .val (.int (Int32.ofNat cs.length))] [(.int (Int32.ofNat cs.length)), (.int (Int32.ofNat i))])) rfl (by rw [hml]; rfl) [(.int (Int32.ofNat i)), (.int (Int32.ofNat cs.length))] [] (lenOf pd__II_V rfl) rfl rfl (by show 2 * 0 + _ ≤ _; exact Nat.le_of_eq rfl) (hb hby d21_37) (by decide) (by decide) (by decide) (by decide) ?_
  intro v4 T4 L4 X4 q4
  obtain ⟨rfl, Nq4, eT4⟩ := q4
  have N4 := Fr.app N1 Nq4
  show Goes p e below _ T4 (mkF m 40 #[.val (.ref a), .val (.int (Int32.ofNat i)), .val (.int (Int32.ofNat cs.length))] [])
  refine Goes.of (fun _ => XS.aloadN X4.here hx rfl (hb hby d21_40) rfl rfl) ?_
  show Goes p e below _ T4 (mkF m 41 #[.val (.ref a), .val (.int (Int32.ofNat i)), .val (.int (Int32.ofNat cs.length))] [(.ref a)])
  refine goGet X4 hx hZ hown (host := "") (Or.inl (hw _ (List.mem_of_getElem? (i := 33) rfl))) Via.refl eT4 Fv (g := (mkF m 41 #[.val (.ref a), .val (.int (Int32.ofNat i)), .val (.int (Int32.ofNat cs.length))] [(.ref a)])) rfl rfl (hb hby d21_41) ?_
  intro T5 X5 eT5
  show Goes p e below _ T5 (mkF m 44 #[.val (.ref a), .val (.int (Int32.ofNat i)), .val (.int (Int32.ofNat cs.length))] [(.ref t)])
  refine Goes.of (fun _ => XS.iloadN X5.here hx rfl (hb hby d21_44) rfl) ?_
  show Goes p e below _ T5 (mkF m 45 #[.val (.ref a), .val (.int (Int32.ofNat i)), .val (.int (Int32.ofNat cs.length))] [(.int (Int32.ofNat i)), (.ref t)])
  refine Goes.of (fun _ => XS.iloadN X5.here hx rfl (hb hby d21_45) rfl) ?_
  show Goes p e below _ T5 (mkF m 46 #[.val (.ref a), .val (.int (Int32.ofNat i)), .val (.int (Int32.ofNat cs.length))] [(.int (Int32.ofNat cs.length)), (.int (Int32.ofNat i)), (.ref t)])
  refine goStatic 0 X5 hx hZ hown (hw _ (List.mem_of_getElem? (i := 110) rfl)) (hw _ (List.mem_of_getElem? (i := 111) rfl)) (hw _ (List.mem_of_getElem? (i := 65) rfl)) (hw _ (List.mem_of_getElem? (i := 112) rfl)) (by decide) (rm_cpu_p l Z a0 hw t _ cs i c d h0 n0 O0 Sa Sh Sl hN Vt hi hci hcb hi2 hdi hdb hH hL) eT5 (g := (mkF m 46 #[.val (.ref a), .val (.int (Int32.ofNat i)), .val (.int (Int32.ofNat cs.length))] [(.int (Int32.ofNat cs.length)), (.int (Int32.ofNat i)), (.ref t)])) rfl (by rw [hml]; rfl) [(.ref t), (.int (Int32.ofNat i)), (.int (Int32.ofNat cs.length))] [] (lenOf pd___BII_I rfl) rfl rfl (by show 2 * 0 + _ ≤ _; exact Nat.le_of_eq rfl) (hb hby d21_46) (by decide) (by decide) (by decide) (by decide) ?_
  intro v6 T6 L6 X6 q6
  obtain ⟨rfl, Nq6, eT6⟩ := q6
  have N6 := Fr.app N4 Nq6
  show Goes p e below _ T6 (mkF m 49 #[.val (.ref a), .val (.int (Int32.ofNat i)), .val (.int (Int32.ofNat cs.length))] [(.int (tcp c d))])
  exact retInt X6 hx hret hlk (hb hby d21_49) eT6 (by decide) (by decide) ⟨rfl, N6, rfl⟩
set_option maxRecDepth 65536 in
set_option maxHeartbeats 40000000 in
theorem rm_lone (l : Launch) (Z : State) (a0 : Array Value) (hw : ∀ d ∈ tables_1, d.before a0 Z = true) (c : Int32) (h0 : Heap) (n0 : Nat) (O0 : Old Z n0 h0) (hp : Pl c) :
    Rm l (⟨"com/example/latchwork/latchwork/core/LockNames", "isLoneSurrogate", "(I)Z"⟩ : MethodName) prog_6_method_4_code 1 (some .boolean) ({ frames := 0, cells := 0, slots := 0, locals := 0 } : Room) [] Z #[(.int c)] h0 (fun v h L => v = some (.int 0) ∧ Fr n0 L ∧ h = h0) := by
  by_cases h : c < (55296 : Int32)
  · exact rm_loa l Z a0 hw c h0 n0 O0 h
  · exact rm_lob l Z a0 hw c h0 n0 O0 h (hp.resolve_left h)
set_option maxRecDepth 65536 in
set_option maxHeartbeats 40000000 in
theorem rm_cpa_q (l : Launch) (Z : State) (a0 : Array Value) (hw : ∀ d ∈ tables_1, d.before a0 Z = true) (a t : Addr) (kb : ClassId) (cs : List Int32) (cz : Int32) (fm : Value) (i : Nat) (c : Int32) (h0 : Heap) (n0 : Nat) (O0 : Old Z n0 h0) (Sa : Sta Z Z.heap "java/lang/StringUTF16" "$assertionsDisabled" "Z" (.int 1)) (Sh : Sta Z Z.heap "java/lang/StringUTF16" "HI_BYTE_SHIFT" "I" (.int 0)) (Sl : Sta Z Z.heap "java/lang/StringUTF16" "LO_BYTE_SHIFT" "I" (.int 8)) (Sc : Sta Z Z.heap "java/lang/String" "COMPACT_STRINGS" "Z" (.int cz)) (hcz : ¬ cz = 0) (Sf : Sta Z Z.heap "jdk/internal/util/Preconditions" "SIOOBE_FORMATTER" "Ljava/util/function/BiFunction;" fm) (hfm : fm.isRef = true) (hN : cs.length ≤ 16384) (Ex : Exa Z h0 a "java/lang/String") (Fv : Fld Z h0 a "java/lang/String" "value" "[B" (.ref t)) (Fc : Fld Z h0 a "java/lang/String" "coder" "B" (.int 1)) (Vt : Arv Z h0 t kb .byte (Int32.ofNat (2 * cs.length)) (cs.flatMap uf) (.int 0)) (hi : i < cs.length) (hci : cs.getD i 0 = c) (hcb : ¬ c < 0 ∧ ¬ (65535 : Int32) < c) (hp : Pl c) :
    Rm l (⟨"java/lang/String", "codePointAt", "(I)I"⟩ : MethodName) jdk_42_method_57_code 3 (some .int) ({ frames := 3, cells := 0, slots := 0, locals := 44 } : Room) [] Z #[(.ref a), (.int (Int32.ofNat i))] h0 (fun v h L => v = some (.int c) ∧ Fr n0 L ∧ h = h0) := by
  rcases pl_two hp with h | h
  · exact rm_cpa_a l Z a0 hw a t kb cs cz fm i c h0 n0 O0 Sa Sh Sl Sc hcz Sf hfm hN Ex Fv Fc Vt hi hci hcb h
  · exact rm_cpa_b l Z a0 hw a t kb cs cz fm i c h0 n0 O0 Sa Sh Sl Sc hcz Sf hfm hN Ex Fv Fc Vt hi hci hcb h
set_option maxRecDepth 65536 in
set_option maxHeartbeats 40000000 in
theorem rm_rnn (l : Launch) (Z : State) (a0 : Array Value) (hw : ∀ d ∈ tables_1, d.before a0 Z = true) (a b : Addr) (h0 : Heap) (n0 : Nat) (O0 : Old Z n0 h0)  :
    Rm l (⟨"java/util/Objects", "requireNonNull", "(Ljava/lang/Object;Ljava/lang/String;)Ljava/lang/Object;"⟩ : MethodName) jdk_31_method_11_code 2 (some (.object "java/lang/Object")) ({ frames := 0, cells := 0, slots := 0, locals := 0 } : Room) [] Z #[(.ref a), (.ref b)] h0 (fun v h L => v = some (.ref a) ∧ Fr n0 L ∧ h = h0) := by
  refine Rm.of (plainFor_of_name pn_java_util_Objects) ?_
  intro p e s m below meth cod T X hx hZ hby hml hown hnm hret hlk eT0
  have hown : s.vm.findClass "java/util/Objects" = some m.cls := hown
  have hnm : meth.name = "requireNonNull" := hnm
  have N0 := Fr.nil n0
  refine Goes.cast (ef_8 m a b) ?_
  show Goes p e below _ T (mkF m 0 #[.val (.ref a), .val (.ref b)] [])
  refine Goes.of (fun _ => XS.aloadN X.here hx rfl (hb hby d8_0) rfl rfl) ?_
  show Goes p e below _ T (mkF m 1 #[.val (.ref a), .val (.ref b)] [(.ref a)])
  refine Goes.of (fun _ => XS.ifnonnullYes X.here hx rfl (pc0 := 1) (pc' := 13) rfl (hb hby d8_1) rfl (by decide) (by decide)) ?_
  show Goes p e below _ T (mkF m 13 #[.val (.ref a), .val (.ref b)] [])
  refine Goes.of (fun _ => XS.aloadN X.here hx rfl (hb hby d8_13) rfl rfl) ?_
  show Goes p e below _ T (mkF m 14 #[.val (.ref a), .val (.ref b)] [(.ref a)])
  exact retRef X hx hret hlk rfl rfl (hb hby d8_14) eT0 (by decide) (by decide) ⟨rfl, N0, rfl⟩
set_option maxRecDepth 65536 in
set_option maxHeartbeats 40000000 in
theorem rm_chk_lat (l : Launch) (Z : State) (a0 : Array Value) (hw : ∀ d ∈ tables_1, d.before a0 Z = true) (a t : Addr) (kb : ClassId) (cs : List Int32) (cz : Int32) (fm : Value) (h0 : Heap) (n0 : Nat) (O0 : Old Z n0 h0) (Sa : Sta Z Z.heap "java/lang/StringUTF16" "$assertionsDisabled" "Z" (.int 1)) (Sh : Sta Z Z.heap "java/lang/StringUTF16" "HI_BYTE_SHIFT" "I" (.int 0)) (Sl : Sta Z Z.heap "java/lang/StringUTF16" "LO_BYTE_SHIFT" "I" (.int 8)) (Sc : Sta Z Z.heap "java/lang/String" "COMPACT_STRINGS" "Z" (.int cz)) (hcz : ¬ cz = 0) (Sf : Sta Z Z.heap "jdk/internal/util/Preconditions" "SIOOBE_FORMATTER" "Ljava/util/function/BiFunction;" fm) (hfm : fm.isRef = true) (hN : cs.length ≤ 16384) (Ex : Exa Z h0 a "java/lang/String") (Fv : Fld Z h0 a "java/lang/String" "value" "[B" (.ref t)) (Fc : Fld Z h0 a "java/lang/String" "coder" "B" (.int 0)) (Vt : Arv Z h0 t kb .byte (Int32.ofNat cs.length) (cs.map bv) (.int 0)) (hcs : ∀ c ∈ cs, ¬ c < 0 ∧ ¬ (65535 : Int32) < c) (hlat : ∀ c ∈ cs, ¬ (255 : Int32) < c) :
    RmH l (⟨"com/example/latchwork/latchwork/core/LockNames", "check", "(Ljava/lang/String;)Ljava/lang/String;"⟩ : MethodName) prog_6_method_2_code 3 (some (.object "java/lang/String")) ({ frames := 3, cells := 2, slots := 20, locals := 41 } : Room) [] Z EL #[(.ref a)] h0 (fun v h L => v = some (.ref a) ∧ Fr n0 L ∧ Keep h0 h []) := by
  refine RmH.of (plainFor_of_name pn_com_example_latchwork_latchwork_core_LockNames) ?_
  intro p e s m below meth cod T X hx hZ hby hml hown hnm hret hlk eT0 hS hk HC
  have hEL := hELof hw
  have wS := wSof hw
  have hown : s.vm.findClass "com/example/latchwork/latchwork/core/LockNames" = some m.cls := hown
  have hnm : meth.name = "check" := hnm
  have N0 := Fr.nil n0
  have Kp := Keep.refl h0 []
  refine Goes.cast (ef_7 m a) ?_
  show Goes p e below _ T (mkF m 0 #[.val (.ref a), .unset, .unset] [])
  refine Goes.of (fun _ => XS.aloadN X.here hx rfl (hb hby d7_0) rfl rfl) ?_
  show Goes p e below _ T (mkF m 1 #[.val (.ref a), .unset, .unset] [(.ref a)])
  refine goLdcO 16 X hS hk hEL HC hx hZ hown (hw _ (List.mem_of_getElem? (i := 39) rfl)) wS eT0 (g := (mkF m 1 #[.val (.ref a), .unset, .unset] [(.ref a)])) rfl (hb hby d7_1) (by decide) (by decide) (by decide) (by decide) ?_
  intro s1 T1 h1 kk1 X1 eT1 E1 hS hk hZ hown HC
  have Ex := Ex.ext E1
  have Fv := Fv.ext E1
  have Fc := Fc.ext E1
  have Vt := Vt.ext E1
  have Kp := Kp.ext E1
  have O0 := O0.ext E1
  show Goes p e below _ T1 (mkF m 3 #[.val (.ref a), .unset, .unset] [(.ref s1), (.ref a)])
  refine goStatic 0 X1 hx hZ hown (hw _ (List.mem_of_getElem? (i := 40) rfl)) (hw _ (List.mem_of_getElem? (i := 41) rfl)) (hw _ (List.mem_of_getElem? (i := 42) rfl)) (hw _ (List.mem_of_getElem? (i := 43) rfl)) (by decide) (rm_rnn l Z a0 hw a s1 h1 n0 O0) eT1 (g := (mkF m 3 #[.val (.ref a), .unset, .unset] [(.ref s1), (.ref a)])) rfl (by rw [hml]; rfl) [(.ref a), (.ref s1)] [] (lenOf pd__Ljava_lang_Object_Ljava_lang_String__Ljava_lang_Object_ rfl) rfl rfl (by show 2 * 0 + _ ≤ _; exact Nat.le_of_eq rfl) (hb hby d7_3) (by decide) (by decide) (by decide) (by decide) ?_
  intro v2 T2 L2 X2 q2
  obtain ⟨rfl, Nq2, eT2⟩ := q2
  have N2 := Fr.app N0 Nq2
  show Goes p e below _ T2 (mkF m 6 #[.val (.ref a), .unset, .unset] [(.ref a)])
  refine Goes.of (fun _ => XS.pop X2.here hx rfl (hb hby d7_6) rfl rfl) ?_
  show Goes p e below _ T2 (mkF m 7 #[.val (.ref a), .unset, .unset] [])
  refine Goes.of (fun _ => XS.aloadN X2.here hx rfl (hb hby d7_7) rfl rfl) ?_
  show Goes p e below _ T2 (mkF m 8 #[.val (.ref a), .unset, .unset] [(.ref a)])
  refine goVirtual 0 X2 hx hZ hown (hw _ (List.mem_of_getElem? (i := 44) rfl)) (hw _ (List.mem_of_getElem? (i := 45) rfl)) (notFace_of_selects (args := #[]) (mvT hZ (hw _ (List.mem_of_getElem? (i := 47) rfl)))) (hw _ (List.mem_of_getElem? (i := 47) rfl)) (hw _ (List.mem_of_getElem? (i := 46) rfl)) (hw _ (List.mem_of_getElem? (i := 16) rfl)) (hw _ (List.mem_of_getElem? (i := 48) rfl)) (by decide) (rm_len_lat l Z a0 hw a t _ cs cz h1 n0 O0 Sc hcz hN Ex Fv Fc Vt) eT2 Ex (g := (mkF m 8 #[.val (.ref a), .unset, .unset] [(.ref a)])) rfl (by rw [hml]; rfl) [] [] (lenOf pd___I rfl) rfl rfl (by show 2 * 0 + _ ≤ _; exact Nat.le_of_eq rfl) (hb hby d7_8) (by decide) (by decide) (by decide) (by decide) ?_
  intro v3 T3 L3 X3 q3
  obtain ⟨rfl, Nq3, eT3⟩ := q3
  have N3 := Fr.app N2 Nq3
  show Goes p e below _ T3 (mkF m 11 #[.val (.ref a), .unset, .unset] [(.int (Int32.ofNat cs.length))])
  refine Goes.of (fun _ => XS.sipush X3.here hx rfl (hb hby d7_11)) ?_
  show Goes p e below _ T3 (mkF m 14 #[.val (.ref a), .unset, .unset] [(.int 16384), (.int (Int32.ofNat cs.length))])
  refine Goes.of (fun _ => XS.icmpYes X3.here hx rfl (pc0 := 14) (pc' := 38) rfl (hb hby d7_14) rfl (flt (on_max hN)).2.2.2 (by decide) (by decide)) ?_
  show Goes p e below _ T3 (mkF m 38 #[.val (.ref a), .unset, .unset] [])
  refine Goes.of (fun _ => XS.iconst X3.here hx rfl (hb hby d7_38)) ?_
  show Goes p e below _ T3 (mkF m 39 #[.val (.ref a), .unset, .unset] [(.int 0)])
  refine Goes.of (fun _ => XS.istoreN X3.here hx rfl (hb hby d7_39) rfl (l' := #[.val (.ref a), .val (.int 0), .unset]) rfl) ?_
  show Goes p e below _ T3 (mkF m 40 #[.val (.ref a), .val (.int 0), .unset] [])
  have loop : ∀ (n k : Nat) (s2 : Slot) (T : State) (locs : List Loc), Stand p l e ({ frames := 3, cells := 2, slots := 20, locals := 41 } : Room) (s.setVm T1.vm) m #[(.ref a)] below meth cod T locs 2 20 → T.heap = h1 → Fr n0 locs → cs.length ≤ k + n → k ≤ cs.length → One s2 → Goes p e below (EndW Z s EL (fun v h L => v = some (.ref a) ∧ Fr n0 L ∧ Keep h0 h []) 2 20) T (mkF m 40 #[.val (.ref a), .val (.int (Int32.ofNat k)), s2] []) := by
    intro n
    induction n with
    | zero =>
      intro k s2 T locs X eT Nl hle hkn h2
      have hlt : ¬ Int32.ofNat k < Int32.ofNat cs.length := by rw [on_lt (by omega) (by omega)]; omega
      show Goes p e below _ T (mkF m 40 #[.val (.ref a), .val (.int (Int32.ofNat k)), s2] [])
      refine Goes.of (fun _ => XS.iloadN X.here hx rfl (hb hby d7_40) rfl) ?_
      show Goes p e below _ T (mkF m 41 #[.val (.ref a), .val (.int (Int32.ofNat k)), s2] [(.int (Int32.ofNat k))])
      refine Goes.of (fun _ => XS.aloadN X.here hx rfl (hb hby d7_41) rfl rfl) ?_
      show Goes p e below _ T (mkF m 42 #[.val (.ref a), .val (.int (Int32.ofNat k)), s2] [(.ref a), (.int (Int32.ofNat k))])
      refine goVirtual 1 X hx hZ hown (hw _ (List.mem_of_getElem? (i := 44) rfl)) (hw _ (List.mem_of_getElem? (i := 45) rfl)) (notFace_of_selects (args := #[]) (mvT hZ (hw _ (List.mem_of_getElem? (i := 47) rfl)))) (hw _ (List.mem_of_getElem? (i := 47) rfl)) (hw _ (List.mem_of_getElem? (i := 46) rfl)) (hw _ (List.mem_of_getElem? (i := 16) rfl)) (hw _ (List.mem_of_getElem? (i := 48) rfl)) (by decide) (rm_len_lat l Z a0 hw a t _ cs cz h1 n0 O0 Sc hcz hN Ex Fv Fc Vt) eT Ex (g := (mkF m 42 #[.val (.ref a), .val (.int (Int32.ofNat k)), s2] [(.ref a), (.int (Int32.ofNat k))])) rfl (by rw [hml]; rfl) [] [(.int (Int32.ofNat k))] (lenOf pd___I rfl) rfl rfl (by show 2 * 0 + _ ≤ _; exact Nat.le_of_eq rfl) (hb hby d7_42) (by decide) (by decide) (by decide) (by decide) ?_
      intro v4 T4 L4 X4 q4
      obtain ⟨rfl, Nq4, eT4⟩ := q4
      have N4 := Fr.app Nl Nq4
      show Goes p e below _ T4 (mkF m 45 #[.val (.ref a), .val (.int (Int32.ofNat k)), s2] [(.int (Int32.ofNat cs.length)), (.int (Int32.ofNat k))])
      refine Goes.of (fun _ => XS.icmpYes X4.here hx rfl (pc0 := 45) (pc' := 89) rfl (hb hby d7_45) rfl (flt hlt).2.1 (by decide) (by decide)) ?_
      show Goes p e below _ T4 (mkF m 89 #[.val (.ref a), .val (.int (Int32.ofNat k)), s2] [])
      refine Goes.of (fun _ => XS.aloadN X4.here hx rfl (hb hby d7_89) rfl rfl) ?_
      show Goes p e below _ T4 (mkF m 90 #[.val (.ref a), .val (.int (Int32.ofNat k)), s2] [(.ref a)])
      exact retRefW X4 hS hk hZ hEL HC hx hret hlk rfl rfl (hb hby d7_90) eT4 (by decide) (by decide) ⟨rfl, N4, Kp⟩
    | succ n ih =>
      intro k s2 T locs X eT Nl hle hkn h2
      by_cases hkl : k < cs.length
      · have hlt : Int32.ofNat k < Int32.ofNat cs.length := (on_lt (by omega) (by omega)).mpr hkl
        have hp : Pl (cs.getD k 0) := lat_pl (hlat _ (getD_mem hkl))
        show Goes p e below _ T (mkF m 40 #[.val (.ref a), .val (.int (Int32.ofNat k)), s2] [])
        refine Goes.of (fun _ => XS.iloadN X.here hx rfl (hb hby d7_40) rfl) ?_
        show Goes p e below _ T (mkF m 41 #[.val (.ref a), .val (.int (Int32.ofNat k)), s2] [(.int (Int32.ofNat k))])
        refine Goes.of (fun _ => XS.aloadN X.here hx rfl (hb hby d7_41) rfl rfl) ?_
        show Goes p e below _ T (mkF m 42 #[.val (.ref a), .val (.int (Int32.ofNat k)), s2] [(.ref a), (.int (Int32.ofNat k))])
        refine goVirtual 1 X hx hZ hown (hw _ (List.mem_of_getElem? (i := 44) rfl)) (hw _ (List.mem_of_getElem? (i := 45) rfl)) (notFace_of_selects (args := #[]) (mvT hZ (hw _ (List.mem_of_getElem? (i := 47) rfl)))) (hw _ (List.mem_of_getElem? (i := 47) rfl)) (hw _ (List.mem_of_getElem? (i := 46) rfl)) (hw _ (List.mem_of_getElem? (i := 16) rfl)) (hw _ (List.mem_of_getElem? (i := 48) rfl)) (by decide) (rm_len_lat l Z a0 hw a t _ cs cz h1 n0 O0 Sc hcz hN Ex Fv Fc Vt) eT Ex (g := (mkF m 42 #[.val (.ref a), .val (.int (Int32.ofNat k)), s2] [(.ref a), (.int (Int32.ofNat k))])) rfl (by rw [hml]; rfl) [] [(.int (Int32.ofNat k))] (lenOf pd___I rfl) rfl rfl (by show 2 * 0 + _ ≤ _; exact Nat.le_of_eq rfl) (hb hby d7_42) (by decide) (by decide) (by decide) (by decide) ?_
        intro v5 T5 L5 X5 q5
        obtain ⟨rfl, Nq5, eT5⟩ := q5
        have N5 := Fr.app Nl Nq5
        show Goes p e below _ T5 (mkF m 45 #[.val (.ref a), .val (.int (Int32.ofNat k)), s2] [(.int (Int32.ofNat cs.length)), (.int (Int32.ofNat k))])
        refine Goes.of (fun _ => XS.icmpNo X5.here hx rfl (hb hby d7_45) rfl (tlt hlt).2.1) ?_
        show Goes p e below _ T5 (mkF m 48 #[.val (.ref a), .val (.int (Int32.ofNat k)), s2] [])
        refine Goes.of (fun _ => XS.aloadN X5.here hx rfl (hb hby d7_48) rfl rfl) ?_
        show Goes p e below _ T5 (mkF m 49 #[.val (.ref a), .val (.int (Int32.ofNat k)), s2] [(.ref a)])
        refine Goes.of (fun _ => XS.iloadN X5.here hx rfl (hb hby d7_49) rfl) ?_
        show Goes p e below _ T5 (mkF m 50 #[.val (.ref a), .val (.int (Int32.ofNat k)), s2] [(.int (Int32.ofNat k)), (.ref a)])
        refine goVirtual 0 X5 hx hZ hown (hw _ (List.mem_of_getElem? (i := 92) rfl)) (hw _ (List.mem_of_getElem? (i := 93) rfl)) (notFace_of_selects (args := #[]) (mvT hZ (hw _ (List.mem_of_getElem? (i := 95) rfl)))) (hw _ (List.mem_of_getElem? (i := 95) rfl)) (hw _ (List.mem_of_getElem? (i := 94) rfl)) (hw _ (List.mem_of_getElem? (i := 16) rfl)) (hw _ (List.mem_of_getElem? (i := 96) rfl)) (by decide) (rm_cpl l Z a0 hw a t _ cs cz fm k (cs.getD k 0) h1 n0 O0 Sc hcz Sf hfm hN Ex Fv Fc Vt hkl rfl ⟨(hcs _ (getD_mem hkl)).1, hlat _ (getD_mem hkl)⟩) eT5 Ex (g := (mkF m 50 #[.val (.ref a), .val (.int (Int32.ofNat k)), s2] [(.int (Int32.ofNat k)), (.ref a)])) rfl (by rw [hml]; rfl) [(.int (Int32.ofNat k))] [] (lenOf pd__I_I rfl) rfl rfl (by show 2 * 0 + _ ≤ _; exact Nat.le_of_eq rfl) (hb hby d7_50) (by decide) (by decide) (by decide) (by decide) ?_
        intro v6 T6 L6 X6 q6
        obtain ⟨rfl, Nq6, eT6⟩ := q6
        have N6 := Fr.app N5 Nq6
        show Goes p e below _ T6 (mkF m 53 #[.val (.ref a), .val (.int (Int32.ofNat k)), s2] [(.int (cs.getD k 0))])
        refine Goes.of (fun _ => XS.istoreN X6.here hx rfl (hb hby d7_53) rfl (l' := #[.val (.ref a), .val (.int (Int32.ofNat k)), .val (.int (cs.getD k 0))]) (st2 h2)) ?_
        show Goes p e below _ T6 (mkF m 54 #[.val (.ref a), .val (.int (Int32.ofNat k)), .val (.int (cs.getD k 0))] [])
        refine Goes.of (fun _ => XS.iloadN X6.here hx rfl (hb hby d7_54) rfl) ?_
        show Goes p e below _ T6 (mkF m 55 #[.val (.ref a), .val (.int (Int32.ofNat k)), .val (.int (cs.getD k 0))] [(.int (cs.getD k 0))])
        refine goStatic 0 X6 hx hZ hown (hw _ (List.mem_of_getElem? (i := 121) rfl)) (hw _ (List.mem_of_getElem? (i := 122) rfl)) (hw _ (List.mem_of_getElem? (i := 37) rfl)) (hw _ (List.mem_of_getElem? (i := 123) rfl)) (by decide) (rm_lone l Z a0 hw (cs.getD k 0) h1 n0 O0 hp) eT6 (g := (mkF m 55 #[.val (.ref a), .val (.int (Int32.ofNat k)), .val (.int (cs.getD k 0))] [(.int (cs.getD k 0))])) rfl (by rw [hml]; rfl) [(.int (cs.getD k 0))] [] (lenOf pd__I_Z rfl) rfl rfl (by show 2 * 0 + _ ≤ _; exact Nat.le_of_eq rfl) (hb hby d7_55) (by decide) (by decide) (by decide) (by decide) ?_
        intro v7 T7 L7 X7 q7
        obtain ⟨rfl, Nq7, eT7⟩ := q7
        have N7 := Fr.app N6 Nq7
        show Goes p e below _ T7 (mkF m 58 #[.val (.ref a), .val (.int (Int32.ofNat k)), .val (.int (cs.getD k 0))] [(.int 0)])
        refine Goes.of (fun _ => XS.ifYes X7.here hx rfl (pc0 := 58) (pc' := 79) rfl (hb hby d7_58) rfl ((if0 _ _).trans (teq (by decide)).1) (by decide) (by decide)) ?_
        show Goes p e below _ T7 (mkF m 79 #[.val (.ref a), .val (.int (Int32.ofNat k)), .val (.int (cs.getD k 0))] [])
        refine Goes.of (fun _ => XS.iloadN X7.here hx rfl (hb hby d7_79) rfl) ?_
        show Goes p e below _ T7 (mkF m 80 #[.val (.ref a), .val (.int (Int32.ofNat k)), .val (.int (cs.getD k 0))] [(.int (Int32.ofNat k))])
        refine Goes.of (fun _ => XS.iloadN X7.here hx rfl (hb hby d7_80) rfl) ?_
        show Goes p e below _ T7 (mkF m 81 #[.val (.ref a), .val (.int (Int32.ofNat k)), .val (.int (cs.getD k 0))] [(.int (cs.getD k 0)), (.int (Int32.ofNat k))])
        refine goStatic 1 X7 hx hZ hown (hw _ (List.mem_of_getElem? (i := 125) rfl)) (hw _ (List.mem_of_getElem? (i := 126) rfl)) (hw _ (List.mem_of_getElem? (i := 118) rfl)) (hw _ (List.mem_of_getElem? (i := 127) rfl)) (by decide) (rm_cc1 l Z a0 hw (cs.getD k 0) h1 n0 O0 (u16_small (hcs _ (getD_mem hkl)).2)) eT7 (g := (mkF m 81 #[.val (.ref a), .val (.int (Int32.ofNat k)), .val (.int (cs.getD k 0))] [(.int (cs.getD k 0)), (.int (Int32.ofNat k))])) rfl (by rw [hml]; rfl) [(.int (cs.getD k 0))] [(.int (Int32.ofNat k))] (lenOf pd__I_I rfl) rfl rfl (by show 2 * 0 + _ ≤ _; exact Nat.le_of_eq rfl) (hb hby d7_81) (by decide) (by decide) (by decide) (by decide) ?_
        intro v8 T8 L8 X8 q8
        obtain ⟨rfl, Nq8, eT8⟩ := q8
        have N8 := Fr.app N7 Nq8
        show Goes p e below _ T8 (mkF m 84 #[.val (.ref a), .val (.int (Int32.ofNat k)), .val (.int (cs.getD k 0))] [(.int 1), (.int (Int32.ofNat k))])
        refine Goes.of (fun _ => XS.iadd X8.here hx rfl (hb hby d7_84) rfl) ?_
        show Goes p e below _ T8 (mkF m 85 #[.val (.ref a), .val (.int (Int32.ofNat k)), .val (.int (cs.getD k 0))] [(.int ((Int32.ofNat k) + (1 : Int32)))])
        refine Goes.of (fun _ => XS.istoreN X8.here hx rfl (hb hby d7_85) rfl (l' := #[.val (.ref a), .val (.int ((Int32.ofNat k) + (1 : Int32))), .val (.int (cs.getD k 0))]) rfl) ?_
        show Goes p e below _ T8 (mkF m 86 #[.val (.ref a), .val (.int ((Int32.ofNat k) + (1 : Int32))), .val (.int (cs.getD k 0))] [])
        refine Goes.of (fun _ => XS.goto X8.here hx rfl (pc0 := 86) (pc' := 40) rfl (hb hby d7_86) (by decide) (by decide)) ?_
        show Goes p e below _ T8 (mkF m 40 #[.val (.ref a), .val (.int ((Int32.ofNat k) + (1 : Int32))), .val (.int (cs.getD k 0))] [])
        rw [on_inc]
        exact ih (k + 1) _ _ _ X8 eT8 N8 (by omega) hkl (One.val rfl)
      · have hlt : ¬ Int32.ofNat k < Int32.ofNat cs.length := by rw [on_lt (by omega) (by omega)]; omega
        show Goes p e below _ T (mkF m 40 #[.val (.ref a), .val (.int (Int32.ofNat k)), s2] [])
        refine Goes.of (fun _ => XS.iloadN X.here hx rfl (hb hby d7_40) rfl) ?_
        show Goes p e below _ T (mkF m 41 #[.val (.ref a), .val (.int (Int32.ofNat k)), s2] [(.int (Int32.ofNat k))])
        refine Goes.of (fun _ => XS.aloadN X.here hx rfl (hb hby d7_41) rfl rfl) ?_
        show Goes p e below _ T (mkF m 42 #[.val (.ref a), .val (.int (Int32.ofNat k)), s2] [(.ref a), (.int (Int32.ofNat k))])
        refine goVirtual 1 X hx hZ hown (hw _ (List.mem_of_getElem? (i := 44) rfl)) (hw _ (List.mem_of_getElem? (i := 45) rfl)) (notFace_of_selects (args := #[]) (mvT hZ (hw _ (List.mem_of_getElem? (i := 47) rfl)))) (hw _ (List.mem_of_getElem? (i := 47) rfl)) (hw _ (List.mem_of_getElem? (i := 46) rfl)) (hw _ (List.mem_of_getElem? (i := 16) rfl)) (hw _ (List.mem_of_getElem? (i := 48) rfl)) (by decide) (rm_len_lat l Z a0 hw a t _ cs cz h1 n0 O0 Sc hcz hN Ex Fv Fc Vt) eT Ex (g := (mkF m 42 #[.val (.ref a), .val (.int (Int32.ofNat k)), s2] [(.ref a), (.int (Int32.ofNat k))])) rfl (by rw [hml]; rfl) [] [(.int (Int32.ofNat k))] (lenOf pd___I rfl) rfl rfl (by show 2 * 0 + _ ≤ _; exact Nat.le_of_eq rfl) (hb hby d7_42) (by decide) (by decide) (by decide) (by decide) ?_
        intro v9 T9 L9 X9 q9
        obtain ⟨rfl, Nq9, eT9⟩ := q9
        have N9 := Fr.app Nl Nq9
        show Goes p e below _ T9 (mkF m 45 #[.val (.ref a), .val (.int (Int32.ofNat k)), s2] [(.int (Int32.ofNat cs.length)), (.int (Int32.ofNat k))])
        refine Goes.of (fun _ => XS.icmpYes X9.here hx rfl (pc0 := 45) (pc' := 89) rfl (hb hby d7_45) rfl (flt hlt).2.1 (by decide) (by decide)) ?_
        show Goes p e below _ T9 (mkF m 89 #[.val (.ref a), .val (.int (Int32.ofNat k)), s2] [])
        refine Goes.of (fun _ => XS.aloadN X9.here hx rfl (hb hby d7_89) rfl rfl) ?_
        show Goes p e below _ T9 (mkF m 90 #[.val (.ref a), .val (.int (Int32.ofNat k)), s2] [(.ref a)])
        exact retRefW X9 hS hk hZ hEL HC hx hret hlk rfl rfl (hb hby d7_90) eT9 (by decide) (by decide) ⟨rfl, N9, Kp⟩
  exact loop cs.length 0 _ _ _ X3 eT3 N3 (by omega) (Nat.zero_le _) One.u
set_option maxRecDepth 65536 in
set_option maxHeartbeats 40000000 in
theorem rm_chk_utf (l : Launch) (Z : State) (a0 : Array Value) (hw : ∀ d ∈ tables_1, d.before a0 Z = true) (a t : Addr) (kb : ClassId) (cs : List Int32) (cz : Int32) (fm : Value) (h0 : Heap) (n0 : Nat) (O0 : Old Z n0 h0) (Sa : Sta Z Z.heap "java/lang/StringUTF16" "$assertionsDisabled" "Z" (.int 1)) (Sh : Sta Z Z.heap "java/lang/StringUTF16" "HI_BYTE_SHIFT" "I" (.int 0)) (Sl : Sta Z Z.heap "java/lang/StringUTF16" "LO_BYTE_SHIFT" "I" (.int 8)) (Sc : Sta Z Z.heap "java/lang/String" "COMPACT_STRINGS" "Z" (.int cz)) (hcz : ¬ cz = 0) (Sf : Sta Z Z.heap "jdk/internal/util/Preconditions" "SIOOBE_FORMATTER" "Ljava/util/function/BiFunction;" fm) (hfm : fm.isRef = true) (hN : cs.length ≤ 16384) (Ex : Exa Z h0 a "java/lang/String") (Fv : Fld Z h0 a "java/lang/String" "value" "[B" (.ref t)) (Fc : Fld Z h0 a "java/lang/String" "coder" "B" (.int 1)) (Vt : Arv Z h0 t kb .byte (Int32.ofNat (2 * cs.length)) (cs.flatMap uf) (.int 0)) (hcs : ∀ c ∈ cs, ¬ c < 0 ∧ ¬ (65535 : Int32) < c) (hv0 : Val cs) :
    RmH l (⟨"com/example/latchwork/latchwork/core/LockNames", "check", "(Ljava/lang/String;)Ljava/lang/String;"⟩ : MethodName) prog_6_method_2_code 3 (some (.object "java/lang/String")) ({ frames := 4, cells := 2, slots := 20, locals := 58 } : Room) [] Z EL #[(.ref a)] h0 (fun v h L => v = some (.ref a) ∧ Fr n0 L ∧ Keep h0 h []) := by
  refine RmH.of (plainFor_of_name pn_com_example_latchwork_latchwork_core_LockNames) ?_
  intro p e s m below meth cod T X hx hZ hby hml hown hnm hret hlk eT0 hS hk HC
  have hEL := hELof hw
  have wS := wSof hw
  have hown : s.vm.findClass "com/example/latchwork/latchwork/core/LockNames" = some m.cls := hown
  have hnm : meth.name = "check" := hnm
  have N0 := Fr.nil n0
  have Kp := Keep.refl h0 []
  refine Goes.cast (ef_7 m a) ?_
  show Goes p e below _ T (mkF m 0 #[.val (.ref a), .unset, .unset] [])
  refine Goes.of (fun _ => XS.aloadN X.here hx rfl (hb hby d7_0) rfl rfl) ?_
  show Goes p e below _ T (mkF m 1 #[.val (.ref a), .unset, .unset] [(.ref a)])
  refine goLdcO 16 X hS hk hEL HC hx hZ hown (hw _ (List.mem_of_getElem? (i := 39) rfl)) wS eT0 (g := (mkF m 1 #[.val (.ref a), .unset, .unset] [(.ref a)])) rfl (hb hby d7_1) (by decide) (by decide) (by decide) (by decide) ?_
  intro s1 T1 h1 kk1 X1 eT1 E1 hS hk hZ hown HC
  have Ex := Ex.ext E1
  have Fv := Fv.ext E1
  have Fc := Fc.ext E1
  have Vt := Vt.ext E1
  have Kp := Kp.ext E1
  have O0 := O0.ext E1
  show Goes p e below _ T1 (mkF m 3 #[.val (.ref a), .unset, .unset] [(.ref s1), (.ref a)])
  refine goStatic 0 X1 hx hZ hown (hw _ (List.mem_of_getElem? (i := 40) rfl)) (hw _ (List.mem_of_getElem? (i := 41) rfl)) (hw _ (List.mem_of_getElem? (i := 42) rfl)) (hw _ (List.mem_of_getElem? (i := 43) rfl)) (by decide) (rm_rnn l Z a0 hw a s1 h1 n0 O0) eT1 (g := (mkF m 3 #[.val (.ref a), .unset, .unset] [(.ref s1), (.ref a)])) rfl (by rw [hml]; rfl) [(.ref a), (.ref s1)] [] (lenOf pd__Ljava_lang_Object_Ljava_lang_String__Ljava_lang_Object_ rfl) rfl rfl (by show 2 * 0 + _ ≤ _; exact Nat.le_of_eq rfl) (hb hby d7_3) (by decide) (by decide) (by decide) (by decide) ?_
  intro v2 T2 L2 X2 q2
  obtain ⟨rfl, Nq2, eT2⟩ := q2
  have N2 := Fr.app N0 Nq2
  show Goes p e below _ T2 (mkF m 6 #[.val (.ref a), .unset, .unset] [(.ref a)])
  refine Goes.of (fun _ => XS.pop X2.here hx rfl (hb hby d7_6) rfl rfl) ?_
  show Goes p e below _ T2 (mkF m 7 #[.val (.ref a), .unset, .unset] [])
  refine Goes.of (fun _ => XS.aloadN X2.here hx rfl (hb hby d7_7) rfl rfl) ?_
  show Goes p e below _ T2 (mkF m 8 #[.val (.ref a), .unset, .unset] [(.ref a)])
  refine goVirtual 0 X2 hx hZ hown (hw _ (List.mem_of_getElem? (i := 44) rfl)) (hw _ (List.mem_of_getElem? (i := 45) rfl)) (notFace_of_selects (args := #[]) (mvT hZ (hw _ (List.mem_of_getElem? (i := 47) rfl)))) (hw _ (List.mem_of_getElem? (i := 47) rfl)) (hw _ (List.mem_of_getElem? (i := 46) rfl)) (hw _ (List.mem_of_getElem? (i := 16) rfl)) (hw _ (List.mem_of_getElem? (i := 48) rfl)) (by decide) (rm_len_utf l Z a0 hw a t _ cs cz h1 n0 O0 Sc hcz hN Ex Fv Fc Vt) eT2 Ex (g := (mkF m 8 #[.val (.ref a), .unset, .unset] [(.ref a)])) rfl (by rw [hml]; rfl) [] [] (lenOf pd___I rfl) rfl rfl (by show 2 * 0 + _ ≤ _; exact Nat.le_of_eq rfl) (hb hby d7_8) (by decide) (by decide) (by decide) (by decide) ?_
  intro v3 T3 L3 X3 q3
  obtain ⟨rfl, Nq3, eT3⟩ := q3
  have N3 := Fr.app N2 Nq3
  show Goes p e below _ T3 (mkF m 11 #[.val (.ref a), .unset, .unset] [(.int (Int32.ofNat cs.length))])
  refine Goes.of (fun _ => XS.sipush X3.here hx rfl (hb hby d7_11)) ?_
  show Goes p e below _ T3 (mkF m 14 #[.val (.ref a), .unset, .unset] [(.int 16384), (.int (Int32.ofNat cs.length))])
  refine Goes.of (fun _ => XS.icmpYes X3.here hx rfl (pc0 := 14) (pc' := 38) rfl (hb hby d7_14) rfl (flt (on_max hN)).2.2.2 (by decide) (by decide)) ?_
  show Goes p e below _ T3 (mkF m 38 #[.val (.ref a), .unset, .unset] [])
  refine Goes.of (fun _ => XS.iconst X3.here hx rfl (hb hby d7_38)) ?_
  show Goes p e below _ T3 (mkF m 39 #[.val (.ref a), .unset, .unset] [(.int 0)])
  refine Goes.of (fun _ => XS.istoreN X3.here hx rfl (hb hby d7_39) rfl (l' := #[.val (.ref a), .val (.int 0), .unset]) rfl) ?_
  show Goes p e below _ T3 (mkF m 40 #[.val (.ref a), .val (.int 0), .unset] [])
  have loop : ∀ (n k : Nat) (s2 : Slot) (T : State) (locs : List Loc), Stand p l e ({ frames := 4, cells := 2, slots := 20, locals := 58 } : Room) (s.setVm T1.vm) m #[(.ref a)] below meth cod T locs 2 20 → T.heap = h1 → Fr n0 locs → cs.length ≤ k + n → k ≤ cs.length → Val (cs.drop k) → One s2 → Goes p e below (EndW Z s EL (fun v h L => v = some (.ref a) ∧ Fr n0 L ∧ Keep h0 h []) 2 20) T (mkF m 40 #[.val (.ref a), .val (.int (Int32.ofNat k)), s2] []) := by
    intro n
    induction n with
    | zero =>
      intro k s2 T locs X eT Nl hle hkn hv h2
      have hlt : ¬ Int32.ofNat k < Int32.ofNat cs.length := by rw [on_lt (by omega) (by omega)]; omega
      show Goes p e below _ T (mkF m 40 #[.val (.ref a), .val (.int (Int32.ofNat k)), s2] [])
      refine Goes.of (fun _ => XS.iloadN X.here hx rfl (hb hby d7_40) rfl) ?_
      show Goes p e below _ T (mkF m 41 #[.val (.ref a), .val (.int (Int32.ofNat k)), s2] [(.int (Int32.ofNat k))])
      refine Goes.of (fun _ => XS.aloadN X.here hx rfl (hb hby d7_41) rfl rfl) ?_
      show Goes p e below _ T (mkF m 42 #[.val (.ref a), .val (.int (Int32.ofNat k)), s2] [(.ref a), (.int (Int32.ofNat k))])
      refine goVirtual 1 X hx hZ hown (hw _ (List.mem_of_getElem? (i := 44) rfl)) (hw _ (List.mem_of_getElem? (i := 45) rfl)) (notFace_of_selects (args := #[]) (mvT hZ (hw _ (List.mem_of_getElem? (i := 47) rfl)))) (hw _ (List.mem_of_getElem? (i := 47) rfl)) (hw _ (List.mem_of_getElem? (i := 46) rfl)) (hw _ (List.mem_of_getElem? (i := 16) rfl)) (hw _ (List.mem_of_getElem? (i := 48) rfl)) (by decide) (rm_len_utf l Z a0 hw a t _ cs cz h1 n0 O0 Sc hcz hN Ex Fv Fc Vt) eT Ex (g := (mkF m 42 #[.val (.ref a), .val (.int (Int32.ofNat k)), s2] [(.ref a), (.int (Int32.ofNat k))])) rfl (by rw [hml]; rfl) [] [(.int (Int32.ofNat k))] (lenOf pd___I rfl) rfl rfl (by show 2 * 0 + _ ≤ _; exact Nat.le_of_eq rfl) (hb hby d7_42) (by decide) (by decide) (by decide) (by decide) ?_
      intro v4 T4 L4 X4 q4
      obtain ⟨rfl, Nq4, eT4⟩ := q4
      have N4 := Fr.app Nl Nq4
      show Goes p e below _ T4 (mkF m 45 #[.val (.ref a), .val (.int (Int32.ofNat k)), s2] [(.int (Int32.ofNat cs.length)), (.int (Int32.ofNat k))])
      refine Goes.of (fun _ => XS.icmpYes X4.here hx rfl (pc0 := 45) (pc' := 89) rfl (hb hby d7_45) rfl (flt hlt).2.1 (by decide) (by decide)) ?_
      show Goes p e below _ T4 (mkF m 89 #[.val (.ref a), .val (.int (Int32.ofNat k)), s2] [])
      refine Goes.of (fun _ => XS.aloadN X4.here hx rfl (hb hby d7_89) rfl rfl) ?_
      show Goes p e below _ T4 (mkF m 90 #[.val (.ref a), .val (.int (Int32.ofNat k)), s2] [(.ref a)])
      exact retRefW X4 hS hk hZ hEL HC hx hret hlk rfl rfl (hb hby d7_90) eT4 (by decide) (by decide) ⟨rfl, N4, Kp⟩
    | succ n ih =>
      intro k s2 T locs X eT Nl hle hkn hv h2
      by_cases hkl : k < cs.length
      · have hlt : Int32.ofNat k < Int32.ofNat cs.length := (on_lt (by omega) (by omega)).mpr hkl
        rcases val_step hkl hv with ⟨hp, hv'⟩ | ⟨hk2, hH, hL, hv'⟩
        · show Goes p e below _ T (mkF m 40 #[.val (.ref a), .val (.int (Int32.ofNat k)), s2] [])
          refine Goes.of (fun _ => XS.iloadN X.here hx rfl (hb hby d7_40) rfl) ?_
          show Goes p e below _ T (mkF m 41 #[.val (.ref a), .val (.int (Int32.ofNat k)), s2] [(.int (Int32.ofNat k))])
          refine Goes.of (fun _ => XS.aloadN X.here hx rfl (hb hby d7_41) rfl rfl) ?_
          show Goes p e below _ T (mkF m 42 #[.val (.ref a), .val (.int (Int32.ofNat k)), s2] [(.ref a), (.int (Int32.ofNat k))])
          refine goVirtual 1 X hx hZ hown (hw _ (List.mem_of_getElem? (i := 44) rfl)) (hw _ (List.mem_of_getElem? (i := 45) rfl)) (notFace_of_selects (args := #[]) (mvT hZ (hw _ (List.mem_of_getElem? (i := 47) rfl)))) (hw _ (List.mem_of_getElem? (i := 47) rfl)) (hw _ (List.mem_of_getElem? (i := 46) rfl)) (hw _ (List.mem_of_getElem? (i := 16) rfl)) (hw _ (List.mem_of_getElem? (i := 48) rfl)) (by decide) (rm_len_utf l Z a0 hw a t _ cs cz h1 n0 O0 Sc hcz hN Ex Fv Fc Vt) eT Ex (g := (mkF m 42 #[.val (.ref a), .val (.int (Int32.ofNat k)), s2] [(.ref a), (.int (Int32.ofNat k))])) rfl (by rw [hml]; rfl) [] [(.int (Int32.ofNat k))] (lenOf pd___I rfl) rfl rfl (by show 2 * 0 + _ ≤ _; exact Nat.le_of_eq rfl) (hb hby d7_42) (by decide) (by decide) (by decide) (by decide) ?_
          intro v5 T5 L5 X5 q5
          obtain ⟨rfl, Nq5, eT5⟩ := q5
          have N5 := Fr.app Nl Nq5
          show Goes p e below _ T5 (mkF m 45 #[.val (.ref a), .val (.int (Int32.ofNat k)), s2] [(.int (Int32.ofNat cs.length)), (.int (Int32.ofNat k))])
          refine Goes.of (fun _ => XS.icmpNo X5.here hx rfl (hb hby d7_45) rfl (tlt hlt).2.1) ?_
          show Goes p e below _ T5 (mkF m 48 #[.val (.ref a), .val (.int (Int32.ofNat k)), s2] [])
          refine Goes.of (fun _ => XS.aloadN X5.here hx rfl (hb hby d7_48) rfl rfl) ?_
          show Goes p e below _ T5 (mkF m 49 #[.val (.ref a), .val (.int (Int32.ofNat k)), s2] [(.ref a)])
          refine Goes.of (fun _ => XS.iloadN X5.here hx rfl (hb hby d7_49) rfl) ?_
          show Goes p e below _ T5 (mkF m 50 #[.val (.ref a), .val (.int (Int32.ofNat k)), s2] [(.int (Int32.ofNat k)), (.ref a)])
          refine goVirtual 0 X5 hx hZ hown (hw _ (List.mem_of_getElem? (i := 92) rfl)) (hw _ (List.mem_of_getElem? (i := 93) rfl)) (notFace_of_selects (args := #[]) (mvT hZ (hw _ (List.mem_of_getElem? (i := 95) rfl)))) (hw _ (List.mem_of_getElem? (i := 95) rfl)) (hw _ (List.mem_of_getElem? (i := 94) rfl)) (hw _ (List.mem_of_getElem? (i := 16) rfl)) (hw _ (List.mem_of_getElem? (i := 96) rfl)) (by decide) (rm_cpa_q l Z a0 hw a t _ cs cz fm k (cs.getD k 0) h1 n0 O0 Sa Sh Sl Sc hcz Sf hfm hN Ex Fv Fc Vt hkl rfl (hcs _ (getD_mem hkl)) hp) eT5 Ex (g := (mkF m 50 #[.val (.ref a), .val (.int (Int32.ofNat k)), s2] [(.int (Int32.ofNat k)), (.ref a)])) rfl (by rw [hml]; rfl) [(.int (Int32.ofNat k))] [] (lenOf pd__I_I rfl) rfl rfl (by show 2 * 0 + _ ≤ _; exact Nat.le_of_eq rfl) (hb hby d7_50) (by decide) (by decide) (by decide) (by decide) ?_
          intro v6 T6 L6 X6 q6
          obtain ⟨rfl, Nq6, eT6⟩ := q6
          have N6 := Fr.app N5 Nq6
          show Goes p e below _ T6 (mkF m 53 #[.val (.ref a), .val (.int (Int32.ofNat k)), s2] [(.int (cs.getD k 0))])
          refine Goes.of (fun _ => XS.istoreN X6.here hx rfl (hb hby d7_53) rfl (l' := #[.val (.ref a), .val (.int (Int32.ofNat k)), .val (.int (cs.getD k 0))]) (st2 h2)) ?_
          show Goes p e below _ T6 (mkF m 54 #[.val (.ref a), .val (.int (Int32.ofNat k)), .val (.int (cs.getD k 0))] [])
          refine Goes.of (fun _ => XS.iloadN X6.here hx rfl (hb hby d7_54) rfl) ?_
          show Goes p e below _ T6 (mkF m 55 #[.val (.ref a), .val (.int (Int32.ofNat k)), .val (.int (cs.getD k 0))] [(.int (cs.getD k 0))])
          refine goStatic 0 X6 hx hZ hown (hw _ (List.mem_of_getElem? (i := 121) rfl)) (hw _ (List.mem_of_getElem? (i := 122) rfl)) (hw _ (List.mem_of_getElem? (i := 37) rfl)) (hw _ (List.mem_of_getElem? (i := 123) rfl)) (by decide) (rm_lone l Z a0 hw (cs.getD k 0) h1 n0 O0 hp) eT6 (g := (mkF m 55 #[.val (.ref a), .val (.int (Int32.ofNat k)), .val (.int (cs.getD k 0))] [(.int (cs.getD k 0))])) rfl (by rw [hml]; rfl) [(.int (cs.getD k 0))] [] (lenOf pd__I_Z rfl) rfl rfl (by show 2 * 0 + _ ≤ _; exact Nat.le_of_eq rfl) (hb hby d7_55) (by decide) (by decide) (by decide) (by decide) ?_
          intro v7 T7 L7 X7 q7
          obtain ⟨rfl, Nq7, eT7⟩ := q7
          have N7 := Fr.app N6 Nq7
          show Goes p e below _ T7 (mkF m 58 #[.val (.ref a), .val (.int (Int32.ofNat k)), .val (.int (cs.getD k 0))] [(.int 0)])
          refine Goes.of (fun _ => XS.ifYes X7.here hx rfl (pc0 := 58) (pc' := 79) rfl (hb hby d7_58) rfl ((if0 _ _).trans (teq (by decide)).1) (by decide) (by decide)) ?_
          show Goes p e below _ T7 (mkF m 79 #[.val (.ref a), .val (.int (Int32.ofNat k)), .val (.int (cs.getD k 0))] [])
          refine Goes.of (fun _ => XS.iloadN X7.here hx rfl (hb hby d7_79) rfl) ?_
          show Goes p e below _ T7 (mkF m 80 #[.val (.ref a), .val (.int (Int32.ofNat k)), .val (.int (cs.getD k 0))] [(.int (Int32.ofNat k))])
          refine Goes.of (fun _ => XS.iloadN X7.here hx rfl (hb hby d7_80) rfl) ?_
          show Goes p e below _ T7 (mkF m 81 #[.val (.ref a), .val (.int (Int32.ofNat k)), .val (.int (cs.getD k 0))] [(.int (cs.getD k 0)), (.int (Int32.ofNat k))])
          refine goStatic 1 X7 hx hZ hown (hw _ (List.mem_of_getElem? (i := 125) rfl)) (hw _ (List.mem_of_getElem? (i := 126) rfl)) (hw _ (List.mem_of_getElem? (i := 118) rfl)) (hw _ (List.mem_of_getElem? (i := 127) rfl)) (by decide) (rm_cc1 l Z a0 hw (cs.getD k 0) h1 n0 O0 (u16_small (hcs _ (getD_mem hkl)).2)) eT7 (g := (mkF m 81 #[.val (.ref a), .val (.int (Int32.ofNat k)), .val (.int (cs.getD k 0))] [(.int (cs.getD k 0)), (.int (Int32.ofNat k))])) rfl (by rw [hml]; rfl) [(.int (cs.getD k 0))] [(.int (Int32.ofNat k))] (lenOf pd__I_I rfl) rfl rfl (by show 2 * 0 + _ ≤ _; exact Nat.le_of_eq rfl) (hb hby d7_81) (by decide) (by decide) (by decide) (by decide) ?_
          intro v8 T8 L8 X8 q8
          obtain ⟨rfl, Nq8, eT8⟩ := q8
          have N8 := Fr.app N7 Nq8
          show Goes p e below _ T8 (mkF m 84 #[.val (.ref a), .val (.int (Int32.ofNat k)), .val (.int (cs.getD k 0))] [(.int 1), (.int (Int32.ofNat k))])
          refine Goes.of (fun _ => XS.iadd X8.here hx rfl (hb hby d7_84) rfl) ?_
          show Goes p e below _ T8 (mkF m 85 #[.val (.ref a), .val (.int (Int32.ofNat k)), .val (.int (cs.getD k 0))] [(.int ((Int32.ofNat k) + (1 : Int32)))])
          refine Goes.of (fun _ => XS.istoreN X8.here hx rfl (hb hby d7_85) rfl (l' := #[.val (.ref a), .val (.int ((Int32.ofNat k) + (1 : Int32))), .val (.int (cs.getD k 0))]) rfl) ?_
          show Goes p e below _ T8 (mkF m 86 #[.val (.ref a), .val (.int ((Int32.ofNat k) + (1 : Int32))), .val (.int (cs.getD k 0))] [])
          refine Goes.of (fun _ => XS.goto X8.here hx rfl (pc0 := 86) (pc' := 40) rfl (hb hby d7_86) (by decide) (by decide)) ?_
          show Goes p e below _ T8 (mkF m 40 #[.val (.ref a), .val (.int ((Int32.ofNat k) + (1 : Int32))), .val (.int (cs.getD k 0))] [])
          rw [on_inc]
          exact ih (k + 1) _ _ _ X8 eT8 N8 (by omega) hkl hv' (One.val rfl)
        · show Goes p e below _ T (mkF m 40 #[.val (.ref a), .val (.int (Int32.ofNat k)), s2] [])
          refine Goes.of (fun _ => XS.iloadN X.here hx rfl (hb hby d7_40) rfl) ?_
          show Goes p e below _ T (mkF m 41 #[.val (.ref a), .val (.int (Int32.ofNat k)), s2] [(.int (Int32.ofNat k))])
          refine Goes.of (fun _ => XS.aloadN X.here hx rfl (hb hby d7_41) rfl rfl) ?_
          show Goes p e below _ T (mkF m 42 #[.val (.ref a), .val (.int (Int32.ofNat k)), s2] [(.ref a), (.int (Int32.ofNat k))])
          refine goVirtual 1 X hx hZ hown (hw _ (List.mem_of_getElem? (i := 44) rfl)) (hw _ (List.mem_of_getElem? (i := 45) rfl)) (notFace_of_selects (args := #[]) (mvT hZ (hw _ (List.mem_of_getElem? (i := 47) rfl)))) (hw _ (List.mem_of_getElem? (i := 47) rfl)) (hw _ (List.mem_of_getElem? (i := 46) rfl)) (hw _ (List.mem_of_getElem? (i := 16) rfl)) (hw _ (List.mem_of_getElem? (i := 48) rfl)) (by decide) (rm_len_utf l Z a0 hw a t _ cs cz h1 n0 O0 Sc hcz hN Ex Fv Fc Vt) eT Ex (g := (mkF m 42 #[.val (.ref a), .val (.int (Int32.ofNat k)), s2] [(.ref a), (.int (Int32.ofNat k))])) rfl (by rw [hml]; rfl) [] [(.int (Int32.ofNat k))] (lenOf pd___I rfl) rfl rfl (by show 2 * 0 + _ ≤ _; exact Nat.le_of_eq rfl) (hb hby d7_42) (by decide) (by decide) (by decide) (by decide) ?_
          intro v9 T9 L9 X9 q9
          obtain ⟨rfl, Nq9, eT9⟩ := q9
          have N9 := Fr.app Nl Nq9
          show Goes p e below _ T9 (mkF m 45 #[.val (.ref a), .val (.int (Int32.ofNat k)), s2] [(.int (Int32.ofNat cs.length)), (.int (Int32.ofNat k))])
          refine Goes.of (fun _ => XS.icmpNo X9.here hx rfl (hb hby d7_45) rfl (tlt hlt).2.1) ?_
          show Goes p e below _ T9 (mkF m 48 #[.val (.ref a), .val (.int (Int32.ofNat k)), s2] [])
          refine Goes.of (fun _ => XS.aloadN X9.here hx rfl (hb hby d7_48) rfl rfl) ?_
          show Goes p e below _ T9 (mkF m 49 #[.val (.ref a), .val (.int (Int32.ofNat k)), s2] [(.ref a)])
          refine Goes.of (fun _ => XS.iloadN X9.here hx rfl (hb hby d7_49) rfl) ?_
          show Goes p e below _ T9 (mkF m 50 #[.val (.ref a), .val (.int (Int32.ofNat k)), s2] [(.int (Int32.ofNat k)), (.ref a)])
          refine goVirtual 0 X9 hx hZ hown (hw _ (List.mem_of_getElem? (i := 92) rfl)) (hw _ (List.mem_of_getElem? (i := 93) rfl)) (notFace_of_selects (args := #[]) (mvT hZ (hw _ (List.mem_of_getElem? (i := 95) rfl)))) (hw _ (List.mem_of_getElem? (i := 95) rfl)) (hw _ (List.mem_of_getElem? (i := 94) rfl)) (hw _ (List.mem_of_getElem? (i := 16) rfl)) (hw _ (List.mem_of_getElem? (i := 96) rfl)) (by decide) (rm_cpa_p l Z a0 hw a t _ cs cz fm k (cs.getD k 0) (cs.getD (k + 1) 0) h1 n0 O0 Sa Sh Sl Sc hcz Sf hfm hN Ex Fv Fc Vt hkl rfl (hcs _ (getD_mem hkl)) hk2 rfl (hcs _ (getD_mem hk2)) hH hL) eT9 Ex (g := (mkF m 50 #[.val (.ref a), .val (.int (Int32.ofNat k)), s2] [(.int (Int32.ofNat k)), (.ref a)])) rfl (by rw [hml]; rfl) [(.int (Int32.ofNat k))] [] (lenOf pd__I_I rfl) rfl rfl (by show 2 * 0 + _ ≤ _; exact Nat.le_of_eq rfl) (hb hby d7_50) (by decide) (by decide) (by decide) (by decide) ?_
          intro v10 T10 L10 X10 q10
          obtain ⟨rfl, Nq10, eT10⟩ := q10
          have N10 := Fr.app N9 Nq10
          show Goes p e below _ T10 (mkF m 53 #[.val (.ref a), .val (.int (Int32.ofNat k)), s2] [(.int (tcp (cs.getD k 0) (cs.getD (k + 1) 0)))])
          refine Goes.of (fun _ => XS.istoreN X10.here hx rfl (hb hby d7_53) rfl (l' := #[.val (.ref a), .val (.int (Int32.ofNat k)), .val (.int (tcp (cs.getD k 0) (cs.getD (k + 1) 0)))]) (st2 h2)) ?_
          show Goes p e below _ T10 (mkF m 54 #[.val (.ref a), .val (.int (Int32.ofNat k)), .val (.int (tcp (cs.getD k 0) (cs.getD (k + 1) 0)))] [])
          refine Goes.of (fun _ => XS.iloadN X10.here hx rfl (hb hby d7_54) rfl) ?_
          show Goes p e below _ T10 (mkF m 55 #[.val (.ref a), .val (.int (Int32.ofNat k)), .val (.int (tcp (cs.getD k 0) (cs.getD (k + 1) 0)))] [(.int (tcp (cs.getD k 0) (cs.getD (k + 1) 0)))])
          refine goStatic 0 X10 hx hZ hown (hw _ (List.mem_of_getElem? (i := 121) rfl)) (hw _ (List.mem_of_getElem? (i := 122) rfl)) (hw _ (List.mem_of_getElem? (i := 37) rfl)) (hw _ (List.mem_of_getElem? (i := 123) rfl)) (by decide) (rm_lone l Z a0 hw (tcp (cs.getD k 0) (cs.getD (k + 1) 0)) h1 n0 O0 (big_pl (tcp_rng hH hL))) eT10 (g := (mkF m 55 #[.val (.ref a), .val (.int (Int32.ofNat k)), .val (.int (tcp (cs.getD k 0) (cs.getD (k + 1) 0)))] [(.int (tcp (cs.getD k 0) (cs.getD (k + 1) 0)))])) rfl (by rw [hml]; rfl) [(.int (tcp (cs.getD k 0) (cs.getD (k + 1) 0)))] [] (lenOf pd__I_Z rfl) rfl rfl (by show 2 * 0 + _ ≤ _; exact Nat.le_of_eq rfl) (hb hby d7_55) (by decide) (by decide) (by decide) (by decide) ?_
          intro v11 T11 L11 X11 q11
          obtain ⟨rfl, Nq11, eT11⟩ := q11
          have N11 := Fr.app N10 Nq11
          show Goes p e below _ T11 (mkF m 58 #[.val (.ref a), .val (.int (Int32.ofNat k)), .val (.int (tcp (cs.getD k 0) (cs.getD (k + 1) 0)))] [(.int 0)])
          refine Goes.of (fun _ => XS.ifYes X11.here hx rfl (pc0 := 58) (pc' := 79) rfl (hb hby d7_58) rfl ((if0 _ _).trans (teq (by decide)).1) (by decide) (by decide)) ?_
          show Goes p e below _ T11 (mkF m 79 #[.val (.ref a), .val (.int (Int32.ofNat k)), .val (.int (tcp (cs.getD k 0) (cs.getD (k + 1) 0)))] [])
          refine Goes.of (fun _ => XS.iloadN X11.here hx rfl (hb hby d7_79) rfl) ?_
          show Goes p e below _ T11 (mkF m 80 #[.val (.ref a), .val (.int (Int32.ofNat k)), .val (.int (tcp (cs.getD k 0) (cs.getD (k + 1) 0)))] [(.int (Int32.ofNat k))])
          refine Goes.of (fun _ => XS.iloadN X11.here hx rfl (hb hby d7_80) rfl) ?_
          show Goes p e below _ T11 (mkF m 81 #[.val (.ref a), .val (.int (Int32.ofNat k)), .val (.int (tcp (cs.getD k 0) (cs.getD (k + 1) 0)))] [(.int (tcp (cs.getD k 0) (cs.getD (k + 1) 0))), (.int (Int32.ofNat k))])
          refine goStatic 1 X11 hx hZ hown (hw _ (List.mem_of_getElem? (i := 125) rfl)) (hw _ (List.mem_of_getElem? (i := 126) rfl)) (hw _ (List.mem_of_getElem? (i := 118) rfl)) (hw _ (List.mem_of_getElem? (i := 127) rfl)) (by decide) (rm_cc2 l Z a0 hw (tcp (cs.getD k 0) (cs.getD (k + 1) 0)) h1 n0 O0 (tcp_rng hH hL)) eT11 (g := (mkF m 81 #[.val (.ref a), .val (.int (Int32.ofNat k)), .val (.int (tcp (cs.getD k 0) (cs.getD (k + 1) 0)))] [(.int (tcp (cs.getD k 0) (cs.getD (k + 1) 0))), (.int (Int32.ofNat k))])) rfl (by rw [hml]; rfl) [(.int (tcp (cs.getD k 0) (cs.getD (k + 1) 0)))] [(.int (Int32.ofNat k))] (lenOf pd__I_I rfl) rfl rfl (by show 2 * 0 + _ ≤ _; exact Nat.le_of_eq rfl) (hb hby d7_81) (by decide) (by decide) (by decide) (by decide) ?_
          intro v12 T12 L12 X12 q12
          obtain ⟨rfl, Nq12, eT12⟩ := q12
          have N12 := Fr.app N11 Nq12
          show Goes p e below _ T12 (mkF m 84 #[.val (.ref a), .val (.int (Int32.ofNat k)), .val (.int (tcp (cs.getD k 0) (cs.getD (k + 1) 0)))] [(.int 2), (.int (Int32.ofNat k))])
          refine Goes.of (fun _ => XS.iadd X12.here hx rfl (hb hby d7_84) rfl) ?_
          show Goes p e below _ T12 (mkF m 85 #[.val (.ref a), .val (.int (Int32.ofNat k)), .val (.int (tcp (cs.getD k 0) (cs.getD (k + 1) 0)))] [(.int ((Int32.ofNat k) + (2 : Int32)))])
          refine Goes.of (fun _ => XS.istoreN X12.here hx rfl (hb hby d7_85) rfl (l' := #[.val (.ref a), .val (.int ((Int32.ofNat k) + (2 : Int32))), .val (.int (tcp (cs.getD k 0) (cs.getD (k + 1) 0)))]) rfl) ?_
          show Goes p e below _ T12 (mkF m 86 #[.val (.ref a), .val (.int ((Int32.ofNat k) + (2 : Int32))), .val (.int (tcp (cs.getD k 0) (cs.getD (k + 1) 0)))] [])
          refine Goes.of (fun _ => XS.goto X12.here hx rfl (pc0 := 86) (pc' := 40) rfl (hb hby d7_86) (by decide) (by decide)) ?_
          show Goes p e below _ T12 (mkF m 40 #[.val (.ref a), .val (.int ((Int32.ofNat k) + (2 : Int32))), .val (.int (tcp (cs.getD k 0) (cs.getD (k + 1) 0)))] [])
          rw [on_two]
          exact ih (k + 2) _ _ _ X12 eT12 N12 (by omega) hk2 hv' (One.val rfl)
      · have hlt : ¬ Int32.ofNat k < Int32.ofNat cs.length := by rw [on_lt (by omega) (by omega)]; omega
        show Goes p e below _ T (mkF m 40 #[.val (.ref a), .val (.int (Int32.ofNat k)), s2] [])
        refine Goes.of (fun _ => XS.iloadN X.here hx rfl (hb hby d7_40) rfl) ?_
        show Goes p e below _ T (mkF m 41 #[.val (.ref a), .val (.int (Int32.ofNat k)), s2] [(.int (Int32.ofNat k))])
        refine Goes.of (fun _ => XS.aloadN X.here hx rfl (hb hby d7_41) rfl rfl) ?_
        show Goes p e below _ T (mkF m 42 #[.val (.ref a), .val (.int (Int32.ofNat k)), s2] [(.ref a), (.int (Int32.ofNat k))])
        refine goVirtual 1 X hx hZ hown (hw _ (List.mem_of_getElem? (i := 44) rfl)) (hw _ (List.mem_of_getElem? (i := 45) rfl)) (notFace_of_selects (args := #[]) (mvT hZ (hw _ (List.mem_of_getElem? (i := 47) rfl)))) (hw _ (List.mem_of_getElem? (i := 47) rfl)) (hw _ (List.mem_of_getElem? (i := 46) rfl)) (hw _ (List.mem_of_getElem? (i := 16) rfl)) (hw _ (List.mem_of_getElem? (i := 48) rfl)) (by decide) (rm_len_utf l Z a0 hw a t _ cs cz h1 n0 O0 Sc hcz hN Ex Fv Fc Vt) eT Ex (g := (mkF m 42 #[.val (.ref a), .val (.int (Int32.ofNat k)), s2] [(.ref a), (.int (Int32.ofNat k))])) rfl (by rw [hml]; rfl) [] [(.int (Int32.ofNat k))] (lenOf pd___I rfl) rfl rfl (by show 2 * 0 + _ ≤ _; exact Nat.le_of_eq rfl) (hb hby d7_42) (by decide) (by decide) (by decide) (by decide) ?_
        intro v13 T13 L13 X13 q13
        obtain ⟨rfl, Nq13, eT13⟩ := q13
        have N13 := Fr.app Nl Nq13
        show Goes p e below _ T13 (mkF m 45 #[.val (.ref a), .val (.int (Int32.ofNat k)), s2] [(.int (Int32.ofNat cs.length)), (.int (Int32.ofNat k))])
        refine Goes.of (fun _ => XS.icmpYes X13.here hx rfl (pc0 := 45) (pc' := 89) rfl (hb hby d7_45) rfl (flt hlt).2.1 (by decide) (by decide)) ?_
        show Goes p e below _ T13 (mkF m 89 #[.val (.ref a), .val (.int (Int32.ofNat k)), s2] [])
        refine Goes.of (fun _ => XS.aloadN X13.here hx rfl (hb hby d7_89) rfl rfl) ?_
        show Goes p e below _ T13 (mkF m 90 #[.val (.ref a), .val (.int (Int32.ofNat k)), s2] [(.ref a)])
        exact retRefW X13 hS hk hZ hEL HC hx hret hlk rfl rfl (hb hby d7_90) eT13 (by decide) (by decide) ⟨rfl, N13, Kp⟩
  exact loop cs.length 0 _ _ _ X3 eT3 N3 (by omega) (Nat.zero_le _) hv0 One.u
set_option maxRecDepth 65536 in
set_option maxHeartbeats 40000000 in
theorem rm_sinit40 (l : Launch) (Z : State) (a0 : Array Value) (hw : ∀ d ∈ tables_1, d.before a0 Z = true) (a b : Addr) (h0 : Heap) (n0 : Nat) (O0 : Old Z n0 h0) (g_a : n0 ≤ a) (Ex : Exa Z h0 a "java/lang/String") (Fv : Fld Z h0 a "java/lang/String" "value" "[B" .null) (Fc : Fld Z h0 a "java/lang/String" "coder" "B" (.int 0)) :
    RmH l (⟨"java/lang/String", "<init>", "([CIILjava/lang/Void;)V"⟩ : MethodName) jdk_42_method_149_code 6 none ({ frames := 1, cells := 4, slots := 8, locals := 12 } : Room) [] Z EL #[(.ref a), (.ref b), (.int 0), (.int 0), .null] h0 (fun v h L => v = none ∧ Fr n0 L ∧ Keep h0 h [a] ∧ StU Z h a []) := by
  refine RmH.of (plainFor_of_name pn_java_lang_String) ?_
  intro p e s m below meth cod T X hx hZ hby hml hown hnm hret hlk eT0 hS hk HC
  have hEL := hELof hw
  have wS := wSof hw
  have hown : s.vm.findClass "java/lang/String" = some m.cls := hown
  have hnm : meth.name = "<init>" := hnm
  have N0 := Fr.nil n0
  have Kp := Keep.refl h0 [a]
  have Sf0 : Safe Z EL s.vm h0 a := safeNull hZ.alike Ex Fv
  refine Goes.cast (ef_5n4 m a b (0 : Int32) (0 : Int32)) ?_
  show Goes p e below _ T (mkF m 0 #[.val (.ref a), .val (.ref b), .val (.int 0), .val (.int 0), .val .null, .unset] [])
  refine Goes.of (fun _ => XS.aloadN X.here hx rfl (hb hby d5_0) rfl rfl) ?_
  show Goes p e below _ T (mkF m 1 #[.val (.ref a), .val (.ref b), .val (.int 0), .val (.int 0), .val .null, .unset] [(.ref a)])
  refine goInitO 0 X hx hZ hown (hw _ (List.mem_of_getElem? (i := 24) rfl)) (hw _ (List.mem_of_getElem? (i := 25) rfl)) (hw _ (List.mem_of_getElem? (i := 26) rfl)) eT0 (g := (mkF m 1 #[.val (.ref a), .val (.ref b), .val (.int 0), .val (.int 0), .val .null, .unset] [(.ref a)])) rfl (by rw [hml]; rfl) rfl (hb hby d5_1) (by decide) (by show 2 * 0 + _ ≤ _; exact Nat.le_of_eq rfl) (by decide) ?_
  intro T1 X1 eT1
  show Goes p e below _ T1 (mkF m 4 #[.val (.ref a), .val (.ref b), .val (.int 0), .val (.int 0), .val .null, .unset] [])
  refine Goes.of (fun _ => XS.iloadN X1.here hx rfl (hb hby d5_4) rfl) ?_
  show Goes p e below _ T1 (mkF m 5 #[.val (.ref a), .val (.ref b), .val (.int 0), .val (.int 0), .val .null, .unset] [(.int 0)])
  refine Goes.of (fun _ => XS.ifNo X1.here hx rfl (hb hby d5_5) rfl ((if0 _ _).trans (teq (by decide)).2)) ?_
  show Goes p e below _ T1 (mkF m 8 #[.val (.ref a), .val (.ref b), .val (.int 0), .val (.int 0), .val .null, .unset] [])
  refine Goes.of (fun _ => XS.aloadN X1.here hx rfl (hb hby d5_8) rfl rfl) ?_
  show Goes p e below _ T1 (mkF m 9 #[.val (.ref a), .val (.ref b), .val (.int 0), .val (.int 0), .val .null, .unset] [(.ref a)])
  refine goLdcC (z := (0 : Int32)) (vs := []) 0 X1 hS hk hEL (by decide) HC hx hZ hown (hw _ (List.mem_of_getElem? (i := 27) rfl)) wS eT1 (by decide) (by decide) (by decide) (g := (mkF m 9 #[.val (.ref a), .val (.ref b), .val (.int 0), .val (.int 0), .val .null, .unset] [(.ref a)])) rfl (hb hby d5_9) (by decide) (by decide) (by decide) (by decide) ?_
  intro s2 T2 h2 kk2 d2 kd2 X2 eT2 E2 hS hk hZ hown HC CH2 Es2 Fc2 Fv2 Vd2 hs2
  have Sg_a := CH2.safe Ex.lt Sf0
  have Ex := Ex.ext E2
  have Fv := Fv.ext E2
  have Fc := Fc.ext E2
  have Kp := Kp.ext E2
  have O0 := O0.ext E2
  have ne_a_s2 : a ≠ s2 := (hs2 a Sg_a).1
  have ne_a_d2 : a ≠ d2 := (hs2 a Sg_a).2
  show Goes p e below _ T2 (mkF m 11 #[.val (.ref a), .val (.ref b), .val (.int 0), .val (.int 0), .val .null, .unset] [(.ref s2), (.ref a)])
  refine goGet X2 hx hZ hown (host := "") (Or.inl (hw _ (List.mem_of_getElem? (i := 33) rfl))) Via.refl eT2 Fv2 (g := (mkF m 11 #[.val (.ref a), .val (.ref b), .val (.int 0), .val (.int 0), .val .null, .unset] [(.ref s2), (.ref a)])) rfl rfl (hb hby d5_11) ?_
  intro T3 X3 eT3
  show Goes p e below _ T3 (mkF m 14 #[.val (.ref a), .val (.ref b), .val (.int 0), .val (.int 0), .val .null, .unset] [(.ref d2), (.ref a)])
  have Sf_a := Sg_a
  refine goPut (ty := (.array .byte)) X3 hx hZ hown (host := "") (Or.inl (hw _ (List.mem_of_getElem? (i := 33) rfl))) Via.refl eT3 Fv Ex (Or.inr ⟨(hw _ (List.mem_of_getElem? (i := 29) rfl)), rfl, hnm⟩) (hw _ (List.mem_of_getElem? (i := 15) rfl)) (by decide) rfl rfl (g := (mkF m 14 #[.val (.ref a), .val (.ref b), .val (.int 0), .val (.int 0), .val .null, .unset] [(.ref d2), (.ref a)])) rfl rfl (hb hby d5_14) ?_
  intro T4 h4 X4 eT4 W4
  have Fv := Fld.same W4 Fv
  have N4 := Fr.snoc X4 N0 g_a
  have Ex := Ex.wr W4
  have Fc := Fc.other W4 (Or.inr (slot_ne (Or.inr (hw _ (List.mem_of_getElem? (i := 30) rfl))) (Or.inr (hw _ (List.mem_of_getElem? (i := 29) rfl))) (by decide) (t := .byte) (t' := (.array .byte)) (by decide) (by decide)))
  have Es2 := Es2.wr W4
  have Fc2 := Fc2.other W4 (Or.inl (Ne.symm ne_a_s2))
  have Fv2 := Fv2.other W4 (Or.inl (Ne.symm ne_a_s2))
  have Vd2 := Vd2.other W4 (Ne.symm ne_a_d2)
  have Kp := Kp.wr W4 (Or.inl (List.mem_of_getElem? (i := 0) rfl))
  have Sg_a := Safe.wr W4 Sf_a HC.1 Sg_a
  have HC := HC.trans (CHr.wr W4 Sf_a HC.1)
  have hk := Nat.le_trans hk (Nat.le_of_eq (Wr.size W4).symm)
  have O0 := O0.wr W4 g_a
  show Goes p e below _ T4 (mkF m 17 #[.val (.ref a), .val (.ref b), .val (.int 0), .val (.int 0), .val .null, .unset] [])
  refine Goes.of (fun _ => XS.aloadN X4.here hx rfl (hb hby d5_17) rfl rfl) ?_
  show Goes p e below _ T4 (mkF m 18 #[.val (.ref a), .val (.ref b), .val (.int 0), .val (.int 0), .val .null, .unset] [(.ref a)])
  refine goLdcC (z := (0 : Int32)) (vs := []) 0 X4 hS hk hEL (by decide) HC hx hZ hown (hw _ (List.mem_of_getElem? (i := 27) rfl)) wS eT4 (by decide) (by decide) (by decide) (g := (mkF m 18 #[.val (.ref a), .val (.ref b), .val (.int 0), .val (.int 0), .val .null, .unset] [(.ref a)])) rfl (hb hby d5_18) (by decide) (by decide) (by decide) (by decide) ?_
  intro s5 T5 h5 kk5 d5 kd5 X5 eT5 E5 hS hk hZ hown HC CH5 Es5 Fc5 Fv5 Vd5 hs5
  have Sg_a := CH5.safe Ex.lt Sg_a
  have Ex := Ex.ext E5
  have Fv := Fv.ext E5
  have Fc := Fc.ext E5
  have Es2 := Es2.ext E5
  have Fc2 := Fc2.ext E5
  have Fv2 := Fv2.ext E5
  have Vd2 := Vd2.ext E5
  have Kp := Kp.ext E5
  have O0 := O0.ext E5
  have ne_a_s5 : a ≠ s5 := (hs5 a Sg_a).1
  have ne_a_d5 : a ≠ d5 := (hs5 a Sg_a).2
  show Goes p e below _ T5 (mkF m 20 #[.val (.ref a), .val (.ref b), .val (.int 0), .val (.int 0), .val .null, .unset] [(.ref s5), (.ref a)])
  refine goGet X5 hx hZ hown (host := "") (Or.inl (hw _ (List.mem_of_getElem? (i := 34) rfl))) Via.refl eT5 Fc5 (g := (mkF m 20 #[.val (.ref a), .val (.ref b), .val (.int 0), .val (.int 0), .val .null, .unset] [(.ref s5), (.ref a)])) rfl rfl (hb hby d5_20) ?_
  intro T6 X6 eT6
  show Goes p e below _ T6 (mkF m 23 #[.val (.ref a), .val (.ref b), .val (.int 0), .val (.int 0), .val .null, .unset] [(.int 0), (.ref a)])
  have Sf_a := Sg_a
  refine goPut (ty := .byte) X6 hx hZ hown (host := "") (Or.inl (hw _ (List.mem_of_getElem? (i := 34) rfl))) Via.refl eT6 Fc Ex (Or.inr ⟨(hw _ (List.mem_of_getElem? (i := 30) rfl)), rfl, hnm⟩) (hw _ (List.mem_of_getElem? (i := 15) rfl)) (by decide) rfl rfl (g := (mkF m 23 #[.val (.ref a), .val (.ref b), .val (.int 0), .val (.int 0), .val .null, .unset] [(.int 0), (.ref a)])) rfl rfl (hb hby d5_23) ?_
  intro T7 h7 X7 eT7 W7
  have Fc := Fld.same W7 Fc
  have N7 := Fr.snoc X7 N4 g_a
  have Ex := Ex.wr W7
  have Fv := Fv.other W7 (Or.inr (slot_ne (Or.inr (hw _ (List.mem_of_getElem? (i := 29) rfl))) (Or.inr (hw _ (List.mem_of_getElem? (i := 30) rfl))) (by decide) (t := (.array .byte)) (t' := .byte) (by decide) (by decide)))
  have Es2 := Es2.wr W7
  have Fc2 := Fc2.other W7 (Or.inl (Ne.symm ne_a_s2))
  have Fv2 := Fv2.other W7 (Or.inl (Ne.symm ne_a_s2))
  have Vd2 := Vd2.other W7 (Ne.symm ne_a_d2)
  have Es5 := Es5.wr W7
  have Fc5 := Fc5.other W7 (Or.inl (Ne.symm ne_a_s5))
  have Fv5 := Fv5.other W7 (Or.inl (Ne.symm ne_a_s5))
  have Vd5 := Vd5.other W7 (Ne.symm ne_a_d5)
  have Kp := Kp.wr W7 (Or.inl (List.mem_of_getElem? (i := 0) rfl))
  have Sg_a := Safe.wr W7 Sf_a HC.1 Sg_a
  have HC := HC.trans (CHr.wr W7 Sf_a HC.1)
  have hk := Nat.le_trans hk (Nat.le_of_eq (Wr.size W7).symm)
  have O0 := O0.wr W7 g_a
  show Goes p e below _ T7 (mkF m 26 #[.val (.ref a), .val (.ref b), .val (.int 0), .val (.int 0), .val .null, .unset] [])
  exact retVoidW X7 hS hk hZ hEL HC hx hret hlk (hb hby d5_26) eT7 (by decide) (by decide) ⟨rfl, N7, Kp, Ex, d2, _, Fv, Or.inl ⟨Fc, (fun _ q => nomatch q), Vd2⟩⟩
set_option maxRecDepth 65536 in
set_option maxHeartbeats 40000000 in
theorem rm_sinit0 (l : Launch) (Z : State) (a0 : Array Value) (hw : ∀ d ∈ tables_1, d.before a0 Z = true) (a b : Addr) (kb : ClassId) (vs : List Value) (dv : Value) (h0 : Heap) (n0 : Nat) (O0 : Old Z n0 h0) (g_a : n0 ≤ a) (Ex : Exa Z h0 a "java/lang/String") (Fv : Fld Z h0 a "java/lang/String" "value" "[B" .null) (Fc : Fld Z h0 a "java/lang/String" "coder" "B" (.int 0)) (hab : a ≠ b) (Vb : Arv Z h0 b kb .char (0 : Int32) vs dv) :
    RmH l (⟨"java/lang/String", "<init>", "([C)V"⟩ : MethodName) jdk_42_method_3_code 2 none ({ frames := 2, cells := 4, slots := 8, locals := 29 } : Room) [] Z EL #[(.ref a), (.ref b)] h0 (fun v h L => v = none ∧ Fr n0 L ∧ Keep h0 h [a] ∧ StU Z h a []) := by
  refine RmH.of (plainFor_of_name pn_java_lang_String) ?_
  intro p e s m below meth cod T X hx hZ hby hml hown hnm hret hlk eT0 hS hk HC
  have hEL := hELof hw
  have wS := wSof hw
  have hown : s.vm.findClass "java/lang/String" = some m.cls := hown
  have hnm : meth.name = "<init>" := hnm
  have N0 := Fr.nil n0
  have Kp := Keep.refl h0 [a]
  refine Goes.cast (ef_4 m a b) ?_
  show Goes p e below _ T (mkF m 0 #[.val (.ref a), .val (.ref b)] [])
  refine Goes.of (fun _ => XS.aloadN X.here hx rfl (hb hby d4_0) rfl rfl) ?_
  show Goes p e below _ T (mkF m 1 #[.val (.ref a), .val (.ref b)] [(.ref a)])
  refine Goes.of (fun _ => XS.aloadN X.here hx rfl (hb hby d4_1) rfl rfl) ?_
  show Goes p e below _ T (mkF m 2 #[.val (.ref a), .val (.ref b)] [(.ref b), (.ref a)])
  refine Goes.of (fun _ => XS.iconst X.here hx rfl (hb hby d4_2)) ?_
  show Goes p e below _ T (mkF m 3 #[.val (.ref a), .val (.ref b)] [(.int 0), (.ref b), (.ref a)])
  refine Goes.of (fun _ => XS.aloadN X.here hx rfl (hb hby d4_3) rfl rfl) ?_
  show Goes p e below _ T (mkF m 4 #[.val (.ref a), .val (.ref b)] [(.ref b), (.int 0), (.ref b), (.ref a)])
  refine goLen X hx hZ eT0 Vb (g := (mkF m 4 #[.val (.ref a), .val (.ref b)] [(.ref b), (.int 0), (.ref b), (.ref a)])) rfl rfl (hb hby d4_4) ?_
  show Goes p e below _ T (mkF m 5 #[.val (.ref a), .val (.ref b)] [(.int 0), (.int 0), (.ref b), (.ref a)])
  refine Goes.of (fun _ => XS.aconstNull X.here hx rfl (hb hby d4_5)) ?_
  show Goes p e below _ T (mkF m 6 #[.val (.ref a), .val (.ref b)] [.null, (.int 0), (.int 0), (.ref b), (.ref a)])
  refine goSpecialW 0 X hS hk hEL HC hx hZ rfl hown (hw _ (List.mem_of_getElem? (i := 20) rfl)) (hw _ (List.mem_of_getElem? (i := 21) rfl)) (hw _ (List.mem_of_getElem? (i := 16) rfl)) (hw _ (List.mem_of_getElem? (i := 23) rfl)) (by decide) (rm_sinit40 l Z a0 hw a b h0 n0 O0 g_a Ex Fv Fc) eT0 (g := (mkF m 6 #[.val (.ref a), .val (.ref b)] [.null, (.int 0), (.int 0), (.ref b), (.ref a)])) rfl (by rw [hml]; rfl) a [(.ref b), (.int 0), (.int 0), .null] [] (lenOf pd___CIILjava_lang_Void__V rfl) rfl rfl (by show 2 * 0 + _ ≤ _; exact Nat.le_of_eq rfl) (hb hby d4_6) (by decide) (by decide) (by decide) (by decide) ?_
  intro v2 T2 L2 kk2 X2 hS hk hZ hown HC q2
  obtain ⟨rfl, Nq2, Kq2, Su2⟩ := q2
  have N2 := Fr.app N0 Nq2
  have Ex := Ex.keep Kq2
  have Vb := Vb.keep Kq2 (ninS (Ne.symm hab) nin0)
  have Kp := Kp.trans Kq2 (allS (Or.inl (List.mem_of_getElem? (i := 0) rfl)) all0)
  have O0 := O0.keep Kq2 (allS g_a all0)
  show Goes p e below _ T2 (mkF m 9 #[.val (.ref a), .val (.ref b)] [])
  exact retVoidW X2 hS hk hZ hEL HC hx hret hlk (hb hby d4_9) (rfl : T2.heap = _) (by decide) (by decide) ⟨rfl, N2, Kp, Su2⟩
set_option maxRecDepth 65536 in
set_option maxHeartbeats 40000000 in
theorem rm_high (l : Launch) (Z : State) (a0 : Array Value) (hw : ∀ d ∈ tables_1, d.before a0 Z = true) (c : Int32) (h0 : Heap) (n0 : Nat) (O0 : Old Z n0 h0)  :
    Rm l (⟨"com/example/latchwork/latchwork/core/LockNamesCheckPinLaw", "high", "(C)Z"⟩ : MethodName) method_3_code 1 (some .boolean) ({ frames := 0, cells := 0, slots := 0, locals := 0 } : Room) [] Z #[(.int c)] h0 (fun v h L => v = some (.int (hiV c)) ∧ Fr n0 L ∧ h = h0) := by
  refine Rm.of (plainFor_of_name pn_com_example_latchwork_latchwork_core_LockNamesCheckPinLaw) ?_
  intro p e s m below meth cod T X hx hZ hby hml hown hnm hret hlk eT0
  have hown : s.vm.findClass "com/example/latchwork/latchwork/core/LockNamesCheckPinLaw" = some m.cls := hown
  have hnm : meth.name = "high" := hnm
  have N0 := Fr.nil n0
  refine Goes.cast (ef_11 m c) ?_
  show Goes p e below _ T (mkF m 0 #[.val (.int c)] [])
  refine Goes.of (fun _ => XS.iloadN X.here hx rfl (hb hby d11_0) rfl) ?_
  show Goes p e below _ T (mkF m 1 #[.val (.int c)] [(.int c)])
  refine Goes.of (fun _ => X.ldcInt hx hown (mvT hZ (hw _ (List.mem_of_getElem? (i := 6) rfl))) (g := (mkF m 1 #[.val (.int c)] [(.int c)])) rfl (hb hby d11_1) _) ?_
  show Goes p e below _ T (mkF m 3 #[.val (.int c)] [(.int 55296), (.int c)])
  by_cases hpc3 : c < (55296 : Int32)
  · refine Goes.of (fun _ => XS.icmpYes X.here hx rfl (pc0 := 3) (pc' := 16) rfl (hb hby d11_3) rfl (tlt hpc3).1 (by decide) (by decide)) ?_
    show Goes p e below _ T (mkF m 16 #[.val (.int c)] [])
    refine Goes.of (fun _ => XS.iconst X.here hx rfl (hb hby d11_16)) ?_
    show Goes p e below _ T (mkF m 17 #[.val (.int c)] [(.int 0)])
    exact retZ (t := .boolean) X hx hret hlk (by simp) (hb hby d11_17) eT0 (by decide) (by decide) ⟨by unfold hiV; rw [if_pos hpc3]; try first | rfl | (split <;> rfl), N0, rfl⟩
  · refine Goes.of (fun _ => XS.icmpNo X.here hx rfl (hb hby d11_3) rfl (flt hpc3).1) ?_
    show Goes p e below _ T (mkF m 6 #[.val (.int c)] [])
    refine Goes.of (fun _ => XS.iloadN X.here hx rfl (hb hby d11_6) rfl) ?_
    show Goes p e below _ T (mkF m 7 #[.val (.int c)] [(.int c)])
    refine Goes.of (fun _ => X.ldcInt hx hown (mvT hZ (hw _ (List.mem_of_getElem? (i := 61) rfl))) (g := (mkF m 7 #[.val (.int c)] [(.int c)])) rfl (hb hby d11_7) _) ?_
    show Goes p e below _ T (mkF m 9 #[.val (.int c)] [(.int 56319), (.int c)])
    by_cases hpc9 : (56319 : Int32) < c
    · refine Goes.of (fun _ => XS.icmpYes X.here hx rfl (pc0 := 9) (pc' := 16) rfl (hb hby d11_9) rfl (tlt hpc9).2.2.1 (by decide) (by decide)) ?_
      show Goes p e below _ T (mkF m 16 #[.val (.int c)] [])
      refine Goes.of (fun _ => XS.iconst X.here hx rfl (hb hby d11_16)) ?_
      show Goes p e below _ T (mkF m 17 #[.val (.int c)] [(.int 0)])
      exact retZ (t := .boolean) X hx hret hlk (by simp) (hb hby d11_17) eT0 (by decide) (by decide) ⟨by unfold hiV; rw [if_neg hpc3, if_pos hpc9]; try first | rfl | (split <;> rfl), N0, rfl⟩
    · refine Goes.of (fun _ => XS.icmpNo X.here hx rfl (hb hby d11_9) rfl (flt hpc9).2.2.1) ?_
      show Goes p e below _ T (mkF m 12 #[.val (.int c)] [])
      refine Goes.of (fun _ => XS.iconst X.here hx rfl (hb hby d11_12)) ?_
      show Goes p e below _ T (mkF m 13 #[.val (.int c)] [(.int 1)])
      refine Goes.of (fun _ => XS.goto X.here hx rfl (pc0 := 13) (pc' := 17) rfl (hb hby d11_13) (by decide) (by decide)) ?_
      show Goes p e below _ T (mkF m 17 #[.val (.int c)] [(.int 1)])
      exact retZ (t := .boolean) X hx hret hlk (by simp) (hb hby d11_17) eT0 (by decide) (by decide) ⟨by unfold hiV; rw [if_neg hpc3, if_neg hpc9]; try first | rfl | (split <;> rfl), N0, rfl⟩
set_option maxRecDepth 65536 in
set_option maxHeartbeats 40000000 in
theorem rm_low (l : Launch) (Z : State) (a0 : Array Value) (hw : ∀ d ∈ tables_1, d.before a0 Z = true) (c : Int32) (h0 : Heap) (n0 : Nat) (O0 : Old Z n0 h0)  :
    Rm l (⟨"com/example/latchwork/latchwork/core/LockNamesCheckPinLaw", "low", "(C)Z"⟩ : MethodName) method_4_code 1 (some .boolean) ({ frames := 0, cells := 0, slots := 0, locals := 0 } : Room) [] Z #[(.int c)] h0 (fun v h L => v = some (.int (loV c)) ∧ Fr n0 L ∧ h = h0) := by
  refine Rm.of (plainFor_of_name pn_com_example_latchwork_latchwork_core_LockNamesCheckPinLaw) ?_
  intro p e s m below meth cod T X hx hZ hby hml hown hnm hret hlk eT0
  have hown : s.vm.findClass "com/example/latchwork/latchwork/core/LockNamesCheckPinLaw" = some m.cls := hown
  have hnm : meth.name = "low" := hnm
  have N0 := Fr.nil n0
  refine Goes.cast (ef_12 m c) ?_
  show Goes p e below _ T (mkF m 0 #[.val (.int c)] [])
  refine Goes.of (fun _ => XS.iloadN X.here hx rfl (hb hby d12_0) rfl) ?_
  show Goes p e below _ T (mkF m 1 #[.val (.int c)] [(.int c)])
  refine Goes.of (fun _ => X.ldcInt hx hown (mvT hZ (hw _ (List.mem_of_getElem? (i := 5) rfl))) (g := (mkF m 1 #[.val (.int c)] [(.int c)])) rfl (hb hby d12_1) _) ?_
  show Goes p e below _ T (mkF m 3 #[.val (.int c)] [(.int 56320), (.int c)])
  by_cases hpc3 : c < (56320 : Int32)
  · refine Goes.of (fun _ => XS.icmpYes X.here hx rfl (pc0 := 3) (pc' := 16) rfl (hb hby d12_3) rfl (tlt hpc3).1 (by decide) (by decide)) ?_
    show Goes p e below _ T (mkF m 16 #[.val (.int c)] [])
    refine Goes.of (fun _ => XS.iconst X.here hx rfl (hb hby d12_16)) ?_
    show Goes p e below _ T (mkF m 17 #[.val (.int c)] [(.int 0)])
    exact retZ (t := .boolean) X hx hret hlk (by simp) (hb hby d12_17) eT0 (by decide) (by decide) ⟨by unfold loV; rw [if_pos hpc3]; try first | rfl | (split <;> rfl), N0, rfl⟩
  · refine Goes.of (fun _ => XS.icmpNo X.here hx rfl (hb hby d12_3) rfl (flt hpc3).1) ?_
    show Goes p e below _ T (mkF m 6 #[.val (.int c)] [])
    refine Goes.of (fun _ => XS.iloadN X.here hx rfl (hb hby d12_6) rfl) ?_
    show Goes p e below _ T (mkF m 7 #[.val (.int c)] [(.int c)])
    refine Goes.of (fun _ => X.ldcInt hx hown (mvT hZ (hw _ (List.mem_of_getElem? (i := 62) rfl))) (g := (mkF m 7 #[.val (.int c)] [(.int c)])) rfl (hb hby d12_7) _) ?_
    show Goes p e below _ T (mkF m 9 #[.val (.int c)] [(.int 57343), (.int c)])
    by_cases hpc9 : (57343 : Int32) < c
    · refine Goes.of (fun _ => XS.icmpYes X.here hx rfl (pc0 := 9) (pc' := 16) rfl (hb hby d12_9) rfl (tlt hpc9).2.2.1 (by decide) (by decide)) ?_
      show Goes p e below _ T (mkF m 16 #[.val (.int c)] [])
      refine Goes.of (fun _ => XS.iconst X.here hx rfl (hb hby d12_16)) ?_
      show Goes p e below _ T (mkF m 17 #[.val (.int c)] [(.int 0)])
      exact retZ (t := .boolean) X hx hret hlk (by simp) (hb hby d12_17) eT0 (by decide) (by decide) ⟨by unfold loV; rw [if_neg hpc3, if_pos hpc9]; try first | rfl | (split <;> rfl), N0, rfl⟩
    · refine Goes.of (fun _ => XS.icmpNo X.here hx rfl (hb hby d12_9) rfl (flt hpc9).2.2.1) ?_
      show Goes p e below _ T (mkF m 12 #[.val (.int c)] [])
      refine Goes.of (fun _ => XS.iconst X.here hx rfl (hb hby d12_12)) ?_
      show Goes p e below _ T (mkF m 13 #[.val (.int c)] [(.int 1)])
      refine Goes.of (fun _ => XS.goto X.here hx rfl (pc0 := 13) (pc' := 17) rfl (hb hby d12_13) (by decide) (by decide)) ?_
      show Goes p e below _ T (mkF m 17 #[.val (.int c)] [(.int 1)])
      exact retZ (t := .boolean) X hx hret hlk (by simp) (hb hby d12_17) eT0 (by decide) (by decide) ⟨by unfold loV; rw [if_neg hpc3, if_neg hpc9]; try first | rfl | (split <;> rfl), N0, rfl⟩
set_option maxRecDepth 65536 in
set_option maxHeartbeats 40000000 in
theorem rm_draw (l : Launch) (Z : State) (a0 : Array Value) (hw : ∀ d ∈ tables_1, d.before a0 Z = true) (x : Int32) (h0 : Heap) (n0 : Nat) (O0 : Old Z n0 h0)  :
    Rm l (⟨"com/example/latchwork/latchwork/core/LockNamesCheckPinLaw", "draw", "(I)C"⟩ : MethodName) method_2_code 3 (some .char) ({ frames := 0, cells := 0, slots := 0, locals := 0 } : Room) [] Z #[(.int x)] h0 (fun v h L => ∃ c, v = some (.int c) ∧ Fr n0 L ∧ h = h0 ∧ (¬ c < 0 ∧ ¬ (65535 : Int32) < c)) := by
  refine Rm.of (plainFor_of_name pn_com_example_latchwork_latchwork_core_LockNamesCheckPinLaw) ?_
  intro p e s m below meth cod T X hx hZ hby hml hown hnm hret hlk eT0
  have hown : s.vm.findClass "com/example/latchwork/latchwork/core/LockNamesCheckPinLaw" = some m.cls := hown
  have hnm : meth.name = "draw" := hnm
  have N0 := Fr.nil n0
  refine Goes.cast (ef_1 m x) ?_
  show Goes p e below _ T (mkF m 0 #[.val (.int x), .unset, .unset] [])
  refine Goes.of (fun _ => XS.iloadN X.here hx rfl (hb hby d1_0) rfl) ?_
  show Goes p e below _ T (mkF m 1 #[.val (.int x), .unset, .unset] [(.int x)])
  refine Goes.of (fun _ => XS.iconst X.here hx rfl (hb hby d1_1)) ?_
  show Goes p e below _ T (mkF m 2 #[.val (.int x), .unset, .unset] [(.int 3), (.int x)])
  refine Goes.of (fun _ => XS.iand X.here hx rfl (hb hby d1_2) rfl) ?_
  show Goes p e below _ T (mkF m 3 #[.val (.int x), .unset, .unset] [(.int (x &&& (3 : Int32)))])
  refine Goes.of (fun _ => XS.istoreN X.here hx rfl (hb hby d1_3) rfl (l' := #[.val (.int x), .val (.int (x &&& (3 : Int32))), .unset]) rfl) ?_
  show Goes p e below _ T (mkF m 4 #[.val (.int x), .val (.int (x &&& (3 : Int32))), .unset] [])
  refine Goes.of (fun _ => XS.iloadN X.here hx rfl (hb hby d1_4) rfl) ?_
  show Goes p e below _ T (mkF m 5 #[.val (.int x), .val (.int (x &&& (3 : Int32))), .unset] [(.int x)])
  refine Goes.of (fun _ => XS.iconst X.here hx rfl (hb hby d1_5)) ?_
  show Goes p e below _ T (mkF m 6 #[.val (.int x), .val (.int (x &&& (3 : Int32))), .unset] [(.int 2), (.int x)])
  refine Goes.of (fun _ => XS.iushr X.here hx rfl (hb hby d1_6) rfl) ?_
  show Goes p e below _ T (mkF m 7 #[.val (.int x), .val (.int (x &&& (3 : Int32))), .unset] [(.int ((x.toUInt32 >>> ((2 : Int32) &&& 31).toUInt32).toInt32))])
  refine Goes.of (fun _ => XS.istoreN X.here hx rfl (hb hby d1_7) rfl (l' := #[.val (.int x), .val (.int (x &&& (3 : Int32))), .val (.int ((x.toUInt32 >>> ((2 : Int32) &&& 31).toUInt32).toInt32))]) rfl) ?_
  show Goes p e below _ T (mkF m 8 #[.val (.int x), .val (.int (x &&& (3 : Int32))), .val (.int ((x.toUInt32 >>> ((2 : Int32) &&& 31).toUInt32).toInt32))] [])
  refine Goes.of (fun _ => XS.iloadN X.here hx rfl (hb hby d1_8) rfl) ?_
  show Goes p e below _ T (mkF m 9 #[.val (.int x), .val (.int (x &&& (3 : Int32))), .val (.int ((x.toUInt32 >>> ((2 : Int32) &&& 31).toUInt32).toInt32))] [(.int (x &&& (3 : Int32)))])
  refine Goes.of (fun _ => XS.iconst X.here hx rfl (hb hby d1_9)) ?_
  show Goes p e below _ T (mkF m 10 #[.val (.int x), .val (.int (x &&& (3 : Int32))), .val (.int ((x.toUInt32 >>> ((2 : Int32) &&& 31).toUInt32).toInt32))] [(.int 2), (.int (x &&& (3 : Int32)))])
  by_cases hpc10 : (x &&& (3 : Int32)) = (2 : Int32)
  · refine Goes.of (fun _ => XS.icmpNo X.here hx rfl (hb hby d1_10) rfl (teq hpc10).2) ?_
    show Goes p e below _ T (mkF m 13 #[.val (.int x), .val (.int (x &&& (3 : Int32))), .val (.int ((x.toUInt32 >>> ((2 : Int32) &&& 31).toUInt32).toInt32))] [])
    refine Goes.of (fun _ => X.ldcInt hx hown (mvT hZ (hw _ (List.mem_of_getElem? (i := 6) rfl))) (g := (mkF m 13 #[.val (.int x), .val (.int (x &&& (3 : Int32))), .val (.int ((x.toUInt32 >>> ((2 : Int32) &&& 31).toUInt32).toInt32))] [])) rfl (hb hby d1_13) _) ?_
    show Goes p e below _ T (mkF m 15 #[.val (.int x), .val (.int (x &&& (3 : Int32))), .val (.int ((x.toUInt32 >>> ((2 : Int32) &&& 31).toUInt32).toInt32))] [(.int 55296)])
    refine Goes.of (fun _ => XS.iloadN X.here hx rfl (hb hby d1_15) rfl) ?_
    show Goes p e below _ T (mkF m 16 #[.val (.int x), .val (.int (x &&& (3 : Int32))), .val (.int ((x.toUInt32 >>> ((2 : Int32) &&& 31).toUInt32).toInt32))] [(.int ((x.toUInt32 >>> ((2 : Int32) &&& 31).toUInt32).toInt32)), (.int 55296)])
    refine Goes.of (fun _ => XS.sipush X.here hx rfl (hb hby d1_16)) ?_
    show Goes p e below _ T (mkF m 19 #[.val (.int x), .val (.int (x &&& (3 : Int32))), .val (.int ((x.toUInt32 >>> ((2 : Int32) &&& 31).toUInt32).toInt32))] [(.int 1023), (.int ((x.toUInt32 >>> ((2 : Int32) &&& 31).toUInt32).toInt32)), (.int 55296)])
    refine Goes.of (fun _ => XS.iand X.here hx rfl (hb hby d1_19) rfl) ?_
    show Goes p e below _ T (mkF m 20 #[.val (.int x), .val (.int (x &&& (3 : Int32))), .val (.int ((x.toUInt32 >>> ((2 : Int32) &&& 31).toUInt32).toInt32))] [(.int (((x.toUInt32 >>> ((2 : Int32) &&& 31).toUInt32).toInt32) &&& (1023 : Int32))), (.int 55296)])
    refine Goes.of (fun _ => XS.ior X.here hx rfl (hb hby d1_20) rfl) ?_
    show Goes p e below _ T (mkF m 21 #[.val (.int x), .val (.int (x &&& (3 : Int32))), .val (.int ((x.toUInt32 >>> ((2 : Int32) &&& 31).toUInt32).toInt32))] [(.int ((55296 : Int32) ||| (((x.toUInt32 >>> ((2 : Int32) &&& 31).toUInt32).toInt32) &&& (1023 : Int32))))])
    refine Goes.of (fun _ => XS.i2c X.here hx rfl (hb hby d1_21) rfl) ?_
    show Goes p e below _ T (mkF m 22 #[.val (.int x), .val (.int (x &&& (3 : Int32))), .val (.int ((x.toUInt32 >>> ((2 : Int32) &&& 31).toUInt32).toInt32))] [(.int (((55296 : Int32) ||| (((x.toUInt32 >>> ((2 : Int32) &&& 31).toUInt32).toInt32) &&& (1023 : Int32))).toUInt32.toUInt16.toUInt32.toInt32))])
    exact retZ (t := .char) X hx hret hlk (by simp) (hb hby d1_22) eT0 (by decide) (by decide) ⟨_, rfl, N0, rfl, char16 _⟩
  · refine Goes.of (fun _ => XS.icmpYes X.here hx rfl (pc0 := 10) (pc' := 23) rfl (hb hby d1_10) rfl (feq hpc10).2 (by decide) (by decide)) ?_
    show Goes p e below _ T (mkF m 23 #[.val (.int x), .val (.int (x &&& (3 : Int32))), .val (.int ((x.toUInt32 >>> ((2 : Int32) &&& 31).toUInt32).toInt32))] [])
    refine Goes.of (fun _ => XS.iloadN X.here hx rfl (hb hby d1_23) rfl) ?_
    show Goes p e below _ T (mkF m 24 #[.val (.int x), .val (.int (x &&& (3 : Int32))), .val (.int ((x.toUInt32 >>> ((2 : Int32) &&& 31).toUInt32).toInt32))] [(.int (x &&& (3 : Int32)))])
    refine Goes.of (fun _ => XS.iconst X.here hx rfl (hb hby d1_24)) ?_
    show Goes p e below _ T (mkF m 25 #[.val (.int x), .val (.int (x &&& (3 : Int32))), .val (.int ((x.toUInt32 >>> ((2 : Int32) &&& 31).toUInt32).toInt32))] [(.int 3), (.int (x &&& (3 : Int32)))])
    by_cases hpc25 : (x &&& (3 : Int32)) = (3 : Int32)
    · refine Goes.of (fun _ => XS.icmpNo X.here hx rfl (hb hby d1_25) rfl (teq hpc25).2) ?_
      show Goes p e below _ T (mkF m 28 #[.val (.int x), .val (.int (x &&& (3 : Int32))), .val (.int ((x.toUInt32 >>> ((2 : Int32) &&& 31).toUInt32).toInt32))] [])
      refine Goes.of (fun _ => X.ldcInt hx hown (mvT hZ (hw _ (List.mem_of_getElem? (i := 5) rfl))) (g := (mkF m 28 #[.val (.int x), .val (.int (x &&& (3 : Int32))), .val (.int ((x.toUInt32 >>> ((2 : Int32) &&& 31).toUInt32).toInt32))] [])) rfl (hb hby d1_28) _) ?_
      show Goes p e below _ T (mkF m 30 #[.val (.int x), .val (.int (x &&& (3 : Int32))), .val (.int ((x.toUInt32 >>> ((2 : Int32) &&& 31).toUInt32).toInt32))] [(.int 56320)])
      refine Goes.of (fun _ => XS.iloadN X.here hx rfl (hb hby d1_30) rfl) ?_
      show Goes p e below _ T (mkF m 31 #[.val (.int x), .val (.int (x &&& (3 : Int32))), .val (.int ((x.toUInt32 >>> ((2 : Int32) &&& 31).toUInt32).toInt32))] [(.int ((x.toUInt32 >>> ((2 : Int32) &&& 31).toUInt32).toInt32)), (.int 56320)])
      refine Goes.of (fun _ => XS.sipush X.here hx rfl (hb hby d1_31)) ?_
      show Goes p e below _ T (mkF m 34 #[.val (.int x), .val (.int (x &&& (3 : Int32))), .val (.int ((x.toUInt32 >>> ((2 : Int32) &&& 31).toUInt32).toInt32))] [(.int 1023), (.int ((x.toUInt32 >>> ((2 : Int32) &&& 31).toUInt32).toInt32)), (.int 56320)])
      refine Goes.of (fun _ => XS.iand X.here hx rfl (hb hby d1_34) rfl) ?_
      show Goes p e below _ T (mkF m 35 #[.val (.int x), .val (.int (x &&& (3 : Int32))), .val (.int ((x.toUInt32 >>> ((2 : Int32) &&& 31).toUInt32).toInt32))] [(.int (((x.toUInt32 >>> ((2 : Int32) &&& 31).toUInt32).toInt32) &&& (1023 : Int32))), (.int 56320)])
      refine Goes.of (fun _ => XS.ior X.here hx rfl (hb hby d1_35) rfl) ?_
      show Goes p e below _ T (mkF m 36 #[.val (.int x), .val (.int (x &&& (3 : Int32))), .val (.int ((x.toUInt32 >>> ((2 : Int32) &&& 31).toUInt32).toInt32))] [(.int ((56320 : Int32) ||| (((x.toUInt32 >>> ((2 : Int32) &&& 31).toUInt32).toInt32) &&& (1023 : Int32))))])
      refine Goes.of (fun _ => XS.i2c X.here hx rfl (hb hby d1_36) rfl) ?_
      show Goes p e below _ T (mkF m 37 #[.val (.int x), .val (.int (x &&& (3 : Int32))), .val (.int ((x.toUInt32 >>> ((2 : Int32) &&& 31).toUInt32).toInt32))] [(.int (((56320 : Int32) ||| (((x.toUInt32 >>> ((2 : Int32) &&& 31).toUInt32).toInt32) &&& (1023 : Int32))).toUInt32.toUInt16.toUInt32.toInt32))])
      exact retZ (t := .char) X hx hret hlk (by simp) (hb hby d1_37) eT0 (by decide) (by decide) ⟨_, rfl, N0, rfl, char16 _⟩
    · refine Goes.of (fun _ => XS.icmpYes X.here hx rfl (pc0 := 25) (pc' := 38) rfl (hb hby d1_25) rfl (feq hpc25).2 (by decide) (by decide)) ?_
      show Goes p e below _ T (mkF m 38 #[.val (.int x), .val (.int (x &&& (3 : Int32))), .val (.int ((x.toUInt32 >>> ((2 : Int32) &&& 31).toUInt32).toInt32))] [])
      refine Goes.of (fun _ => XS.iloadN X.here hx rfl (hb hby d1_38) rfl) ?_
      show Goes p e below _ T (mkF m 39 #[.val (.int x), .val (.int (x &&& (3 : Int32))), .val (.int ((x.toUInt32 >>> ((2 : Int32) &&& 31).toUInt32).toInt32))] [(.int ((x.toUInt32 >>> ((2 : Int32) &&& 31).toUInt32).toInt32))])
      refine Goes.of (fun _ => X.ldcInt hx hown (mvT hZ (hw _ (List.mem_of_getElem? (i := 7) rfl))) (g := (mkF m 39 #[.val (.int x), .val (.int (x &&& (3 : Int32))), .val (.int ((x.toUInt32 >>> ((2 : Int32) &&& 31).toUInt32).toInt32))] [(.int ((x.toUInt32 >>> ((2 : Int32) &&& 31).toUInt32).toInt32))])) rfl (hb hby d1_39) _) ?_
      show Goes p e below _ T (mkF m 41 #[.val (.int x), .val (.int (x &&& (3 : Int32))), .val (.int ((x.toUInt32 >>> ((2 : Int32) &&& 31).toUInt32).toInt32))] [(.int 65535), (.int ((x.toUInt32 >>> ((2 : Int32) &&& 31).toUInt32).toInt32))])
      refine Goes.of (fun _ => XS.iand X.here hx rfl (hb hby d1_41) rfl) ?_
      show Goes p e below _ T (mkF m 42 #[.val (.int x), .val (.int (x &&& (3 : Int32))), .val (.int ((x.toUInt32 >>> ((2 : Int32) &&& 31).toUInt32).toInt32))] [(.int (((x.toUInt32 >>> ((2 : Int32) &&& 31).toUInt32).toInt32) &&& (65535 : Int32)))])
      refine Goes.of (fun _ => XS.i2c X.here hx rfl (hb hby d1_42) rfl) ?_
      show Goes p e below _ T (mkF m 43 #[.val (.int x), .val (.int (x &&& (3 : Int32))), .val (.int ((x.toUInt32 >>> ((2 : Int32) &&& 31).toUInt32).toInt32))] [(.int ((((x.toUInt32 >>> ((2 : Int32) &&& 31).toUInt32).toInt32) &&& (65535 : Int32)).toUInt32.toUInt16.toUInt32.toInt32))])
      exact retZ (t := .char) X hx hret hlk (by simp) (hb hby d1_43) eT0 (by decide) (by decide) ⟨_, rfl, N0, rfl, char16 _⟩
set_option maxRecDepth 65536 in
set_option maxHeartbeats 40000000 in
theorem rm_bad_0_0 (l : Launch) (Z : State) (a0 : Array Value) (hw : ∀ d ∈ tables_1, d.before a0 Z = true) (a : Addr) (ka : ClassId) (c0 c1 c2 c3 : Int32) (h0 : Heap) (n0 : Nat) (O0 : Old Z n0 h0) (Va : Arv Z h0 a ka .char (4 : Int32) [(.int c0), (.int c1), (.int c2), (.int c3)] (.int 0)) :
    Rm l (⟨"com/example/latchwork/latchwork/core/LockNamesCheckPinLaw", "bad", "([CII)Z"⟩ : MethodName) method_5_code 3 (some .boolean) ({ frames := 0, cells := 0, slots := 0, locals := 0 } : Room) [] Z #[(.ref a), (.int 0), (.int 0)] h0 (fun v h L => v = some (.int 0) ∧ Fr n0 L ∧ h = h0) := by
  refine Rm.of (plainFor_of_name pn_com_example_latchwork_latchwork_core_LockNamesCheckPinLaw) ?_
  intro p e s m below meth cod T X hx hZ hby hml hown hnm hret hlk eT0
  have hown : s.vm.findClass "com/example/latchwork/latchwork/core/LockNamesCheckPinLaw" = some m.cls := hown
  have hnm : meth.name = "bad" := hnm
  have N0 := Fr.nil n0
  refine Goes.cast (ef_2 m a (0 : Int32) (0 : Int32)) ?_
  show Goes p e below _ T (mkF m 0 #[.val (.ref a), .val (.int 0), .val (.int 0)] [])
  refine Goes.of (fun _ => XS.iloadN X.here hx rfl (hb hby d2_0) rfl) ?_
  show Goes p e below _ T (mkF m 1 #[.val (.ref a), .val (.int 0), .val (.int 0)] [(.int 0)])
  refine Goes.of (fun _ => XS.iloadN X.here hx rfl (hb hby d2_1) rfl) ?_
  show Goes p e below _ T (mkF m 2 #[.val (.ref a), .val (.int 0), .val (.int 0)] [(.int 0), (.int 0)])
  refine Goes.of (fun _ => XS.icmpNo X.here hx rfl (hb hby d2_2) rfl (flt (by decide)).1) ?_
  show Goes p e below _ T (mkF m 5 #[.val (.ref a), .val (.int 0), .val (.int 0)] [])
  refine Goes.of (fun _ => XS.iconst X.here hx rfl (hb hby d2_5)) ?_
  show Goes p e below _ T (mkF m 6 #[.val (.ref a), .val (.int 0), .val (.int 0)] [(.int 0)])
  exact retZ (t := .boolean) X hx hret hlk (by simp) (hb hby d2_6) eT0 (by decide) (by decide) ⟨rfl, N0, rfl⟩
set_option maxRecDepth 65536 in
set_option maxHeartbeats 40000000 in
theorem rm_bad_0_1 (l : Launch) (Z : State) (a0 : Array Value) (hw : ∀ d ∈ tables_1, d.before a0 Z = true) (a : Addr) (ka : ClassId) (c0 c1 c2 c3 : Int32) (h0 : Heap) (n0 : Nat) (O0 : Old Z n0 h0) (Va : Arv Z h0 a ka .char (4 : Int32) [(.int c0), (.int c1), (.int c2), (.int c3)] (.int 0)) :
    Rm l (⟨"com/example/latchwork/latchwork/core/LockNamesCheckPinLaw", "bad", "([CII)Z"⟩ : MethodName) method_5_code 3 (some .boolean) ({ frames := 0, cells := 0, slots := 0, locals := 0 } : Room) [] Z #[(.ref a), (.int 0), (.int 1)] h0 (fun v h L => v = some (.int 0) ∧ Fr n0 L ∧ h = h0) := by
  refine Rm.of (plainFor_of_name pn_com_example_latchwork_latchwork_core_LockNamesCheckPinLaw) ?_
  intro p e s m below meth cod T X hx hZ hby hml hown hnm hret hlk eT0
  have hown : s.vm.findClass "com/example/latchwork/latchwork/core/LockNamesCheckPinLaw" = some m.cls := hown
  have hnm : meth.name = "bad" := hnm
  have N0 := Fr.nil n0
  refine Goes.cast (ef_2 m a (0 : Int32) (1 : Int32)) ?_
  show Goes p e below _ T (mkF m 0 #[.val (.ref a), .val (.int 0), .val (.int 1)] [])
  refine Goes.of (fun _ => XS.iloadN X.here hx rfl (hb hby d2_0) rfl) ?_
  show Goes p e below _ T (mkF m 1 #[.val (.ref a), .val (.int 0), .val (.int 1)] [(.int 1)])
  refine Goes.of (fun _ => XS.iloadN X.here hx rfl (hb hby d2_1) rfl) ?_
  show Goes p e below _ T (mkF m 2 #[.val (.ref a), .val (.int 0), .val (.int 1)] [(.int 0), (.int 1)])
  refine Goes.of (fun _ => XS.icmpNo X.here hx rfl (hb hby d2_2) rfl (flt (by decide)).1) ?_
  show Goes p e below _ T (mkF m 5 #[.val (.ref a), .val (.int 0), .val (.int 1)] [])
  refine Goes.of (fun _ => XS.iconst X.here hx rfl (hb hby d2_5)) ?_
  show Goes p e below _ T (mkF m 6 #[.val (.ref a), .val (.int 0), .val (.int 1)] [(.int 0)])
  exact retZ (t := .boolean) X hx hret hlk (by simp) (hb hby d2_6) eT0 (by decide) (by decide) ⟨rfl, N0, rfl⟩
set_option maxRecDepth 65536 in
set_option maxHeartbeats 40000000 in
theorem rm_bad_0_2 (l : Launch) (Z : State) (a0 : Array Value) (hw : ∀ d ∈ tables_1, d.before a0 Z = true) (a : Addr) (ka : ClassId) (c0 c1 c2 c3 : Int32) (h0 : Heap) (n0 : Nat) (O0 : Old Z n0 h0) (Va : Arv Z h0 a ka .char (4 : Int32) [(.int c0), (.int c1), (.int c2), (.int c3)] (.int 0)) :
    Rm l (⟨"com/example/latchwork/latchwork/core/LockNamesCheckPinLaw", "bad", "([CII)Z"⟩ : MethodName) method_5_code 3 (some .boolean) ({ frames := 0, cells := 0, slots := 0, locals := 0 } : Room) [] Z #[(.ref a), (.int 0), (.int 2)] h0 (fun v h L => v = some (.int 0) ∧ Fr n0 L ∧ h = h0) := by
  refine Rm.of (plainFor_of_name pn_com_example_latchwork_latchwork_core_LockNamesCheckPinLaw) ?_
  intro p e s m below meth cod T X hx hZ hby hml hown hnm hret hlk eT0
  have hown : s.vm.findClass "com/example/latchwork/latchwork/core/LockNamesCheckPinLaw" = some m.cls := hown
  have hnm : meth.name = "bad" := hnm
  have N0 := Fr.nil n0
  refine Goes.cast (ef_2 m a (0 : Int32) (2 : Int32)) ?_
  show Goes p e below _ T (mkF m 0 #[.val (.ref a), .val (.int 0), .val (.int 2)] [])
  refine Goes.of (fun _ => XS.iloadN X.here hx rfl (hb hby d2_0) rfl) ?_
  show Goes p e below _ T (mkF m 1 #[.val (.ref a), .val (.int 0), .val (.int 2)] [(.int 2)])
  refine Goes.of (fun _ => XS.iloadN X.here hx rfl (hb hby d2_1) rfl) ?_
  show Goes p e below _ T (mkF m 2 #[.val (.ref a), .val (.int 0), .val (.int 2)] [(.int 0), (.int 2)])
  refine Goes.of (fun _ => XS.icmpNo X.here hx rfl (hb hby d2_2) rfl (flt (by decide)).1) ?_
  show Goes p e below _ T (mkF m 5 #[.val (.ref a), .val (.int 0), .val (.int 2)] [])
  refine Goes.of (fun _ => XS.iconst X.here hx rfl (hb hby d2_5)) ?_
  show Goes p e below _ T (mkF m 6 #[.val (.ref a), .val (.int 0), .val (.int 2)] [(.int 0)])
  exact retZ (t := .boolean) X hx hret hlk (by simp) (hb hby d2_6) eT0 (by decide) (by decide) ⟨rfl, N0, rfl⟩
set_option maxRecDepth 65536 in
set_option maxHeartbeats 40000000 in
theorem rm_bad_0_3 (l : Launch) (Z : State) (a0 : Array Value) (hw : ∀ d ∈ tables_1, d.before a0 Z = true) (a : Addr) (ka : ClassId) (c0 c1 c2 c3 : Int32) (h0 : Heap) (n0 : Nat) (O0 : Old Z n0 h0) (Va : Arv Z h0 a ka .char (4 : Int32) [(.int c0), (.int c1), (.int c2), (.int c3)] (.int 0)) :
    Rm l (⟨"com/example/latchwork/latchwork/core/LockNamesCheckPinLaw", "bad", "([CII)Z"⟩ : MethodName) method_5_code 3 (some .boolean) ({ frames := 0, cells := 0, slots := 0, locals := 0 } : Room) [] Z #[(.ref a), (.int 0), (.int 3)] h0 (fun v h L => v = some (.int 0) ∧ Fr n0 L ∧ h = h0) := by
  refine Rm.of (plainFor_of_name pn_com_example_latchwork_latchwork_core_LockNamesCheckPinLaw) ?_
  intro p e s m below meth cod T X hx hZ hby hml hown hnm hret hlk eT0
  have hown : s.vm.findClass "com/example/latchwork/latchwork/core/LockNamesCheckPinLaw" = some m.cls := hown
  have hnm : meth.name = "bad" := hnm
  have N0 := Fr.nil n0
  refine Goes.cast (ef_2 m a (0 : Int32) (3 : Int32)) ?_
  show Goes p e below _ T (mkF m 0 #[.val (.ref a), .val (.int 0), .val (.int 3)] [])
  refine Goes.of (fun _ => XS.iloadN X.here hx rfl (hb hby d2_0) rfl) ?_
  show Goes p e below _ T (mkF m 1 #[.val (.ref a), .val (.int 0), .val (.int 3)] [(.int 3)])
  refine Goes.of (fun _ => XS.iloadN X.here hx rfl (hb hby d2_1) rfl) ?_
  show Goes p e below _ T (mkF m 2 #[.val (.ref a), .val (.int 0), .val (.int 3)] [(.int 0), (.int 3)])
  refine Goes.of (fun _ => XS.icmpNo X.here hx rfl (hb hby d2_2) rfl (flt (by decide)).1) ?_
  show Goes p e below _ T (mkF m 5 #[.val (.ref a), .val (.int 0), .val (.int 3)] [])
  refine Goes.of (fun _ => XS.iconst X.here hx rfl (hb hby d2_5)) ?_
  show Goes p e below _ T (mkF m 6 #[.val (.ref a), .val (.int 0), .val (.int 3)] [(.int 0)])
  exact retZ (t := .boolean) X hx hret hlk (by simp) (hb hby d2_6) eT0 (by decide) (by decide) ⟨rfl, N0, rfl⟩
set_option maxRecDepth 65536 in
set_option maxHeartbeats 40000000 in
theorem rm_bad_1_0 (l : Launch) (Z : State) (a0 : Array Value) (hw : ∀ d ∈ tables_1, d.before a0 Z = true) (a : Addr) (ka : ClassId) (c0 c1 c2 c3 : Int32) (h0 : Heap) (n0 : Nat) (O0 : Old Z n0 h0) (Va : Arv Z h0 a ka .char (4 : Int32) [(.int c0), (.int c1), (.int c2), (.int c3)] (.int 0)) :
    Rm l (⟨"com/example/latchwork/latchwork/core/LockNamesCheckPinLaw", "bad", "([CII)Z"⟩ : MethodName) method_5_code 3 (some .boolean) ({ frames := 1, cells := 0, slots := 0, locals := 12 } : Room) [] Z #[(.ref a), (.int 1), (.int 0)] h0 (fun v h L => v = some (.int (if hiV c0 = (0 : Int32) then (if loV c0 = (0 : Int32) then (0 : Int32) else (1 : Int32)) else (1 : Int32))) ∧ Fr n0 L ∧ h = h0) := by
  refine Rm.of (plainFor_of_name pn_com_example_latchwork_latchwork_core_LockNamesCheckPinLaw) ?_
  intro p e s m below meth cod T X hx hZ hby hml hown hnm hret hlk eT0
  have hown : s.vm.findClass "com/example/latchwork/latchwork/core/LockNamesCheckPinLaw" = some m.cls := hown
  have hnm : meth.name = "bad" := hnm
  have N0 := Fr.nil n0
  refine Goes.cast (ef_2 m a (1 : Int32) (0 : Int32)) ?_
  show Goes p e below _ T (mkF m 0 #[.val (.ref a), .val (.int 1), .val (.int 0)] [])
  refine Goes.of (fun _ => XS.iloadN X.here hx rfl (hb hby d2_0) rfl) ?_
  show Goes p e below _ T (mkF m 1 #[.val (.ref a), .val (.int 1), .val (.int 0)] [(.int 0)])
  refine Goes.of (fun _ => XS.iloadN X.here hx rfl (hb hby d2_1) rfl) ?_
  show Goes p e below _ T (mkF m 2 #[.val (.ref a), .val (.int 1), .val (.int 0)] [(.int 1), (.int 0)])
  refine Goes.of (fun _ => XS.icmpYes X.here hx rfl (pc0 := 2) (pc' := 7) rfl (hb hby d2_2) rfl (tlt (by decide)).1 (by decide) (by decide)) ?_
  show Goes p e below _ T (mkF m 7 #[.val (.ref a), .val (.int 1), .val (.int 0)] [])
  refine Goes.of (fun _ => XS.aloadN X.here hx rfl (hb hby d2_7) rfl rfl) ?_
  show Goes p e below _ T (mkF m 8 #[.val (.ref a), .val (.int 1), .val (.int 0)] [(.ref a)])
  refine Goes.of (fun _ => XS.iloadN X.here hx rfl (hb hby d2_8) rfl) ?_
  show Goes p e below _ T (mkF m 9 #[.val (.ref a), .val (.int 1), .val (.int 0)] [(.int 0), (.ref a)])
  refine goLdC (.int c0) X hx hZ eT0 Va (by decide) (by decide) rfl (g := (mkF m 9 #[.val (.ref a), .val (.int 1), .val (.int 0)] [(.int 0), (.ref a)])) rfl rfl (hb hby d2_9) ?_
  show Goes p e below _ T (mkF m 10 #[.val (.ref a), .val (.int 1), .val (.int 0)] [(.int c0)])
  refine goStatic 0 X hx hZ hown (hw _ (List.mem_of_getElem? (i := 55) rfl)) (hw _ (List.mem_of_getElem? (i := 56) rfl)) (hw _ (List.mem_of_getElem? (i := 3) rfl)) (hw _ (List.mem_of_getElem? (i := 57) rfl)) (by decide) (rm_high l Z a0 hw c0 h0 n0 O0) eT0 (g := (mkF m 10 #[.val (.ref a), .val (.int 1), .val (.int 0)] [(.int c0)])) rfl (by rw [hml]; rfl) [(.int c0)] [] (lenOf pd__C_Z rfl) rfl rfl (by show 2 * 0 + _ ≤ _; exact Nat.le_of_eq rfl) (hb hby d2_10) (by decide) (by decide) (by decide) (by decide) ?_
  intro v2 T2 L2 X2 q2
  obtain ⟨rfl, Nq2, eT2⟩ := q2
  have N2 := Fr.app N0 Nq2
  show Goes p e below _ T2 (mkF m 13 #[.val (.ref a), .val (.int 1), .val (.int 0)] [(.int (hiV c0))])
  by_cases hpc13 : (hiV c0) = (0 : Int32)
  · refine Goes.of (fun _ => XS.ifYes X2.here hx rfl (pc0 := 13) (pc' := 36) rfl (hb hby d2_13) rfl ((if0 _ _).trans (teq hpc13).1) (by decide) (by decide)) ?_
    show Goes p e below _ T2 (mkF m 36 #[.val (.ref a), .val (.int 1), .val (.int 0)] [])
    refine Goes.of (fun _ => XS.aloadN X2.here hx rfl (hb hby d2_36) rfl rfl) ?_
    show Goes p e below _ T2 (mkF m 37 #[.val (.ref a), .val (.int 1), .val (.int 0)] [(.ref a)])
    refine Goes.of (fun _ => XS.iloadN X2.here hx rfl (hb hby d2_37) rfl) ?_
    show Goes p e below _ T2 (mkF m 38 #[.val (.ref a), .val (.int 1), .val (.int 0)] [(.int 0), (.ref a)])
    refine goLdC (.int c0) X2 hx hZ eT2 Va (by decide) (by decide) rfl (g := (mkF m 38 #[.val (.ref a), .val (.int 1), .val (.int 0)] [(.int 0), (.ref a)])) rfl rfl (hb hby d2_38) ?_
    show Goes p e below _ T2 (mkF m 39 #[.val (.ref a), .val (.int 1), .val (.int 0)] [(.int c0)])
    refine goStatic 0 X2 hx hZ hown (hw _ (List.mem_of_getElem? (i := 58) rfl)) (hw _ (List.mem_of_getElem? (i := 59) rfl)) (hw _ (List.mem_of_getElem? (i := 3) rfl)) (hw _ (List.mem_of_getElem? (i := 60) rfl)) (by decide) (rm_low l Z a0 hw c0 h0 n0 O0) eT2 (g := (mkF m 39 #[.val (.ref a), .val (.int 1), .val (.int 0)] [(.int c0)])) rfl (by rw [hml]; rfl) [(.int c0)] [] (lenOf pd__C_Z rfl) rfl rfl (by show 2 * 0 + _ ≤ _; exact Nat.le_of_eq rfl) (hb hby d2_39) (by decide) (by decide) (by decide) (by decide) ?_
    intro v4 T4 L4 X4 q4
    obtain ⟨rfl, Nq4, eT4⟩ := q4
    have N4 := Fr.app N2 Nq4
    show Goes p e below _ T4 (mkF m 42 #[.val (.ref a), .val (.int 1), .val (.int 0)] [(.int (loV c0))])
    by_cases hpc42 : (loV c0) = (0 : Int32)
    · refine Goes.of (fun _ => XS.ifYes X4.here hx rfl (pc0 := 42) (pc' := 62) rfl (hb hby d2_42) rfl ((if0 _ _).trans (teq hpc42).1) (by decide) (by decide)) ?_
      show Goes p e below _ T4 (mkF m 62 #[.val (.ref a), .val (.int 1), .val (.int 0)] [])
      refine Goes.of (fun _ => XS.iconst X4.here hx rfl (hb hby d2_62)) ?_
      show Goes p e below _ T4 (mkF m 63 #[.val (.ref a), .val (.int 1), .val (.int 0)] [(.int 0)])
      exact retZ (t := .boolean) X4 hx hret hlk (by simp) (hb hby d2_63) eT4 (by decide) (by decide) ⟨by rw [if_pos hpc13, if_pos hpc42]; try first | rfl | (split <;> rfl), N4, rfl⟩
    · refine Goes.of (fun _ => XS.ifNo X4.here hx rfl (hb hby d2_42) rfl ((if0 _ _).trans (feq hpc42).1)) ?_
      show Goes p e below _ T4 (mkF m 45 #[.val (.ref a), .val (.int 1), .val (.int 0)] [])
      refine Goes.of (fun _ => XS.iloadN X4.here hx rfl (hb hby d2_45) rfl) ?_
      show Goes p e below _ T4 (mkF m 46 #[.val (.ref a), .val (.int 1), .val (.int 0)] [(.int 0)])
      refine Goes.of (fun _ => XS.ifYes X4.here hx rfl (pc0 := 46) (pc' := 60) rfl (hb hby d2_46) rfl ((if0 _ _).trans (flt (by decide)).2.2.2) (by decide) (by decide)) ?_
      show Goes p e below _ T4 (mkF m 60 #[.val (.ref a), .val (.int 1), .val (.int 0)] [])
      refine Goes.of (fun _ => XS.iconst X4.here hx rfl (hb hby d2_60)) ?_
      show Goes p e below _ T4 (mkF m 61 #[.val (.ref a), .val (.int 1), .val (.int 0)] [(.int 1)])
      exact retZ (t := .boolean) X4 hx hret hlk (by simp) (hb hby d2_61) eT4 (by decide) (by decide) ⟨by rw [if_pos hpc13, if_neg hpc42]; try first | rfl | (split <;> rfl), N4, rfl⟩
  · refine Goes.of (fun _ => XS.ifNo X2.here hx rfl (hb hby d2_13) rfl ((if0 _ _).trans (feq hpc13).1)) ?_
    show Goes p e below _ T2 (mkF m 16 #[.val (.ref a), .val (.int 1), .val (.int 0)] [])
    refine Goes.of (fun _ => XS.iloadN X2.here hx rfl (hb hby d2_16) rfl) ?_
    show Goes p e below _ T2 (mkF m 17 #[.val (.ref a), .val (.int 1), .val (.int 0)] [(.int 0)])
    refine Goes.of (fun _ => XS.iconst X2.here hx rfl (hb hby d2_17)) ?_
    show Goes p e below _ T2 (mkF m 18 #[.val (.ref a), .val (.int 1), .val (.int 0)] [(.int 1), (.int 0)])
    refine Goes.of (fun _ => XS.iadd X2.here hx rfl (hb hby d2_18) rfl) ?_
    show Goes p e below _ T2 (mkF m 19 #[.val (.ref a), .val (.int 1), .val (.int 0)] [(.int ((0 : Int32) + (1 : Int32)))])
    show Goes p e below _ T2 (mkF m 19 #[.val (.ref a), .val (.int 1), .val (.int 0)] [(.int 1)])
    refine Goes.of (fun _ => XS.iloadN X2.here hx rfl (hb hby d2_19) rfl) ?_
    show Goes p e below _ T2 (mkF m 20 #[.val (.ref a), .val (.int 1), .val (.int 0)] [(.int 1), (.int 1)])
    refine Goes.of (fun _ => XS.icmpYes X2.here hx rfl (pc0 := 20) (pc' := 34) rfl (hb hby d2_20) rfl (flt (by decide)).2.1 (by decide) (by decide)) ?_
    show Goes p e below _ T2 (mkF m 34 #[.val (.ref a), .val (.int 1), .val (.int 0)] [])
    refine Goes.of (fun _ => XS.iconst X2.here hx rfl (hb hby d2_34)) ?_
    show Goes p e below _ T2 (mkF m 35 #[.val (.ref a), .val (.int 1), .val (.int 0)] [(.int 1)])
    exact retZ (t := .boolean) X2 hx hret hlk (by simp) (hb hby d2_35) eT2 (by decide) (by decide) ⟨by rw [if_neg hpc13]; try first | rfl | (split <;> rfl), N2, rfl⟩
set_option maxRecDepth 65536 in
set_option maxHeartbeats 40000000 in
theorem rm_bad_1_1 (l : Launch) (Z : State) (a0 : Array Value) (hw : ∀ d ∈ tables_1, d.before a0 Z = true) (a : Addr) (ka : ClassId) (c0 c1 c2 c3 : Int32) (h0 : Heap) (n0 : Nat) (O0 : Old Z n0 h0) (Va : Arv Z h0 a ka .char (4 : Int32) [(.int c0), (.int c1), (.int c2), (.int c3)] (.int 0)) :
    Rm l (⟨"com/example/latchwork/latchwork/core/LockNamesCheckPinLaw", "bad", "([CII)Z"⟩ : MethodName) method_5_code 3 (some .boolean) ({ frames := 0, cells := 0, slots := 0, locals := 0 } : Room) [] Z #[(.ref a), (.int 1), (.int 1)] h0 (fun v h L => v = some (.int 0) ∧ Fr n0 L ∧ h = h0) := by
  refine Rm.of (plainFor_of_name pn_com_example_latchwork_latchwork_core_LockNamesCheckPinLaw) ?_
  intro p e s m below meth cod T X hx hZ hby hml hown hnm hret hlk eT0
  have hown : s.vm.findClass "com/example/latchwork/latchwork/core/LockNamesCheckPinLaw" = some m.cls := hown
  have hnm : meth.name = "bad" := hnm
  have N0 := Fr.nil n0
  refine Goes.cast (ef_2 m a (1 : Int32) (1 : Int32)) ?_
  show Goes p e below _ T (mkF m 0 #[.val (.ref a), .val (.int 1), .val (.int 1)] [])
  refine Goes.of (fun _ => XS.iloadN X.here hx rfl (hb hby d2_0) rfl) ?_
  show Goes p e below _ T (mkF m 1 #[.val (.ref a), .val (.int 1), .val (.int 1)] [(.int 1)])
  refine Goes.of (fun _ => XS.iloadN X.here hx rfl (hb hby d2_1) rfl) ?_
  show Goes p e below _ T (mkF m 2 #[.val (.ref a), .val (.int 1), .val (.int 1)] [(.int 1), (.int 1)])
  refine Goes.of (fun _ => XS.icmpNo X.here hx rfl (hb hby d2_2) rfl (flt (by decide)).1) ?_
  show Goes p e below _ T (mkF m 5 #[.val (.ref a), .val (.int 1), .val (.int 1)] [])
  refine Goes.of (fun _ => XS.iconst X.here hx rfl (hb hby d2_5)) ?_
  show Goes p e below _ T (mkF m 6 #[.val (.ref a), .val (.int 1), .val (.int 1)] [(.int 0)])
  exact retZ (t := .boolean) X hx hret hlk (by simp) (hb hby d2_6) eT0 (by decide) (by decide) ⟨rfl, N0, rfl⟩
set_option maxRecDepth 65536 in
set_option maxHeartbeats 40000000 in
theorem rm_bad_1_2 (l : Launch) (Z : State) (a0 : Array Value) (hw : ∀ d ∈ tables_1, d.before a0 Z = true) (a : Addr) (ka : ClassId) (c0 c1 c2 c3 : Int32) (h0 : Heap) (n0 : Nat) (O0 : Old Z n0 h0) (Va : Arv Z h0 a ka .char (4 : Int32) [(.int c0), (.int c1), (.int c2), (.int c3)] (.int 0)) :
    Rm l (⟨"com/example/latchwork/latchwork/core/LockNamesCheckPinLaw", "bad", "([CII)Z"⟩ : MethodName) method_5_code 3 (some .boolean) ({ frames := 0, cells := 0, slots := 0, locals := 0 } : Room) [] Z #[(.ref a), (.int 1), (.int 2)] h0 (fun v h L => v = some (.int 0) ∧ Fr n0 L ∧ h = h0) := by
  refine Rm.of (plainFor_of_name pn_com_example_latchwork_latchwork_core_LockNamesCheckPinLaw) ?_
  intro p e s m below meth cod T X hx hZ hby hml hown hnm hret hlk eT0
  have hown : s.vm.findClass "com/example/latchwork/latchwork/core/LockNamesCheckPinLaw" = some m.cls := hown
  have hnm : meth.name = "bad" := hnm
  have N0 := Fr.nil n0
  refine Goes.cast (ef_2 m a (1 : Int32) (2 : Int32)) ?_
  show Goes p e below _ T (mkF m 0 #[.val (.ref a), .val (.int 1), .val (.int 2)] [])
  refine Goes.of (fun _ => XS.iloadN X.here hx rfl (hb hby d2_0) rfl) ?_
  show Goes p e below _ T (mkF m 1 #[.val (.ref a), .val (.int 1), .val (.int 2)] [(.int 2)])
  refine Goes.of (fun _ => XS.iloadN X.here hx rfl (hb hby d2_1) rfl) ?_
  show Goes p e below _ T (mkF m 2 #[.val (.ref a), .val (.int 1), .val (.int 2)] [(.int 1), (.int 2)])
  refine Goes.of (fun _ => XS.icmpNo X.here hx rfl (hb hby d2_2) rfl (flt (by decide)).1) ?_
  show Goes p e below _ T (mkF m 5 #[.val (.ref a), .val (.int 1), .val (.int 2)] [])
  refine Goes.of (fun _ => XS.iconst X.here hx rfl (hb hby d2_5)) ?_
  show Goes p e below _ T (mkF m 6 #[.val (.ref a), .val (.int 1), .val (.int 2)] [(.int 0)])
  exact retZ (t := .boolean) X hx hret hlk (by simp) (hb hby d2_6) eT0 (by decide) (by decide) ⟨rfl, N0, rfl⟩
set_option maxRecDepth 65536 in
set_option maxHeartbeats 40000000 in
theorem rm_bad_1_3 (l : Launch) (Z : State) (a0 : Array Value) (hw : ∀ d ∈ tables_1, d.before a0 Z = true) (a : Addr) (ka : ClassId) (c0 c1 c2 c3 : Int32) (h0 : Heap) (n0 : Nat) (O0 : Old Z n0 h0) (Va : Arv Z h0 a ka .char (4 : Int32) [(.int c0), (.int c1), (.int c2), (.int c3)] (.int 0)) :
    Rm l (⟨"com/example/latchwork/latchwork/core/LockNamesCheckPinLaw", "bad", "([CII)Z"⟩ : MethodName) method_5_code 3 (some .boolean) ({ frames := 0, cells := 0, slots := 0, locals := 0 } : Room) [] Z #[(.ref a), (.int 1), (.int 3)] h0 (fun v h L => v = some (.int 0) ∧ Fr n0 L ∧ h = h0) := by
  refine Rm.of (plainFor_of_name pn_com_example_latchwork_latchwork_core_LockNamesCheckPinLaw) ?_
  intro p e s m below meth cod T X hx hZ hby hml hown hnm hret hlk eT0
  have hown : s.vm.findClass "com/example/latchwork/latchwork/core/LockNamesCheckPinLaw" = some m.cls := hown
  have hnm : meth.name = "bad" := hnm
  have N0 := Fr.nil n0
  refine Goes.cast (ef_2 m a (1 : Int32) (3 : Int32)) ?_
  show Goes p e below _ T (mkF m 0 #[.val (.ref a), .val (.int 1), .val (.int 3)] [])
  refine Goes.of (fun _ => XS.iloadN X.here hx rfl (hb hby d2_0) rfl) ?_
  show Goes p e below _ T (mkF m 1 #[.val (.ref a), .val (.int 1), .val (.int 3)] [(.int 3)])
  refine Goes.of (fun _ => XS.iloadN X.here hx rfl (hb hby d2_1) rfl) ?_
  show Goes p e below _ T (mkF m 2 #[.val (.ref a), .val (.int 1), .val (.int 3)] [(.int 1), (.int 3)])
  refine Goes.of (fun _ => XS.icmpNo X.here hx rfl (hb hby d2_2) rfl (flt (by decide)).1) ?_
  show Goes p e below _ T (mkF m 5 #[.val (.ref a), .val (.int 1), .val (.int 3)] [])
  refine Goes.of (fun _ => XS.iconst X.here hx rfl (hb hby d2_5)) ?_
  show Goes p e below _ T (mkF m 6 #[.val (.ref a), .val (.int 1), .val (.int 3)] [(.int 0)])
  exact retZ (t := .boolean) X hx hret hlk (by simp) (hb hby d2_6) eT0 (by decide) (by decide) ⟨rfl, N0, rfl⟩
set_option maxRecDepth 65536 in
set_option maxHeartbeats 40000000 in
theorem rm_bad_2_0 (l : Launch) (Z : State) (a0 : Array Value) (hw : ∀ d ∈ tables_1, d.before a0 Z = true) (a : Addr) (ka : ClassId) (c0 c1 c2 c3 : Int32) (h0 : Heap) (n0 : Nat) (O0 : Old Z n0 h0) (Va : Arv Z h0 a ka .char (4 : Int32) [(.int c0), (.int c1), (.int c2), (.int c3)] (.int 0)) :
    Rm l (⟨"com/example/latchwork/latchwork/core/LockNamesCheckPinLaw", "bad", "([CII)Z"⟩ : MethodName) method_5_code 3 (some .boolean) ({ frames := 1, cells := 0, slots := 0, locals := 12 } : Room) [] Z #[(.ref a), (.int 2), (.int 0)] h0 (fun v h L => v = some (.int (if hiV c0 = (0 : Int32) then (if loV c0 = (0 : Int32) then (0 : Int32) else (1 : Int32)) else (if loV c1 = (0 : Int32) then (1 : Int32) else (if loV c0 = (0 : Int32) then (0 : Int32) else (1 : Int32))))) ∧ Fr n0 L ∧ h = h0) := by
  refine Rm.of (plainFor_of_name pn_com_example_latchwork_latchwork_core_LockNamesCheckPinLaw) ?_
  intro p e s m below meth cod T X hx hZ hby hml hown hnm hret hlk eT0
  have hown : s.vm.findClass "com/example/latchwork/latchwork/core/LockNamesCheckPinLaw" = some m.cls := hown
  have hnm : meth.name = "bad" := hnm
  have N0 := Fr.nil n0
  refine Goes.cast (ef_2 m a (2 : Int32) (0 : Int32)) ?_
  show Goes p e below _ T (mkF m 0 #[.val (.ref a), .val (.int 2), .val (.int 0)] [])
  refine Goes.of (fun _ => XS.iloadN X.here hx rfl (hb hby d2_0) rfl) ?_
  show Goes p e below _ T (mkF m 1 #[.val (.ref a), .val (.int 2), .val (.int 0)] [(.int 0)])
  refine Goes.of (fun _ => XS.iloadN X.here hx rfl (hb hby d2_1) rfl) ?_
  show Goes p e below _ T (mkF m 2 #[.val (.ref a), .val (.int 2), .val (.int 0)] [(.int 2), (.int 0)])
  refine Goes.of (fun _ => XS.icmpYes X.here hx rfl (pc0 := 2) (pc' := 7) rfl (hb hby d2_2) rfl (tlt (by decide)).1 (by decide) (by decide)) ?_
  show Goes p e below _ T (mkF m 7 #[.val (.ref a), .val (.int 2), .val (.int 0)] [])
  refine Goes.of (fun _ => XS.aloadN X.here hx rfl (hb hby d2_7) rfl rfl) ?_
  show Goes p e below _ T (mkF m 8 #[.val (.ref a), .val (.int 2), .val (.int 0)] [(.ref a)])
  refine Goes.of (fun _ => XS.iloadN X.here hx rfl (hb hby d2_8) rfl) ?_
  show Goes p e below _ T (mkF m 9 #[.val (.ref a), .val (.int 2), .val (.int 0)] [(.int 0), (.ref a)])
  refine goLdC (.int c0) X hx hZ eT0 Va (by decide) (by decide) rfl (g := (mkF m 9 #[.val (.ref a), .val (.int 2), .val (.int 0)] [(.int 0), (.ref a)])) rfl rfl (hb hby d2_9) ?_
  show Goes p e below _ T (mkF m 10 #[.val (.ref a), .val (.int 2), .val (.int 0)] [(.int c0)])
  refine goStatic 0 X hx hZ hown (hw _ (List.mem_of_getElem? (i := 55) rfl)) (hw _ (List.mem_of_getElem? (i := 56) rfl)) (hw _ (List.mem_of_getElem? (i := 3) rfl)) (hw _ (List.mem_of_getElem? (i := 57) rfl)) (by decide) (rm_high l Z a0 hw c0 h0 n0 O0) eT0 (g := (mkF m 10 #[.val (.ref a), .val (.int 2), .val (.int 0)] [(.int c0)])) rfl (by rw [hml]; rfl) [(.int c0)] [] (lenOf pd__C_Z rfl) rfl rfl (by show 2 * 0 + _ ≤ _; exact Nat.le_of_eq rfl) (hb hby d2_10) (by decide) (by decide) (by decide) (by decide) ?_
  intro v2 T2 L2 X2 q2
  obtain ⟨rfl, Nq2, eT2⟩ := q2
  have N2 := Fr.app N0 Nq2
  show Goes p e below _ T2 (mkF m 13 #[.val (.ref a), .val (.int 2), .val (.int 0)] [(.int (hiV c0))])
  by_cases hpc13 : (hiV c0) = (0 : Int32)
  · refine Goes.of (fun _ => XS.ifYes X2.here hx rfl (pc0 := 13) (pc' := 36) rfl (hb hby d2_13) rfl ((if0 _ _).trans (teq hpc13).1) (by decide) (by decide)) ?_
    show Goes p e below _ T2 (mkF m 36 #[.val (.ref a), .val (.int 2), .val (.int 0)] [])
    refine Goes.of (fun _ => XS.aloadN X2.here hx rfl (hb hby d2_36) rfl rfl) ?_
    show Goes p e below _ T2 (mkF m 37 #[.val (.ref a), .val (.int 2), .val (.int 0)] [(.ref a)])
    refine Goes.of (fun _ => XS.iloadN X2.here hx rfl (hb hby d2_37) rfl) ?_
    show Goes p e below _ T2 (mkF m 38 #[.val (.ref a), .val (.int 2), .val (.int 0)] [(.int 0), (.ref a)])
    refine goLdC (.int c0) X2 hx hZ eT2 Va (by decide) (by decide) rfl (g := (mkF m 38 #[.val (.ref a), .val (.int 2), .val (.int 0)] [(.int 0), (.ref a)])) rfl rfl (hb hby d2_38) ?_
    show Goes p e below _ T2 (mkF m 39 #[.val (.ref a), .val (.int 2), .val (.int 0)] [(.int c0)])
    refine goStatic 0 X2 hx hZ hown (hw _ (List.mem_of_getElem? (i := 58) rfl)) (hw _ (List.mem_of_getElem? (i := 59) rfl)) (hw _ (List.mem_of_getElem? (i := 3) rfl)) (hw _ (List.mem_of_getElem? (i := 60) rfl)) (by decide) (rm_low l Z a0 hw c0 h0 n0 O0) eT2 (g := (mkF m 39 #[.val (.ref a), .val (.int 2), .val (.int 0)] [(.int c0)])) rfl (by rw [hml]; rfl) [(.int c0)] [] (lenOf pd__C_Z rfl) rfl rfl (by show 2 * 0 + _ ≤ _; exact Nat.le_of_eq rfl) (hb hby d2_39) (by decide) (by decide) (by decide) (by decide) ?_
    intro v4 T4 L4 X4 q4
    obtain ⟨rfl, Nq4, eT4⟩ := q4
    have N4 := Fr.app N2 Nq4
    show Goes p e below _ T4 (mkF m 42 #[.val (.ref a), .val (.int 2), .val (.int 0)] [(.int (loV c0))])
    by_cases hpc42 : (loV c0) = (0 : Int32)
    · refine Goes.of (fun _ => XS.ifYes X4.here hx rfl (pc0 := 42) (pc' := 62) rfl (hb hby d2_42) rfl ((if0 _ _).trans (teq hpc42).1) (by decide) (by decide)) ?_
      show Goes p e below _ T4 (mkF m 62 #[.val (.ref a), .val (.int 2), .val (.int 0)] [])
      refine Goes.of (fun _ => XS.iconst X4.here hx rfl (hb hby d2_62)) ?_
      show Goes p e below _ T4 (mkF m 63 #[.val (.ref a), .val (.int 2), .val (.int 0)] [(.int 0)])
      exact retZ (t := .boolean) X4 hx hret hlk (by simp) (hb hby d2_63) eT4 (by decide) (by decide) ⟨by rw [if_pos hpc13, if_pos hpc42]; try first | rfl | (split <;> rfl), N4, rfl⟩
    · refine Goes.of (fun _ => XS.ifNo X4.here hx rfl (hb hby d2_42) rfl ((if0 _ _).trans (feq hpc42).1)) ?_
      show Goes p e below _ T4 (mkF m 45 #[.val (.ref a), .val (.int 2), .val (.int 0)] [])
      refine Goes.of (fun _ => XS.iloadN X4.here hx rfl (hb hby d2_45) rfl) ?_
      show Goes p e below _ T4 (mkF m 46 #[.val (.ref a), .val (.int 2), .val (.int 0)] [(.int 0)])
      refine Goes.of (fun _ => XS.ifYes X4.here hx rfl (pc0 := 46) (pc' := 60) rfl (hb hby d2_46) rfl ((if0 _ _).trans (flt (by decide)).2.2.2) (by decide) (by decide)) ?_
      show Goes p e below _ T4 (mkF m 60 #[.val (.ref a), .val (.int 2), .val (.int 0)] [])
      refine Goes.of (fun _ => XS.iconst X4.here hx rfl (hb hby d2_60)) ?_
      show Goes p e below _ T4 (mkF m 61 #[.val (.ref a), .val (.int 2), .val (.int 0)] [(.int 1)])
      exact retZ (t := .boolean) X4 hx hret hlk (by simp) (hb hby d2_61) eT4 (by decide) (by decide) ⟨by rw [if_pos hpc13, if_neg hpc42]; try first | rfl | (split <;> rfl), N4, rfl⟩
  · refine Goes.of (fun _ => XS.ifNo X2.here hx rfl (hb hby d2_13) rfl ((if0 _ _).trans (feq hpc13).1)) ?_
    show Goes p e below _ T2 (mkF m 16 #[.val (.ref a), .val (.int 2), .val (.int 0)] [])
    refine Goes.of (fun _ => XS.iloadN X2.here hx rfl (hb hby d2_16) rfl) ?_
    show Goes p e below _ T2 (mkF m 17 #[.val (.ref a), .val (.int 2), .val (.int 0)] [(.int 0)])
    refine Goes.of (fun _ => XS.iconst X2.here hx rfl (hb hby d2_17)) ?_
    show Goes p e below _ T2 (mkF m 18 #[.val (.ref a), .val (.int 2), .val (.int 0)] [(.int 1), (.int 0)])
    refine Goes.of (fun _ => XS.iadd X2.here hx rfl (hb hby d2_18) rfl) ?_
    show Goes p e below _ T2 (mkF m 19 #[.val (.ref a), .val (.int 2), .val (.int 0)] [(.int ((0 : Int32) + (1 : Int32)))])
    show Goes p e below _ T2 (mkF m 19 #[.val (.ref a), .val (.int 2), .val (.int 0)] [(.int 1)])
    refine Goes.of (fun _ => XS.iloadN X2.here hx rfl (hb hby d2_19) rfl) ?_
    show Goes p e below _ T2 (mkF m 20 #[.val (.ref a), .val (.int 2), .val (.int 0)] [(.int 2), (.int 1)])
    refine Goes.of (fun _ => XS.icmpNo X2.here hx rfl (hb hby d2_20) rfl (tlt (by decide)).2.1) ?_
    show Goes p e below _ T2 (mkF m 23 #[.val (.ref a), .val (.int 2), .val (.int 0)] [])
    refine Goes.of (fun _ => XS.aloadN X2.here hx rfl (hb hby d2_23) rfl rfl) ?_
    show Goes p e below _ T2 (mkF m 24 #[.val (.ref a), .val (.int 2), .val (.int 0)] [(.ref a)])
    refine Goes.of (fun _ => XS.iloadN X2.here hx rfl (hb hby d2_24) rfl) ?_
    show Goes p e below _ T2 (mkF m 25 #[.val (.ref a), .val (.int 2), .val (.int 0)] [(.int 0), (.ref a)])
    refine Goes.of (fun _ => XS.iconst X2.here hx rfl (hb hby d2_25)) ?_
    show Goes p e below _ T2 (mkF m 26 #[.val (.ref a), .val (.int 2), .val (.int 0)] [(.int 1), (.int 0), (.ref a)])
    refine Goes.of (fun _ => XS.iadd X2.here hx rfl (hb hby d2_26) rfl) ?_
    show Goes p e below _ T2 (mkF m 27 #[.val (.ref a), .val (.int 2), .val (.int 0)] [(.int ((0 : Int32) + (1 : Int32))), (.ref a)])
    show Goes p e below _ T2 (mkF m 27 #[.val (.ref a), .val (.int 2), .val (.int 0)] [(.int 1), (.ref a)])
    refine goLdC (.int c1) X2 hx hZ eT2 Va (by decide) (by decide) rfl (g := (mkF m 27 #[.val (.ref a), .val (.int 2), .val (.int 0)] [(.int 1), (.ref a)])) rfl rfl (hb hby d2_27) ?_
    show Goes p e below _ T2 (mkF m 28 #[.val (.ref a), .val (.int 2), .val (.int 0)] [(.int c1)])
    refine goStatic 0 X2 hx hZ hown (hw _ (List.mem_of_getElem? (i := 58) rfl)) (hw _ (List.mem_of_getElem? (i := 59) rfl)) (hw _ (List.mem_of_getElem? (i := 3) rfl)) (hw _ (List.mem_of_getElem? (i := 60) rfl)) (by decide) (rm_low l Z a0 hw c1 h0 n0 O0) eT2 (g := (mkF m 28 #[.val (.ref a), .val (.int 2), .val (.int 0)] [(.int c1)])) rfl (by rw [hml]; rfl) [(.int c1)] [] (lenOf pd__C_Z rfl) rfl rfl (by show 2 * 0 + _ ≤ _; exact Nat.le_of_eq rfl) (hb hby d2_28) (by decide) (by decide) (by decide) (by decide) ?_
    intro v6 T6 L6 X6 q6
    obtain ⟨rfl, Nq6, eT6⟩ := q6
    have N6 := Fr.app N2 Nq6
    show Goes p e below _ T6 (mkF m 31 #[.val (.ref a), .val (.int 2), .val (.int 0)] [(.int (loV c1))])
    by_cases hpc31 : (loV c1) = (0 : Int32)
    · refine Goes.of (fun _ => XS.ifNo X6.here hx rfl (hb hby d2_31) rfl ((if0 _ _).trans (teq hpc31).2)) ?_
      show Goes p e below _ T6 (mkF m 34 #[.val (.ref a), .val (.int 2), .val (.int 0)] [])
      refine Goes.of (fun _ => XS.iconst X6.here hx rfl (hb hby d2_34)) ?_
      show Goes p e below _ T6 (mkF m 35 #[.val (.ref a), .val (.int 2), .val (.int 0)] [(.int 1)])
      exact retZ (t := .boolean) X6 hx hret hlk (by simp) (hb hby d2_35) eT6 (by decide) (by decide) ⟨by rw [if_neg hpc13, if_pos hpc31]; try first | rfl | (split <;> rfl), N6, rfl⟩
    · refine Goes.of (fun _ => XS.ifYes X6.here hx rfl (pc0 := 31) (pc' := 36) rfl (hb hby d2_31) rfl ((if0 _ _).trans (feq hpc31).2) (by decide) (by decide)) ?_
      show Goes p e below _ T6 (mkF m 36 #[.val (.ref a), .val (.int 2), .val (.int 0)] [])
      refine Goes.of (fun _ => XS.aloadN X6.here hx rfl (hb hby d2_36) rfl rfl) ?_
      show Goes p e below _ T6 (mkF m 37 #[.val (.ref a), .val (.int 2), .val (.int 0)] [(.ref a)])
      refine Goes.of (fun _ => XS.iloadN X6.here hx rfl (hb hby d2_37) rfl) ?_
      show Goes p e below _ T6 (mkF m 38 #[.val (.ref a), .val (.int 2), .val (.int 0)] [(.int 0), (.ref a)])
      refine goLdC (.int c0) X6 hx hZ eT6 Va (by decide) (by decide) rfl (g := (mkF m 38 #[.val (.ref a), .val (.int 2), .val (.int 0)] [(.int 0), (.ref a)])) rfl rfl (hb hby d2_38) ?_
      show Goes p e below _ T6 (mkF m 39 #[.val (.ref a), .val (.int 2), .val (.int 0)] [(.int c0)])
      refine goStatic 0 X6 hx hZ hown (hw _ (List.mem_of_getElem? (i := 58) rfl)) (hw _ (List.mem_of_getElem? (i := 59) rfl)) (hw _ (List.mem_of_getElem? (i := 3) rfl)) (hw _ (List.mem_of_getElem? (i := 60) rfl)) (by decide) (rm_low l Z a0 hw c0 h0 n0 O0) eT6 (g := (mkF m 39 #[.val (.ref a), .val (.int 2), .val (.int 0)] [(.int c0)])) rfl (by rw [hml]; rfl) [(.int c0)] [] (lenOf pd__C_Z rfl) rfl rfl (by show 2 * 0 + _ ≤ _; exact Nat.le_of_eq rfl) (hb hby d2_39) (by decide) (by decide) (by decide) (by decide) ?_
      intro v8 T8 L8 X8 q8
      obtain ⟨rfl, Nq8, eT8⟩ := q8
      have N8 := Fr.app N6 Nq8
      show Goes p e below _ T8 (mkF m 42 #[.val (.ref a), .val (.int 2), .val (.int 0)] [(.int (loV c0))])
      by_cases hpc42 : (loV c0) = (0 : Int32)
      · refine Goes.of (fun _ => XS.ifYes X8.here hx rfl (pc0 := 42) (pc' := 62) rfl (hb hby d2_42) rfl ((if0 _ _).trans (teq hpc42).1) (by decide) (by decide)) ?_
        show Goes p e below _ T8 (mkF m 62 #[.val (.ref a), .val (.int 2), .val (.int 0)] [])
        refine Goes.of (fun _ => XS.iconst X8.here hx rfl (hb hby d2_62)) ?_
        show Goes p e below _ T8 (mkF m 63 #[.val (.ref a), .val (.int 2), .val (.int 0)] [(.int 0)])
        exact retZ (t := .boolean) X8 hx hret hlk (by simp) (hb hby d2_63) eT8 (by decide) (by decide) ⟨by rw [if_neg hpc13, if_neg hpc31, if_pos hpc42]; try first | rfl | (split <;> rfl), N8, rfl⟩
      · refine Goes.of (fun _ => XS.ifNo X8.here hx rfl (hb hby d2_42) rfl ((if0 _ _).trans (feq hpc42).1)) ?_
        show Goes p e below _ T8 (mkF m 45 #[.val (.ref a), .val (.int 2), .val (.int 0)] [])
        refine Goes.of (fun _ => XS.iloadN X8.here hx rfl (hb hby d2_45) rfl) ?_
        show Goes p e below _ T8 (mkF m 46 #[.val (.ref a), .val (.int 2), .val (.int 0)] [(.int 0)])
        refine Goes.of (fun _ => XS.ifYes X8.here hx rfl (pc0 := 46) (pc' := 60) rfl (hb hby d2_46) rfl ((if0 _ _).trans (flt (by decide)).2.2.2) (by decide) (by decide)) ?_
        show Goes p e below _ T8 (mkF m 60 #[.val (.ref a), .val (.int 2), .val (.int 0)] [])
        refine Goes.of (fun _ => XS.iconst X8.here hx rfl (hb hby d2_60)) ?_
        show Goes p e below _ T8 (mkF m 61 #[.val (.ref a), .val (.int 2), .val (.int 0)] [(.int 1)])
        exact retZ (t := .boolean) X8 hx hret hlk (by simp) (hb hby d2_61) eT8 (by decide) (by decide) ⟨by rw [if_neg hpc13, if_neg hpc31, if_neg hpc42]; try first | rfl | (split <;> rfl), N8, rfl⟩
set_option maxRecDepth 65536 in
set_option maxHeartbeats 40000000 in
theorem rm_bad_2_1 (l : Launch) (Z : State) (a0 : Array Value) (hw : ∀ d ∈ tables_1, d.before a0 Z = true) (a : Addr) (ka : ClassId) (c0 c1 c2 c3 : Int32) (h0 : Heap) (n0 : Nat) (O0 : Old Z n0 h0) (Va : Arv Z h0 a ka .char (4 : Int32) [(.int c0), (.int c1), (.int c2), (.int c3)] (.int 0)) :
    Rm l (⟨"com/example/latchwork/latchwork/core/LockNamesCheckPinLaw", "bad", "([CII)Z"⟩ : MethodName) method_5_code 3 (some .boolean) ({ frames := 1, cells := 0, slots := 0, locals := 12 } : Room) [] Z #[(.ref a), (.int 2), (.int 1)] h0 (fun v h L => v = some (.int (if hiV c1 = (0 : Int32) then (if loV c1 = (0 : Int32) then (0 : Int32) else (if hiV c0 = (0 : Int32) then (1 : Int32) else (0 : Int32))) else (1 : Int32))) ∧ Fr n0 L ∧ h = h0) := by
  refine Rm.of (plainFor_of_name pn_com_example_latchwork_latchwork_core_LockNamesCheckPinLaw) ?_
  intro p e s m below meth cod T X hx hZ hby hml hown hnm hret hlk eT0
  have hown : s.vm.findClass "com/example/latchwork/latchwork/core/LockNamesCheckPinLaw" = some m.cls := hown
  have hnm : meth.name = "bad" := hnm
  have N0 := Fr.nil n0
  refine Goes.cast (ef_2 m a (2 : Int32) (1 : Int32)) ?_
  show Goes p e below _ T (mkF m 0 #[.val (.ref a), .val (.int 2), .val (.int 1)] [])
  refine Goes.of (fun _ => XS.iloadN X.here hx rfl (hb hby d2_0) rfl) ?_
  show Goes p e below _ T (mkF m 1 #[.val (.ref a), .val (.int 2), .val (.int 1)] [(.int 1)])
  refine Goes.of (fun _ => XS.iloadN X.here hx rfl (hb hby d2_1) rfl) ?_
  show Goes p e below _ T (mkF m 2 #[.val (.ref a), .val (.int 2), .val (.int 1)] [(.int 2), (.int 1)])
  refine Goes.of (fun _ => XS.icmpYes X.here hx rfl (pc0 := 2) (pc' := 7) rfl (hb hby d2_2) rfl (tlt (by decide)).1 (by decide) (by decide)) ?_
  show Goes p e below _ T (mkF m 7 #[.val (.ref a), .val (.int 2), .val (.int 1)] [])
  refine Goes.of (fun _ => XS.aloadN X.here hx rfl (hb hby d2_7) rfl rfl) ?_
  show Goes p e below _ T (mkF m 8 #[.val (.ref a), .val (.int 2), .val (.int 1)] [(.ref a)])
  refine Goes.of (fun _ => XS.iloadN X.here hx rfl (hb hby d2_8) rfl) ?_
  show Goes p e below _ T (mkF m 9 #[.val (.ref a), .val (.int 2), .val (.int 1)] [(.int 1), (.ref a)])
  refine goLdC (.int c1) X hx hZ eT0 Va (by decide) (by decide) rfl (g := (mkF m 9 #[.val (.ref a), .val (.int 2), .val (.int 1)] [(.int 1), (.ref a)])) rfl rfl (hb hby d2_9) ?_
  show Goes p e below _ T (mkF m 10 #[.val (.ref a), .val (.int 2), .val (.int 1)] [(.int c1)])
  refine goStatic 0 X hx hZ hown (hw _ (List.mem_of_getElem? (i := 55) rfl)) (hw _ (List.mem_of_getElem? (i := 56) rfl)) (hw _ (List.mem_of_getElem? (i := 3) rfl)) (hw _ (List.mem_of_getElem? (i := 57) rfl)) (by decide) (rm_high l Z a0 hw c1 h0 n0 O0) eT0 (g := (mkF m 10 #[.val (.ref a), .val (.int 2), .val (.int 1)] [(.int c1)])) rfl (by rw [hml]; rfl) [(.int c1)] [] (lenOf pd__C_Z rfl) rfl rfl (by show 2 * 0 + _ ≤ _; exact Nat.le_of_eq rfl) (hb hby d2_10) (by decide) (by decide) (by decide) (by decide) ?_
  intro v2 T2 L2 X2 q2
  obtain ⟨rfl, Nq2, eT2⟩ := q2
  have N2 := Fr.app N0 Nq2
  show Goes p e below _ T2 (mkF m 13 #[.val (.ref a), .val (.int 2), .val (.int 1)] [(.int (hiV c1))])
  by_cases hpc13 : (hiV c1) = (0 : Int32)
  · refine Goes.of (fun _ => XS.ifYes X2.here hx rfl (pc0 := 13) (pc' := 36) rfl (hb hby d2_13) rfl ((if0 _ _).trans (teq hpc13).1) (by decide) (by decide)) ?_
    show Goes p e below _ T2 (mkF m 36 #[.val (.ref a), .val (.int 2), .val (.int 1)] [])
    refine Goes.of (fun _ => XS.aloadN X2.here hx rfl (hb hby d2_36) rfl rfl) ?_
    show Goes p e below _ T2 (mkF m 37 #[.val (.ref a), .val (.int 2), .val (.int 1)] [(.ref a)])
    refine Goes.of (fun _ => XS.iloadN X2.here hx rfl (hb hby d2_37) rfl) ?_
    show Goes p e below _ T2 (mkF m 38 #[.val (.ref a), .val (.int 2), .val (.int 1)] [(.int 1), (.ref a)])
    refine goLdC (.int c1) X2 hx hZ eT2 Va (by decide) (by decide) rfl (g := (mkF m 38 #[.val (.ref a), .val (.int 2), .val (.int 1)] [(.int 1), (.ref a)])) rfl rfl (hb hby d2_38) ?_
    show Goes p e below _ T2 (mkF m 39 #[.val (.ref a), .val (.int 2), .val (.int 1)] [(.int c1)])
    refine goStatic 0 X2 hx hZ hown (hw _ (List.mem_of_getElem? (i := 58) rfl)) (hw _ (List.mem_of_getElem? (i := 59) rfl)) (hw _ (List.mem_of_getElem? (i := 3) rfl)) (hw _ (List.mem_of_getElem? (i := 60) rfl)) (by decide) (rm_low l Z a0 hw c1 h0 n0 O0) eT2 (g := (mkF m 39 #[.val (.ref a), .val (.int 2), .val (.int 1)] [(.int c1)])) rfl (by rw [hml]; rfl) [(.int c1)] [] (lenOf pd__C_Z rfl) rfl rfl (by show 2 * 0 + _ ≤ _; exact Nat.le_of_eq rfl) (hb hby d2_39) (by decide) (by decide) (by decide) (by decide) ?_
    intro v4 T4 L4 X4 q4
    obtain ⟨rfl, Nq4, eT4⟩ := q4
    have N4 := Fr.app N2 Nq4
    show Goes p e below _ T4 (mkF m 42 #[.val (.ref a), .val (.int 2), .val (.int 1)] [(.int (loV c1))])
    by_cases hpc42 : (loV c1) = (0 : Int32)
    · refine Goes.of (fun _ => XS.ifYes X4.here hx rfl (pc0 := 42) (pc' := 62) rfl (hb hby d2_42) rfl ((if0 _ _).trans (teq hpc42).1) (by decide) (by decide)) ?_
      show Goes p e below _ T4 (mkF m 62 #[.val (.ref a), .val (.int 2), .val (.int 1)] [])
      refine Goes.of (fun _ => XS.iconst X4.here hx rfl (hb hby d2_62)) ?_
      show Goes p e below _ T4 (mkF m 63 #[.val (.ref a), .val (.int 2), .val (.int 1)] [(.int 0)])
      exact retZ (t := .boolean) X4 hx hret hlk (by simp) (hb hby d2_63) eT4 (by decide) (by decide) ⟨by rw [if_pos hpc13, if_pos hpc42]; try first | rfl | (split <;> rfl), N4, rfl⟩
    · refine Goes.of (fun _ => XS.ifNo X4.here hx rfl (hb hby d2_42) rfl ((if0 _ _).trans (feq hpc42).1)) ?_
      show Goes p e below _ T4 (mkF m 45 #[.val (.ref a), .val (.int 2), .val (.int 1)] [])
      refine Goes.of (fun _ => XS.iloadN X4.here hx rfl (hb hby d2_45) rfl) ?_
      show Goes p e below _ T4 (mkF m 46 #[.val (.ref a), .val (.int 2), .val (.int 1)] [(.int 1)])
      refine Goes.of (fun _ => XS.ifNo X4.here hx rfl (hb hby d2_46) rfl ((if0 _ _).trans (tlt (by decide)).2.2.2)) ?_
      show Goes p e below _ T4 (mkF m 49 #[.val (.ref a), .val (.int 2), .val (.int 1)] [])
      refine Goes.of (fun _ => XS.aloadN X4.here hx rfl (hb hby d2_49) rfl rfl) ?_
      show Goes p e below _ T4 (mkF m 50 #[.val (.ref a), .val (.int 2), .val (.int 1)] [(.ref a)])
      refine Goes.of (fun _ => XS.iloadN X4.here hx rfl (hb hby d2_50) rfl) ?_
      show Goes p e below _ T4 (mkF m 51 #[.val (.ref a), .val (.int 2), .val (.int 1)] [(.int 1), (.ref a)])
      refine Goes.of (fun _ => XS.iconst X4.here hx rfl (hb hby d2_51)) ?_
      show Goes p e below _ T4 (mkF m 52 #[.val (.ref a), .val (.int 2), .val (.int 1)] [(.int 1), (.int 1), (.ref a)])
      refine Goes.of (fun _ => XS.isub X4.here hx rfl (hb hby d2_52) rfl) ?_
      show Goes p e below _ T4 (mkF m 53 #[.val (.ref a), .val (.int 2), .val (.int 1)] [(.int ((1 : Int32) - (1 : Int32))), (.ref a)])
      show Goes p e below _ T4 (mkF m 53 #[.val (.ref a), .val (.int 2), .val (.int 1)] [(.int 0), (.ref a)])
      refine goLdC (.int c0) X4 hx hZ eT4 Va (by decide) (by decide) rfl (g := (mkF m 53 #[.val (.ref a), .val (.int 2), .val (.int 1)] [(.int 0), (.ref a)])) rfl rfl (hb hby d2_53) ?_
      show Goes p e below _ T4 (mkF m 54 #[.val (.ref a), .val (.int 2), .val (.int 1)] [(.int c0)])
      refine goStatic 0 X4 hx hZ hown (hw _ (List.mem_of_getElem? (i := 55) rfl)) (hw _ (List.mem_of_getElem? (i := 56) rfl)) (hw _ (List.mem_of_getElem? (i := 3) rfl)) (hw _ (List.mem_of_getElem? (i := 57) rfl)) (by decide) (rm_high l Z a0 hw c0 h0 n0 O0) eT4 (g := (mkF m 54 #[.val (.ref a), .val (.int 2), .val (.int 1)] [(.int c0)])) rfl (by rw [hml]; rfl) [(.int c0)] [] (lenOf pd__C_Z rfl) rfl rfl (by show 2 * 0 + _ ≤ _; exact Nat.le_of_eq rfl) (hb hby d2_54) (by decide) (by decide) (by decide) (by decide) ?_
      intro v6 T6 L6 X6 q6
      obtain ⟨rfl, Nq6, eT6⟩ := q6
      have N6 := Fr.app N4 Nq6
      show Goes p e below _ T6 (mkF m 57 #[.val (.ref a), .val (.int 2), .val (.int 1)] [(.int (hiV c0))])
      by_cases hpc57 : (hiV c0) = (0 : Int32)
      · refine Goes.of (fun _ => XS.ifNo X6.here hx rfl (hb hby d2_57) rfl ((if0 _ _).trans (teq hpc57).2)) ?_
        show Goes p e below _ T6 (mkF m 60 #[.val (.ref a), .val (.int 2), .val (.int 1)] [])
        refine Goes.of (fun _ => XS.iconst X6.here hx rfl (hb hby d2_60)) ?_
        show Goes p e below _ T6 (mkF m 61 #[.val (.ref a), .val (.int 2), .val (.int 1)] [(.int 1)])
        exact retZ (t := .boolean) X6 hx hret hlk (by simp) (hb hby d2_61) eT6 (by decide) (by decide) ⟨by rw [if_pos hpc13, if_neg hpc42, if_pos hpc57]; try first | rfl | (split <;> rfl), N6, rfl⟩
      · refine Goes.of (fun _ => XS.ifYes X6.here hx rfl (pc0 := 57) (pc' := 62) rfl (hb hby d2_57) rfl ((if0 _ _).trans (feq hpc57).2) (by decide) (by decide)) ?_
        show Goes p e below _ T6 (mkF m 62 #[.val (.ref a), .val (.int 2), .val (.int 1)] [])
        refine Goes.of (fun _ => XS.iconst X6.here hx rfl (hb hby d2_62)) ?_
        show Goes p e below _ T6 (mkF m 63 #[.val (.ref a), .val (.int 2), .val (.int 1)] [(.int 0)])
        exact retZ (t := .boolean) X6 hx hret hlk (by simp) (hb hby d2_63) eT6 (by decide) (by decide) ⟨by rw [if_pos hpc13, if_neg hpc42, if_neg hpc57]; try first | rfl | (split <;> rfl), N6, rfl⟩
  · refine Goes.of (fun _ => XS.ifNo X2.here hx rfl (hb hby d2_13) rfl ((if0 _ _).trans (feq hpc13).1)) ?_
    show Goes p e below _ T2 (mkF m 16 #[.val (.ref a), .val (.int 2), .val (.int 1)] [])
    refine Goes.of (fun _ => XS.iloadN X2.here hx rfl (hb hby d2_16) rfl) ?_
    show Goes p e below _ T2 (mkF m 17 #[.val (.ref a), .val (.int 2), .val (.int 1)] [(.int 1)])
    refine Goes.of (fun _ => XS.iconst X2.here hx rfl (hb hby d2_17)) ?_
    show Goes p e below _ T2 (mkF m 18 #[.val (.ref a), .val (.int 2), .val (.int 1)] [(.int 1), (.int 1)])
    refine Goes.of (fun _ => XS.iadd X2.here hx rfl (hb hby d2_18) rfl) ?_
    show Goes p e below _ T2 (mkF m 19 #[.val (.ref a), .val (.int 2), .val (.int 1)] [(.int ((1 : Int32) + (1 : Int32)))])
    show Goes p e below _ T2 (mkF m 19 #[.val (.ref a), .val (.int 2), .val (.int 1)] [(.int 2)])
    refine Goes.of (fun _ => XS.iloadN X2.here hx rfl (hb hby d2_19) rfl) ?_
    show Goes p e below _ T2 (mkF m 20 #[.val (.ref a), .val (.int 2), .val (.int 1)] [(.int 2), (.int 2)])
    refine Goes.of (fun _ => XS.icmpYes X2.here hx rfl (pc0 := 20) (pc' := 34) rfl (hb hby d2_20) rfl (flt (by decide)).2.1 (by decide) (by decide)) ?_
    show Goes p e below _ T2 (mkF m 34 #[.val (.ref a), .val (.int 2), .val (.int 1)] [])
    refine Goes.of (fun _ => XS.iconst X2.here hx rfl (hb hby d2_34)) ?_
    show Goes p e below _ T2 (mkF m 35 #[.val (.ref a), .val (.int 2), .val (.int 1)] [(.int 1)])
    exact retZ (t := .boolean) X2 hx hret hlk (by simp) (hb hby d2_35) eT2 (by decide) (by decide) ⟨by rw [if_neg hpc13]; try first | rfl | (split <;> rfl), N2, rfl⟩
set_option maxRecDepth 65536 in
set_option maxHeartbeats 40000000 in
theorem rm_bad_2_2 (l : Launch) (Z : State) (a0 : Array Value) (hw : ∀ d ∈ tables_1, d.before a0 Z = true) (a : Addr) (ka : ClassId) (c0 c1 c2 c3 : Int32) (h0 : Heap) (n0 : Nat) (O0 : Old Z n0 h0) (Va : Arv Z h0 a ka .char (4 : Int32) [(.int c0), (.int c1), (.int c2), (.int c3)] (.int 0)) :
    Rm l (⟨"com/example/latchwork/latchwork/core/LockNamesCheckPinLaw", "bad", "([CII)Z"⟩ : MethodName) method_5_code 3 (some .boolean) ({ frames := 0, cells := 0, slots := 0, locals := 0 } : Room) [] Z #[(.ref a), (.int 2), (.int 2)] h0 (fun v h L => v = some (.int 0) ∧ Fr n0 L ∧ h = h0) := by
  refine Rm.of (plainFor_of_name pn_com_example_latchwork_latchwork_core_LockNamesCheckPinLaw) ?_
  intro p e s m below meth cod T X hx hZ hby hml hown hnm hret hlk eT0
  have hown : s.vm.findClass "com/example/latchwork/latchwork/core/LockNamesCheckPinLaw" = some m.cls := hown
  have hnm : meth.name = "bad" := hnm
  have N0 := Fr.nil n0
  refine Goes.cast (ef_2 m a (2 : Int32) (2 : Int32)) ?_
  show Goes p e below _ T (mkF m 0 #[.val (.ref a), .val (.int 2), .val (.int 2)] [])
  refine Goes.of (fun _ => XS.iloadN X.here hx rfl (hb hby d2_0) rfl) ?_
  show Goes p e below _ T (mkF m 1 #[.val (.ref a), .val (.int 2), .val (.int 2)] [(.int 2)])
  refine Goes.of (fun _ => XS.iloadN X.here hx rfl (hb hby d2_1) rfl) ?_
  show Goes p e below _ T (mkF m 2 #[.val (.ref a), .val (.int 2), .val (.int 2)] [(.int 2), (.int 2)])
  refine Goes.of (fun _ => XS.icmpNo X.here hx rfl (hb hby d2_2) rfl (flt (by decide)).1) ?_
  show Goes p e below _ T (mkF m 5 #[.val (.ref a), .val (.int 2), .val (.int 2)] [])
  refine Goes.of (fun _ => XS.iconst X.here hx rfl (hb hby d2_5)) ?_
  show Goes p e below _ T (mkF m 6 #[.val (.ref a), .val (.int 2), .val (.int 2)] [(.int 0)])
  exact retZ (t := .boolean) X hx hret hlk (by simp) (hb hby d2_6) eT0 (by decide) (by decide) ⟨rfl, N0, rfl⟩
set_option maxRecDepth 65536 in
set_option maxHeartbeats 40000000 in
theorem rm_bad_2_3 (l : Launch) (Z : State) (a0 : Array Value) (hw : ∀ d ∈ tables_1, d.before a0 Z = true) (a : Addr) (ka : ClassId) (c0 c1 c2 c3 : Int32) (h0 : Heap) (n0 : Nat) (O0 : Old Z n0 h0) (Va : Arv Z h0 a ka .char (4 : Int32) [(.int c0), (.int c1), (.int c2), (.int c3)] (.int 0)) :
    Rm l (⟨"com/example/latchwork/latchwork/core/LockNamesCheckPinLaw", "bad", "([CII)Z"⟩ : MethodName) method_5_code 3 (some .boolean) ({ frames := 0, cells := 0, slots := 0, locals := 0 } : Room) [] Z #[(.ref a), (.int 2), (.int 3)] h0 (fun v h L => v = some (.int 0) ∧ Fr n0 L ∧ h = h0) := by
  refine Rm.of (plainFor_of_name pn_com_example_latchwork_latchwork_core_LockNamesCheckPinLaw) ?_
  intro p e s m below meth cod T X hx hZ hby hml hown hnm hret hlk eT0
  have hown : s.vm.findClass "com/example/latchwork/latchwork/core/LockNamesCheckPinLaw" = some m.cls := hown
  have hnm : meth.name = "bad" := hnm
  have N0 := Fr.nil n0
  refine Goes.cast (ef_2 m a (2 : Int32) (3 : Int32)) ?_
  show Goes p e below _ T (mkF m 0 #[.val (.ref a), .val (.int 2), .val (.int 3)] [])
  refine Goes.of (fun _ => XS.iloadN X.here hx rfl (hb hby d2_0) rfl) ?_
  show Goes p e below _ T (mkF m 1 #[.val (.ref a), .val (.int 2), .val (.int 3)] [(.int 3)])
  refine Goes.of (fun _ => XS.iloadN X.here hx rfl (hb hby d2_1) rfl) ?_
  show Goes p e below _ T (mkF m 2 #[.val (.ref a), .val (.int 2), .val (.int 3)] [(.int 2), (.int 3)])
  refine Goes.of (fun _ => XS.icmpNo X.here hx rfl (hb hby d2_2) rfl (flt (by decide)).1) ?_
  show Goes p e below _ T (mkF m 5 #[.val (.ref a), .val (.int 2), .val (.int 3)] [])
  refine Goes.of (fun _ => XS.iconst X.here hx rfl (hb hby d2_5)) ?_
  show Goes p e below _ T (mkF m 6 #[.val (.ref a), .val (.int 2), .val (.int 3)] [(.int 0)])
  exact retZ (t := .boolean) X hx hret hlk (by simp) (hb hby d2_6) eT0 (by decide) (by decide) ⟨rfl, N0, rfl⟩
set_option maxRecDepth 65536 in
set_option maxHeartbeats 40000000 in
theorem rm_bad_3_0 (l : Launch) (Z : State) (a0 : Array Value) (hw : ∀ d ∈ tables_1, d.before a0 Z = true) (a : Addr) (ka : ClassId) (c0 c1 c2 c3 : Int32) (h0 : Heap) (n0 : Nat) (O0 : Old Z n0 h0) (Va : Arv Z h0 a ka .char (4 : Int32) [(.int c0), (.int c1), (.int c2), (.int c3)] (.int 0)) :
    Rm l (⟨"com/example/latchwork/latchwork/core/LockNamesCheckPinLaw", "bad", "([CII)Z"⟩ : MethodName) method_5_code 3 (some .boolean) ({ frames := 1, cells := 0, slots := 0, locals := 12 } : Room) [] Z #[(.ref a), (.int 3), (.int 0)] h0 (fun v h L => v = some (.int (if hiV c0 = (0 : Int32) then (if loV c0 = (0 : Int32) then (0 : Int32) else (1 : Int32)) else (if loV c1 = (0 : Int32) then (1 : Int32) else (if loV c0 = (0 : Int32) then (0 : Int32) else (1 : Int32))))) ∧ Fr n0 L ∧ h = h0) := by
  refine Rm.of (plainFor_of_name pn_com_example_latchwork_latchwork_core_LockNamesCheckPinLaw) ?_
  intro p e s m below meth cod T X hx hZ hby hml hown hnm hret hlk eT0
  have hown : s.vm.findClass "com/example/latchwork/latchwork/core/LockNamesCheckPinLaw" = some m.cls := hown
  have hnm : meth.name = "bad" := hnm
  have N0 := Fr.nil n0
  refine Goes.cast (ef_2 m a (3 : Int32) (0 : Int32)) ?_
  show Goes p e below _ T (mkF m 0 #[.val (.ref a), .val (.int 3), .val (.int 0)] [])
  refine Goes.of (fun _ => XS.iloadN X.here hx rfl (hb hby d2_0) rfl) ?_
  show Goes p e below _ T (mkF m 1 #[.val (.ref a), .val (.int 3), .val (.int 0)] [(.int 0)])
  refine Goes.of (fun _ => XS.iloadN X.here hx rfl (hb hby d2_1) rfl) ?_
  show Goes p e below _ T (mkF m 2 #[.val (.ref a), .val (.int 3), .val (.int 0)] [(.int 3), (.int 0)])
  refine Goes.of (fun _ => XS.icmpYes X.here hx rfl (pc0 := 2) (pc' := 7) rfl (hb hby d2_2) rfl (tlt (by decide)).1 (by decide) (by decide)) ?_
  show Goes p e below _ T (mkF m 7 #[.val (.ref a), .val (.int 3), .val (.int 0)] [])
  refine Goes.of (fun _ => XS.aloadN X.here hx rfl (hb hby d2_7) rfl rfl) ?_
  show Goes p e below _ T (mkF m 8 #[.val (.ref a), .val (.int 3), .val (.int 0)] [(.ref a)])
  refine Goes.of (fun _ => XS.iloadN X.here hx rfl (hb hby d2_8) rfl) ?_
  show Goes p e below _ T (mkF m 9 #[.val (.ref a), .val (.int 3), .val (.int 0)] [(.int 0), (.ref a)])
  refine goLdC (.int c0) X hx hZ eT0 Va (by decide) (by decide) rfl (g := (mkF m 9 #[.val (.ref a), .val (.int 3), .val (.int 0)] [(.int 0), (.ref a)])) rfl rfl (hb hby d2_9) ?_
  show Goes p e below _ T (mkF m 10 #[.val (.ref a), .val (.int 3), .val (.int 0)] [(.int c0)])
  refine goStatic 0 X hx hZ hown (hw _ (List.mem_of_getElem? (i := 55) rfl)) (hw _ (List.mem_of_getElem? (i := 56) rfl)) (hw _ (List.mem_of_getElem? (i := 3) rfl)) (hw _ (List.mem_of_getElem? (i := 57) rfl)) (by decide) (rm_high l Z a0 hw c0 h0 n0 O0) eT0 (g := (mkF m 10 #[.val (.ref a), .val (.int 3), .val (.int 0)] [(.int c0)])) rfl (by rw [hml]; rfl) [(.int c0)] [] (lenOf pd__C_Z rfl) rfl rfl (by show 2 * 0 + _ ≤ _; exact Nat.le_of_eq rfl) (hb hby d2_10) (by decide) (by decide) (by decide) (by decide) ?_
  intro v2 T2 L2 X2 q2
  obtain ⟨rfl, Nq2, eT2⟩ := q2
  have N2 := Fr.app N0 Nq2
  show Goes p e below _ T2 (mkF m 13 #[.val (.ref a), .val (.int 3), .val (.int 0)] [(.int (hiV c0))])
  by_cases hpc13 : (hiV c0) = (0 : Int32)
  · refine Goes.of (fun _ => XS.ifYes X2.here hx rfl (pc0 := 13) (pc' := 36) rfl (hb hby d2_13) rfl ((if0 _ _).trans (teq hpc13).1) (by decide) (by decide)) ?_
    show Goes p e below _ T2 (mkF m 36 #[.val (.ref a), .val (.int 3), .val (.int 0)] [])
    refine Goes.of (fun _ => XS.aloadN X2.here hx rfl (hb hby d2_36) rfl rfl) ?_
    show Goes p e below _ T2 (mkF m 37 #[.val (.ref a), .val (.int 3), .val (.int 0)] [(.ref a)])
    refine Goes.of (fun _ => XS.iloadN X2.here hx rfl (hb hby d2_37) rfl) ?_
    show Goes p e below _ T2 (mkF m 38 #[.val (.ref a), .val (.int 3), .val (.int 0)] [(.int 0), (.ref a)])
    refine goLdC (.int c0) X2 hx hZ eT2 Va (by decide) (by decide) rfl (g := (mkF m 38 #[.val (.ref a), .val (.int 3), .val (.int 0)] [(.int 0), (.ref a)])) rfl rfl (hb hby d2_38) ?_
    show Goes p e below _ T2 (mkF m 39 #[.val (.ref a), .val (.int 3), .val (.int 0)] [(.int c0)])
    refine goStatic 0 X2 hx hZ hown (hw _ (List.mem_of_getElem? (i := 58) rfl)) (hw _ (List.mem_of_getElem? (i := 59) rfl)) (hw _ (List.mem_of_getElem? (i := 3) rfl)) (hw _ (List.mem_of_getElem? (i := 60) rfl)) (by decide) (rm_low l Z a0 hw c0 h0 n0 O0) eT2 (g := (mkF m 39 #[.val (.ref a), .val (.int 3), .val (.int 0)] [(.int c0)])) rfl (by rw [hml]; rfl) [(.int c0)] [] (lenOf pd__C_Z rfl) rfl rfl (by show 2 * 0 + _ ≤ _; exact Nat.le_of_eq rfl) (hb hby d2_39) (by decide) (by decide) (by decide) (by decide) ?_
    intro v4 T4 L4 X4 q4
    obtain ⟨rfl, Nq4, eT4⟩ := q4
    have N4 := Fr.app N2 Nq4
    show Goes p e below _ T4 (mkF m 42 #[.val (.ref a), .val (.int 3), .val (.int 0)] [(.int (loV c0))])
    by_cases hpc42 : (loV c0) = (0 : Int32)
    · refine Goes.of (fun _ => XS.ifYes X4.here hx rfl (pc0 := 42) (pc' := 62) rfl (hb hby d2_42) rfl ((if0 _ _).trans (teq hpc42).1) (by decide) (by decide)) ?_
      show Goes p e below _ T4 (mkF m 62 #[.val (.ref a), .val (.int 3), .val (.int 0)] [])
      refine Goes.of (fun _ => XS.iconst X4.here hx rfl (hb hby d2_62)) ?_
      show Goes p e below _ T4 (mkF m 63 #[.val (.ref a), .val (.int 3), .val (.int 0)] [(.int 0)])
      exact retZ (t := .boolean) X4 hx hret hlk (by simp) (hb hby d2_63) eT4 (by decide) (by decide) ⟨by rw [if_pos hpc13, if_pos hpc42]; try first | rfl | (split <;> rfl), N4, rfl⟩
    · refine Goes.of (fun _ => XS.ifNo X4.here hx rfl (hb hby d2_42) rfl ((if0 _ _).trans (feq hpc42).1)) ?_
      show Goes p e below _ T4 (mkF m 45 #[.val (.ref a), .val (.int 3), .val (.int 0)] [])
      refine Goes.of (fun _ => XS.iloadN X4.here hx rfl (hb hby d2_45) rfl) ?_
      show Goes p e below _ T4 (mkF m 46 #[.val (.ref a), .val (.int 3), .val (.int 0)] [(.int 0)])
      refine Goes.of (fun _ => XS.ifYes X4.here hx rfl (pc0 := 46) (pc' := 60) rfl (hb hby d2_46) rfl ((if0 _ _).trans (flt (by decide)).2.2.2) (by decide) (by decide)) ?_
      show Goes p e below _ T4 (mkF m 60 #[.val (.ref a), .val (.int 3), .val (.int 0)] [])
      refine Goes.of (fun _ => XS.iconst X4.here hx rfl (hb hby d2_60)) ?_
      show Goes p e below _ T4 (mkF m 61 #[.val (.ref a), .val (.int 3), .val (.int 0)] [(.int 1)])
      exact retZ (t := .boolean) X4 hx hret hlk (by simp) (hb hby d2_61) eT4 (by decide) (by decide) ⟨by rw [if_pos hpc13, if_neg hpc42]; try first | rfl | (split <;> rfl), N4, rfl⟩
  · refine Goes.of (fun _ => XS.ifNo X2.here hx rfl (hb hby d2_13) rfl ((if0 _ _).trans (feq hpc13).1)) ?_
    show Goes p e below _ T2 (mkF m 16 #[.val (.ref a), .val (.int 3), .val (.int 0)] [])
    refine Goes.of (fun _ => XS.iloadN X2.here hx rfl (hb hby d2_16) rfl) ?_
    show Goes p e below _ T2 (mkF m 17 #[.val (.ref a), .val (.int 3), .val (.int 0)] [(.int 0)])
    refine Goes.of (fun _ => XS.iconst X2.here hx rfl (hb hby d2_17)) ?_
    show Goes p e below _ T2 (mkF m 18 #[.val (.ref a), .val (.int 3), .val (.int 0)] [(.int 1), (.int 0)])
    refine Goes.of (fun _ => XS.iadd X2.here hx rfl (hb hby d2_18) rfl) ?_
    show Goes p e below _ T2 (mkF m 19 #[.val (.ref a), .val (.int 3), .val (.int 0)] [(.int ((0 : Int32) + (1 : Int32)))])
    show Goes p e below _ T2 (mkF m 19 #[.val (.ref a), .val (.int 3), .val (.int 0)] [(.int 1)])
    refine Goes.of (fun _ => XS.iloadN X2.here hx rfl (hb hby d2_19) rfl) ?_
    show Goes p e below _ T2 (mkF m 20 #[.val (.ref a), .val (.int 3), .val (.int 0)] [(.int 3), (.int 1)])
    refine Goes.of (fun _ => XS.icmpNo X2.here hx rfl (hb hby d2_20) rfl (tlt (by decide)).2.1) ?_
    show Goes p e below _ T2 (mkF m 23 #[.val (.ref a), .val (.int 3), .val (.int 0)] [])
    refine Goes.of (fun _ => XS.aloadN X2.here hx rfl (hb hby d2_23) rfl rfl) ?_
    show Goes p e below _ T2 (mkF m 24 #[.val (.ref a), .val (.int 3), .val (.int 0)] [(.ref a)])
    refine Goes.of (fun _ => XS.iloadN X2.here hx rfl (hb hby d2_24) rfl) ?_
    show Goes p e below _ T2 (mkF m 25 #[.val (.ref a), .val (.int 3), .val (.int 0)] [(.int 0), (.ref a)])
    refine Goes.of (fun _ => XS.iconst X2.here hx rfl (hb hby d2_25)) ?_
    show Goes p e below _ T2 (mkF m 26 #[.val (.ref a), .val (.int 3), .val (.int 0)] [(.int 1), (.int 0), (.ref a)])
    refine Goes.of (fun _ => XS.iadd X2.here hx rfl (hb hby d2_26) rfl) ?_
    show Goes p e below _ T2 (mkF m 27 #[.val (.ref a), .val (.int 3), .val (.int 0)] [(.int ((0 : Int32) + (1 : Int32))), (.ref a)])
    show Goes p e below _ T2 (mkF m 27 #[.val (.ref a), .val (.int 3), .val (.int 0)] [(.int 1), (.ref a)])
    refine goLdC (.int c1) X2 hx hZ eT2 Va (by decide) (by decide) rfl (g := (mkF m 27 #[.val (.ref a), .val (.int 3), .val (.int 0)] [(.int 1), (.ref a)])) rfl rfl (hb hby d2_27) ?_
    show Goes p e below _ T2 (mkF m 28 #[.val (.ref a), .val (.int 3), .val (.int 0)] [(.int c1)])
    refine goStatic 0 X2 hx hZ hown (hw _ (List.mem_of_getElem? (i := 58) rfl)) (hw _ (List.mem_of_getElem? (i := 59) rfl)) (hw _ (List.mem_of_getElem? (i := 3) rfl)) (hw _ (List.mem_of_getElem? (i := 60) rfl)) (by decide) (rm_low l Z a0 hw c1 h0 n0 O0) eT2 (g := (mkF m 28 #[.val (.ref a), .val (.int 3), .val (.int 0)] [(.int c1)])) rfl (by rw [hml]; rfl) [(.int c1)] [] (lenOf pd__C_Z rfl) rfl rfl (by show 2 * 0 + _ ≤ _; exact Nat.le_of_eq rfl) (hb hby d2_28) (by decide) (by decide) (by decide) (by decide) ?_
    intro v6 T6 L6 X6 q6
    obtain ⟨rfl, Nq6, eT6⟩ := q6
    have N6 := Fr.app N2 Nq6
    show Goes p e below _ T6 (mkF m 31 #[.val (.ref a), .val (.int 3), .val (.int 0)] [(.int (loV c1))])
    by_cases hpc31 : (loV c1) = (0 : Int32)
    · refine Goes.of (fun _ => XS.ifNo X6.here hx rfl (hb hby d2_31) rfl ((if0 _ _).trans (teq hpc31).2)) ?_
      show Goes p e below _ T6 (mkF m 34 #[.val (.ref a), .val (.int 3), .val (.int 0)] [])
      refine Goes.of (fun _ => XS.iconst X6.here hx rfl (hb hby d2_34)) ?_
      show Goes p e below _ T6 (mkF m 35 #[.val (.ref a), .val (.int 3), .val (.int 0)] [(.int 1)])
      exact retZ (t := .boolean) X6 hx hret hlk (by simp) (hb hby d2_35) eT6 (by decide) (by decide) ⟨by rw [if_neg hpc13, if_pos hpc31]; try first | rfl | (split <;> rfl), N6, rfl⟩
    · refine Goes.of (fun _ => XS.ifYes X6.here hx rfl (pc0 := 31) (pc' := 36) rfl (hb hby d2_31) rfl ((if0 _ _).trans (feq hpc31).2) (by decide) (by decide)) ?_
      show Goes p e below _ T6 (mkF m 36 #[.val (.ref a), .val (.int 3), .val (.int 0)] [])
      refine Goes.of (fun _ => XS.aloadN X6.here hx rfl (hb hby d2_36) rfl rfl) ?_
      show Goes p e below _ T6 (mkF m 37 #[.val (.ref a), .val (.int 3), .val (.int 0)] [(.ref a)])
      refine Goes.of (fun _ => XS.iloadN X6.here hx rfl (hb hby d2_37) rfl) ?_
      show Goes p e below _ T6 (mkF m 38 #[.val (.ref a), .val (.int 3), .val (.int 0)] [(.int 0), (.ref a)])
      refine goLdC (.int c0) X6 hx hZ eT6 Va (by decide) (by decide) rfl (g := (mkF m 38 #[.val (.ref a), .val (.int 3), .val (.int 0)] [(.int 0), (.ref a)])) rfl rfl (hb hby d2_38) ?_
      show Goes p e below _ T6 (mkF m 39 #[.val (.ref a), .val (.int 3), .val (.int 0)] [(.int c0)])
      refine goStatic 0 X6 hx hZ hown (hw _ (List.mem_of_getElem? (i := 58) rfl)) (hw _ (List.mem_of_getElem? (i := 59) rfl)) (hw _ (List.mem_of_getElem? (i := 3) rfl)) (hw _ (List.mem_of_getElem? (i := 60) rfl)) (by decide) (rm_low l Z a0 hw c0 h0 n0 O0) eT6 (g := (mkF m 39 #[.val (.ref a), .val (.int 3), .val (.int 0)] [(.int c0)])) rfl (by rw [hml]; rfl) [(.int c0)] [] (lenOf pd__C_Z rfl) rfl rfl (by show 2 * 0 + _ ≤ _; exact Nat.le_of_eq rfl) (hb hby d2_39) (by decide) (by decide) (by decide) (by decide) ?_
      intro v8 T8 L8 X8 q8
      obtain ⟨rfl, Nq8, eT8⟩ := q8
      have N8 := Fr.app N6 Nq8
      show Goes p e below _ T8 (mkF m 42 #[.val (.ref a), .val (.int 3), .val (.int 0)] [(.int (loV c0))])
      by_cases hpc42 : (loV c0) = (0 : Int32)
      · refine Goes.of (fun _ => XS.ifYes X8.here hx rfl (pc0 := 42) (pc' := 62) rfl (hb hby d2_42) rfl ((if0 _ _).trans (teq hpc42).1) (by decide) (by decide)) ?_
        show Goes p e below _ T8 (mkF m 62 #[.val (.ref a), .val (.int 3), .val (.int 0)] [])
        refine Goes.of (fun _ => XS.iconst X8.here hx rfl (hb hby d2_62)) ?_
        show Goes p e below _ T8 (mkF m 63 #[.val (.ref a), .val (.int 3), .val (.int 0)] [(.int 0)])
        exact retZ (t := .boolean) X8 hx hret hlk (by simp) (hb hby d2_63) eT8 (by decide) (by decide) ⟨by rw [if_neg hpc13, if_neg hpc31, if_pos hpc42]; try first | rfl | (split <;> rfl), N8, rfl⟩
      · refine Goes.of (fun _ => XS.ifNo X8.here hx rfl (hb hby d2_42) rfl ((if0 _ _).trans (feq hpc42).1)) ?_
        show Goes p e below _ T8 (mkF m 45 #[.val (.ref a), .val (.int 3), .val (.int 0)] [])
        refine Goes.of (fun _ => XS.iloadN X8.here hx rfl (hb hby d2_45) rfl) ?_
        show Goes p e below _ T8 (mkF m 46 #[.val (.ref a), .val (.int 3), .val (.int 0)] [(.int 0)])
        refine Goes.of (fun _ => XS.ifYes X8.here hx rfl (pc0 := 46) (pc' := 60) rfl (hb hby d2_46) rfl ((if0 _ _).trans (flt (by decide)).2.2.2) (by decide) (by decide)) ?_
        show Goes p e below _ T8 (mkF m 60 #[.val (.ref a), .val (.int 3), .val (.int 0)] [])
        refine Goes.of (fun _ => XS.iconst X8.here hx rfl (hb hby d2_60)) ?_
        show Goes p e below _ T8 (mkF m 61 #[.val (.ref a), .val (.int 3), .val (.int 0)] [(.int 1)])
        exact retZ (t := .boolean) X8 hx hret hlk (by simp) (hb hby d2_61) eT8 (by decide) (by decide) ⟨by rw [if_neg hpc13, if_neg hpc31, if_neg hpc42]; try first | rfl | (split <;> rfl), N8, rfl⟩
set_option maxRecDepth 65536 in
set_option maxHeartbeats 40000000 in
theorem rm_bad_3_1 (l : Launch) (Z : State) (a0 : Array Value) (hw : ∀ d ∈ tables_1, d.before a0 Z = true) (a : Addr) (ka : ClassId) (c0 c1 c2 c3 : Int32) (h0 : Heap) (n0 : Nat) (O0 : Old Z n0 h0) (Va : Arv Z h0 a ka .char (4 : Int32) [(.int c0), (.int c1), (.int c2), (.int c3)] (.int 0)) :
    Rm l (⟨"com/example/latchwork/latchwork/core/LockNamesCheckPinLaw", "bad", "([CII)Z"⟩ : MethodName) method_5_code 3 (some .boolean) ({ frames := 1, cells := 0, slots := 0, locals := 12 } : Room) [] Z #[(.ref a), (.int 3), (.int 1)] h0 (fun v h L => v = some (.int (if hiV c1 = (0 : Int32) then (if loV c1 = (0 : Int32) then (0 : Int32) else (if hiV c0 = (0 : Int32) then (1 : Int32) else (0 : Int32))) else (if loV c2 = (0 : Int32) then (1 : Int32) else (if loV c1 = (0 : Int32) then (0 : Int32) else (if hiV c0 = (0 : Int32) then (1 : Int32) else (0 : Int32)))))) ∧ Fr n0 L ∧ h = h0) := by
  refine Rm.of (plainFor_of_name pn_com_example_latchwork_latchwork_core_LockNamesCheckPinLaw) ?_
  intro p e s m below meth cod T X hx hZ hby hml hown hnm hret hlk eT0
  have hown : s.vm.findClass "com/example/latchwork/latchwork/core/LockNamesCheckPinLaw" = some m.cls := hown
  have hnm : meth.name = "bad" := hnm
  have N0 := Fr.nil n0
  refine Goes.cast (ef_2 m a (3 : Int32) (1 : Int32)) ?_
  show Goes p e below _ T (mkF m 0 #[.val (.ref a), .val (.int 3), .val (.int 1)] [])
  refine Goes.of (fun _ => XS.iloadN X.here hx rfl (hb hby d2_0) rfl) ?_
  show Goes p e below _ T (mkF m 1 #[.val (.ref a), .val (.int 3), .val (.int 1)] [(.int 1)])
  refine Goes.of (fun _ => XS.iloadN X.here hx rfl (hb hby d2_1) rfl) ?_
  show Goes p e below _ T (mkF m 2 #[.val (.ref a), .val (.int 3), .val (.int 1)] [(.int 3), (.int 1)])
  refine Goes.of (fun _ => XS.icmpYes X.here hx rfl (pc0 := 2) (pc' := 7) rfl (hb hby d2_2) rfl (tlt (by decide)).1 (by decide) (by decide)) ?_
  show Goes p e below _ T (mkF m 7 #[.val (.ref a), .val (.int 3), .val (.int 1)] [])
  refine Goes.of (fun _ => XS.aloadN X.here hx rfl (hb hby d2_7) rfl rfl) ?_
  show Goes p e below _ T (mkF m 8 #[.val (.ref a), .val (.int 3), .val (.int 1)] [(.ref a)])
  refine Goes.of (fun _ => XS.iloadN X.here hx rfl (hb hby d2_8) rfl) ?_
  show Goes p e below _ T (mkF m 9 #[.val (.ref a), .val (.int 3), .val (.int 1)] [(.int 1), (.ref a)])
  refine goLdC (.int c1) X hx hZ eT0 Va (by decide) (by decide) rfl (g := (mkF m 9 #[.val (.ref a), .val (.int 3), .val (.int 1)] [(.int 1), (.ref a)])) rfl rfl (hb hby d2_9) ?_
  show Goes p e below _ T (mkF m 10 #[.val (.ref a), .val (.int 3), .val (.int 1)] [(.int c1)])
  refine goStatic 0 X hx hZ hown (hw _ (List.mem_of_getElem? (i := 55) rfl)) (hw _ (List.mem_of_getElem? (i := 56) rfl)) (hw _ (List.mem_of_getElem? (i := 3) rfl)) (hw _ (List.mem_of_getElem? (i := 57) rfl)) (by decide) (rm_high l Z a0 hw c1 h0 n0 O0) eT0 (g := (mkF m 10 #[.val (.ref a), .val (.int 3), .val (.int 1)] [(.int c1)])) rfl (by rw [hml]; rfl) [(.int c1)] [] (lenOf pd__C_Z rfl) rfl rfl (by show 2 * 0 + _ ≤ _; exact Nat.le_of_eq rfl) (hb hby d2_10) (by decide) (by decide) (by decide) (by decide) ?_
  intro v2 T2 L2 X2 q2
  obtain ⟨rfl, Nq2, eT2⟩ := q2
  have N2 := Fr.app N0 Nq2
  show Goes p e below _ T2 (mkF m 13 #[.val (.ref a), .val (.int 3), .val (.int 1)] [(.int (hiV c1))])
  by_cases hpc13 : (hiV c1) = (0 : Int32)
  · refine Goes.of (fun _ => XS.ifYes X2.here hx rfl (pc0 := 13) (pc' := 36) rfl (hb hby d2_13) rfl ((if0 _ _).trans (teq hpc13).1) (by decide) (by decide)) ?_
    show Goes p e below _ T2 (mkF m 36 #[.val (.ref a), .val (.int 3), .val (.int 1)] [])
    refine Goes.of (fun _ => XS.aloadN X2.here hx rfl (hb hby d2_36) rfl rfl) ?_
    show Goes p e below _ T2 (mkF m 37 #[.val (.ref a), .val (.int 3), .val (.int 1)] [(.ref a)])
    refine Goes.of (fun _ => XS.iloadN X2.here hx rfl (hb hby d2_37) rfl) ?_
    show Goes p e below _ T2 (mkF m 38 #[.val (.ref a), .val (.int 3), .val (.int 1)] [(.int 1), (.ref a)])
    refine goLdC (.int c1) X2 hx hZ eT2 Va (by decide) (by decide) rfl (g := (mkF m 38 #[.val (.ref a), .val (.int 3), .val (.int 1)] [(.int 1), (.ref a)])) rfl rfl (hb hby d2_38) ?_
    show Goes p e below _ T2 (mkF m 39 #[.val (.ref a), .val (.int 3), .val (.int 1)] [(.int c1)])
    refine goStatic 0 X2 hx hZ hown (hw _ (List.mem_of_getElem? (i := 58) rfl)) (hw _ (List.mem_of_getElem? (i := 59) rfl)) (hw _ (List.mem_of_getElem? (i := 3) rfl)) (hw _ (List.mem_of_getElem? (i := 60) rfl)) (by decide) (rm_low l Z a0 hw c1 h0 n0 O0) eT2 (g := (mkF m 39 #[.val (.ref a), .val (.int 3), .val (.int 1)] [(.int c1)])) rfl (by rw [hml]; rfl) [(.int c1)] [] (lenOf pd__C_Z rfl) rfl rfl (by show 2 * 0 + _ ≤ _; exact Nat.le_of_eq rfl) (hb hby d2_39) (by decide) (by decide) (by decide) (by decide) ?_
    intro v4 T4 L4 X4 q4
    obtain ⟨rfl, Nq4, eT4⟩ := q4
    have N4 := Fr.app N2 Nq4
    show Goes p e below _ T4 (mkF m 42 #[.val (.ref a), .val (.int 3), .val (.int 1)] [(.int (loV c1))])
    by_cases hpc42 : (loV c1) = (0 : Int32)
    · refine Goes.of (fun _ => XS.ifYes X4.here hx rfl (pc0 := 42) (pc' := 62) rfl (hb hby d2_42) rfl ((if0 _ _).trans (teq hpc42).1) (by decide) (by decide)) ?_
      show Goes p e below _ T4 (mkF m 62 #[.val (.ref a), .val (.int 3), .val (.int 1)] [])
      refine Goes.of (fun _ => XS.iconst X4.here hx rfl (hb hby d2_62)) ?_
      show Goes p e below _ T4 (mkF m 63 #[.val (.ref a), .val (.int 3), .val (.int 1)] [(.int 0)])
      exact retZ (t := .boolean) X4 hx hret hlk (by simp) (hb hby d2_63) eT4 (by decide) (by decide) ⟨by rw [if_pos hpc13, if_pos hpc42]; try first | rfl | (split <;> rfl), N4, rfl⟩
    · refine Goes.of (fun _ => XS.ifNo X4.here hx rfl (hb hby d2_42) rfl ((if0 _ _).trans (feq hpc42).1)) ?_
      show Goes p e below _ T4 (mkF m 45 #[.val (.ref a), .val (.int 3), .val (.int 1)] [])
      refine Goes.of (fun _ => XS.iloadN X4.here hx rfl (hb hby d2_45) rfl) ?_
      show Goes p e below _ T4 (mkF m 46 #[.val (.ref a), .val (.int 3), .val (.int 1)] [(.int 1)])
      refine Goes.of (fun _ => XS.ifNo X4.here hx rfl (hb hby d2_46) rfl ((if0 _ _).trans (tlt (by decide)).2.2.2)) ?_
      show Goes p e below _ T4 (mkF m 49 #[.val (.ref a), .val (.int 3), .val (.int 1)] [])
      refine Goes.of (fun _ => XS.aloadN X4.here hx rfl (hb hby d2_49) rfl rfl) ?_
      show Goes p e below _ T4 (mkF m 50 #[.val (.ref a), .val (.int 3), .val (.int 1)] [(.ref a)])
      refine Goes.of (fun _ => XS.iloadN X4.here hx rfl (hb hby d2_50) rfl) ?_
      show Goes p e below _ T4 (mkF m 51 #[.val (.ref a), .val (.int 3), .val (.int 1)] [(.int 1), (.ref a)])
      refine Goes.of (fun _ => XS.iconst X4.here hx rfl (hb hby d2_51)) ?_
      show Goes p e below _ T4 (mkF m 52 #[.val (.ref a), .val (.int 3), .val (.int 1)] [(.int 1), (.int 1), (.ref a)])
      refine Goes.of (fun _ => XS.isub X4.here hx rfl (hb hby d2_52) rfl) ?_
      show Goes p e below _ T4 (mkF m 53 #[.val (.ref a), .val (.int 3), .val (.int 1)] [(.int ((1 : Int32) - (1 : Int32))), (.ref a)])
      show Goes p e below _ T4 (mkF m 53 #[.val (.ref a), .val (.int 3), .val (.int 1)] [(.int 0), (.ref a)])
      refine goLdC (.int c0) X4 hx hZ eT4 Va (by decide) (by decide) rfl (g := (mkF m 53 #[.val (.ref a), .val (.int 3), .val (.int 1)] [(.int 0), (.ref a)])) rfl rfl (hb hby d2_53) ?_
      show Goes p e below _ T4 (mkF m 54 #[.val (.ref a), .val (.int 3), .val (.int 1)] [(.int c0)])
      refine goStatic 0 X4 hx hZ hown (hw _ (List.mem_of_getElem? (i := 55) rfl)) (hw _ (List.mem_of_getElem? (i := 56) rfl)) (hw _ (List.mem_of_getElem? (i := 3) rfl)) (hw _ (List.mem_of_getElem? (i := 57) rfl)) (by decide) (rm_high l Z a0 hw c0 h0 n0 O0) eT4 (g := (mkF m 54 #[.val (.ref a), .val (.int 3), .val (.int 1)] [(.int c0)])) rfl (by rw [hml]; rfl) [(.int c0)] [] (lenOf pd__C_Z rfl) rfl rfl (by show 2 * 0 + _ ≤ _; exact Nat.le_of_eq rfl) (hb hby d2_54) (by decide) (by decide) (by decide) (by decide) ?_
      intro v6 T6 L6 X6 q6
      obtain ⟨rfl, Nq6, eT6⟩ := q6
      have N6 := Fr.app N4 Nq6
      show Goes p e below _ T6 (mkF m 57 #[.val (.ref a), .val (.int 3), .val (.int 1)] [(.int (hiV c0))])
      by_cases hpc57 : (hiV c0) = (0 : Int32)
      · refine Goes.of (fun _ => XS.ifNo X6.here hx rfl (hb hby d2_57) rfl ((if0 _ _).trans (teq hpc57).2)) ?_
        show Goes p e below _ T6 (mkF m 60 #[.val (.ref a), .val (.int 3), .val (.int 1)] [])
        refine Goes.of (fun _ => XS.iconst X6.here hx rfl (hb hby d2_60)) ?_
        show Goes p e below _ T6 (mkF m 61 #[.val (.ref a), .val (.int 3), .val (.int 1)] [(.int 1)])
        exact retZ (t := .boolean) X6 hx hret hlk (by simp) (hb hby d2_61) eT6 (by decide) (by decide) ⟨by rw [if_pos hpc13, if_neg hpc42, if_pos hpc57]; try first | rfl | (split <;> rfl), N6, rfl⟩
      · refine Goes.of (fun _ => XS.ifYes X6.here hx rfl (pc0 := 57) (pc' := 62) rfl (hb hby d2_57) rfl ((if0 _ _).trans (feq hpc57).2) (by decide) (by decide)) ?_
        show Goes p e below _ T6 (mkF m 62 #[.val (.ref a), .val (.int 3), .val (.int 1)] [])
        refine Goes.of (fun _ => XS.iconst X6.here hx rfl (hb hby d2_62)) ?_
        show Goes p e below _ T6 (mkF m 63 #[.val (.ref a), .val (.int 3), .val (.int 1)] [(.int 0)])
        exact retZ (t := .boolean) X6 hx hret hlk (by simp) (hb hby d2_63) eT6 (by decide) (by decide) ⟨by rw [if_pos hpc13, if_neg hpc42, if_neg hpc57]; try first | rfl | (split <;> rfl), N6, rfl⟩
  · refine Goes.of (fun _ => XS.ifNo X2.here hx rfl (hb hby d2_13) rfl ((if0 _ _).trans (feq hpc13).1)) ?_
    show Goes p e below _ T2 (mkF m 16 #[.val (.ref a), .val (.int 3), .val (.int 1)] [])
    refine Goes.of (fun _ => XS.iloadN X2.here hx rfl (hb hby d2_16) rfl) ?_
    show Goes p e below _ T2 (mkF m 17 #[.val (.ref a), .val (.int 3), .val (.int 1)] [(.int 1)])
    refine Goes.of (fun _ => XS.iconst X2.here hx rfl (hb hby d2_17)) ?_
    show Goes p e below _ T2 (mkF m 18 #[.val (.ref a), .val (.int 3), .val (.int 1)] [(.int 1), (.int 1)])
    refine Goes.of (fun _ => XS.iadd X2.here hx rfl (hb hby d2_18) rfl) ?_
    show Goes p e below _ T2 (mkF m 19 #[.val (.ref a), .val (.int 3), .val (.int 1)] [(.int ((1 : Int32) + (1 : Int32)))])
    show Goes p e below _ T2 (mkF m 19 #[.val (.ref a), .val (.int 3), .val (.int 1)] [(.int 2)])
    refine Goes.of (fun _ => XS.iloadN X2.here hx rfl (hb hby d2_19) rfl) ?_
    show Goes p e below _ T2 (mkF m 20 #[.val (.ref a), .val (.int 3), .val (.int 1)] [(.int 3), (.int 2)])
    refine Goes.of (fun _ => XS.icmpNo X2.here hx rfl (hb hby d2_20) rfl (tlt (by decide)).2.1) ?_
    show Goes p e below _ T2 (mkF m 23 #[.val (.ref a), .val (.int 3), .val (.int 1)] [])
    refine Goes.of (fun _ => XS.aloadN X2.here hx rfl (hb hby d2_23) rfl rfl) ?_
    show Goes p e below _ T2 (mkF m 24 #[.val (.ref a), .val (.int 3), .val (.int 1)] [(.ref a)])
    refine Goes.of (fun _ => XS.iloadN X2.here hx rfl (hb hby d2_24) rfl) ?_
    show Goes p e below _ T2 (mkF m 25 #[.val (.ref a), .val (.int 3), .val (.int 1)] [(.int 1), (.ref a)])
    refine Goes.of (fun _ => XS.iconst X2.here hx rfl (hb hby d2_25)) ?_
    show Goes p e below _ T2 (mkF m 26 #[.val (.ref a), .val (.int 3), .val (.int 1)] [(.int 1), (.int 1), (.ref a)])
    refine Goes.of (fun _ => XS.iadd X2.here hx rfl (hb hby d2_26) rfl) ?_
    show Goes p e below _ T2 (mkF m 27 #[.val (.ref a), .val (.int 3), .val (.int 1)] [(.int ((1 : Int32) + (1 : Int32))), (.ref a)])
    show Goes p e below _ T2 (mkF m 27 #[.val (.ref a), .val (.int 3), .val (.int 1)] [(.int 2), (.ref a)])
    refine goLdC (.int c2) X2 hx hZ eT2 Va (by decide) (by decide) rfl (g := (mkF m 27 #[.val (.ref a), .val (.int 3), .val (.int 1)] [(.int 2), (.ref a)])) rfl rfl (hb hby d2_27) ?_
    show Goes p e below _ T2 (mkF m 28 #[.val (.ref a), .val (.int 3), .val (.int 1)] [(.int c2)])
    refine goStatic 0 X2 hx hZ hown (hw _ (List.mem_of_getElem? (i := 58) rfl)) (hw _ (List.mem_of_getElem? (i := 59) rfl)) (hw _ (List.mem_of_getElem? (i := 3) rfl)) (hw _ (List.mem_of_getElem? (i := 60) rfl)) (by decide) (rm_low l Z a0 hw c2 h0 n0 O0) eT2 (g := (mkF m 28 #[.val (.ref a), .val (.int 3), .val (.int 1)] [(.int c2)])) rfl (by rw [hml]; rfl) [(.int c2)] [] (lenOf pd__C_Z rfl) rfl rfl (by show 2 * 0 + _ ≤ _; exact Nat.le_of_eq rfl) (hb hby d2_28) (by decide) (by decide) (by decide) (by decide) ?_
    intro v8 T8 L8 X8 q8
    obtain ⟨rfl, Nq8, eT8⟩ := q8
    have N8 := Fr.app N2 Nq8
    show Goes p e below _ T8 (mkF m 31 #[.val (.ref a), .val (.int 3), .val (.int 1)] [(.int (loV c2))])
    by_cases hpc31 : (loV c2) = (0 : Int32)
    · refine Goes.of (fun _ => XS.ifNo X8.here hx rfl (hb hby d2_31) rfl ((if0 _ _).trans (teq hpc31).2)) ?_
      show Goes p e below _ T8 (mkF m 34 #[.val (.ref a), .val (.int 3), .val (.int 1)] [])
      refine Goes.of (fun _ => XS.iconst X8.here hx rfl (hb hby d2_34)) ?_
      show Goes p e below _ T8 (mkF m 35 #[.val (.ref a), .val (.int 3), .val (.int 1)] [(.int 1)])
      exact retZ (t := .boolean) X8 hx hret hlk (by simp) (hb hby d2_35) eT8 (by decide) (by decide) ⟨by rw [if_neg hpc13, if_pos hpc31]; try first | rfl | (split <;> rfl), N8, rfl⟩
    · refine Goes.of (fun _ => XS.ifYes X8.here hx rfl (pc0 := 31) (pc' := 36) rfl (hb hby d2_31) rfl ((if0 _ _).trans (feq hpc31).2) (by decide) (by decide)) ?_
      show Goes p e below _ T8 (mkF m 36 #[.val (.ref a), .val (.int 3), .val (.int 1)] [])
      refine Goes.of (fun _ => XS.aloadN X8.here hx rfl (hb hby d2_36) rfl rfl) ?_
      show Goes p e below _ T8 (mkF m 37 #[.val (.ref a), .val (.int 3), .val (.int 1)] [(.ref a)])
      refine Goes.of (fun _ => XS.iloadN X8.here hx rfl (hb hby d2_37) rfl) ?_
      show Goes p e below _ T8 (mkF m 38 #[.val (.ref a), .val (.int 3), .val (.int 1)] [(.int 1), (.ref a)])
      refine goLdC (.int c1) X8 hx hZ eT8 Va (by decide) (by decide) rfl (g := (mkF m 38 #[.val (.ref a), .val (.int 3), .val (.int 1)] [(.int 1), (.ref a)])) rfl rfl (hb hby d2_38) ?_
      show Goes p e below _ T8 (mkF m 39 #[.val (.ref a), .val (.int 3), .val (.int 1)] [(.int c1)])
      refine goStatic 0 X8 hx hZ hown (hw _ (List.mem_of_getElem? (i := 58) rfl)) (hw _ (List.mem_of_getElem? (i := 59) rfl)) (hw _ (List.mem_of_getElem? (i := 3) rfl)) (hw _ (List.mem_of_getElem? (i := 60) rfl)) (by decide) (rm_low l Z a0 hw c1 h0 n0 O0) eT8 (g := (mkF m 39 #[.val (.ref a), .val (.int 3), .val (.int 1)] [(.int c1)])) rfl (by rw [hml]; rfl) [(.int c1)] [] (lenOf pd__C_Z rfl) rfl rfl (by show 2 * 0 + _ ≤ _; exact Nat.le_of_eq rfl) (hb hby d2_39) (by decide) (by decide) (by decide) (by decide) ?_
      intro v10 T10 L10 X10 q10
      obtain ⟨rfl, Nq10, eT10⟩ := q10
      have N10 := Fr.app N8 Nq10
      show Goes p e below _ T10 (mkF m 42 #[.val (.ref a), .val (.int 3), .val (.int 1)] [(.int (loV c1))])
      by_cases hpc42 : (loV c1) = (0 : Int32)
      · refine Goes.of (fun _ => XS.ifYes X10.here hx rfl (pc0 := 42) (pc' := 62) rfl (hb hby d2_42) rfl ((if0 _ _).trans (teq hpc42).1) (by decide) (by decide)) ?_
        show Goes p e below _ T10 (mkF m 62 #[.val (.ref a), .val (.int 3), .val (.int 1)] [])
        refine Goes.of (fun _ => XS.iconst X10.here hx rfl (hb hby d2_62)) ?_
        show Goes p e below _ T10 (mkF m 63 #[.val (.ref a), .val (.int 3), .val (.int 1)] [(.int 0)])
        exact retZ (t := .boolean) X10 hx hret hlk (by simp) (hb hby d2_63) eT10 (by decide) (by decide) ⟨by rw [if_neg hpc13, if_neg hpc31, if_pos hpc42]; try first | rfl | (split <;> rfl), N10, rfl⟩
      · refine Goes.of (fun _ => XS.ifNo X10.here hx rfl (hb hby d2_42) rfl ((if0 _ _).trans (feq hpc42).1)) ?_
        show Goes p e below _ T10 (mkF m 45 #[.val (.ref a), .val (.int 3), .val (.int 1)] [])
        refine Goes.of (fun _ => XS.iloadN X10.here hx rfl (hb hby d2_45) rfl) ?_
        show Goes p e below _ T10 (mkF m 46 #[.val (.ref a), .val (.int 3), .val (.int 1)] [(.int 1)])
        refine Goes.of (fun _ => XS.ifNo X10.here hx rfl (hb hby d2_46) rfl ((if0 _ _).trans (tlt (by decide)).2.2.2)) ?_
        show Goes p e below _ T10 (mkF m 49 #[.val (.ref a), .val (.int 3), .val (.int 1)] [])
        refine Goes.of (fun _ => XS.aloadN X10.here hx rfl (hb hby d2_49) rfl rfl) ?_
        show Goes p e below _ T10 (mkF m 50 #[.val (.ref a), .val (.int 3), .val (.int 1)] [(.ref a)])
        refine Goes.of (fun _ => XS.iloadN X10.here hx rfl (hb hby d2_50) rfl) ?_
        show Goes p e below _ T10 (mkF m 51 #[.val (.ref a), .val (.int 3), .val (.int 1)] [(.int 1), (.ref a)])
        refine Goes.of (fun _ => XS.iconst X10.here hx rfl (hb hby d2_51)) ?_
        show Goes p e below _ T10 (mkF m 52 #[.val (.ref a), .val (.int 3), .val (.int 1)] [(.int 1), (.int 1), (.ref a)])
        refine Goes.of (fun _ => XS.isub X10.here hx rfl (hb hby d2_52) rfl) ?_
        show Goes p e below _ T10 (mkF m 53 #[.val (.ref a), .val (.int 3), .val (.int 1)] [(.int ((1 : Int32) - (1 : Int32))), (.ref a)])
        show Goes p e below _ T10 (mkF m 53 #[.val (.ref a), .val (.int 3), .val (.int 1)] [(.int 0), (.ref a)])
        refine goLdC (.int c0) X10 hx hZ eT10 Va (by decide) (by decide) rfl (g := (mkF m 53 #[.val (.ref a), .val (.int 3), .val (.int 1)] [(.int 0), (.ref a)])) rfl rfl (hb hby d2_53) ?_
        show Goes p e below _ T10 (mkF m 54 #[.val (.ref a), .val (.int 3), .val (.int 1)] [(.int c0)])
        refine goStatic 0 X10 hx hZ hown (hw _ (List.mem_of_getElem? (i := 55) rfl)) (hw _ (List.mem_of_getElem? (i := 56) rfl)) (hw _ (List.mem_of_getElem? (i := 3) rfl)) (hw _ (List.mem_of_getElem? (i := 57) rfl)) (by decide) (rm_high l Z a0 hw c0 h0 n0 O0) eT10 (g := (mkF m 54 #[.val (.ref a), .val (.int 3), .val (.int 1)] [(.int c0)])) rfl (by rw [hml]; rfl) [(.int c0)] [] (lenOf pd__C_Z rfl) rfl rfl (by show 2 * 0 + _ ≤ _; exact Nat.le_of_eq rfl) (hb hby d2_54) (by decide) (by decide) (by decide) (by decide) ?_
        intro v12 T12 L12 X12 q12
        obtain ⟨rfl, Nq12, eT12⟩ := q12
        have N12 := Fr.app N10 Nq12
        show Goes p e below _ T12 (mkF m 57 #[.val (.ref a), .val (.int 3), .val (.int 1)] [(.int (hiV c0))])
        by_cases hpc57 : (hiV c0) = (0 : Int32)
        · refine Goes.of (fun _ => XS.ifNo X12.here hx rfl (hb hby d2_57) rfl ((if0 _ _).trans (teq hpc57).2)) ?_
          show Goes p e below _ T12 (mkF m 60 #[.val (.ref a), .val (.int 3), .val (.int 1)] [])
          refine Goes.of (fun _ => XS.iconst X12.here hx rfl (hb hby d2_60)) ?_
          show Goes p e below _ T12 (mkF m 61 #[.val (.ref a), .val (.int 3), .val (.int 1)] [(.int 1)])
          exact retZ (t := .boolean) X12 hx hret hlk (by simp) (hb hby d2_61) eT12 (by decide) (by decide) ⟨by rw [if_neg hpc13, if_neg hpc31, if_neg hpc42, if_pos hpc57]; try first | rfl | (split <;> rfl), N12, rfl⟩
        · refine Goes.of (fun _ => XS.ifYes X12.here hx rfl (pc0 := 57) (pc' := 62) rfl (hb hby d2_57) rfl ((if0 _ _).trans (feq hpc57).2) (by decide) (by decide)) ?_
          show Goes p e below _ T12 (mkF m 62 #[.val (.ref a), .val (.int 3), .val (.int 1)] [])
          refine Goes.of (fun _ => XS.iconst X12.here hx rfl (hb hby d2_62)) ?_
          show Goes p e below _ T12 (mkF m 63 #[.val (.ref a), .val (.int 3), .val (.int 1)] [(.int 0)])
          exact retZ (t := .boolean) X12 hx hret hlk (by simp) (hb hby d2_63) eT12 (by decide) (by decide) ⟨by rw [if_neg hpc13, if_neg hpc31, if_neg hpc42, if_neg hpc57]; try first | rfl | (split <;> rfl), N12, rfl⟩
set_option maxRecDepth 65536 in
set_option maxHeartbeats 40000000 in
theorem rm_bad_3_2 (l : Launch) (Z : State) (a0 : Array Value) (hw : ∀ d ∈ tables_1, d.before a0 Z = true) (a : Addr) (ka : ClassId) (c0 c1 c2 c3 : Int32) (h0 : Heap) (n0 : Nat) (O0 : Old Z n0 h0) (Va : Arv Z h0 a ka .char (4 : Int32) [(.int c0), (.int c1), (.int c2), (.int c3)] (.int 0)) :
    Rm l (⟨"com/example/latchwork/latchwork/core/LockNamesCheckPinLaw", "bad", "([CII)Z"⟩ : MethodName) method_5_code 3 (some .boolean) ({ frames := 1, cells := 0, slots := 0, locals := 12 } : Room) [] Z #[(.ref a), (.int 3), (.int 2)] h0 (fun v h L => v = some (.int (if hiV c2 = (0 : Int32) then (if loV c2 = (0 : Int32) then (0 : Int32) else (if hiV c1 = (0 : Int32) then (1 : Int32) else (0 : Int32))) else (1 : Int32))) ∧ Fr n0 L ∧ h = h0) := by
  refine Rm.of (plainFor_of_name pn_com_example_latchwork_latchwork_core_LockNamesCheckPinLaw) ?_
  intro p e s m below meth cod T X hx hZ hby hml hown hnm hret hlk eT0
  have hown : s.vm.findClass "com/example/latchwork/latchwork/core/LockNamesCheckPinLaw" = some m.cls := hown
  have hnm : meth.name = "bad" := hnm
  have N0 := Fr.nil n0
  refine Goes.cast (ef_2 m a (3 : Int32) (2 : Int32)) ?_
  show Goes p e below _ T (mkF m 0 #[.val (.ref a), .val (.int 3), .val (.int 2)] [])
  refine Goes.of (fun _ => XS.iloadN X.here hx rfl (hb hby d2_0) rfl) ?_
  show Goes p e below _ T (mkF m 1 #[.val (.ref a), .val (.int 3), .val (.int 2)] [(.int 2)])
  refine Goes.of (fun _ => XS.iloadN X.here hx rfl (hb hby d2_1) rfl) ?_
  show Goes p e below _ T (mkF m 2 #[.val (.ref a), .val (.int 3), .val (.int 2)] [(.int 3), (.int 2)])
  refine Goes.of (fun _ => XS.icmpYes X.here hx rfl (pc0 := 2) (pc' := 7) rfl (hb hby d2_2) rfl (tlt (by decide)).1 (by decide) (by decide)) ?_
  show Goes p e below _ T (mkF m 7 #[.val (.ref a), .val (.int 3), .val (.int 2)] [])
  refine Goes.of (fun _ => XS.aloadN X.here hx rfl (hb hby d2_7) rfl rfl) ?_
  show Goes p e below _ T (mkF m 8 #[.val (.ref a), .val (.int 3), .val (.int 2)] [(.ref a)])
  refine Goes.of (fun _ => XS.iloadN X.here hx rfl (hb hby d2_8) rfl) ?_
  show Goes p e below _ T (mkF m 9 #[.val (.ref a), .val (.int 3), .val (.int 2)] [(.int 2), (.ref a)])
  refine goLdC (.int c2) X hx hZ eT0 Va (by decide) (by decide) rfl (g := (mkF m 9 #[.val (.ref a), .val (.int 3), .val (.int 2)] [(.int 2), (.ref a)])) rfl rfl (hb hby d2_9) ?_
  show Goes p e below _ T (mkF m 10 #[.val (.ref a), .val (.int 3), .val (.int 2)] [(.int c2)])
  refine goStatic 0 X hx hZ hown (hw _ (List.mem_of_getElem? (i := 55) rfl)) (hw _ (List.mem_of_getElem? (i := 56) rfl)) (hw _ (List.mem_of_getElem? (i := 3) rfl)) (hw _ (List.mem_of_getElem? (i := 57) rfl)) (by decide) (rm_high l Z a0 hw c2 h0 n0 O0) eT0 (g := (mkF m 10 #[.val (.ref a), .val (.int 3), .val (.int 2)] [(.int c2)])) rfl (by rw [hml]; rfl) [(.int c2)] [] (lenOf pd__C_Z rfl) rfl rfl (by show 2 * 0 + _ ≤ _; exact Nat.le_of_eq rfl) (hb hby d2_10) (by decide) (by decide) (by decide) (by decide) ?_
  intro v2 T2 L2 X2 q2
  obtain ⟨rfl, Nq2, eT2⟩ := q2
  have N2 := Fr.app N0 Nq2
  show Goes p e below _ T2 (mkF m 13 #[.val (.ref a), .val (.int 3), .val (.int 2)] [(.int (hiV c2))])
  by_cases hpc13 : (hiV c2) = (0 : Int32)
  · refine Goes.of (fun _ => XS.ifYes X2.here hx rfl (pc0 := 13) (pc' := 36) rfl (hb hby d2_13) rfl ((if0 _ _).trans (teq hpc13).1) (by decide) (by decide)) ?_
    show Goes p e below _ T2 (mkF m 36 #[.val (.ref a), .val (.int 3), .val (.int 2)] [])
    refine Goes.of (fun _ => XS.aloadN X2.here hx rfl (hb hby d2_36) rfl rfl) ?_
    show Goes p e below _ T2 (mkF m 37 #[.val (.ref a), .val (.int 3), .val (.int 2)] [(.ref a)])
    refine Goes.of (fun _ => XS.iloadN X2.here hx rfl (hb hby d2_37) rfl) ?_
    show Goes p e below _ T2 (mkF m 38 #[.val (.ref a), .val (.int 3), .val (.int 2)] [(.int 2), (.ref a)])
    refine goLdC (.int c2) X2 hx hZ eT2 Va (by decide) (by decide) rfl (g := (mkF m 38 #[.val (.ref a), .val (.int 3), .val (.int 2)] [(.int 2), (.ref a)])) rfl rfl (hb hby d2_38) ?_
    show Goes p e below _ T2 (mkF m 39 #[.val (.ref a), .val (.int 3), .val (.int 2)] [(.int c2)])
    refine goStatic 0 X2 hx hZ hown (hw _ (List.mem_of_getElem? (i := 58) rfl)) (hw _ (List.mem_of_getElem? (i := 59) rfl)) (hw _ (List.mem_of_getElem? (i := 3) rfl)) (hw _ (List.mem_of_getElem? (i := 60) rfl)) (by decide) (rm_low l Z a0 hw c2 h0 n0 O0) eT2 (g := (mkF m 39 #[.val (.ref a), .val (.int 3), .val (.int 2)] [(.int c2)])) rfl (by rw [hml]; rfl) [(.int c2)] [] (lenOf pd__C_Z rfl) rfl rfl (by show 2 * 0 + _ ≤ _; exact Nat.le_of_eq rfl) (hb hby d2_39) (by decide) (by decide) (by decide) (by decide) ?_
    intro v4 T4 L4 X4 q4
    obtain ⟨rfl, Nq4, eT4⟩ := q4
    have N4 := Fr.app N2 Nq4
    show Goes p e below _ T4 (mkF m 42 #[.val (.ref a), .val (.int 3), .val (.int 2)] [(.int (loV c2))])
    by_cases hpc42 : (loV c2) = (0 : Int32)
    · refine Goes.of (fun _ => XS.ifYes X4.here hx rfl (pc0 := 42) (pc' := 62) rfl (hb hby d2_42) rfl ((if0 _ _).trans (teq hpc42).1) (by decide) (by decide)) ?_
      show Goes p e below _ T4 (mkF m 62 #[.val (.ref a), .val (.int 3), .val (.int 2)] [])
      refine Goes.of (fun _ => XS.iconst X4.here hx rfl (hb hby d2_62)) ?_
      show Goes p e below _ T4 (mkF m 63 #[.val (.ref a), .val (.int 3), .val (.int 2)] [(.int 0)])
      exact retZ (t := .boolean) X4 hx hret hlk (by simp) (hb hby d2_63) eT4 (by decide) (by decide) ⟨by rw [if_pos hpc13, if_pos hpc42]; try first | rfl | (split <;> rfl), N4, rfl⟩
    · refine Goes.of (fun _ => XS.ifNo X4.here hx rfl (hb hby d2_42) rfl ((if0 _ _).trans (feq hpc42).1)) ?_
      show Goes p e below _ T4 (mkF m 45 #[.val (.ref a), .val (.int 3), .val (.int 2)] [])
      refine Goes.of (fun _ => XS.iloadN X4.here hx rfl (hb hby d2_45) rfl) ?_
      show Goes p e below _ T4 (mkF m 46 #[.val (.ref a), .val (.int 3), .val (.int 2)] [(.int 2)])
      refine Goes.of (fun _ => XS.ifNo X4.here hx rfl (hb hby d2_46) rfl ((if0 _ _).trans (tlt (by decide)).2.2.2)) ?_
      show Goes p e below _ T4 (mkF m 49 #[.val (.ref a), .val (.int 3), .val (.int 2)] [])
      refine Goes.of (fun _ => XS.aloadN X4.here hx rfl (hb hby d2_49) rfl rfl) ?_
      show Goes p e below _ T4 (mkF m 50 #[.val (.ref a), .val (.int 3), .val (.int 2)] [(.ref a)])
      refine Goes.of (fun _ => XS.iloadN X4.here hx rfl (hb hby d2_50) rfl) ?_
      show Goes p e below _ T4 (mkF m 51 #[.val (.ref a), .val (.int 3), .val (.int 2)] [(.int 2), (.ref a)])
      refine Goes.of (fun _ => XS.iconst X4.here hx rfl (hb hby d2_51)) ?_
      show Goes p e below _ T4 (mkF m 52 #[.val (.ref a), .val (.int 3), .val (.int 2)] [(.int 1), (.int 2), (.ref a)])
      refine Goes.of (fun _ => XS.isub X4.here hx rfl (hb hby d2_52) rfl) ?_
      show Goes p e below _ T4 (mkF m 53 #[.val (.ref a), .val (.int 3), .val (.int 2)] [(.int ((2 : Int32) - (1 : Int32))), (.ref a)])
      show Goes p e below _ T4 (mkF m 53 #[.val (.ref a), .val (.int 3), .val (.int 2)] [(.int 1), (.ref a)])
      refine goLdC (.int c1) X4 hx hZ eT4 Va (by decide) (by decide) rfl (g := (mkF m 53 #[.val (.ref a), .val (.int 3), .val (.int 2)] [(.int 1), (.ref a)])) rfl rfl (hb hby d2_53) ?_
      show Goes p e below _ T4 (mkF m 54 #[.val (.ref a), .val (.int 3), .val (.int 2)] [(.int c1)])
      refine goStatic 0 X4 hx hZ hown (hw _ (List.mem_of_getElem? (i := 55) rfl)) (hw _ (List.mem_of_getElem? (i := 56) rfl)) (hw _ (List.mem_of_getElem? (i := 3) rfl)) (hw _ (List.mem_of_getElem? (i := 57) rfl)) (by decide) (rm_high l Z a0 hw c1 h0 n0 O0) eT4 (g := (mkF m 54 #[.val (.ref a), .val (.int 3), .val (.int 2)] [(.int c1)])) rfl (by rw [hml]; rfl) [(.int c1)] [] (lenOf pd__C_Z rfl) rfl rfl (by show 2 * 0 + _ ≤ _; exact Nat.le_of_eq rfl) (hb hby d2_54) (by decide) (by decide) (by decide) (by decide) ?_
      intro v6 T6 L6 X6 q6
      obtain ⟨rfl, Nq6, eT6⟩ := q6
      have N6 := Fr.app N4 Nq6
      show Goes p e below _ T6 (mkF m 57 #[.val (.ref a), .val (.int 3), .val (.int 2)] [(.int (hiV c1))])
      by_cases hpc57 : (hiV c1) = (0 : Int32)
      · refine Goes.of (fun _ => XS.ifNo X6.here hx rfl (hb hby d2_57) rfl ((if0 _ _).trans (teq hpc57).2)) ?_
        show Goes p e below _ T6 (mkF m 60 #[.val (.ref a), .val (.int 3), .val (.int 2)] [])
        refine Goes.of (fun _ => XS.iconst X6.here hx rfl (hb hby d2_60)) ?_
        show Goes p e below _ T6 (mkF m 61 #[.val (.ref a), .val (.int 3), .val (.int 2)] [(.int 1)])
        exact retZ (t := .boolean) X6 hx hret hlk (by simp) (hb hby d2_61) eT6 (by decide) (by decide) ⟨by rw [if_pos hpc13, if_neg hpc42, if_pos hpc57]; try first | rfl | (split <;> rfl), N6, rfl⟩
      · refine Goes.of (fun _ => XS.ifYes X6.here hx rfl (pc0 := 57) (pc' := 62) rfl (hb hby d2_57) rfl ((if0 _ _).trans (feq hpc57).2) (by decide) (by decide)) ?_
        show Goes p e below _ T6 (mkF m 62 #[.val (.ref a), .val (.int 3), .val (.int 2)] [])
        refine Goes.of (fun _ => XS.iconst X6.here hx rfl (hb hby d2_62)) ?_
        show Goes p e below _ T6 (mkF m 63 #[.val (.ref a), .val (.int 3), .val (.int 2)] [(.int 0)])
        exact retZ (t := .boolean) X6 hx hret hlk (by simp) (hb hby d2_63) eT6 (by decide) (by decide) ⟨by rw [if_pos hpc13, if_neg hpc42, if_neg hpc57]; try first | rfl | (split <;> rfl), N6, rfl⟩
  · refine Goes.of (fun _ => XS.ifNo X2.here hx rfl (hb hby d2_13) rfl ((if0 _ _).trans (feq hpc13).1)) ?_
    show Goes p e below _ T2 (mkF m 16 #[.val (.ref a), .val (.int 3), .val (.int 2)] [])
    refine Goes.of (fun _ => XS.iloadN X2.here hx rfl (hb hby d2_16) rfl) ?_
    show Goes p e below _ T2 (mkF m 17 #[.val (.ref a), .val (.int 3), .val (.int 2)] [(.int 2)])
    refine Goes.of (fun _ => XS.iconst X2.here hx rfl (hb hby d2_17)) ?_
    show Goes p e below _ T2 (mkF m 18 #[.val (.ref a), .val (.int 3), .val (.int 2)] [(.int 1), (.int 2)])
    refine Goes.of (fun _ => XS.iadd X2.here hx rfl (hb hby d2_18) rfl) ?_
    show Goes p e below _ T2 (mkF m 19 #[.val (.ref a), .val (.int 3), .val (.int 2)] [(.int ((2 : Int32) + (1 : Int32)))])
    show Goes p e below _ T2 (mkF m 19 #[.val (.ref a), .val (.int 3), .val (.int 2)] [(.int 3)])
    refine Goes.of (fun _ => XS.iloadN X2.here hx rfl (hb hby d2_19) rfl) ?_
    show Goes p e below _ T2 (mkF m 20 #[.val (.ref a), .val (.int 3), .val (.int 2)] [(.int 3), (.int 3)])
    refine Goes.of (fun _ => XS.icmpYes X2.here hx rfl (pc0 := 20) (pc' := 34) rfl (hb hby d2_20) rfl (flt (by decide)).2.1 (by decide) (by decide)) ?_
    show Goes p e below _ T2 (mkF m 34 #[.val (.ref a), .val (.int 3), .val (.int 2)] [])
    refine Goes.of (fun _ => XS.iconst X2.here hx rfl (hb hby d2_34)) ?_
    show Goes p e below _ T2 (mkF m 35 #[.val (.ref a), .val (.int 3), .val (.int 2)] [(.int 1)])
    exact retZ (t := .boolean) X2 hx hret hlk (by simp) (hb hby d2_35) eT2 (by decide) (by decide) ⟨by rw [if_neg hpc13]; try first | rfl | (split <;> rfl), N2, rfl⟩
set_option maxRecDepth 65536 in
set_option maxHeartbeats 40000000 in
theorem rm_bad_3_3 (l : Launch) (Z : State) (a0 : Array Value) (hw : ∀ d ∈ tables_1, d.before a0 Z = true) (a : Addr) (ka : ClassId) (c0 c1 c2 c3 : Int32) (h0 : Heap) (n0 : Nat) (O0 : Old Z n0 h0) (Va : Arv Z h0 a ka .char (4 : Int32) [(.int c0), (.int c1), (.int c2), (.int c3)] (.int 0)) :
    Rm l (⟨"com/example/latchwork/latchwork/core/LockNamesCheckPinLaw", "bad", "([CII)Z"⟩ : MethodName) method_5_code 3 (some .boolean) ({ frames := 0, cells := 0, slots := 0, locals := 0 } : Room) [] Z #[(.ref a), (.int 3), (.int 3)] h0 (fun v h L => v = some (.int 0) ∧ Fr n0 L ∧ h = h0) := by
  refine Rm.of (plainFor_of_name pn_com_example_latchwork_latchwork_core_LockNamesCheckPinLaw) ?_
  intro p e s m below meth cod T X hx hZ hby hml hown hnm hret hlk eT0
  have hown : s.vm.findClass "com/example/latchwork/latchwork/core/LockNamesCheckPinLaw" = some m.cls := hown
  have hnm : meth.name = "bad" := hnm
  have N0 := Fr.nil n0
  refine Goes.cast (ef_2 m a (3 : Int32) (3 : Int32)) ?_
  show Goes p e below _ T (mkF m 0 #[.val (.ref a), .val (.int 3), .val (.int 3)] [])
  refine Goes.of (fun _ => XS.iloadN X.here hx rfl (hb hby d2_0) rfl) ?_
  show Goes p e below _ T (mkF m 1 #[.val (.ref a), .val (.int 3), .val (.int 3)] [(.int 3)])
  refine Goes.of (fun _ => XS.iloadN X.here hx rfl (hb hby d2_1) rfl) ?_
  show Goes p e below _ T (mkF m 2 #[.val (.ref a), .val (.int 3), .val (.int 3)] [(.int 3), (.int 3)])
  refine Goes.of (fun _ => XS.icmpNo X.here hx rfl (hb hby d2_2) rfl (flt (by decide)).1) ?_
  show Goes p e below _ T (mkF m 5 #[.val (.ref a), .val (.int 3), .val (.int 3)] [])
  refine Goes.of (fun _ => XS.iconst X.here hx rfl (hb hby d2_5)) ?_
  show Goes p e below _ T (mkF m 6 #[.val (.ref a), .val (.int 3), .val (.int 3)] [(.int 0)])
  exact retZ (t := .boolean) X hx hret hlk (by simp) (hb hby d2_6) eT0 (by decide) (by decide) ⟨rfl, N0, rfl⟩
set_option maxRecDepth 65536 in
set_option maxHeartbeats 40000000 in
theorem rm_bad_4_0 (l : Launch) (Z : State) (a0 : Array Value) (hw : ∀ d ∈ tables_1, d.before a0 Z = true) (a : Addr) (ka : ClassId) (c0 c1 c2 c3 : Int32) (h0 : Heap) (n0 : Nat) (O0 : Old Z n0 h0) (Va : Arv Z h0 a ka .char (4 : Int32) [(.int c0), (.int c1), (.int c2), (.int c3)] (.int 0)) :
    Rm l (⟨"com/example/latchwork/latchwork/core/LockNamesCheckPinLaw", "bad", "([CII)Z"⟩ : MethodName) method_5_code 3 (some .boolean) ({ frames := 1, cells := 0, slots := 0, locals := 12 } : Room) [] Z #[(.ref a), (.int 4), (.int 0)] h0 (fun v h L => v = some (.int (if hiV c0 = (0 : Int32) then (if loV c0 = (0 : Int32) then (0 : Int32) else (1 : Int32)) else (if loV c1 = (0 : Int32) then (1 : Int32) else (if loV c0 = (0 : Int32) then (0 : Int32) else (1 : Int32))))) ∧ Fr n0 L ∧ h = h0) := by
  refine Rm.of (plainFor_of_name pn_com_example_latchwork_latchwork_core_LockNamesCheckPinLaw) ?_
  intro p e s m below meth cod T X hx hZ hby hml hown hnm hret hlk eT0
  have hown : s.vm.findClass "com/example/latchwork/latchwork/core/LockNamesCheckPinLaw" = some m.cls := hown
  have hnm : meth.name = "bad" := hnm
  have N0 := Fr.nil n0
  refine Goes.cast (ef_2 m a (4 : Int32) (0 : Int32)) ?_
  show Goes p e below _ T (mkF m 0 #[.val (.ref a), .val (.int 4), .val (.int 0)] [])
  refine Goes.of (fun _ => XS.iloadN X.here hx rfl (hb hby d2_0) rfl) ?_
  show Goes p e below _ T (mkF m 1 #[.val (.ref a), .val (.int 4), .val (.int 0)] [(.int 0)])
  refine Goes.of (fun _ => XS.iloadN X.here hx rfl (hb hby d2_1) rfl) ?_
  show Goes p e below _ T (mkF m 2 #[.val (.ref a), .val (.int 4), .val (.int 0)] [(.int 4), (.int 0)])
  refine Goes.of (fun _ => XS.icmpYes X.here hx rfl (pc0 := 2) (pc' := 7) rfl (hb hby d2_2) rfl (tlt (by decide)).1 (by decide) (by decide)) ?_
  show Goes p e below _ T (mkF m 7 #[.val (.ref a), .val (.int 4), .val (.int 0)] [])
  refine Goes.of (fun _ => XS.aloadN X.here hx rfl (hb hby d2_7) rfl rfl) ?_
  show Goes p e below _ T (mkF m 8 #[.val (.ref a), .val (.int 4), .val (.int 0)] [(.ref a)])
  refine Goes.of (fun _ => XS.iloadN X.here hx rfl (hb hby d2_8) rfl) ?_
  show Goes p e below _ T (mkF m 9 #[.val (.ref a), .val (.int 4), .val (.int 0)] [(.int 0), (.ref a)])
  refine goLdC (.int c0) X hx hZ eT0 Va (by decide) (by decide) rfl (g := (mkF m 9 #[.val (.ref a), .val (.int 4), .val (.int 0)] [(.int 0), (.ref a)])) rfl rfl (hb hby d2_9) ?_
  show Goes p e below _ T (mkF m 10 #[.val (.ref a), .val (.int 4), .val (.int 0)] [(.int c0)])
  refine goStatic 0 X hx hZ hown (hw _ (List.mem_of_getElem? (i := 55) rfl)) (hw _ (List.mem_of_getElem? (i := 56) rfl)) (hw _ (List.mem_of_getElem? (i := 3) rfl)) (hw _ (List.mem_of_getElem? (i := 57) rfl)) (by decide) (rm_high l Z a0 hw c0 h0 n0 O0) eT0 (g := (mkF m 10 #[.val (.ref a), .val (.int 4), .val (.int 0)] [(.int c0)])) rfl (by rw [hml]; rfl) [(.int c0)] [] (lenOf pd__C_Z rfl) rfl rfl (by show 2 * 0 + _ ≤ _; exact Nat.le_of_eq rfl) (hb hby d2_10) (by decide) (by decide) (by decide) (by decide) ?_
  intro v2 T2 L2 X2 q2
  obtain ⟨rfl, Nq2, eT2⟩ := q2
  have N2 := Fr.app N0 Nq2
  show Goes p e below _ T2 (mkF m 13 #[.val (.ref a), .val (.int 4), .val (.int 0)] [(.int (hiV c0))])
  by_cases hpc13 : (hiV c0) = (0 : Int32)
  · refine Goes.of (fun _ => XS.ifYes X2.here hx rfl (pc0 := 13) (pc' := 36) rfl (hb hby d2_13) rfl ((if0 _ _).trans (teq hpc13).1) (by decide) (by decide)) ?_
    show Goes p e below _ T2 (mkF m 36 #[.val (.ref a), .val (.int 4), .val (.int 0)] [])
    refine Goes.of (fun _ => XS.aloadN X2.here hx rfl (hb hby d2_36) rfl rfl) ?_
    show Goes p e below _ T2 (mkF m 37 #[.val (.ref a), .val (.int 4), .val (.int 0)] [(.ref a)])
    refine Goes.of (fun _ => XS.iloadN X2.here hx rfl (hb hby d2_37) rfl) ?_
    show Goes p e below _ T2 (mkF m 38 #[.val (.ref a), .val (.int 4), .val (.int 0)] [(.int 0), (.ref a)])
    refine goLdC (.int c0) X2 hx hZ eT2 Va (by decide) (by decide) rfl (g := (mkF m 38 #[.val (.ref a), .val (.int 4), .val (.int 0)] [(.int 0), (.ref a)])) rfl rfl (hb hby d2_38) ?_
    show Goes p e below _ T2 (mkF m 39 #[.val (.ref a), .val (.int 4), .val (.int 0)] [(.int c0)])
    refine goStatic 0 X2 hx hZ hown (hw _ (List.mem_of_getElem? (i := 58) rfl)) (hw _ (List.mem_of_getElem? (i := 59) rfl)) (hw _ (List.mem_of_getElem? (i := 3) rfl)) (hw _ (List.mem_of_getElem? (i := 60) rfl)) (by decide) (rm_low l Z a0 hw c0 h0 n0 O0) eT2 (g := (mkF m 39 #[.val (.ref a), .val (.int 4), .val (.int 0)] [(.int c0)])) rfl (by rw [hml]; rfl) [(.int c0)] [] (lenOf pd__C_Z rfl) rfl rfl (by show 2 * 0 + _ ≤ _; exact Nat.le_of_eq rfl) (hb hby d2_39) (by decide) (by decide) (by decide) (by decide) ?_
    intro v4 T4 L4 X4 q4
    obtain ⟨rfl, Nq4, eT4⟩ := q4
    have N4 := Fr.app N2 Nq4
    show Goes p e below _ T4 (mkF m 42 #[.val (.ref a), .val (.int 4), .val (.int 0)] [(.int (loV c0))])
    by_cases hpc42 : (loV c0) = (0 : Int32)
    · refine Goes.of (fun _ => XS.ifYes X4.here hx rfl (pc0 := 42) (pc' := 62) rfl (hb hby d2_42) rfl ((if0 _ _).trans (teq hpc42).1) (by decide) (by decide)) ?_
      show Goes p e below _ T4 (mkF m 62 #[.val (.ref a), .val (.int 4), .val (.int 0)] [])
      refine Goes.of (fun _ => XS.iconst X4.here hx rfl (hb hby d2_62)) ?_
      show Goes p e below _ T4 (mkF m 63 #[.val (.ref a), .val (.int 4), .val (.int 0)] [(.int 0)])
      exact retZ (t := .boolean) X4 hx hret hlk (by simp) (hb hby d2_63) eT4 (by decide) (by decide) ⟨by rw [if_pos hpc13, if_pos hpc42]; try first | rfl | (split <;> rfl), N4, rfl⟩
    · refine Goes.of (fun _ => XS.ifNo X4.here hx rfl (hb hby d2_42) rfl ((if0 _ _).trans (feq hpc42).1)) ?_
      show Goes p e below _ T4 (mkF m 45 #[.val (.ref a), .val (.int 4), .val (.int 0)] [])
      refine Goes.of (fun _ => XS.iloadN X4.here hx rfl (hb hby d2_45) rfl) ?_
      show Goes p e below _ T4 (mkF m 46 #[.val (.ref a), .val (.int 4), .val (.int 0)] [(.int 0)])
      refine Goes.of (fun _ => XS.ifYes X4.here hx rfl (pc0 := 46) (pc' := 60) rfl (hb hby d2_46) rfl ((if0 _ _).trans (flt (by decide)).2.2.2) (by decide) (by decide)) ?_
      show Goes p e below _ T4 (mkF m 60 #[.val (.ref a), .val (.int 4), .val (.int 0)] [])
      refine Goes.of (fun _ => XS.iconst X4.here hx rfl (hb hby d2_60)) ?_
      show Goes p e below _ T4 (mkF m 61 #[.val (.ref a), .val (.int 4), .val (.int 0)] [(.int 1)])
      exact retZ (t := .boolean) X4 hx hret hlk (by simp) (hb hby d2_61) eT4 (by decide) (by decide) ⟨by rw [if_pos hpc13, if_neg hpc42]; try first | rfl | (split <;> rfl), N4, rfl⟩
  · refine Goes.of (fun _ => XS.ifNo X2.here hx rfl (hb hby d2_13) rfl ((if0 _ _).trans (feq hpc13).1)) ?_
    show Goes p e below _ T2 (mkF m 16 #[.val (.ref a), .val (.int 4), .val (.int 0)] [])
    refine Goes.of (fun _ => XS.iloadN X2.here hx rfl (hb hby d2_16) rfl) ?_
    show Goes p e below _ T2 (mkF m 17 #[.val (.ref a), .val (.int 4), .val (.int 0)] [(.int 0)])
    refine Goes.of (fun _ => XS.iconst X2.here hx rfl (hb hby d2_17)) ?_
    show Goes p e below _ T2 (mkF m 18 #[.val (.ref a), .val (.int 4), .val (.int 0)] [(.int 1), (.int 0)])
    refine Goes.of (fun _ => XS.iadd X2.here hx rfl (hb hby d2_18) rfl) ?_
    show Goes p e below _ T2 (mkF m 19 #[.val (.ref a), .val (.int 4), .val (.int 0)] [(.int ((0 : Int32) + (1 : Int32)))])
    show Goes p e below _ T2 (mkF m 19 #[.val (.ref a), .val (.int 4), .val (.int 0)] [(.int 1)])
    refine Goes.of (fun _ => XS.iloadN X2.here hx rfl (hb hby d2_19) rfl) ?_
    show Goes p e below _ T2 (mkF m 20 #[.val (.ref a), .val (.int 4), .val (.int 0)] [(.int 4), (.int 1)])
    refine Goes.of (fun _ => XS.icmpNo X2.here hx rfl (hb hby d2_20) rfl (tlt (by decide)).2.1) ?_
    show Goes p e below _ T2 (mkF m 23 #[.val (.ref a), .val (.int 4), .val (.int 0)] [])
    refine Goes.of (fun _ => XS.aloadN X2.here hx rfl (hb hby d2_23) rfl rfl) ?_
    show Goes p e below _ T2 (mkF m 24 #[.val (.ref a), .val (.int 4), .val (.int 0)] [(.ref a)])
    refine Goes.of (fun _ => XS.iloadN X2.here hx rfl (hb hby d2_24) rfl) ?_
    show Goes p e below _ T2 (mkF m 25 #[.val (.ref a), .val (.int 4), .val (.int 0)] [(.int 0), (.ref a)])
    refine Goes.of (fun _ => XS.iconst X2.here hx rfl (hb hby d2_25)) ?_
    show Goes p e below _ T2 (mkF m 26 #[.val (.ref a), .val (.int 4), .val (.int 0)] [(.int 1), (.int 0), (.ref a)])
    refine Goes.of (fun _ => XS.iadd X2.here hx rfl (hb hby d2_26) rfl) ?_
    show Goes p e below _ T2 (mkF m 27 #[.val (.ref a), .val (.int 4), .val (.int 0)] [(.int ((0 : Int32) + (1 : Int32))), (.ref a)])
    show Goes p e below _ T2 (mkF m 27 #[.val (.ref a), .val (.int 4), .val (.int 0)] [(.int 1), (.ref a)])
    refine goLdC (.int c1) X2 hx hZ eT2 Va (by decide) (by decide) rfl (g := (mkF m 27 #[.val (.ref a), .val (.int 4), .val (.int 0)] [(.int 1), (.ref a)])) rfl rfl (hb hby d2_27) ?_
    show Goes p e below _ T2 (mkF m 28 #[.val (.ref a), .val (.int 4), .val (.int 0)] [(.int c1)])
    refine goStatic 0 X2 hx hZ hown (hw _ (List.mem_of_getElem? (i := 58) rfl)) (hw _ (List.mem_of_getElem? (i := 59) rfl)) (hw _ (List.mem_of_getElem? (i := 3) rfl)) (hw _ (List.mem_of_getElem? (i := 60) rfl)) (by decide) (rm_low l Z a0 hw c1 h0 n0 O0) eT2 (g := (mkF m 28 #[.val (.ref a), .val (.int 4), .val (.int 0)] [(.int c1)])) rfl (by rw [hml]; rfl) [(.int c1)] [] (lenOf pd__C_Z rfl) rfl rfl (by show 2 * 0 + _ ≤ _; exact Nat.le_of_eq rfl) (hb hby d2_28) (by decide) (by decide) (by decide) (by decide) ?_
    intro v6 T6 L6 X6 q6
    obtain ⟨rfl, Nq6, eT6⟩ := q6
    have N6 := Fr.app N2 Nq6
    show Goes p e below _ T6 (mkF m 31 #[.val (.ref a), .val (.int 4), .val (.int 0)] [(.int (loV c1))])
    by_cases hpc31 : (loV c1) = (0 : Int32)
    · refine Goes.of (fun _ => XS.ifNo X6.here hx rfl (hb hby d2_31) rfl ((if0 _ _).trans (teq hpc31).2)) ?_
      show Goes p e below _ T6 (mkF m 34 #[.val (.ref a), .val (.int 4), .val (.int 0)] [])
      refine Goes.of (fun _ => XS.iconst X6.here hx rfl (hb hby d2_34)) ?_
      show Goes p e below _ T6 (mkF m 35 #[.val (.ref a), .val (.int 4), .val (.int 0)] [(.int 1)])
      exact retZ (t := .boolean) X6 hx hret hlk (by simp) (hb hby d2_35) eT6 (by decide) (by decide) ⟨by rw [if_neg hpc13, if_pos hpc31]; try first | rfl | (split <;> rfl), N6, rfl⟩
    · refine Goes.of (fun _ => XS.ifYes X6.here hx rfl (pc0 := 31) (pc' := 36) rfl (hb hby d2_31) rfl ((if0 _ _).trans (feq hpc31).2) (by decide) (by decide)) ?_
      show Goes p e below _ T6 (mkF m 36 #[.val (.ref a), .val (.int 4), .val (.int 0)] [])
      refine Goes.of (fun _ => XS.aloadN X6.here hx rfl (hb hby d2_36) rfl rfl) ?_
      show Goes p e below _ T6 (mkF m 37 #[.val (.ref a), .val (.int 4), .val (.int 0)] [(.ref a)])
      refine Goes.of (fun _ => XS.iloadN X6.here hx rfl (hb hby d2_37) rfl) ?_
      show Goes p e below _ T6 (mkF m 38 #[.val (.ref a), .val (.int 4), .val (.int 0)] [(.int 0), (.ref a)])
      refine goLdC (.int c0) X6 hx hZ eT6 Va (by decide) (by decide) rfl (g := (mkF m 38 #[.val (.ref a), .val (.int 4), .val (.int 0)] [(.int 0), (.ref a)])) rfl rfl (hb hby d2_38) ?_
      show Goes p e below _ T6 (mkF m 39 #[.val (.ref a), .val (.int 4), .val (.int 0)] [(.int c0)])
      refine goStatic 0 X6 hx hZ hown (hw _ (List.mem_of_getElem? (i := 58) rfl)) (hw _ (List.mem_of_getElem? (i := 59) rfl)) (hw _ (List.mem_of_getElem? (i := 3) rfl)) (hw _ (List.mem_of_getElem? (i := 60) rfl)) (by decide) (rm_low l Z a0 hw c0 h0 n0 O0) eT6 (g := (mkF m 39 #[.val (.ref a), .val (.int 4), .val (.int 0)] [(.int c0)])) rfl (by rw [hml]; rfl) [(.int c0)] [] (lenOf pd__C_Z rfl) rfl rfl (by show 2 * 0 + _ ≤ _; exact Nat.le_of_eq rfl) (hb hby d2_39) (by decide) (by decide) (by decide) (by decide) ?_
      intro v8 T8 L8 X8 q8
      obtain ⟨rfl, Nq8, eT8⟩ := q8
      have N8 := Fr.app N6 Nq8
      show Goes p e below _ T8 (mkF m 42 #[.val (.ref a), .val (.int 4), .val (.int 0)] [(.int (loV c0))])
      by_cases hpc42 : (loV c0) = (0 : Int32)
      · refine Goes.of (fun _ => XS.ifYes X8.here hx rfl (pc0 := 42) (pc' := 62) rfl (hb hby d2_42) rfl ((if0 _ _).trans (teq hpc42).1) (by decide) (by decide)) ?_
        show Goes p e below _ T8 (mkF m 62 #[.val (.ref a), .val (.int 4), .val (.int 0)] [])
        refine Goes.of (fun _ => XS.iconst X8.here hx rfl (hb hby d2_62)) ?_
        show Goes p e below _ T8 (mkF m 63 #[.val (.ref a), .val (.int 4), .val (.int 0)] [(.int 0)])
        exact retZ (t := .boolean) X8 hx hret hlk (by simp) (hb hby d2_63) eT8 (by decide) (by decide) ⟨by rw [if_neg hpc13, if_neg hpc31, if_pos hpc42]; try first | rfl | (split <;> rfl), N8, rfl⟩
      · refine Goes.of (fun _ => XS.ifNo X8.here hx rfl (hb hby d2_42) rfl ((if0 _ _).trans (feq hpc42).1)) ?_
        show Goes p e below _ T8 (mkF m 45 #[.val (.ref a), .val (.int 4), .val (.int 0)] [])
        refine Goes.of (fun _ => XS.iloadN X8.here hx rfl (hb hby d2_45) rfl) ?_
        show Goes p e below _ T8 (mkF m 46 #[.val (.ref a), .val (.int 4), .val (.int 0)] [(.int 0)])
        refine Goes.of (fun _ => XS.ifYes X8.here hx rfl (pc0 := 46) (pc' := 60) rfl (hb hby d2_46) rfl ((if0 _ _).trans (flt (by decide)).2.2.2) (by decide) (by decide)) ?_
        show Goes p e below _ T8 (mkF m 60 #[.val (.ref a), .val (.int 4), .val (.int 0)] [])
        refine Goes.of (fun _ => XS.iconst X8.here hx rfl (hb hby d2_60)) ?_
        show Goes p e below _ T8 (mkF m 61 #[.val (.ref a), .val (.int 4), .val (.int 0)] [(.int 1)])
        exact retZ (t := .boolean) X8 hx hret hlk (by simp) (hb hby d2_61) eT8 (by decide) (by decide) ⟨by rw [if_neg hpc13, if_neg hpc31, if_neg hpc42]; try first | rfl | (split <;> rfl), N8, rfl⟩
set_option maxRecDepth 65536 in
set_option maxHeartbeats 40000000 in
theorem rm_bad_4_1 (l : Launch) (Z : State) (a0 : Array Value) (hw : ∀ d ∈ tables_1, d.before a0 Z = true) (a : Addr) (ka : ClassId) (c0 c1 c2 c3 : Int32) (h0 : Heap) (n0 : Nat) (O0 : Old Z n0 h0) (Va : Arv Z h0 a ka .char (4 : Int32) [(.int c0), (.int c1), (.int c2), (.int c3)] (.int 0)) :
    Rm l (⟨"com/example/latchwork/latchwork/core/LockNamesCheckPinLaw", "bad", "([CII)Z"⟩ : MethodName) method_5_code 3 (some .boolean) ({ frames := 1, cells := 0, slots := 0, locals := 12 } : Room) [] Z #[(.ref a), (.int 4), (.int 1)] h0 (fun v h L => v = some (.int (if hiV c1 = (0 : Int32) then (if loV c1 = (0 : Int32) then (0 : Int32) else (if hiV c0 = (0 : Int32) then (1 : Int32) else (0 : Int32))) else (if loV c2 = (0 : Int32) then (1 : Int32) else (if loV c1 = (0 : Int32) then (0 : Int32) else (if hiV c0 = (0 : Int32) then (1 : Int32) else (0 : Int32)))))) ∧ Fr n0 L ∧ h = h0) := by
  refine Rm.of (plainFor_of_name pn_com_example_latchwork_latchwork_core_LockNamesCheckPinLaw) ?_
  intro p e s m below meth cod T X hx hZ hby hml hown hnm hret hlk eT0
  have hown : s.vm.findClass "com/example/latchwork/latchwork/core/LockNamesCheckPinLaw" = some m.cls := hown
  have hnm : meth.name = "bad" := hnm
  have N0 := Fr.nil n0
  refine Goes.cast (ef_2 m a (4 : Int32) (1 : Int32)) ?_
  show Goes p e below _ T (mkF m 0 #[.val (.ref a), .val (.int 4), .val (.int 1)] [])
  refine Goes.of (fun _ => XS.iloadN X.here hx rfl (hb hby d2_0) rfl) ?_
  show Goes p e below _ T (mkF m 1 #[.val (.ref a), .val (.int 4), .val (.int 1)] [(.int 1)])
  refine Goes.of (fun _ => XS.iloadN X.here hx rfl (hb hby d2_1) rfl) ?_
  show Goes p e below _ T (mkF m 2 #[.val (.ref a), .val (.int 4), .val (.int 1)] [(.int 4), (.int 1)])
  refine Goes.of (fun _ => XS.icmpYes X.here hx rfl (pc0 := 2) (pc' := 7) rfl (hb hby d2_2) rfl (tlt (by decide)).1 (by decide) (by decide)) ?_
  show Goes p e below _ T (mkF m 7 #[.val (.ref a), .val (.int 4), .val (.int 1)] [])
  refine Goes.of (fun _ => XS.aloadN X.here hx rfl (hb hby d2_7) rfl rfl) ?_
  show Goes p e below _ T (mkF m 8 #[.val (.ref a), .val (.int 4), .val (.int 1)] [(.ref a)])
  refine Goes.of (fun _ => XS.iloadN X.here hx rfl (hb hby d2_8) rfl) ?_
  show Goes p e below _ T (mkF m 9 #[.val (.ref a), .val (.int 4), .val (.int 1)] [(.int 1), (.ref a)])
  refine goLdC (.int c1) X hx hZ eT0 Va (by decide) (by decide) rfl (g := (mkF m 9 #[.val (.ref a), .val (.int 4), .val (.int 1)] [(.int 1), (.ref a)])) rfl rfl (hb hby d2_9) ?_
  show Goes p e below _ T (mkF m 10 #[.val (.ref a), .val (.int 4), .val (.int 1)] [(.int c1)])
  refine goStatic 0 X hx hZ hown (hw _ (List.mem_of_getElem? (i := 55) rfl)) (hw _ (List.mem_of_getElem? (i := 56) rfl)) (hw _ (List.mem_of_getElem? (i := 3) rfl)) (hw _ (List.mem_of_getElem? (i := 57) rfl)) (by decide) (rm_high l Z a0 hw c1 h0 n0 O0) eT0 (g := (mkF m 10 #[.val (.ref a), .val (.int 4), .val (.int 1)] [(.int c1)])) rfl (by rw [hml]; rfl) [(.int c1)] [] (lenOf pd__C_Z rfl) rfl rfl (by show 2 * 0 + _ ≤ _; exact Nat.le_of_eq rfl) (hb hby d2_10) (by decide) (by decide) (by decide) (by decide) ?_
  intro v2 T2 L2 X2 q2
  obtain ⟨rfl, Nq2, eT2⟩ := q2
  have N2 := Fr.app N0 Nq2
  show Goes p e below _ T2 (mkF m 13 #[.val (.ref a), .val (.int 4), .val (.int 1)] [(.int (hiV c1))])
  by_cases hpc13 : (hiV c1) = (0 : Int32)
  · refine Goes.of (fun _ => XS.ifYes X2.here hx rfl (pc0 := 13) (pc' := 36) rfl (hb hby d2_13) rfl ((if0 _ _).trans (teq hpc13).1) (by decide) (by decide)) ?_
    show Goes p e below _ T2 (mkF m 36 #[.val (.ref a), .val (.int 4), .val (.int 1)] [])
    refine Goes.of (fun _ => XS.aloadN X2.here hx rfl (hb hby d2_36) rfl rfl) ?_
    show Goes p e below _ T2 (mkF m 37 #[.val (.ref a), .val (.int 4), .val (.int 1)] [(.ref a)])
    refine Goes.of (fun _ => XS.iloadN X2.here hx rfl (hb hby d2_37) rfl) ?_
    show Goes p e below _ T2 (mkF m 38 #[.val (.ref a), .val (.int 4), .val (.int 1)] [(.int 1), (.ref a)])
    refine goLdC (.int c1) X2 hx hZ eT2 Va (by decide) (by decide) rfl (g := (mkF m 38 #[.val (.ref a), .val (.int 4), .val (.int 1)] [(.int 1), (.ref a)])) rfl rfl (hb hby d2_38) ?_
    show Goes p e below _ T2 (mkF m 39 #[.val (.ref a), .val (.int 4), .val (.int 1)] [(.int c1)])
    refine goStatic 0 X2 hx hZ hown (hw _ (List.mem_of_getElem? (i := 58) rfl)) (hw _ (List.mem_of_getElem? (i := 59) rfl)) (hw _ (List.mem_of_getElem? (i := 3) rfl)) (hw _ (List.mem_of_getElem? (i := 60) rfl)) (by decide) (rm_low l Z a0 hw c1 h0 n0 O0) eT2 (g := (mkF m 39 #[.val (.ref a), .val (.int 4), .val (.int 1)] [(.int c1)])) rfl (by rw [hml]; rfl) [(.int c1)] [] (lenOf pd__C_Z rfl) rfl rfl (by show 2 * 0 + _ ≤ _; exact Nat.le_of_eq rfl) (hb hby d2_39) (by decide) (by decide) (by decide) (by decide) ?_
    intro v4 T4 L4 X4 q4
    obtain ⟨rfl, Nq4, eT4⟩ := q4
    have N4 := Fr.app N2 Nq4
    show Goes p e below _ T4 (mkF m 42 #[.val (.ref a), .val (.int 4), .val (.int 1)] [(.int (loV c1))])
    by_cases hpc42 : (loV c1) = (0 : Int32)
    · refine Goes.of (fun _ => XS.ifYes X4.here hx rfl (pc0 := 42) (pc' := 62) rfl (hb hby d2_42) rfl ((if0 _ _).trans (teq hpc42).1) (by decide) (by decide)) ?_
      show Goes p e below _ T4 (mkF m 62 #[.val (.ref a), .val (.int 4), .val (.int 1)] [])
      refine Goes.of (fun _ => XS.iconst X4.here hx rfl (hb hby d2_62)) ?_
      show Goes p e below _ T4 (mkF m 63 #[.val (.ref a), .val (.int 4), .val (.int 1)] [(.int 0)])
      exact retZ (t := .boolean) X4 hx hret hlk (by simp) (hb hby d2_63) eT4 (by decide) (by decide) ⟨by rw [if_pos hpc13, if_pos hpc42]; try first | rfl | (split <;> rfl), N4, rfl⟩
    · refine Goes.of (fun _ => XS.ifNo X4.here hx rfl (hb hby d2_42) rfl ((if0 _ _).trans (feq hpc42).1)) ?_
      show Goes p e below _ T4 (mkF m 45 #[.val (.ref a), .val (.int 4), .val (.int 1)] [])
      refine Goes.of (fun _ => XS.iloadN X4.here hx rfl (hb hby d2_45) rfl) ?_
      show Goes p e below _ T4 (mkF m 46 #[.val (.ref a), .val (.int 4), .val (.int 1)] [(.int 1)])
      refine Goes.of (fun _ => XS.ifNo X4.here hx rfl (hb hby d2_46) rfl ((if0 _ _).trans (tlt (by decide)).2.2.2)) ?_
      show Goes p e below _ T4 (mkF m 49 #[.val (.ref a), .val (.int 4), .val (.int 1)] [])
      refine Goes.of (fun _ => XS.aloadN X4.here hx rfl (hb hby d2_49) rfl rfl) ?_
      show Goes p e below _ T4 (mkF m 50 #[.val (.ref a), .val (.int 4), .val (.int 1)] [(.ref a)])
      refine Goes.of (fun _ => XS.iloadN X4.here hx rfl (hb hby d2_50) rfl) ?_
      show Goes p e below _ T4 (mkF m 51 #[.val (.ref a), .val (.int 4), .val (.int 1)] [(.int 1), (.ref a)])
      refine Goes.of (fun _ => XS.iconst X4.here hx rfl (hb hby d2_51)) ?_
      show Goes p e below _ T4 (mkF m 52 #[.val (.ref a), .val (.int 4), .val (.int 1)] [(.int 1), (.int 1), (.ref a)])
      refine Goes.of (fun _ => XS.isub X4.here hx rfl (hb hby d2_52) rfl) ?_
      show Goes p e below _ T4 (mkF m 53 #[.val (.ref a), .val (.int 4), .val (.int 1)] [(.int ((1 : Int32) - (1 : Int32))), (.ref a)])
      show Goes p e below _ T4 (mkF m 53 #[.val (.ref a), .val (.int 4), .val (.int 1)] [(.int 0), (.ref a)])
      refine goLdC (.int c0) X4 hx hZ eT4 Va (by decide) (by decide) rfl (g := (mkF m 53 #[.val (.ref a), .val (.int 4), .val (.int 1)] [(.int 0), (.ref a)])) rfl rfl (hb hby d2_53) ?_
      show Goes p e below _ T4 (mkF m 54 #[.val (.ref a), .val (.int 4), .val (.int 1)] [(.int c0)])
      refine goStatic 0 X4 hx hZ hown (hw _ (List.mem_of_getElem? (i := 55) rfl)) (hw _ (List.mem_of_getElem? (i := 56) rfl)) (hw _ (List.mem_of_getElem? (i := 3) rfl)) (hw _ (List.mem_of_getElem? (i := 57) rfl)) (by decide) (rm_high l Z a0 hw c0 h0 n0 O0) eT4 (g := (mkF m 54 #[.val (.ref a), .val (.int 4), .val (.int 1)] [(.int c0)])) rfl (by rw [hml]; rfl) [(.int c0)] [] (lenOf pd__C_Z rfl) rfl rfl (by show 2 * 0 + _ ≤ _; exact Nat.le_of_eq rfl) (hb hby d2_54) (by decide) (by decide) (by decide) (by decide) ?_
      intro v6 T6 L6 X6 q6
      obtain ⟨rfl, Nq6, eT6⟩ := q6
      have N6 := Fr.app N4 Nq6
      show Goes p e below _ T6 (mkF m 57 #[.val (.ref a), .val (.int 4), .val (.int 1)] [(.int (hiV c0))])
      by_cases hpc57 : (hiV c0) = (0 : Int32)
      · refine Goes.of (fun _ => XS.ifNo X6.here hx rfl (hb hby d2_57) rfl ((if0 _ _).trans (teq hpc57).2)) ?_
        show Goes p e below _ T6 (mkF m 60 #[.val (.ref a), .val (.int 4), .val (.int 1)] [])
        refine Goes.of (fun _ => XS.iconst X6.here hx rfl (hb hby d2_60)) ?_
        show Goes p e below _ T6 (mkF m 61 #[.val (.ref a), .val (.int 4), .val (.int 1)] [(.int 1)])
        exact retZ (t := .boolean) X6 hx hret hlk (by simp) (hb hby d2_61) eT6 (by decide) (by decide) ⟨by rw [if_pos hpc13, if_neg hpc42, if_pos hpc57]; try first | rfl | (split <;> rfl), N6, rfl⟩
      · refine Goes.of (fun _ => XS.ifYes X6.here hx rfl (pc0 := 57) (pc' := 62) rfl (hb hby d2_57) rfl ((if0 _ _).trans (feq hpc57).2) (by decide) (by decide)) ?_
        show Goes p e below _ T6 (mkF m 62 #[.val (.ref a), .val (.int 4), .val (.int 1)] [])
        refine Goes.of (fun _ => XS.iconst X6.here hx rfl (hb hby d2_62)) ?_
        show Goes p e below _ T6 (mkF m 63 #[.val (.ref a), .val (.int 4), .val (.int 1)] [(.int 0)])
        exact retZ (t := .boolean) X6 hx hret hlk (by simp) (hb hby d2_63) eT6 (by decide) (by decide) ⟨by rw [if_pos hpc13, if_neg hpc42, if_neg hpc57]; try first | rfl | (split <;> rfl), N6, rfl⟩
  · refine Goes.of (fun _ => XS.ifNo X2.here hx rfl (hb hby d2_13) rfl ((if0 _ _).trans (feq hpc13).1)) ?_
    show Goes p e below _ T2 (mkF m 16 #[.val (.ref a), .val (.int 4), .val (.int 1)] [])
    refine Goes.of (fun _ => XS.iloadN X2.here hx rfl (hb hby d2_16) rfl) ?_
    show Goes p e below _ T2 (mkF m 17 #[.val (.ref a), .val (.int 4), .val (.int 1)] [(.int 1)])
    refine Goes.of (fun _ => XS.iconst X2.here hx rfl (hb hby d2_17)) ?_
    show Goes p e below _ T2 (mkF m 18 #[.val (.ref a), .val (.int 4), .val (.int 1)] [(.int 1), (.int 1)])
    refine Goes.of (fun _ => XS.iadd X2.here hx rfl (hb hby d2_18) rfl) ?_
    show Goes p e below _ T2 (mkF m 19 #[.val (.ref a), .val (.int 4), .val (.int 1)] [(.int ((1 : Int32) + (1 : Int32)))])
    show Goes p e below _ T2 (mkF m 19 #[.val (.ref a), .val (.int 4), .val (.int 1)] [(.int 2)])
    refine Goes.of (fun _ => XS.iloadN X2.here hx rfl (hb hby d2_19) rfl) ?_
    show Goes p e below _ T2 (mkF m 20 #[.val (.ref a), .val (.int 4), .val (.int 1)] [(.int 4), (.int 2)])
    refine Goes.of (fun _ => XS.icmpNo X2.here hx rfl (hb hby d2_20) rfl (tlt (by decide)).2.1) ?_
    show Goes p e below _ T2 (mkF m 23 #[.val (.ref a), .val (.int 4), .val (.int 1)] [])
    refine Goes.of (fun _ => XS.aloadN X2.here hx rfl (hb hby d2_23) rfl rfl) ?_
    show Goes p e below _ T2 (mkF m 24 #[.val (.ref a), .val (.int 4), .val (.int 1)] [(.ref a)])
    refine Goes.of (fun _ => XS.iloadN X2.here hx rfl (hb hby d2_24) rfl) ?_
    show Goes p e below _ T2 (mkF m 25 #[.val (.ref a), .val (.int 4), .val (.int 1)] [(.int 1), (.ref a)])
    refine Goes.of (fun _ => XS.iconst X2.here hx rfl (hb hby d2_25)) ?_
    show Goes p e below _ T2 (mkF m 26 #[.val (.ref a), .val (.int 4), .val (.int 1)] [(.int 1), (.int 1), (.ref a)])
    refine Goes.of (fun _ => XS.iadd X2.here hx rfl (hb hby d2_26) rfl) ?_
    show Goes p e below _ T2 (mkF m 27 #[.val (.ref a), .val (.int 4), .val (.int 1)] [(.int ((1 : Int32) + (1 : Int32))), (.ref a)])
    show Goes p e below _ T2 (mkF m 27 #[.val (.ref a), .val (.int 4), .val (.int 1)] [(.int 2), (.ref a)])
    refine goLdC (.int c2) X2 hx hZ eT2 Va (by decide) (by decide) rfl (g := (mkF m 27 #[.val (.ref a), .val (.int 4), .val (.int 1)] [(.int 2), (.ref a)])) rfl rfl (hb hby d2_27) ?_
    show Goes p e below _ T2 (mkF m 28 #[.val (.ref a), .val (.int 4), .val (.int 1)] [(.int c2)])
    refine goStatic 0 X2 hx hZ hown (hw _ (List.mem_of_getElem? (i := 58) rfl)) (hw _ (List.mem_of_getElem? (i := 59) rfl)) (hw _ (List.mem_of_getElem? (i := 3) rfl)) (hw _ (List.mem_of_getElem? (i := 60) rfl)) (by decide) (rm_low l Z a0 hw c2 h0 n0 O0) eT2 (g := (mkF m 28 #[.val (.ref a), .val (.int 4), .val (.int 1)] [(.int c2)])) rfl (by rw [hml]; rfl) [(.int c2)] [] (lenOf pd__C_Z rfl) rfl rfl (by show 2 * 0 + _ ≤ _; exact Nat.le_of_eq rfl) (hb hby d2_28) (by decide) (by decide) (by decide) (by decide) ?_
    intro v8 T8 L8 X8 q8
    obtain ⟨rfl, Nq8, eT8⟩ := q8
    have N8 := Fr.app N2 Nq8
    show Goes p e below _ T8 (mkF m 31 #[.val (.ref a), .val (.int 4), .val (.int 1)] [(.int (loV c2))])
    by_cases hpc31 : (loV c2) = (0 : Int32)
    · refine Goes.of (fun _ => XS.ifNo X8.here hx rfl (hb hby d2_31) rfl ((if0 _ _).trans (teq hpc31).2)) ?_
      show Goes p e below _ T8 (mkF m 34 #[.val (.ref a), .val (.int 4), .val (.int 1)] [])
      refine Goes.of (fun _ => XS.iconst X8.here hx rfl (hb hby d2_34)) ?_
      show Goes p e below _ T8 (mkF m 35 #[.val (.ref a), .val (.int 4), .val (.int 1)] [(.int 1)])
      exact retZ (t := .boolean) X8 hx hret hlk (by simp) (hb hby d2_35) eT8 (by decide) (by decide) ⟨by rw [if_neg hpc13, if_pos hpc31]; try first | rfl | (split <;> rfl), N8, rfl⟩
    · refine Goes.of (fun _ => XS.ifYes X8.here hx rfl (pc0 := 31) (pc' := 36) rfl (hb hby d2_31) rfl ((if0 _ _).trans (feq hpc31).2) (by decide) (by decide)) ?_
      show Goes p e below _ T8 (mkF m 36 #[.val (.ref a), .val (.int 4), .val (.int 1)] [])
      refine Goes.of (fun _ => XS.aloadN X8.here hx rfl (hb hby d2_36) rfl rfl) ?_
      show Goes p e below _ T8 (mkF m 37 #[.val (.ref a), .val (.int 4), .val (.int 1)] [(.ref a)])
      refine Goes.of (fun _ => XS.iloadN X8.here hx rfl (hb hby d2_37) rfl) ?_
      show Goes p e below _ T8 (mkF m 38 #[.val (.ref a), .val (.int 4), .val (.int 1)] [(.int 1), (.ref a)])
      refine goLdC (.int c1) X8 hx hZ eT8 Va (by decide) (by decide) rfl (g := (mkF m 38 #[.val (.ref a), .val (.int 4), .val (.int 1)] [(.int 1), (.ref a)])) rfl rfl (hb hby d2_38) ?_
      show Goes p e below _ T8 (mkF m 39 #[.val (.ref a), .val (.int 4), .val (.int 1)] [(.int c1)])
      refine goStatic 0 X8 hx hZ hown (hw _ (List.mem_of_getElem? (i := 58) rfl)) (hw _ (List.mem_of_getElem? (i := 59) rfl)) (hw _ (List.mem_of_getElem? (i := 3) rfl)) (hw _ (List.mem_of_getElem? (i := 60) rfl)) (by decide) (rm_low l Z a0 hw c1 h0 n0 O0) eT8 (g := (mkF m 39 #[.val (.ref a), .val (.int 4), .val (.int 1)] [(.int c1)])) rfl (by rw [hml]; rfl) [(.int c1)] [] (lenOf pd__C_Z rfl) rfl rfl (by show 2 * 0 + _ ≤ _; exact Nat.le_of_eq rfl) (hb hby d2_39) (by decide) (by decide) (by decide) (by decide) ?_
      intro v10 T10 L10 X10 q10
      obtain ⟨rfl, Nq10, eT10⟩ := q10
      have N10 := Fr.app N8 Nq10
      show Goes p e below _ T10 (mkF m 42 #[.val (.ref a), .val (.int 4), .val (.int 1)] [(.int (loV c1))])
      by_cases hpc42 : (loV c1) = (0 : Int32)
      · refine Goes.of (fun _ => XS.ifYes X10.here hx rfl (pc0 := 42) (pc' := 62) rfl (hb hby d2_42) rfl ((if0 _ _).trans (teq hpc42).1) (by decide) (by decide)) ?_
        show Goes p e below _ T10 (mkF m 62 #[.val (.ref a), .val (.int 4), .val (.int 1)] [])
        refine Goes.of (fun _ => XS.iconst X10.here hx rfl (hb hby d2_62)) ?_
        show Goes p e below _ T10 (mkF m 63 #[.val (.ref a), .val (.int 4), .val (.int 1)] [(.int 0)])
        exact retZ (t := .boolean) X10 hx hret hlk (by simp) (hb hby d2_63) eT10 (by decide) (by decide) ⟨by rw [if_neg hpc13, if_neg hpc31, if_pos hpc42]; try first | rfl | (split <;> rfl), N10, rfl⟩
      · refine Goes.of (fun _ => XS.ifNo X10.here hx rfl (hb hby d2_42) rfl ((if0 _ _).trans (feq hpc42).1)) ?_
        show Goes p e below _ T10 (mkF m 45 #[.val (.ref a), .val (.int 4), .val (.int 1)] [])
        refine Goes.of (fun _ => XS.iloadN X10.here hx rfl (hb hby d2_45) rfl) ?_
        show Goes p e below _ T10 (mkF m 46 #[.val (.ref a), .val (.int 4), .val (.int 1)] [(.int 1)])
        refine Goes.of (fun _ => XS.ifNo X10.here hx rfl (hb hby d2_46) rfl ((if0 _ _).trans (tlt (by decide)).2.2.2)) ?_
        show Goes p e below _ T10 (mkF m 49 #[.val (.ref a), .val (.int 4), .val (.int 1)] [])
        refine Goes.of (fun _ => XS.aloadN X10.here hx rfl (hb hby d2_49) rfl rfl) ?_
        show Goes p e below _ T10 (mkF m 50 #[.val (.ref a), .val (.int 4), .val (.int 1)] [(.ref a)])
        refine Goes.of (fun _ => XS.iloadN X10.here hx rfl (hb hby d2_50) rfl) ?_
        show Goes p e below _ T10 (mkF m 51 #[.val (.ref a), .val (.int 4), .val (.int 1)] [(.int 1), (.ref a)])
        refine Goes.of (fun _ => XS.iconst X10.here hx rfl (hb hby d2_51)) ?_
        show Goes p e below _ T10 (mkF m 52 #[.val (.ref a), .val (.int 4), .val (.int 1)] [(.int 1), (.int 1), (.ref a)])
        refine Goes.of (fun _ => XS.isub X10.here hx rfl (hb hby d2_52) rfl) ?_
        show Goes p e below _ T10 (mkF m 53 #[.val (.ref a), .val (.int 4), .val (.int 1)] [(.int ((1 : Int32) - (1 : Int32))), (.ref a)])
        show Goes p e below _ T10 (mkF m 53 #[.val (.ref a), .val (.int 4), .val (.int 1)] [(.int 0), (.ref a)])
        refine goLdC (.int c0) X10 hx hZ eT10 Va (by decide) (by decide) rfl (g := (mkF m 53 #[.val (.ref a), .val (.int 4), .val (.int 1)] [(.int 0), (.ref a)])) rfl rfl (hb hby d2_53) ?_
        show Goes p e below _ T10 (mkF m 54 #[.val (.ref a), .val (.int 4), .val (.int 1)] [(.int c0)])
        refine goStatic 0 X10 hx hZ hown (hw _ (List.mem_of_getElem? (i := 55) rfl)) (hw _ (List.mem_of_getElem? (i := 56) rfl)) (hw _ (List.mem_of_getElem? (i := 3) rfl)) (hw _ (List.mem_of_getElem? (i := 57) rfl)) (by decide) (rm_high l Z a0 hw c0 h0 n0 O0) eT10 (g := (mkF m 54 #[.val (.ref a), .val (.int 4), .val (.int 1)] [(.int c0)])) rfl (by rw [hml]; rfl) [(.int c0)] [] (lenOf pd__C_Z rfl) rfl rfl (by show 2 * 0 + _ ≤ _; exact Nat.le_of_eq rfl) (hb hby d2_54) (by decide) (by decide) (by decide) (by decide) ?_
        intro v12 T12 L12 X12 q12
        obtain ⟨rfl, Nq12, eT12⟩ := q12
        have N12 := Fr.app N10 Nq12
        show Goes p e below _ T12 (mkF m 57 #[.val (.ref a), .val (.int 4), .val (.int 1)] [(.int (hiV c0))])
        by_cases hpc57 : (hiV c0) = (0 : Int32)
        · refine Goes.of (fun _ => XS.ifNo X12.here hx rfl (hb hby d2_57) rfl ((if0 _ _).trans (teq hpc57).2)) ?_
          show Goes p e below _ T12 (mkF m 60 #[.val (.ref a), .val (.int 4), .val (.int 1)] [])
          refine Goes.of (fun _ => XS.iconst X12.here hx rfl (hb hby d2_60)) ?_
          show Goes p e below _ T12 (mkF m 61 #[.val (.ref a), .val (.int 4), .val (.int 1)] [(.int 1)])
          exact retZ (t := .boolean) X12 hx hret hlk (by simp) (hb hby d2_61) eT12 (by decide) (by decide) ⟨by rw [if_neg hpc13, if_neg hpc31, if_neg hpc42, if_pos hpc57]; try first | rfl | (split <;> rfl), N12, rfl⟩
        · refine Goes.of (fun _ => XS.ifYes X12.here hx rfl (pc0 := 57) (pc' := 62) rfl (hb hby d2_57) rfl ((if0 _ _).trans (feq hpc57).2) (by decide) (by decide)) ?_
          show Goes p e below _ T12 (mkF m 62 #[.val (.ref a), .val (.int 4), .val (.int 1)] [])
          refine Goes.of (fun _ => XS.iconst X12.here hx rfl (hb hby d2_62)) ?_
          show Goes p e below _ T12 (mkF m 63 #[.val (.ref a), .val (.int 4), .val (.int 1)] [(.int 0)])
          exact retZ (t := .boolean) X12 hx hret hlk (by simp) (hb hby d2_63) eT12 (by decide) (by decide) ⟨by rw [if_neg hpc13, if_neg hpc31, if_neg hpc42, if_neg hpc57]; try first | rfl | (split <;> rfl), N12, rfl⟩
set_option maxRecDepth 65536 in
set_option maxHeartbeats 40000000 in
theorem rm_bad_4_2 (l : Launch) (Z : State) (a0 : Array Value) (hw : ∀ d ∈ tables_1, d.before a0 Z = true) (a : Addr) (ka : ClassId) (c0 c1 c2 c3 : Int32) (h0 : Heap) (n0 : Nat) (O0 : Old Z n0 h0) (Va : Arv Z h0 a ka .char (4 : Int32) [(.int c0), (.int c1), (.int c2), (.int c3)] (.int 0)) :
    Rm l (⟨"com/example/latchwork/latchwork/core/LockNamesCheckPinLaw", "bad", "([CII)Z"⟩ : MethodName) method_5_code 3 (some .boolean) ({ frames := 1, cells := 0, slots := 0, locals := 12 } : Room) [] Z #[(.ref a), (.int 4), (.int 2)] h0 (fun v h L => v = some (.int (if hiV c2 = (0 : Int32) then (if loV c2 = (0 : Int32) then (0 : Int32) else (if hiV c1 = (0 : Int32) then (1 : Int32) else (0 : Int32))) else (if loV c3 = (0 : Int32) then (1 : Int32) else (if loV c2 = (0 : Int32) then (0 : Int32) else (if hiV c1 = (0 : Int32) then (1 : Int32) else (0 : Int32)))))) ∧ Fr n0 L ∧ h = h0) := by
  refine Rm.of (plainFor_of_name pn_com_example_latchwork_latchwork_core_LockNamesCheckPinLaw) ?_
  intro p e s m below meth cod T X hx hZ hby hml hown hnm hret hlk eT0
  have hown : s.vm.findClass "com/example/latchwork/latchwork/core/LockNamesCheckPinLaw" = some m.cls := hown
  have hnm : meth.name = "bad" := hnm
  have N0 := Fr.nil n0
  refine Goes.cast (ef_2 m a (4 : Int32) (2 : Int32)) ?_
  show Goes p e below _ T (mkF m 0 #[.val (.ref a), .val (.int 4), .val (.int 2)] [])
  refine Goes.of (fun _ => XS.iloadN X.here hx rfl (hb hby d2_0) rfl) ?_
  show Goes p e below _ T (mkF m 1 #[.val (.ref a), .val (.int 4), .val (.int 2)] [(.int 2)])
  refine Goes.of (fun _ => XS.iloadN X.here hx rfl (hb hby d2_1) rfl) ?_
  show Goes p e below _ T (mkF m 2 #[.val (.ref a), .val (.int 4), .val (.int 2)] [(.int 4), (.int 2)])
  refine Goes.of (fun _ => XS.icmpYes X.here hx rfl (pc0 := 2) (pc' := 7) rfl (hb hby d2_2) rfl (tlt (by decide)).1 (by decide) (by decide)) ?_
  show Goes p e below _ T (mkF m 7 #[.val (.ref a), .val (.int 4), .val (.int 2)] [])
  refine Goes.of (fun _ => XS.aloadN X.here hx rfl (hb hby d2_7) rfl rfl) ?_
  show Goes p e below _ T (mkF m 8 #[.val (.ref a), .val (.int 4), .val (.int 2)] [(.ref a)])
  refine Goes.of (fun _ => XS.iloadN X.here hx rfl (hb hby d2_8) rfl) ?_
  show Goes p e below _ T (mkF m 9 #[.val (.ref a), .val (.int 4), .val (.int 2)] [(.int 2), (.ref a)])
  refine goLdC (.int c2) X hx hZ eT0 Va (by decide) (by decide) rfl (g := (mkF m 9 #[.val (.ref a), .val (.int 4), .val (.int 2)] [(.int 2), (.ref a)])) rfl rfl (hb hby d2_9) ?_
  show Goes p e below _ T (mkF m 10 #[.val (.ref a), .val (.int 4), .val (.int 2)] [(.int c2)])
  refine goStatic 0 X hx hZ hown (hw _ (List.mem_of_getElem? (i := 55) rfl)) (hw _ (List.mem_of_getElem? (i := 56) rfl)) (hw _ (List.mem_of_getElem? (i := 3) rfl)) (hw _ (List.mem_of_getElem? (i := 57) rfl)) (by decide) (rm_high l Z a0 hw c2 h0 n0 O0) eT0 (g := (mkF m 10 #[.val (.ref a), .val (.int 4), .val (.int 2)] [(.int c2)])) rfl (by rw [hml]; rfl) [(.int c2)] [] (lenOf pd__C_Z rfl) rfl rfl (by show 2 * 0 + _ ≤ _; exact Nat.le_of_eq rfl) (hb hby d2_10) (by decide) (by decide) (by decide) (by decide) ?_
  intro v2 T2 L2 X2 q2
  obtain ⟨rfl, Nq2, eT2⟩ := q2
  have N2 := Fr.app N0 Nq2
  show Goes p e below _ T2 (mkF m 13 #[.val (.ref a), .val (.int 4), .val (.int 2)] [(.int (hiV c2))])
  by_cases hpc13 : (hiV c2) = (0 : Int32)
  · refine Goes.of (fun _ => XS.ifYes X2.here hx rfl (pc0 := 13) (pc' := 36) rfl (hb hby d2_13) rfl ((if0 _ _).trans (teq hpc13).1) (by decide) (by decide)) ?_
    show Goes p e below _ T2 (mkF m 36 #[.val (.ref a), .val (.int 4), .val (.int 2)] [])
    refine Goes.of (fun _ => XS.aloadN X2.here hx rfl (hb hby d2_36) rfl rfl) ?_
    show Goes p e below _ T2 (mkF m 37 #[.val (.ref a), .val (.int 4), .val (.int 2)] [(.ref a)])
    refine Goes.of (fun _ => XS.iloadN X2.here hx rfl (hb hby d2_37) rfl) ?_
    show Goes p e below _ T2 (mkF m 38 #[.val (.ref a), .val (.int 4), .val (.int 2)] [(.int 2), (.ref a)])
    refine goLdC (.int c2) X2 hx hZ eT2 Va (by decide) (by decide) rfl (g := (mkF m 38 #[.val (.ref a), .val (.int 4), .val (.int 2)] [(.int 2), (.ref a)])) rfl rfl (hb hby d2_38) ?_
    show Goes p e below _ T2 (mkF m 39 #[.val (.ref a), .val (.int 4), .val (.int 2)] [(.int c2)])
    refine goStatic 0 X2 hx hZ hown (hw _ (List.mem_of_getElem? (i := 58) rfl)) (hw _ (List.mem_of_getElem? (i := 59) rfl)) (hw _ (List.mem_of_getElem? (i := 3) rfl)) (hw _ (List.mem_of_getElem? (i := 60) rfl)) (by decide) (rm_low l Z a0 hw c2 h0 n0 O0) eT2 (g := (mkF m 39 #[.val (.ref a), .val (.int 4), .val (.int 2)] [(.int c2)])) rfl (by rw [hml]; rfl) [(.int c2)] [] (lenOf pd__C_Z rfl) rfl rfl (by show 2 * 0 + _ ≤ _; exact Nat.le_of_eq rfl) (hb hby d2_39) (by decide) (by decide) (by decide) (by decide) ?_
    intro v4 T4 L4 X4 q4
    obtain ⟨rfl, Nq4, eT4⟩ := q4
    have N4 := Fr.app N2 Nq4
    show Goes p e below _ T4 (mkF m 42 #[.val (.ref a), .val (.int 4), .val (.int 2)] [(.int (loV c2))])
    by_cases hpc42 : (loV c2) = (0 : Int32)
    · refine Goes.of (fun _ => XS.ifYes X4.here hx rfl (pc0 := 42) (pc' := 62) rfl (hb hby d2_42) rfl ((if0 _ _).trans (teq hpc42).1) (by decide) (by decide)) ?_
      show Goes p e below _ T4 (mkF m 62 #[.val (.ref a), .val (.int 4), .val (.int 2)] [])
      refine Goes.of (fun _ => XS.iconst X4.here hx rfl (hb hby d2_62)) ?_
      show Goes p e below _ T4 (mkF m 63 #[.val (.ref a), .val (.int 4), .val (.int 2)] [(.int 0)])
      exact retZ (t := .boolean) X4 hx hret hlk (by simp) (hb hby d2_63) eT4 (by decide) (by decide) ⟨by rw [if_pos hpc13, if_pos hpc42]; try first | rfl | (split <;> rfl), N4, rfl⟩
    · refine Goes.of (fun _ => XS.ifNo X4.here hx rfl (hb hby d2_42) rfl ((if0 _ _).trans (feq hpc42).1)) ?_
      show Goes p e below _ T4 (mkF m 45 #[.val (.ref a), .val (.int 4), .val (.int 2)] [])
      refine Goes.of (fun _ => XS.iloadN X4.here hx rfl (hb hby d2_45) rfl) ?_
      show Goes p e below _ T4 (mkF m 46 #[.val (.ref a), .val (.int 4), .val (.int 2)] [(.int 2)])
      refine Goes.of (fun _ => XS.ifNo X4.here hx rfl (hb hby d2_46) rfl ((if0 _ _).trans (tlt (by decide)).2.2.2)) ?_
      show Goes p e below _ T4 (mkF m 49 #[.val (.ref a), .val (.int 4), .val (.int 2)] [])
      refine Goes.of (fun _ => XS.aloadN X4.here hx rfl (hb hby d2_49) rfl rfl) ?_
      show Goes p e below _ T4 (mkF m 50 #[.val (.ref a), .val (.int 4), .val (.int 2)] [(.ref a)])
      refine Goes.of (fun _ => XS.iloadN X4.here hx rfl (hb hby d2_50) rfl) ?_
      show Goes p e below _ T4 (mkF m 51 #[.val (.ref a), .val (.int 4), .val (.int 2)] [(.int 2), (.ref a)])
      refine Goes.of (fun _ => XS.iconst X4.here hx rfl (hb hby d2_51)) ?_
      show Goes p e below _ T4 (mkF m 52 #[.val (.ref a), .val (.int 4), .val (.int 2)] [(.int 1), (.int 2), (.ref a)])
      refine Goes.of (fun _ => XS.isub X4.here hx rfl (hb hby d2_52) rfl) ?_
      show Goes p e below _ T4 (mkF m 53 #[.val (.ref a), .val (.int 4), .val (.int 2)] [(.int ((2 : Int32) - (1 : Int32))), (.ref a)])
      show Goes p e below _ T4 (mkF m 53 #[.val (.ref a), .val (.int 4), .val (.int 2)] [(.int 1), (.ref a)])
      refine goLdC (.int c1) X4 hx hZ eT4 Va (by decide) (by decide) rfl (g := (mkF m 53 #[.val (.ref a), .val (.int 4), .val (.int 2)] [(.int 1), (.ref a)])) rfl rfl (hb hby d2_53) ?_
      show Goes p e below _ T4 (mkF m 54 #[.val (.ref a), .val (.int 4), .val (.int 2)] [(.int c1)])
      refine goStatic 0 X4 hx hZ hown (hw _ (List.mem_of_getElem? (i := 55) rfl)) (hw _ (List.mem_of_getElem? (i := 56) rfl)) (hw _ (List.mem_of_getElem? (i := 3) rfl)) (hw _ (List.mem_of_getElem? (i := 57) rfl)) (by decide) (rm_high l Z a0 hw c1 h0 n0 O0) eT4 (g := (mkF m 54 #[.val (.ref a), .val (.int 4), .val (.int 2)] [(.int c1)])) rfl (by rw [hml]; rfl) [(.int c1)] [] (lenOf pd__C_Z rfl) rfl rfl (by show 2 * 0 + _ ≤ _; exact Nat.le_of_eq rfl) (hb hby d2_54) (by decide) (by decide) (by decide) (by decide) ?_
      intro v6 T6 L6 X6 q6
      obtain ⟨rfl, Nq6, eT6⟩ := q6
      have N6 := Fr.app N4 Nq6
      show Goes p e below _ T6 (mkF m 57 #[.val (.ref a), .val (.int 4), .val (.int 2)] [(.int (hiV c1))])
      by_cases hpc57 : (hiV c1) = (0 : Int32)
      · refine Goes.of (fun _ => XS.ifNo X6.here hx rfl (hb hby d2_57) rfl ((if0 _ _).trans (teq hpc57).2)) ?_
        show Goes p e below _ T6 (mkF m 60 #[.val (.ref a), .val (.int 4), .val (.int 2)] [])
        refine Goes.of (fun _ => XS.iconst X6.here hx rfl (hb hby d2_60)) ?_
        show Goes p e below _ T6 (mkF m 61 #[.val (.ref a), .val (.int 4), .val (.int 2)] [(.int 1)])
        exact retZ (t := .boolean) X6 hx hret hlk (by simp) (hb hby d2_61) eT6 (by decide) (by decide) ⟨by rw [if_pos hpc13, if_neg hpc42, if_pos hpc57]; try first | rfl | (split <;> rfl), N6, rfl⟩
      · refine Goes.of (fun _ => XS.ifYes X6.here hx rfl (pc0 := 57) (pc' := 62) rfl (hb hby d2_57) rfl ((if0 _ _).trans (feq hpc57).2) (by decide) (by decide)) ?_
        show Goes p e below _ T6 (mkF m 62 #[.val (.ref a), .val (.int 4), .val (.int 2)] [])
        refine Goes.of (fun _ => XS.iconst X6.here hx rfl (hb hby d2_62)) ?_
        show Goes p e below _ T6 (mkF m 63 #[.val (.ref a), .val (.int 4), .val (.int 2)] [(.int 0)])
        exact retZ (t := .boolean) X6 hx hret hlk (by simp) (hb hby d2_63) eT6 (by decide) (by decide) ⟨by rw [if_pos hpc13, if_neg hpc42, if_neg hpc57]; try first | rfl | (split <;> rfl), N6, rfl⟩
  · refine Goes.of (fun _ => XS.ifNo X2.here hx rfl (hb hby d2_13) rfl ((if0 _ _).trans (feq hpc13).1)) ?_
    show Goes p e below _ T2 (mkF m 16 #[.val (.ref a), .val (.int 4), .val (.int 2)] [])
    refine Goes.of (fun _ => XS.iloadN X2.here hx rfl (hb hby d2_16) rfl) ?_
    show Goes p e below _ T2 (mkF m 17 #[.val (.ref a), .val (.int 4), .val (.int 2)] [(.int 2)])
    refine Goes.of (fun _ => XS.iconst X2.here hx rfl (hb hby d2_17)) ?_
    show Goes p e below _ T2 (mkF m 18 #[.val (.ref a), .val (.int 4), .val (.int 2)] [(.int 1), (.int 2)])
    refine Goes.of (fun _ => XS.iadd X2.here hx rfl (hb hby d2_18) rfl) ?_
    show Goes p e below _ T2 (mkF m 19 #[.val (.ref a), .val (.int 4), .val (.int 2)] [(.int ((2 : Int32) + (1 : Int32)))])
    show Goes p e below _ T2 (mkF m 19 #[.val (.ref a), .val (.int 4), .val (.int 2)] [(.int 3)])
    refine Goes.of (fun _ => XS.iloadN X2.here hx rfl (hb hby d2_19) rfl) ?_
    show Goes p e below _ T2 (mkF m 20 #[.val (.ref a), .val (.int 4), .val (.int 2)] [(.int 4), (.int 3)])
    refine Goes.of (fun _ => XS.icmpNo X2.here hx rfl (hb hby d2_20) rfl (tlt (by decide)).2.1) ?_
    show Goes p e below _ T2 (mkF m 23 #[.val (.ref a), .val (.int 4), .val (.int 2)] [])
    refine Goes.of (fun _ => XS.aloadN X2.here hx rfl (hb hby d2_23) rfl rfl) ?_
    show Goes p e below _ T2 (mkF m 24 #[.val (.ref a), .val (.int 4), .val (.int 2)] [(.ref a)])
    refine Goes.of (fun _ => XS.iloadN X2.here hx rfl (hb hby d2_24) rfl) ?_
    show Goes p e below _ T2 (mkF m 25 #[.val (.ref a), .val (.int 4), .val (.int 2)] [(.int 2), (.ref a)])
    refine Goes.of (fun _ => XS.iconst X2.here hx rfl (hb hby d2_25)) ?_
    show Goes p e below _ T2 (mkF m 26 #[.val (.ref a), .val (.int 4), .val (.int 2)] [(.int 1), (.int 2), (.ref a)])
    refine Goes.of (fun _ => XS.iadd X2.here hx rfl (hb hby d2_26) rfl) ?_
    show Goes p e below _ T2 (mkF m 27 #[.val (.ref a), .val (.int 4), .val (.int 2)] [(.int ((2 : Int32) + (1 : Int32))), (.ref a)])
    show Goes p e below _ T2 (mkF m 27 #[.val (.ref a), .val (.int 4), .val (.int 2)] [(.int 3), (.ref a)])
    refine goLdC (.int c3) X2 hx hZ eT2 Va (by decide) (by decide) rfl (g := (mkF m 27 #[.val (.ref a), .val (.int 4), .val (.int 2)] [(.int 3), (.ref a)])) rfl rfl (hb hby d2_27) ?_
    show Goes p e below _ T2 (mkF m 28 #[.val (.ref a), .val (.int 4), .val (.int 2)] [(.int c3)])
    refine goStatic 0 X2 hx hZ hown (hw _ (List.mem_of_getElem? (i := 58) rfl)) (hw _ (List.mem_of_getElem? (i := 59) rfl)) (hw _ (List.mem_of_getElem? (i := 3) rfl)) (hw _ (List.mem_of_getElem? (i := 60) rfl)) (by decide) (rm_low l Z a0 hw c3 h0 n0 O0) eT2 (g := (mkF m 28 #[.val (.ref a), .val (.int 4), .val (.int 2)] [(.int c3)])) rfl (by rw [hml]; rfl) [(.int c3)] [] (lenOf pd__C_Z rfl) rfl rfl (by show 2 * 0 + _ ≤ _; exact Nat.le_of_eq rfl) (hb hby d2_28) (by decide) (by decide) (by decide) (by decide) ?_
    intro v8 T8 L8 X8 q8
    obtain ⟨rfl, Nq8, eT8⟩ := q8
    have N8 := Fr.app N2 Nq8
    show Goes p e below _ T8 (mkF m 31 #[.val (.ref a), .val (.int 4), .val (.int 2)] [(.int (loV c3))])
    by_cases hpc31 : (loV c3) = (0 : Int32)
    · refine Goes.of (fun _ => XS.ifNo X8.here hx rfl (hb hby d2_31) rfl ((if0 _ _).trans (teq hpc31).2)) ?_
      show Goes p e below _ T8 (mkF m 34 #[.val (.ref a), .val (.int 4), .val (.int 2)] [])
      refine Goes.of (fun _ => XS.iconst X8.here hx rfl (hb hby d2_34)) ?_
      show Goes p e below _ T8 (mkF m 35 #[.val (.ref a), .val (.int 4), .val (.int 2)] [(.int 1)])
      exact retZ (t := .boolean) X8 hx hret hlk (by simp) (hb hby d2_35) eT8 (by decide) (by decide) ⟨by rw [if_neg hpc13, if_pos hpc31]; try first | rfl | (split <;> rfl), N8, rfl⟩
    · refine Goes.of (fun _ => XS.ifYes X8.here hx rfl (pc0 := 31) (pc' := 36) rfl (hb hby d2_31) rfl ((if0 _ _).trans (feq hpc31).2) (by decide) (by decide)) ?_
      show Goes p e below _ T8 (mkF m 36 #[.val (.ref a), .val (.int 4), .val (.int 2)] [])
      refine Goes.of (fun _ => XS.aloadN X8.here hx rfl (hb hby d2_36) rfl rfl) ?_
      show Goes p e below _ T8 (mkF m 37 #[.val (.ref a), .val (.int 4), .val (.int 2)] [(.ref a)])
      refine Goes.of (fun _ => XS.iloadN X8.here hx rfl (hb hby d2_37) rfl) ?_
      show Goes p e below _ T8 (mkF m 38 #[.val (.ref a), .val (.int 4), .val (.int 2)] [(.int 2), (.ref a)])
      refine goLdC (.int c2) X8 hx hZ eT8 Va (by decide) (by decide) rfl (g := (mkF m 38 #[.val (.ref a), .val (.int 4), .val (.int 2)] [(.int 2), (.ref a)])) rfl rfl (hb hby d2_38) ?_
      show Goes p e below _ T8 (mkF m 39 #[.val (.ref a), .val (.int 4), .val (.int 2)] [(.int c2)])
      refine goStatic 0 X8 hx hZ hown (hw _ (List.mem_of_getElem? (i := 58) rfl)) (hw _ (List.mem_of_getElem? (i := 59) rfl)) (hw _ (List.mem_of_getElem? (i := 3) rfl)) (hw _ (List.mem_of_getElem? (i := 60) rfl)) (by decide) (rm_low l Z a0 hw c2 h0 n0 O0) eT8 (g := (mkF m 39 #[.val (.ref a), .val (.int 4), .val (.int 2)] [(.int c2)])) rfl (by rw [hml]; rfl) [(.int c2)] [] (lenOf pd__C_Z rfl) rfl rfl (by show 2 * 0 + _ ≤ _; exact Nat.le_of_eq rfl) (hb hby d2_39) (by decide) (by decide) (by decide) (by decide) ?_
      intro v10 T10 L10 X10 q10
      obtain ⟨rfl, Nq10, eT10⟩ := q10
      have N10 := Fr.app N8 Nq10
      show Goes p e below _ T10 (mkF m 42 #[.val (.ref a), .val (.int 4), .val (.int 2)] [(.int (loV c2))])
      by_cases hpc42 : (loV c2) = (0 : Int32)
      · refine Goes.of (fun _ => XS.ifYes X10.here hx rfl (pc0 := 42) (pc' := 62) rfl (hb hby d2_42) rfl ((if0 _ _).trans (teq hpc42).1) (by decide) (by decide)) ?_
        show Goes p e below _ T10 (mkF m 62 #[.val (.ref a), .val (.int 4), .val (.int 2)] [])
        refine Goes.of (fun _ => XS.iconst X10.here hx rfl (hb hby d2_62)) ?_
        show Goes p e below _ T10 (mkF m 63 #[.val (.ref a), .val (.int 4), .val (.int 2)] [(.int 0)])
        exact retZ (t := .boolean) X10 hx hret hlk (by simp) (hb hby d2_63) eT10 (by decide) (by decide) ⟨by rw [if_neg hpc13, if_neg hpc31, if_pos hpc42]; try first | rfl | (split <;> rfl), N10, rfl⟩
      · refine Goes.of (fun _ => XS.ifNo X10.here hx rfl (hb hby d2_42) rfl ((if0 _ _).trans (feq hpc42).1)) ?_
        show Goes p e below _ T10 (mkF m 45 #[.val (.ref a), .val (.int 4), .val (.int 2)] [])
        refine Goes.of (fun _ => XS.iloadN X10.here hx rfl (hb hby d2_45) rfl) ?_
        show Goes p e below _ T10 (mkF m 46 #[.val (.ref a), .val (.int 4), .val (.int 2)] [(.int 2)])
        refine Goes.of (fun _ => XS.ifNo X10.here hx rfl (hb hby d2_46) rfl ((if0 _ _).trans (tlt (by decide)).2.2.2)) ?_
        show Goes p e below _ T10 (mkF m 49 #[.val (.ref a), .val (.int 4), .val (.int 2)] [])
        refine Goes.of (fun _ => XS.aloadN X10.here hx rfl (hb hby d2_49) rfl rfl) ?_
        show Goes p e below _ T10 (mkF m 50 #[.val (.ref a), .val (.int 4), .val (.int 2)] [(.ref a)])
        refine Goes.of (fun _ => XS.iloadN X10.here hx rfl (hb hby d2_50) rfl) ?_
        show Goes p e below _ T10 (mkF m 51 #[.val (.ref a), .val (.int 4), .val (.int 2)] [(.int 2), (.ref a)])
        refine Goes.of (fun _ => XS.iconst X10.here hx rfl (hb hby d2_51)) ?_
        show Goes p e below _ T10 (mkF m 52 #[.val (.ref a), .val (.int 4), .val (.int 2)] [(.int 1), (.int 2), (.ref a)])
        refine Goes.of (fun _ => XS.isub X10.here hx rfl (hb hby d2_52) rfl) ?_
        show Goes p e below _ T10 (mkF m 53 #[.val (.ref a), .val (.int 4), .val (.int 2)] [(.int ((2 : Int32) - (1 : Int32))), (.ref a)])
        show Goes p e below _ T10 (mkF m 53 #[.val (.ref a), .val (.int 4), .val (.int 2)] [(.int 1), (.ref a)])
        refine goLdC (.int c1) X10 hx hZ eT10 Va (by decide) (by decide) rfl (g := (mkF m 53 #[.val (.ref a), .val (.int 4), .val (.int 2)] [(.int 1), (.ref a)])) rfl rfl (hb hby d2_53) ?_
        show Goes p e below _ T10 (mkF m 54 #[.val (.ref a), .val (.int 4), .val (.int 2)] [(.int c1)])
        refine goStatic 0 X10 hx hZ hown (hw _ (List.mem_of_getElem? (i := 55) rfl)) (hw _ (List.mem_of_getElem? (i := 56) rfl)) (hw _ (List.mem_of_getElem? (i := 3) rfl)) (hw _ (List.mem_of_getElem? (i := 57) rfl)) (by decide) (rm_high l Z a0 hw c1 h0 n0 O0) eT10 (g := (mkF m 54 #[.val (.ref a), .val (.int 4), .val (.int 2)] [(.int c1)])) rfl (by rw [hml]; rfl) [(.int c1)] [] (lenOf pd__C_Z rfl) rfl rfl (by show 2 * 0 + _ ≤ _; exact Nat.le_of_eq rfl) (hb hby d2_54) (by decide) (by decide) (by decide) (by decide) ?_
        intro v12 T12 L12 X12 q12
        obtain ⟨rfl, Nq12, eT12⟩ := q12
        have N12 := Fr.app N10 Nq12
        show Goes p e below _ T12 (mkF m 57 #[.val (.ref a), .val (.int 4), .val (.int 2)] [(.int (hiV c1))])
        by_cases hpc57 : (hiV c1) = (0 : Int32)
        · refine Goes.of (fun _ => XS.ifNo X12.here hx rfl (hb hby d2_57) rfl ((if0 _ _).trans (teq hpc57).2)) ?_
          show Goes p e below _ T12 (mkF m 60 #[.val (.ref a), .val (.int 4), .val (.int 2)] [])
          refine Goes.of (fun _ => XS.iconst X12.here hx rfl (hb hby d2_60)) ?_
          show Goes p e below _ T12 (mkF m 61 #[.val (.ref a), .val (.int 4), .val (.int 2)] [(.int 1)])
          exact retZ (t := .boolean) X12 hx hret hlk (by simp) (hb hby d2_61) eT12 (by decide) (by decide) ⟨by rw [if_neg hpc13, if_neg hpc31, if_neg hpc42, if_pos hpc57]; try first | rfl | (split <;> rfl), N12, rfl⟩
        · refine Goes.of (fun _ => XS.ifYes X12.here hx rfl (pc0 := 57) (pc' := 62) rfl (hb hby d2_57) rfl ((if0 _ _).trans (feq hpc57).2) (by decide) (by decide)) ?_
          show Goes p e below _ T12 (mkF m 62 #[.val (.ref a), .val (.int 4), .val (.int 2)] [])
          refine Goes.of (fun _ => XS.iconst X12.here hx rfl (hb hby d2_62)) ?_
          show Goes p e below _ T12 (mkF m 63 #[.val (.ref a), .val (.int 4), .val (.int 2)] [(.int 0)])
          exact retZ (t := .boolean) X12 hx hret hlk (by simp) (hb hby d2_63) eT12 (by decide) (by decide) ⟨by rw [if_neg hpc13, if_neg hpc31, if_neg hpc42, if_neg hpc57]; try first | rfl | (split <;> rfl), N12, rfl⟩
set_option maxRecDepth 65536 in
set_option maxHeartbeats 40000000 in
theorem rm_bad_4_3 (l : Launch) (Z : State) (a0 : Array Value) (hw : ∀ d ∈ tables_1, d.before a0 Z = true) (a : Addr) (ka : ClassId) (c0 c1 c2 c3 : Int32) (h0 : Heap) (n0 : Nat) (O0 : Old Z n0 h0) (Va : Arv Z h0 a ka .char (4 : Int32) [(.int c0), (.int c1), (.int c2), (.int c3)] (.int 0)) :
    Rm l (⟨"com/example/latchwork/latchwork/core/LockNamesCheckPinLaw", "bad", "([CII)Z"⟩ : MethodName) method_5_code 3 (some .boolean) ({ frames := 1, cells := 0, slots := 0, locals := 12 } : Room) [] Z #[(.ref a), (.int 4), (.int 3)] h0 (fun v h L => v = some (.int (if hiV c3 = (0 : Int32) then (if loV c3 = (0 : Int32) then (0 : Int32) else (if hiV c2 = (0 : Int32) then (1 : Int32) else (0 : Int32))) else (1 : Int32))) ∧ Fr n0 L ∧ h = h0) := by
  refine Rm.of (plainFor_of_name pn_com_example_latchwork_latchwork_core_LockNamesCheckPinLaw) ?_
  intro p e s m below meth cod T X hx hZ hby hml hown hnm hret hlk eT0
  have hown : s.vm.findClass "com/example/latchwork/latchwork/core/LockNamesCheckPinLaw" = some m.cls := hown
  have hnm : meth.name = "bad" := hnm
  have N0 := Fr.nil n0
  refine Goes.cast (ef_2 m a (4 : Int32) (3 : Int32)) ?_
  show Goes p e below _ T (mkF m 0 #[.val (.ref a), .val (.int 4), .val (.int 3)] [])
  refine Goes.of (fun _ => XS.iloadN X.here hx rfl (hb hby d2_0) rfl) ?_
  show Goes p e below _ T (mkF m 1 #[.val (.ref a), .val (.int 4), .val (.int 3)] [(.int 3)])
  refine Goes.of (fun _ => XS.iloadN X.here hx rfl (hb hby d2_1) rfl) ?_
  show Goes p e below _ T (mkF m 2 #[.val (.ref a), .val (.int 4), .val (.int 3)] [(.int 4), (.int 3)])
  refine Goes.of (fun _ => XS.icmpYes X.here hx rfl (pc0 := 2) (pc' := 7) rfl (hb hby d2_2) rfl (tlt (by decide)).1 (by decide) (by decide)) ?_
  show Goes p e below _ T (mkF m 7 #[.val (.ref a), .val (.int 4), .val (.int 3)] [])
  refine Goes.of (fun _ => XS.aloadN X.here hx rfl (hb hby d2_7) rfl rfl) ?_
  show Goes p e below _ T (mkF m 8 #[.val (.ref a), .val (.int 4), .val (.int 3)] [(.ref a)])
  refine Goes.of (fun _ => XS.iloadN X.here hx rfl (hb hby d2_8) rfl) ?_
  show Goes p e below _ T (mkF m 9 #[.val (.ref a), .val (.int 4), .val (.int 3)] [(.int 3), (.ref a)])
  refine goLdC (.int c3) X hx hZ eT0 Va (by decide) (by decide) rfl (g := (mkF m 9 #[.val (.ref a), .val (.int 4), .val (.int 3)] [(.int 3), (.ref a)])) rfl rfl (hb hby d2_9) ?_
  show Goes p e below _ T (mkF m 10 #[.val (.ref a), .val (.int 4), .val (.int 3)] [(.int c3)])
  refine goStatic 0 X hx hZ hown (hw _ (List.mem_of_getElem? (i := 55) rfl)) (hw _ (List.mem_of_getElem? (i := 56) rfl)) (hw _ (List.mem_of_getElem? (i := 3) rfl)) (hw _ (List.mem_of_getElem? (i := 57) rfl)) (by decide) (rm_high l Z a0 hw c3 h0 n0 O0) eT0 (g := (mkF m 10 #[.val (.ref a), .val (.int 4), .val (.int 3)] [(.int c3)])) rfl (by rw [hml]; rfl) [(.int c3)] [] (lenOf pd__C_Z rfl) rfl rfl (by show 2 * 0 + _ ≤ _; exact Nat.le_of_eq rfl) (hb hby d2_10) (by decide) (by decide) (by decide) (by decide) ?_
  intro v2 T2 L2 X2 q2
  obtain ⟨rfl, Nq2, eT2⟩ := q2
  have N2 := Fr.app N0 Nq2
  show Goes p e below _ T2 (mkF m 13 #[.val (.ref a), .val (.int 4), .val (.int 3)] [(.int (hiV c3))])
  by_cases hpc13 : (hiV c3) = (0 : Int32)
  · refine Goes.of (fun _ => XS.ifYes X2.here hx rfl (pc0 := 13) (pc' := 36) rfl (hb hby d2_13) rfl ((if0 _ _).trans (teq hpc13).1) (by decide) (by decide)) ?_
    show Goes p e below _ T2 (mkF m 36 #[.val (.ref a), .val (.int 4), .val (.int 3)] [])
    refine Goes.of (fun _ => XS.aloadN X2.here hx rfl (hb hby d2_36) rfl rfl) ?_
    show Goes p e below _ T2 (mkF m 37 #[.val (.ref a), .val (.int 4), .val (.int 3)] [(.ref a)])
    refine Goes.of (fun _ => XS.iloadN X2.here hx rfl (hb hby d2_37) rfl) ?_
    show Goes p e below _ T2 (mkF m 38 #[.val (.ref a), .val (.int 4), .val (.int 3)] [(.int 3), (.ref a)])
    refine goLdC (.int c3) X2 hx hZ eT2 Va (by decide) (by decide) rfl (g := (mkF m 38 #[.val (.ref a), .val (.int 4), .val (.int 3)] [(.int 3), (.ref a)])) rfl rfl (hb hby d2_38) ?_
    show Goes p e below _ T2 (mkF m 39 #[.val (.ref a), .val (.int 4), .val (.int 3)] [(.int c3)])
    refine goStatic 0 X2 hx hZ hown (hw _ (List.mem_of_getElem? (i := 58) rfl)) (hw _ (List.mem_of_getElem? (i := 59) rfl)) (hw _ (List.mem_of_getElem? (i := 3) rfl)) (hw _ (List.mem_of_getElem? (i := 60) rfl)) (by decide) (rm_low l Z a0 hw c3 h0 n0 O0) eT2 (g := (mkF m 39 #[.val (.ref a), .val (.int 4), .val (.int 3)] [(.int c3)])) rfl (by rw [hml]; rfl) [(.int c3)] [] (lenOf pd__C_Z rfl) rfl rfl (by show 2 * 0 + _ ≤ _; exact Nat.le_of_eq rfl) (hb hby d2_39) (by decide) (by decide) (by decide) (by decide) ?_
    intro v4 T4 L4 X4 q4
    obtain ⟨rfl, Nq4, eT4⟩ := q4
    have N4 := Fr.app N2 Nq4
    show Goes p e below _ T4 (mkF m 42 #[.val (.ref a), .val (.int 4), .val (.int 3)] [(.int (loV c3))])
    by_cases hpc42 : (loV c3) = (0 : Int32)
    · refine Goes.of (fun _ => XS.ifYes X4.here hx rfl (pc0 := 42) (pc' := 62) rfl (hb hby d2_42) rfl ((if0 _ _).trans (teq hpc42).1) (by decide) (by decide)) ?_
      show Goes p e below _ T4 (mkF m 62 #[.val (.ref a), .val (.int 4), .val (.int 3)] [])
      refine Goes.of (fun _ => XS.iconst X4.here hx rfl (hb hby d2_62)) ?_
      show Goes p e below _ T4 (mkF m 63 #[.val (.ref a), .val (.int 4), .val (.int 3)] [(.int 0)])
      exact retZ (t := .boolean) X4 hx hret hlk (by simp) (hb hby d2_63) eT4 (by decide) (by decide) ⟨by rw [if_pos hpc13, if_pos hpc42]; try first | rfl | (split <;> rfl), N4, rfl⟩
    · refine Goes.of (fun _ => XS.ifNo X4.here hx rfl (hb hby d2_42) rfl ((if0 _ _).trans (feq hpc42).1)) ?_
      show Goes p e below _ T4 (mkF m 45 #[.val (.ref a), .val (.int 4), .val (.int 3)] [])
      refine Goes.of (fun _ => XS.iloadN X4.here hx rfl (hb hby d2_45) rfl) ?_
      show Goes p e below _ T4 (mkF m 46 #[.val (.ref a), .val (.int 4), .val (.int 3)] [(.int 3)])
      refine Goes.of (fun _ => XS.ifNo X4.here hx rfl (hb hby d2_46) rfl ((if0 _ _).trans (tlt (by decide)).2.2.2)) ?_
      show Goes p e below _ T4 (mkF m 49 #[.val (.ref a), .val (.int 4), .val (.int 3)] [])
      refine Goes.of (fun _ => XS.aloadN X4.here hx rfl (hb hby d2_49) rfl rfl) ?_
      show Goes p e below _ T4 (mkF m 50 #[.val (.ref a), .val (.int 4), .val (.int 3)] [(.ref a)])
      refine Goes.of (fun _ => XS.iloadN X4.here hx rfl (hb hby d2_50) rfl) ?_
      show Goes p e below _ T4 (mkF m 51 #[.val (.ref a), .val (.int 4), .val (.int 3)] [(.int 3), (.ref a)])
      refine Goes.of (fun _ => XS.iconst X4.here hx rfl (hb hby d2_51)) ?_
      show Goes p e below _ T4 (mkF m 52 #[.val (.ref a), .val (.int 4), .val (.int 3)] [(.int 1), (.int 3), (.ref a)])
      refine Goes.of (fun _ => XS.isub X4.here hx rfl (hb hby d2_52) rfl) ?_
      show Goes p e below _ T4 (mkF m 53 #[.val (.ref a), .val (.int 4), .val (.int 3)] [(.int ((3 : Int32) - (1 : Int32))), (.ref a)])
      show Goes p e below _ T4 (mkF m 53 #[.val (.ref a), .val (.int 4), .val (.int 3)] [(.int 2), (.ref a)])
      refine goLdC (.int c2) X4 hx hZ eT4 Va (by decide) (by decide) rfl (g := (mkF m 53 #[.val (.ref a), .val (.int 4), .val (.int 3)] [(.int 2), (.ref a)])) rfl rfl (hb hby d2_53) ?_
      show Goes p e below _ T4 (mkF m 54 #[.val (.ref a), .val (.int 4), .val (.int 3)] [(.int c2)])
      refine goStatic 0 X4 hx hZ hown (hw _ (List.mem_of_getElem? (i := 55) rfl)) (hw _ (List.mem_of_getElem? (i := 56) rfl)) (hw _ (List.mem_of_getElem? (i := 3) rfl)) (hw _ (List.mem_of_getElem? (i := 57) rfl)) (by decide) (rm_high l Z a0 hw c2 h0 n0 O0) eT4 (g := (mkF m 54 #[.val (.ref a), .val (.int 4), .val (.int 3)] [(.int c2)])) rfl (by rw [hml]; rfl) [(.int c2)] [] (lenOf pd__C_Z rfl) rfl rfl (by show 2 * 0 + _ ≤ _; exact Nat.le_of_eq rfl) (hb hby d2_54) (by decide) (by decide) (by decide) (by decide) ?_
      intro v6 T6 L6 X6 q6
      obtain ⟨rfl, Nq6, eT6⟩ := q6
      have N6 := Fr.app N4 Nq6
      show Goes p e below _ T6 (mkF m 57 #[.val (.ref a), .val (.int 4), .val (.int 3)] [(.int (hiV c2))])
      by_cases hpc57 : (hiV c2) = (0 : Int32)
      · refine Goes.of (fun _ => XS.ifNo X6.here hx rfl (hb hby d2_57) rfl ((if0 _ _).trans (teq hpc57).2)) ?_
        show Goes p e below _ T6 (mkF m 60 #[.val (.ref a), .val (.int 4), .val (.int 3)] [])
        refine Goes.of (fun _ => XS.iconst X6.here hx rfl (hb hby d2_60)) ?_
        show Goes p e below _ T6 (mkF m 61 #[.val (.ref a), .val (.int 4), .val (.int 3)] [(.int 1)])
        exact retZ (t := .boolean) X6 hx hret hlk (by simp) (hb hby d2_61) eT6 (by decide) (by decide) ⟨by rw [if_pos hpc13, if_neg hpc42, if_pos hpc57]; try first | rfl | (split <;> rfl), N6, rfl⟩
      · refine Goes.of (fun _ => XS.ifYes X6.here hx rfl (pc0 := 57) (pc' := 62) rfl (hb hby d2_57) rfl ((if0 _ _).trans (feq hpc57).2) (by decide) (by decide)) ?_
        show Goes p e below _ T6 (mkF m 62 #[.val (.ref a), .val (.int 4), .val (.int 3)] [])
        refine Goes.of (fun _ => XS.iconst X6.here hx rfl (hb hby d2_62)) ?_
        show Goes p e below _ T6 (mkF m 63 #[.val (.ref a), .val (.int 4), .val (.int 3)] [(.int 0)])
        exact retZ (t := .boolean) X6 hx hret hlk (by simp) (hb hby d2_63) eT6 (by decide) (by decide) ⟨by rw [if_pos hpc13, if_neg hpc42, if_neg hpc57]; try first | rfl | (split <;> rfl), N6, rfl⟩
  · refine Goes.of (fun _ => XS.ifNo X2.here hx rfl (hb hby d2_13) rfl ((if0 _ _).trans (feq hpc13).1)) ?_
    show Goes p e below _ T2 (mkF m 16 #[.val (.ref a), .val (.int 4), .val (.int 3)] [])
    refine Goes.of (fun _ => XS.iloadN X2.here hx rfl (hb hby d2_16) rfl) ?_
    show Goes p e below _ T2 (mkF m 17 #[.val (.ref a), .val (.int 4), .val (.int 3)] [(.int 3)])
    refine Goes.of (fun _ => XS.iconst X2.here hx rfl (hb hby d2_17)) ?_
    show Goes p e below _ T2 (mkF m 18 #[.val (.ref a), .val (.int 4), .val (.int 3)] [(.int 1), (.int 3)])
    refine Goes.of (fun _ => XS.iadd X2.here hx rfl (hb hby d2_18) rfl) ?_
    show Goes p e below _ T2 (mkF m 19 #[.val (.ref a), .val (.int 4), .val (.int 3)] [(.int ((3 : Int32) + (1 : Int32)))])
    show Goes p e below _ T2 (mkF m 19 #[.val (.ref a), .val (.int 4), .val (.int 3)] [(.int 4)])
    refine Goes.of (fun _ => XS.iloadN X2.here hx rfl (hb hby d2_19) rfl) ?_
    show Goes p e below _ T2 (mkF m 20 #[.val (.ref a), .val (.int 4), .val (.int 3)] [(.int 4), (.int 4)])
    refine Goes.of (fun _ => XS.icmpYes X2.here hx rfl (pc0 := 20) (pc' := 34) rfl (hb hby d2_20) rfl (flt (by decide)).2.1 (by decide) (by decide)) ?_
    show Goes p e below _ T2 (mkF m 34 #[.val (.ref a), .val (.int 4), .val (.int 3)] [])
    refine Goes.of (fun _ => XS.iconst X2.here hx rfl (hb hby d2_34)) ?_
    show Goes p e below _ T2 (mkF m 35 #[.val (.ref a), .val (.int 4), .val (.int 3)] [(.int 1)])
    exact retZ (t := .boolean) X2 hx hret hlk (by simp) (hb hby d2_35) eT2 (by decide) (by decide) ⟨by rw [if_neg hpc13]; try first | rfl | (split <;> rfl), N2, rfl⟩
set_option maxRecDepth 65536 in
set_option maxHeartbeats 40000000 in
theorem rm_make_0 (l : Launch) (Z : State) (a0 : Array Value) (hw : ∀ d ∈ tables_1, d.before a0 Z = true) (a : Addr) (ka : ClassId) (c0 c1 c2 c3 : Int32) (cz : Int32) (h0 : Heap) (n0 : Nat) (O0 : Old Z n0 h0) (Sa : Sta Z Z.heap "java/lang/StringUTF16" "$assertionsDisabled" "Z" (.int 1)) (Sh : Sta Z Z.heap "java/lang/StringUTF16" "HI_BYTE_SHIFT" "I" (.int 0)) (Sl : Sta Z Z.heap "java/lang/StringUTF16" "LO_BYTE_SHIFT" "I" (.int 8)) (Sc : Sta Z Z.heap "java/lang/String" "COMPACT_STRINGS" "Z" (.int cz)) (hcz : ¬ cz = 0) (hz0 : ¬ c0 < 0 ∧ ¬ (65535 : Int32) < c0) (hz1 : ¬ c1 < 0 ∧ ¬ (65535 : Int32) < c1) (hz2 : ¬ c2 < 0 ∧ ¬ (65535 : Int32) < c2) (hz3 : ¬ c3 < 0 ∧ ¬ (65535 : Int32) < c3) (Va : Arv Z h0 a ka .char (4 : Int32) [(.int c0), (.int c1), (.int c2), (.int c3)] (.int 0)) :
    RmH l (⟨"com/example/latchwork/latchwork/core/LockNamesCheckPinLaw", "make", "([CI)Ljava/lang/String;"⟩ : MethodName) method_6_code 2 (some (.object "java/lang/String")) ({ frames := 3, cells := 6, slots := 12, locals := 43 } : Room) [] Z EL #[(.ref a), (.int 0)] h0 (fun v h L => ∃ b, v = some (.ref b) ∧ Fr n0 L ∧ Keep h0 h [] ∧ StU Z h b []) := by
  refine RmH.of (plainFor_of_name pn_com_example_latchwork_latchwork_core_LockNamesCheckPinLaw) ?_
  intro p e s m below meth cod T X hx hZ hby hml hown hnm hret hlk eT0 hS hk HC
  have hEL := hELof hw
  have wS := wSof hw
  have hown : s.vm.findClass "com/example/latchwork/latchwork/core/LockNamesCheckPinLaw" = some m.cls := hown
  have hnm : meth.name = "make" := hnm
  have N0 := Fr.nil n0
  have Kp := Keep.refl h0 []
  refine Goes.cast (ef_3 m a (0 : Int32)) ?_
  show Goes p e below _ T (mkF m 0 #[.val (.ref a), .val (.int 0)] [])
  refine Goes.of (fun _ => XS.iloadN X.here hx rfl (hb hby d3_0) rfl) ?_
  show Goes p e below _ T (mkF m 1 #[.val (.ref a), .val (.int 0)] [(.int 0)])
  refine Goes.of (fun _ => XS.ifNo X.here hx rfl (hb hby d3_1) rfl ((if0 _ _).trans (teq (by decide)).2)) ?_
  show Goes p e below _ T (mkF m 4 #[.val (.ref a), .val (.int 0)] [])
  refine goNew X hx hZ hown (hw _ (List.mem_of_getElem? (i := 14) rfl)) (hw _ (List.mem_of_getElem? (i := 15) rfl)) (hw _ (List.mem_of_getElem? (i := 16) rfl)) eT0 (g := (mkF m 4 #[.val (.ref a), .val (.int 0)] [])) rfl (hb hby d3_4) (by decide) (by decide) ?_
  intro T1 h1 b1 X1 eT1 E1 hb1 A1 D1
  have g_b1 : n0 ≤ b1 := Nat.le_trans (oldLe O0) hb1
  have sz_b1 : h0.size ≤ b1 := Nat.le_trans Kp.1 hb1
  have ne_a_b1 : a ≠ b1 := Nat.ne_of_lt (Nat.lt_of_lt_of_le Va.lt hb1)
  have Va := Va.ext E1
  have Kp := Kp.ext E1
  have hk := Nat.le_trans hk E1.1
  have HC := HC.trans (CHr.ext E1 HC.1)
  have O0 := O0.ext E1
  have F1_value : Fld Z h1 b1 "java/lang/String" "value" "[B" .null := D1 (Or.inr (hw _ (List.mem_of_getElem? (i := 29) rfl))) (ty := (.array .byte)) (by decide)
  have F1_coder : Fld Z h1 b1 "java/lang/String" "coder" "B" (.int 0) := D1 (Or.inr (hw _ (List.mem_of_getElem? (i := 30) rfl))) (ty := .byte) (by decide)
  show Goes p e below _ T1 (mkF m 7 #[.val (.ref a), .val (.int 0)] [(.ref b1)])
  refine Goes.of (fun _ => XS.dup X1.here hx rfl (hb hby d3_7) rfl rfl) ?_
  show Goes p e below _ T1 (mkF m 8 #[.val (.ref a), .val (.int 0)] [(.ref b1), (.ref b1)])
  refine Goes.of (fun _ => XS.iconst X1.here hx rfl (hb hby d3_8)) ?_
  show Goes p e below _ T1 (mkF m 9 #[.val (.ref a), .val (.int 0)] [(.int 0), (.ref b1), (.ref b1)])
  refine goNewP 0 X1 hx hZ (hw _ (List.mem_of_getElem? (i := 0) rfl)) eT1 (g := (mkF m 9 #[.val (.ref a), .val (.int 0)] [(.int 0), (.ref b1), (.ref b1)])) rfl (hb hby d3_9) rfl (by decide) (by decide) (by decide) (by decide) (by decide) (ad := "[C") (by first | rfl | decide) ?_
  intro T2 h2 b2 kA2 X2 eT2 E2 hb2 V2 A2
  have g_b2 : n0 ≤ b2 := Nat.le_trans (oldLe O0) hb2
  have sz_b2 : h0.size ≤ b2 := Nat.le_trans Kp.1 hb2
  have ne_a_b2 : a ≠ b2 := Nat.ne_of_lt (Nat.lt_of_lt_of_le Va.lt hb2)
  have ne_b1_b2 : b1 ≠ b2 := Nat.ne_of_lt (Nat.lt_of_lt_of_le A1.lt hb2)
  have Va := Va.ext E2
  have A1 := A1.ext E2
  have F1_value := F1_value.ext E2
  have F1_coder := F1_coder.ext E2
  have Kp := Kp.ext E2
  have hk := Nat.le_trans hk E2.1
  have HC := HC.trans (CHr.ext E2 HC.1)
  have O0 := O0.ext E2
  have V2 : Arv Z h2 b2 kA2 .char (0 : Int32) [] (.int 0) := V2
  show Goes p e below _ T2 (mkF m 11 #[.val (.ref a), .val (.int 0)] [(.ref b2), (.ref b1), (.ref b1)])
  refine goSpecialW 1 X2 hS hk hEL HC hx hZ rfl hown (hw _ (List.mem_of_getElem? (i := 17) rfl)) (hw _ (List.mem_of_getElem? (i := 18) rfl)) (hw _ (List.mem_of_getElem? (i := 16) rfl)) (hw _ (List.mem_of_getElem? (i := 19) rfl)) (by decide) (rm_sinit0 l Z a0 hw b1 b2 _ _ _ h2 n0 O0 g_b1 A1 F1_value F1_coder ne_b1_b2 V2) eT2 (g := (mkF m 11 #[.val (.ref a), .val (.int 0)] [(.ref b2), (.ref b1), (.ref b1)])) rfl (by rw [hml]; rfl) b1 [(.ref b2)] [(.ref b1)] (lenOf pd___C_V rfl) rfl rfl (by show 2 * 0 + _ ≤ _; exact Nat.le_of_eq rfl) (hb hby d3_11) (by decide) (by decide) (by decide) (by decide) ?_
  intro v3 T3 L3 kk3 X3 hS hk hZ hown HC q3
  obtain ⟨rfl, Nq3, Kq3, Su3⟩ := q3
  have N3 := Fr.app N0 Nq3
  have Va := Va.keep Kq3 (ninS ne_a_b1 nin0)
  have A1 := A1.keep Kq3
  have V2 := V2.keep Kq3 (ninS (Ne.symm ne_b1_b2) nin0)
  have A2 := A2.keep Kq3
  have Kp := Kp.trans Kq3 (allS (Or.inr sz_b1) all0)
  have O0 := O0.keep Kq3 (allS g_b1 all0)
  show Goes p e below _ T3 (mkF m 14 #[.val (.ref a), .val (.int 0)] [(.ref b1)])
  exact retRefW X3 hS hk hZ hEL HC hx hret hlk rfl rfl (hb hby d3_14) (rfl : T3.heap = _) (by decide) (by decide) ⟨b1, rfl, N3, Kp, by have q := Su3; exact q⟩
set_option maxRecDepth 65536 in
set_option maxHeartbeats 40000000 in
theorem rm_make_1 (l : Launch) (Z : State) (a0 : Array Value) (hw : ∀ d ∈ tables_1, d.before a0 Z = true) (a : Addr) (ka : ClassId) (c0 c1 c2 c3 : Int32) (cz : Int32) (h0 : Heap) (n0 : Nat) (O0 : Old Z n0 h0) (Sa : Sta Z Z.heap "java/lang/StringUTF16" "$assertionsDisabled" "Z" (.int 1)) (Sh : Sta Z Z.heap "java/lang/StringUTF16" "HI_BYTE_SHIFT" "I" (.int 0)) (Sl : Sta Z Z.heap "java/lang/StringUTF16" "LO_BYTE_SHIFT" "I" (.int 8)) (Sc : Sta Z Z.heap "java/lang/String" "COMPACT_STRINGS" "Z" (.int cz)) (hcz : ¬ cz = 0) (hz0 : ¬ c0 < 0 ∧ ¬ (65535 : Int32) < c0) (hz1 : ¬ c1 < 0 ∧ ¬ (65535 : Int32) < c1) (hz2 : ¬ c2 < 0 ∧ ¬ (65535 : Int32) < c2) (hz3 : ¬ c3 < 0 ∧ ¬ (65535 : Int32) < c3) (Va : Arv Z h0 a ka .char (4 : Int32) [(.int c0), (.int c1), (.int c2), (.int c3)] (.int 0)) :
    Rm l (⟨"com/example/latchwork/latchwork/core/LockNamesCheckPinLaw", "make", "([CI)Ljava/lang/String;"⟩ : MethodName) method_6_code 2 (some (.object "java/lang/String")) ({ frames := 6, cells := 4, slots := 49157, locals := 88 } : Room) [] Z #[(.ref a), (.int 1)] h0 (fun v h L => ∃ b, v = some (.ref b) ∧ Fr n0 L ∧ Keep h0 h [] ∧ StU Z h b [c0]) := by
  refine Rm.of (plainFor_of_name pn_com_example_latchwork_latchwork_core_LockNamesCheckPinLaw) ?_
  intro p e s m below meth cod T X hx hZ hby hml hown hnm hret hlk eT0
  have hown : s.vm.findClass "com/example/latchwork/latchwork/core/LockNamesCheckPinLaw" = some m.cls := hown
  have hnm : meth.name = "make" := hnm
  have N0 := Fr.nil n0
  have Kp := Keep.refl h0 []
  refine Goes.cast (ef_3 m a (1 : Int32)) ?_
  show Goes p e below _ T (mkF m 0 #[.val (.ref a), .val (.int 1)] [])
  refine Goes.of (fun _ => XS.iloadN X.here hx rfl (hb hby d3_0) rfl) ?_
  show Goes p e below _ T (mkF m 1 #[.val (.ref a), .val (.int 1)] [(.int 1)])
  refine Goes.of (fun _ => XS.ifYes X.here hx rfl (pc0 := 1) (pc' := 15) rfl (hb hby d3_1) rfl ((if0 _ _).trans (feq (by decide)).2) (by decide) (by decide)) ?_
  show Goes p e below _ T (mkF m 15 #[.val (.ref a), .val (.int 1)] [])
  refine Goes.of (fun _ => XS.iloadN X.here hx rfl (hb hby d3_15) rfl) ?_
  show Goes p e below _ T (mkF m 16 #[.val (.ref a), .val (.int 1)] [(.int 1)])
  refine Goes.of (fun _ => XS.iconst X.here hx rfl (hb hby d3_16)) ?_
  show Goes p e below _ T (mkF m 17 #[.val (.ref a), .val (.int 1)] [(.int 1), (.int 1)])
  refine Goes.of (fun _ => XS.icmpNo X.here hx rfl (hb hby d3_17) rfl (teq (by decide)).2) ?_
  show Goes p e below _ T (mkF m 20 #[.val (.ref a), .val (.int 1)] [])
  refine goNew X hx hZ hown (hw _ (List.mem_of_getElem? (i := 14) rfl)) (hw _ (List.mem_of_getElem? (i := 15) rfl)) (hw _ (List.mem_of_getElem? (i := 16) rfl)) eT0 (g := (mkF m 20 #[.val (.ref a), .val (.int 1)] [])) rfl (hb hby d3_20) (by decide) (by decide) ?_
  intro T1 h1 b1 X1 eT1 E1 hb1 A1 D1
  have g_b1 : n0 ≤ b1 := Nat.le_trans (oldLe O0) hb1
  have sz_b1 : h0.size ≤ b1 := Nat.le_trans Kp.1 hb1
  have ne_a_b1 : a ≠ b1 := Nat.ne_of_lt (Nat.lt_of_lt_of_le Va.lt hb1)
  have Va := Va.ext E1
  have Kp := Kp.ext E1
  have O0 := O0.ext E1
  have F1_value : Fld Z h1 b1 "java/lang/String" "value" "[B" .null := D1 (Or.inr (hw _ (List.mem_of_getElem? (i := 29) rfl))) (ty := (.array .byte)) (by decide)
  have F1_coder : Fld Z h1 b1 "java/lang/String" "coder" "B" (.int 0) := D1 (Or.inr (hw _ (List.mem_of_getElem? (i := 30) rfl))) (ty := .byte) (by decide)
  show Goes p e below _ T1 (mkF m 23 #[.val (.ref a), .val (.int 1)] [(.ref b1)])
  refine Goes.of (fun _ => XS.dup X1.here hx rfl (hb hby d3_23) rfl rfl) ?_
  show Goes p e below _ T1 (mkF m 24 #[.val (.ref a), .val (.int 1)] [(.ref b1), (.ref b1)])
  refine Goes.of (fun _ => XS.iconst X1.here hx rfl (hb hby d3_24)) ?_
  show Goes p e below _ T1 (mkF m 25 #[.val (.ref a), .val (.int 1)] [(.int 1), (.ref b1), (.ref b1)])
  refine goNewP 1 X1 hx hZ (hw _ (List.mem_of_getElem? (i := 0) rfl)) eT1 (g := (mkF m 25 #[.val (.ref a), .val (.int 1)] [(.int 1), (.ref b1), (.ref b1)])) rfl (hb hby d3_25) rfl (by decide) (by decide) (by decide) (by decide) (by decide) (ad := "[C") (by first | rfl | decide) ?_
  intro T2 h2 b2 kA2 X2 eT2 E2 hb2 V2 A2
  have g_b2 : n0 ≤ b2 := Nat.le_trans (oldLe O0) hb2
  have sz_b2 : h0.size ≤ b2 := Nat.le_trans Kp.1 hb2
  have ne_a_b2 : a ≠ b2 := Nat.ne_of_lt (Nat.lt_of_lt_of_le Va.lt hb2)
  have ne_b1_b2 : b1 ≠ b2 := Nat.ne_of_lt (Nat.lt_of_lt_of_le A1.lt hb2)
  have Va := Va.ext E2
  have A1 := A1.ext E2
  have F1_value := F1_value.ext E2
  have F1_coder := F1_coder.ext E2
  have Kp := Kp.ext E2
  have O0 := O0.ext E2
  have V2 : Arv Z h2 b2 kA2 .char (1 : Int32) [(.int 0)] (.int 0) := V2
  show Goes p e below _ T2 (mkF m 27 #[.val (.ref a), .val (.int 1)] [(.ref b2), (.ref b1), (.ref b1)])
  refine Goes.of (fun _ => XS.dup X2.here hx rfl (hb hby d3_27) rfl rfl) ?_
  show Goes p e below _ T2 (mkF m 28 #[.val (.ref a), .val (.int 1)] [(.ref b2), (.ref b2), (.ref b1), (.ref b1)])
  refine Goes.of (fun _ => XS.iconst X2.here hx rfl (hb hby d3_28)) ?_
  show Goes p e below _ T2 (mkF m 29 #[.val (.ref a), .val (.int 1)] [(.int 0), (.ref b2), (.ref b2), (.ref b1), (.ref b1)])
  refine Goes.of (fun _ => XS.aloadN X2.here hx rfl (hb hby d3_29) rfl rfl) ?_
  show Goes p e below _ T2 (mkF m 30 #[.val (.ref a), .val (.int 1)] [(.ref a), (.int 0), (.ref b2), (.ref b2), (.ref b1), (.ref b1)])
  refine Goes.of (fun _ => XS.iconst X2.here hx rfl (hb hby d3_30)) ?_
  show Goes p e below _ T2 (mkF m 31 #[.val (.ref a), .val (.int 1)] [(.int 0), (.ref a), (.int 0), (.ref b2), (.ref b2), (.ref b1), (.ref b1)])
  refine goLdC (.int c0) X2 hx hZ eT2 Va (by decide) (by decide) rfl (g := (mkF m 31 #[.val (.ref a), .val (.int 1)] [(.int 0), (.ref a), (.int 0), (.ref b2), (.ref b2), (.ref b1), (.ref b1)])) rfl rfl (hb hby d3_31) ?_
  show Goes p e below _ T2 (mkF m 32 #[.val (.ref a), .val (.int 1)] [(.int c0), (.int 0), (.ref b2), (.ref b2), (.ref b1), (.ref b1)])
  refine goStC 0 X2 hx hZ eT2 V2 (by decide) (by decide) rfl (Nat.lt_of_lt_of_le (Nat.lt_succ_self _) (Nat.le_of_ble_eq_true rfl)) (g := (mkF m 32 #[.val (.ref a), .val (.int 1)] [(.int c0), (.int 0), (.ref b2), (.ref b2), (.ref b1), (.ref b1)])) rfl rfl (hb hby d3_32) ?_
  intro T4 h4 X4 eT4 W4 V2
  have N4 := Fr.snoc X4 N0 g_b2
  have Va := Va.other W4 ne_a_b2
  have A1 := A1.wr W4
  have F1_value := F1_value.other W4 (Or.inl ne_b1_b2)
  have F1_coder := F1_coder.other W4 (Or.inl ne_b1_b2)
  have A2 := A2.wr W4
  have Kp := Kp.wr W4 (Or.inr sz_b2)
  have O0 := O0.wr W4 g_b2
  have V2 : Arv Z h4 b2 kA2 .char (1 : Int32) [(.int (nar .char c0))] (.int 0) := V2
  show Goes p e below _ T4 (mkF m 33 #[.val (.ref a), .val (.int 1)] [(.ref b2), (.ref b1), (.ref b1)])
  refine goSpecial 1 X4 hx hZ rfl hown (hw _ (List.mem_of_getElem? (i := 17) rfl)) (hw _ (List.mem_of_getElem? (i := 18) rfl)) (hw _ (List.mem_of_getElem? (i := 16) rfl)) (hw _ (List.mem_of_getElem? (i := 19) rfl)) (by decide) (rm_sin1 l Z a0 hw b1 b2 _ [(nar .char c0)] cz h4 n0 O0 Sa Sh Sl Sc hcz g_b1 A1 F1_value F1_coder (by simp) (by simp) (by intro c hc; simp only [List.mem_cons, List.not_mem_nil, or_false] at hc; rcases hc with rfl <;> exact char16 _) ne_b1_b2 V2) eT4 (g := (mkF m 33 #[.val (.ref a), .val (.int 1)] [(.ref b2), (.ref b1), (.ref b1)])) rfl (by rw [hml]; rfl) b1 [(.ref b2)] [(.ref b1)] (lenOf pd___C_V rfl) rfl rfl (by show 2 * 0 + _ ≤ _; exact Nat.le_of_eq rfl) (hb hby d3_33) (by decide) (by decide) (by decide) (by decide) ?_
  intro v5 T5 L5 X5 q5
  obtain ⟨rfl, Nq5, Kq5, Su5⟩ := q5
  have N5 := Fr.app N4 Nq5
  have Va := Va.keep Kq5 (ninS ne_a_b1 nin0)
  have A1 := A1.keep Kq5
  have V2 := V2.keep Kq5 (ninS (Ne.symm ne_b1_b2) nin0)
  have A2 := A2.keep Kq5
  have Kp := Kp.trans Kq5 (allS (Or.inr sz_b1) all0)
  have O0 := O0.keep Kq5 (allS g_b1 all0)
  show Goes p e below _ T5 (mkF m 36 #[.val (.ref a), .val (.int 1)] [(.ref b1)])
  exact retRef X5 hx hret hlk rfl rfl (hb hby d3_36) (rfl : T5.heap = _) (by decide) (by decide) ⟨b1, rfl, N5, Kp, by have q := Su5; rw [narC hz0] at q; exact q⟩
set_option maxRecDepth 65536 in
set_option maxHeartbeats 40000000 in
theorem rm_make_2 (l : Launch) (Z : State) (a0 : Array Value) (hw : ∀ d ∈ tables_1, d.before a0 Z = true) (a : Addr) (ka : ClassId) (c0 c1 c2 c3 : Int32) (cz : Int32) (h0 : Heap) (n0 : Nat) (O0 : Old Z n0 h0) (Sa : Sta Z Z.heap "java/lang/StringUTF16" "$assertionsDisabled" "Z" (.int 1)) (Sh : Sta Z Z.heap "java/lang/StringUTF16" "HI_BYTE_SHIFT" "I" (.int 0)) (Sl : Sta Z Z.heap "java/lang/StringUTF16" "LO_BYTE_SHIFT" "I" (.int 8)) (Sc : Sta Z Z.heap "java/lang/String" "COMPACT_STRINGS" "Z" (.int cz)) (hcz : ¬ cz = 0) (hz0 : ¬ c0 < 0 ∧ ¬ (65535 : Int32) < c0) (hz1 : ¬ c1 < 0 ∧ ¬ (65535 : Int32) < c1) (hz2 : ¬ c2 < 0 ∧ ¬ (65535 : Int32) < c2) (hz3 : ¬ c3 < 0 ∧ ¬ (65535 : Int32) < c3) (Va : Arv Z h0 a ka .char (4 : Int32) [(.int c0), (.int c1), (.int c2), (.int c3)] (.int 0)) :
    Rm l (⟨"com/example/latchwork/latchwork/core/LockNamesCheckPinLaw", "make", "([CI)Ljava/lang/String;"⟩ : MethodName) method_6_code 2 (some (.object "java/lang/String")) ({ frames := 6, cells := 4, slots := 49158, locals := 88 } : Room) [] Z #[(.ref a), (.int 2)] h0 (fun v h L => ∃ b, v = some (.ref b) ∧ Fr n0 L ∧ Keep h0 h [] ∧ StU Z h b [c0, c1]) := by
  refine Rm.of (plainFor_of_name pn_com_example_latchwork_latchwork_core_LockNamesCheckPinLaw) ?_
  intro p e s m below meth cod T X hx hZ hby hml hown hnm hret hlk eT0
  have hown : s.vm.findClass "com/example/latchwork/latchwork/core/LockNamesCheckPinLaw" = some m.cls := hown
  have hnm : meth.name = "make" := hnm
  have N0 := Fr.nil n0
  have Kp := Keep.refl h0 []
  refine Goes.cast (ef_3 m a (2 : Int32)) ?_
  show Goes p e below _ T (mkF m 0 #[.val (.ref a), .val (.int 2)] [])
  refine Goes.of (fun _ => XS.iloadN X.here hx rfl (hb hby d3_0) rfl) ?_
  show Goes p e below _ T (mkF m 1 #[.val (.ref a), .val (.int 2)] [(.int 2)])
  refine Goes.of (fun _ => XS.ifYes X.here hx rfl (pc0 := 1) (pc' := 15) rfl (hb hby d3_1) rfl ((if0 _ _).trans (feq (by decide)).2) (by decide) (by decide)) ?_
  show Goes p e below _ T (mkF m 15 #[.val (.ref a), .val (.int 2)] [])
  refine Goes.of (fun _ => XS.iloadN X.here hx rfl (hb hby d3_15) rfl) ?_
  show Goes p e below _ T (mkF m 16 #[.val (.ref a), .val (.int 2)] [(.int 2)])
  refine Goes.of (fun _ => XS.iconst X.here hx rfl (hb hby d3_16)) ?_
  show Goes p e below _ T (mkF m 17 #[.val (.ref a), .val (.int 2)] [(.int 1), (.int 2)])
  refine Goes.of (fun _ => XS.icmpYes X.here hx rfl (pc0 := 17) (pc' := 37) rfl (hb hby d3_17) rfl (feq (by decide)).2 (by decide) (by decide)) ?_
  show Goes p e below _ T (mkF m 37 #[.val (.ref a), .val (.int 2)] [])
  refine Goes.of (fun _ => XS.iloadN X.here hx rfl (hb hby d3_37) rfl) ?_
  show Goes p e below _ T (mkF m 38 #[.val (.ref a), .val (.int 2)] [(.int 2)])
  refine Goes.of (fun _ => XS.iconst X.here hx rfl (hb hby d3_38)) ?_
  show Goes p e below _ T (mkF m 39 #[.val (.ref a), .val (.int 2)] [(.int 2), (.int 2)])
  refine Goes.of (fun _ => XS.icmpNo X.here hx rfl (hb hby d3_39) rfl (teq (by decide)).2) ?_
  show Goes p e below _ T (mkF m 42 #[.val (.ref a), .val (.int 2)] [])
  refine goNew X hx hZ hown (hw _ (List.mem_of_getElem? (i := 14) rfl)) (hw _ (List.mem_of_getElem? (i := 15) rfl)) (hw _ (List.mem_of_getElem? (i := 16) rfl)) eT0 (g := (mkF m 42 #[.val (.ref a), .val (.int 2)] [])) rfl (hb hby d3_42) (by decide) (by decide) ?_
  intro T1 h1 b1 X1 eT1 E1 hb1 A1 D1
  have g_b1 : n0 ≤ b1 := Nat.le_trans (oldLe O0) hb1
  have sz_b1 : h0.size ≤ b1 := Nat.le_trans Kp.1 hb1
  have ne_a_b1 : a ≠ b1 := Nat.ne_of_lt (Nat.lt_of_lt_of_le Va.lt hb1)
  have Va := Va.ext E1
  have Kp := Kp.ext E1
  have O0 := O0.ext E1
  have F1_value : Fld Z h1 b1 "java/lang/String" "value" "[B" .null := D1 (Or.inr (hw _ (List.mem_of_getElem? (i := 29) rfl))) (ty := (.array .byte)) (by decide)
  have F1_coder : Fld Z h1 b1 "java/lang/String" "coder" "B" (.int 0) := D1 (Or.inr (hw _ (List.mem_of_getElem? (i := 30) rfl))) (ty := .byte) (by decide)
  show Goes p e below _ T1 (mkF m 45 #[.val (.ref a), .val (.int 2)] [(.ref b1)])
  refine Goes.of (fun _ => XS.dup X1.here hx rfl (hb hby d3_45) rfl rfl) ?_
  show Goes p e below _ T1 (mkF m 46 #[.val (.ref a), .val (.int 2)] [(.ref b1), (.ref b1)])
  refine Goes.of (fun _ => XS.iconst X1.here hx rfl (hb hby d3_46)) ?_
  show Goes p e below _ T1 (mkF m 47 #[.val (.ref a), .val (.int 2)] [(.int 2), (.ref b1), (.ref b1)])
  refine goNewP 2 X1 hx hZ (hw _ (List.mem_of_getElem? (i := 0) rfl)) eT1 (g := (mkF m 47 #[.val (.ref a), .val (.int 2)] [(.int 2), (.ref b1), (.ref b1)])) rfl (hb hby d3_47) rfl (by decide) (by decide) (by decide) (by decide) (by decide) (ad := "[C") (by first | rfl | decide) ?_
  intro T2 h2 b2 kA2 X2 eT2 E2 hb2 V2 A2
  have g_b2 : n0 ≤ b2 := Nat.le_trans (oldLe O0) hb2
  have sz_b2 : h0.size ≤ b2 := Nat.le_trans Kp.1 hb2
  have ne_a_b2 : a ≠ b2 := Nat.ne_of_lt (Nat.lt_of_lt_of_le Va.lt hb2)
  have ne_b1_b2 : b1 ≠ b2 := Nat.ne_of_lt (Nat.lt_of_lt_of_le A1.lt hb2)
  have Va := Va.ext E2
  have A1 := A1.ext E2
  have F1_value := F1_value.ext E2
  have F1_coder := F1_coder.ext E2
  have Kp := Kp.ext E2
  have O0 := O0.ext E2
  have V2 : Arv Z h2 b2 kA2 .char (2 : Int32) [(.int 0), (.int 0)] (.int 0) := V2
  show Goes p e below _ T2 (mkF m 49 #[.val (.ref a), .val (.int 2)] [(.ref b2), (.ref b1), (.ref b1)])
  refine Goes.of (fun _ => XS.dup X2.here hx rfl (hb hby d3_49) rfl rfl) ?_
  show Goes p e below _ T2 (mkF m 50 #[.val (.ref a), .val (.int 2)] [(.ref b2), (.ref b2), (.ref b1), (.ref b1)])
  refine Goes.of (fun _ => XS.iconst X2.here hx rfl (hb hby d3_50)) ?_
  show Goes p e below _ T2 (mkF m 51 #[.val (.ref a), .val (.int 2)] [(.int 0), (.ref b2), (.ref b2), (.ref b1), (.ref b1)])
  refine Goes.of (fun _ => XS.aloadN X2.here hx rfl (hb hby d3_51) rfl rfl) ?_
  show Goes p e below _ T2 (mkF m 52 #[.val (.ref a), .val (.int 2)] [(.ref a), (.int 0), (.ref b2), (.ref b2), (.ref b1), (.ref b1)])
  refine Goes.of (fun _ => XS.iconst X2.here hx rfl (hb hby d3_52)) ?_
  show Goes p e below _ T2 (mkF m 53 #[.val (.ref a), .val (.int 2)] [(.int 0), (.ref a), (.int 0), (.ref b2), (.ref b2), (.ref b1), (.ref b1)])
  refine goLdC (.int c0) X2 hx hZ eT2 Va (by decide) (by decide) rfl (g := (mkF m 53 #[.val (.ref a), .val (.int 2)] [(.int 0), (.ref a), (.int 0), (.ref b2), (.ref b2), (.ref b1), (.ref b1)])) rfl rfl (hb hby d3_53) ?_
  show Goes p e below _ T2 (mkF m 54 #[.val (.ref a), .val (.int 2)] [(.int c0), (.int 0), (.ref b2), (.ref b2), (.ref b1), (.ref b1)])
  refine goStC 0 X2 hx hZ eT2 V2 (by decide) (by decide) rfl (Nat.lt_of_lt_of_le (Nat.lt_succ_self _) (Nat.le_of_ble_eq_true rfl)) (g := (mkF m 54 #[.val (.ref a), .val (.int 2)] [(.int c0), (.int 0), (.ref b2), (.ref b2), (.ref b1), (.ref b1)])) rfl rfl (hb hby d3_54) ?_
  intro T4 h4 X4 eT4 W4 V2
  have N4 := Fr.snoc X4 N0 g_b2
  have Va := Va.other W4 ne_a_b2
  have A1 := A1.wr W4
  have F1_value := F1_value.other W4 (Or.inl ne_b1_b2)
  have F1_coder := F1_coder.other W4 (Or.inl ne_b1_b2)
  have A2 := A2.wr W4
  have Kp := Kp.wr W4 (Or.inr sz_b2)
  have O0 := O0.wr W4 g_b2
  have V2 : Arv Z h4 b2 kA2 .char (2 : Int32) [(.int (nar .char c0)), (.int 0)] (.int 0) := V2
  show Goes p e below _ T4 (mkF m 55 #[.val (.ref a), .val (.int 2)] [(.ref b2), (.ref b1), (.ref b1)])
  refine Goes.of (fun _ => XS.dup X4.here hx rfl (hb hby d3_55) rfl rfl) ?_
  show Goes p e below _ T4 (mkF m 56 #[.val (.ref a), .val (.int 2)] [(.ref b2), (.ref b2), (.ref b1), (.ref b1)])
  refine Goes.of (fun _ => XS.iconst X4.here hx rfl (hb hby d3_56)) ?_
  show Goes p e below _ T4 (mkF m 57 #[.val (.ref a), .val (.int 2)] [(.int 1), (.ref b2), (.ref b2), (.ref b1), (.ref b1)])
  refine Goes.of (fun _ => XS.aloadN X4.here hx rfl (hb hby d3_57) rfl rfl) ?_
  show Goes p e below _ T4 (mkF m 58 #[.val (.ref a), .val (.int 2)] [(.ref a), (.int 1), (.ref b2), (.ref b2), (.ref b1), (.ref b1)])
  refine Goes.of (fun _ => XS.iconst X4.here hx rfl (hb hby d3_58)) ?_
  show Goes p e below _ T4 (mkF m 59 #[.val (.ref a), .val (.int 2)] [(.int 1), (.ref a), (.int 1), (.ref b2), (.ref b2), (.ref b1), (.ref b1)])
  refine goLdC (.int c1) X4 hx hZ eT4 Va (by decide) (by decide) rfl (g := (mkF m 59 #[.val (.ref a), .val (.int 2)] [(.int 1), (.ref a), (.int 1), (.ref b2), (.ref b2), (.ref b1), (.ref b1)])) rfl rfl (hb hby d3_59) ?_
  show Goes p e below _ T4 (mkF m 60 #[.val (.ref a), .val (.int 2)] [(.int c1), (.int 1), (.ref b2), (.ref b2), (.ref b1), (.ref b1)])
  refine goStC 1 X4 hx hZ eT4 V2 (by decide) (by decide) rfl (Nat.lt_of_lt_of_le (Nat.lt_succ_self _) (Nat.le_of_ble_eq_true rfl)) (g := (mkF m 60 #[.val (.ref a), .val (.int 2)] [(.int c1), (.int 1), (.ref b2), (.ref b2), (.ref b1), (.ref b1)])) rfl rfl (hb hby d3_60) ?_
  intro T6 h6 X6 eT6 W6 V2
  have N6 := Fr.snoc X6 N4 g_b2
  have Va := Va.other W6 ne_a_b2
  have A1 := A1.wr W6
  have F1_value := F1_value.other W6 (Or.inl ne_b1_b2)
  have F1_coder := F1_coder.other W6 (Or.inl ne_b1_b2)
  have A2 := A2.wr W6
  have Kp := Kp.wr W6 (Or.inr sz_b2)
  have O0 := O0.wr W6 g_b2
  have V2 : Arv Z h6 b2 kA2 .char (2 : Int32) [(.int (nar .char c0)), (.int (nar .char c1))] (.int 0) := V2
  show Goes p e below _ T6 (mkF m 61 #[.val (.ref a), .val (.int 2)] [(.ref b2), (.ref b1), (.ref b1)])
  refine goSpecial 1 X6 hx hZ rfl hown (hw _ (List.mem_of_getElem? (i := 17) rfl)) (hw _ (List.mem_of_getElem? (i := 18) rfl)) (hw _ (List.mem_of_getElem? (i := 16) rfl)) (hw _ (List.mem_of_getElem? (i := 19) rfl)) (by decide) (rm_sin1 l Z a0 hw b1 b2 _ [(nar .char c0), (nar .char c1)] cz h6 n0 O0 Sa Sh Sl Sc hcz g_b1 A1 F1_value F1_coder (by simp) (by simp) (by intro c hc; simp only [List.mem_cons, List.not_mem_nil, or_false] at hc; rcases hc with rfl | rfl <;> exact char16 _) ne_b1_b2 V2) eT6 (g := (mkF m 61 #[.val (.ref a), .val (.int 2)] [(.ref b2), (.ref b1), (.ref b1)])) rfl (by rw [hml]; rfl) b1 [(.ref b2)] [(.ref b1)] (lenOf pd___C_V rfl) rfl rfl (by show 2 * 0 + _ ≤ _; exact Nat.le_of_eq rfl) (hb hby d3_61) (by decide) (by decide) (by decide) (by decide) ?_
  intro v7 T7 L7 X7 q7
  obtain ⟨rfl, Nq7, Kq7, Su7⟩ := q7
  have N7 := Fr.app N6 Nq7
  have Va := Va.keep Kq7 (ninS ne_a_b1 nin0)
  have A1 := A1.keep Kq7
  have V2 := V2.keep Kq7 (ninS (Ne.symm ne_b1_b2) nin0)
  have A2 := A2.keep Kq7
  have Kp := Kp.trans Kq7 (allS (Or.inr sz_b1) all0)
  have O0 := O0.keep Kq7 (allS g_b1 all0)
  show Goes p e below _ T7 (mkF m 64 #[.val (.ref a), .val (.int 2)] [(.ref b1)])
  exact retRef X7 hx hret hlk rfl rfl (hb hby d3_64) (rfl : T7.heap = _) (by decide) (by decide) ⟨b1, rfl, N7, Kp, by have q := Su7; rw [narC hz0, narC hz1] at q; exact q⟩
set_option maxRecDepth 65536 in
set_option maxHeartbeats 40000000 in
theorem rm_make_3 (l : Launch) (Z : State) (a0 : Array Value) (hw : ∀ d ∈ tables_1, d.before a0 Z = true) (a : Addr) (ka : ClassId) (c0 c1 c2 c3 : Int32) (cz : Int32) (h0 : Heap) (n0 : Nat) (O0 : Old Z n0 h0) (Sa : Sta Z Z.heap "java/lang/StringUTF16" "$assertionsDisabled" "Z" (.int 1)) (Sh : Sta Z Z.heap "java/lang/StringUTF16" "HI_BYTE_SHIFT" "I" (.int 0)) (Sl : Sta Z Z.heap "java/lang/StringUTF16" "LO_BYTE_SHIFT" "I" (.int 8)) (Sc : Sta Z Z.heap "java/lang/String" "COMPACT_STRINGS" "Z" (.int cz)) (hcz : ¬ cz = 0) (hz0 : ¬ c0 < 0 ∧ ¬ (65535 : Int32) < c0) (hz1 : ¬ c1 < 0 ∧ ¬ (65535 : Int32) < c1) (hz2 : ¬ c2 < 0 ∧ ¬ (65535 : Int32) < c2) (hz3 : ¬ c3 < 0 ∧ ¬ (65535 : Int32) < c3) (Va : Arv Z h0 a ka .char (4 : Int32) [(.int c0), (.int c1), (.int c2), (.int c3)] (.int 0)) :
    Rm l (⟨"com/example/latchwork/latchwork/core/LockNamesCheckPinLaw", "make", "([CI)Ljava/lang/String;"⟩ : MethodName) method_6_code 2 (some (.object "java/lang/String")) ({ frames := 6, cells := 4, slots := 49159, locals := 88 } : Room) [] Z #[(.ref a), (.int 3)] h0 (fun v h L => ∃ b, v = some (.ref b) ∧ Fr n0 L ∧ Keep h0 h [] ∧ StU Z h b [c0, c1, c2]) := by
  refine Rm.of (plainFor_of_name pn_com_example_latchwork_latchwork_core_LockNamesCheckPinLaw) ?_
  intro p e s m below meth cod T X hx hZ hby hml hown hnm hret hlk eT0
  have hown : s.vm.findClass "com/example/latchwork/latchwork/core/LockNamesCheckPinLaw" = some m.cls := hown
  have hnm : meth.name = "make" := hnm
  have N0 := Fr.nil n0
  have Kp := Keep.refl h0 []
  refine Goes.cast (ef_3 m a (3 : Int32)) ?_
  show Goes p e below _ T (mkF m 0 #[.val (.ref a), .val (.int 3)] [])
  refine Goes.of (fun _ => XS.iloadN X.here hx rfl (hb hby d3_0) rfl) ?_
  show Goes p e below _ T (mkF m 1 #[.val (.ref a), .val (.int 3)] [(.int 3)])
  refine Goes.of (fun _ => XS.ifYes X.here hx rfl (pc0 := 1) (pc' := 15) rfl (hb hby d3_1) rfl ((if0 _ _).trans (feq (by decide)).2) (by decide) (by decide)) ?_
  show Goes p e below _ T (mkF m 15 #[.val (.ref a), .val (.int 3)] [])
  refine Goes.of (fun _ => XS.iloadN X.here hx rfl (hb hby d3_15) rfl) ?_
  show Goes p e below _ T (mkF m 16 #[.val (.ref a), .val (.int 3)] [(.int 3)])
  refine Goes.of (fun _ => XS.iconst X.here hx rfl (hb hby d3_16)) ?_
  show Goes p e below _ T (mkF m 17 #[.val (.ref a), .val (.int 3)] [(.int 1), (.int 3)])
  refine Goes.of (fun _ => XS.icmpYes X.here hx rfl (pc0 := 17) (pc' := 37) rfl (hb hby d3_17) rfl (feq (by decide)).2 (by decide) (by decide)) ?_
  show Goes p e below _ T (mkF m 37 #[.val (.ref a), .val (.int 3)] [])
  refine Goes.of (fun _ => XS.iloadN X.here hx rfl (hb hby d3_37) rfl) ?_
  show Goes p e below _ T (mkF m 38 #[.val (.ref a), .val (.int 3)] [(.int 3)])
  refine Goes.of (fun _ => XS.iconst X.here hx rfl (hb hby d3_38)) ?_
  show Goes p e below _ T (mkF m 39 #[.val (.ref a), .val (.int 3)] [(.int 2), (.int 3)])
  refine Goes.of (fun _ => XS.icmpYes X.here hx rfl (pc0 := 39) (pc' := 65) rfl (hb hby d3_39) rfl (feq (by decide)).2 (by decide) (by decide)) ?_
  show Goes p e below _ T (mkF m 65 #[.val (.ref a), .val (.int 3)] [])
  refine Goes.of (fun _ => XS.iloadN X.here hx rfl (hb hby d3_65) rfl) ?_
  show Goes p e below _ T (mkF m 66 #[.val (.ref a), .val (.int 3)] [(.int 3)])
  refine Goes.of (fun _ => XS.iconst X.here hx rfl (hb hby d3_66)) ?_
  show Goes p e below _ T (mkF m 67 #[.val (.ref a), .val (.int 3)] [(.int 3), (.int 3)])
  refine Goes.of (fun _ => XS.icmpNo X.here hx rfl (hb hby d3_67) rfl (teq (by decide)).2) ?_
  show Goes p e below _ T (mkF m 70 #[.val (.ref a), .val (.int 3)] [])
  refine goNew X hx hZ hown (hw _ (List.mem_of_getElem? (i := 14) rfl)) (hw _ (List.mem_of_getElem? (i := 15) rfl)) (hw _ (List.mem_of_getElem? (i := 16) rfl)) eT0 (g := (mkF m 70 #[.val (.ref a), .val (.int 3)] [])) rfl (hb hby d3_70) (by decide) (by decide) ?_
  intro T1 h1 b1 X1 eT1 E1 hb1 A1 D1
  have g_b1 : n0 ≤ b1 := Nat.le_trans (oldLe O0) hb1
  have sz_b1 : h0.size ≤ b1 := Nat.le_trans Kp.1 hb1
  have ne_a_b1 : a ≠ b1 := Nat.ne_of_lt (Nat.lt_of_lt_of_le Va.lt hb1)
  have Va := Va.ext E1
  have Kp := Kp.ext E1
  have O0 := O0.ext E1
  have F1_value : Fld Z h1 b1 "java/lang/String" "value" "[B" .null := D1 (Or.inr (hw _ (List.mem_of_getElem? (i := 29) rfl))) (ty := (.array .byte)) (by decide)
  have F1_coder : Fld Z h1 b1 "java/lang/String" "coder" "B" (.int 0) := D1 (Or.inr (hw _ (List.mem_of_getElem? (i := 30) rfl))) (ty := .byte) (by decide)
  show Goes p e below _ T1 (mkF m 73 #[.val (.ref a), .val (.int 3)] [(.ref b1)])
  refine Goes.of (fun _ => XS.dup X1.here hx rfl (hb hby d3_73) rfl rfl) ?_
  show Goes p e below _ T1 (mkF m 74 #[.val (.ref a), .val (.int 3)] [(.ref b1), (.ref b1)])
  refine Goes.of (fun _ => XS.iconst X1.here hx rfl (hb hby d3_74)) ?_
  show Goes p e below _ T1 (mkF m 75 #[.val (.ref a), .val (.int 3)] [(.int 3), (.ref b1), (.ref b1)])
  refine goNewP 3 X1 hx hZ (hw _ (List.mem_of_getElem? (i := 0) rfl)) eT1 (g := (mkF m 75 #[.val (.ref a), .val (.int 3)] [(.int 3), (.ref b1), (.ref b1)])) rfl (hb hby d3_75) rfl (by decide) (by decide) (by decide) (by decide) (by decide) (ad := "[C") (by first | rfl | decide) ?_
  intro T2 h2 b2 kA2 X2 eT2 E2 hb2 V2 A2
  have g_b2 : n0 ≤ b2 := Nat.le_trans (oldLe O0) hb2
  have sz_b2 : h0.size ≤ b2 := Nat.le_trans Kp.1 hb2
  have ne_a_b2 : a ≠ b2 := Nat.ne_of_lt (Nat.lt_of_lt_of_le Va.lt hb2)
  have ne_b1_b2 : b1 ≠ b2 := Nat.ne_of_lt (Nat.lt_of_lt_of_le A1.lt hb2)
  have Va := Va.ext E2
  have A1 := A1.ext E2
  have F1_value := F1_value.ext E2
  have F1_coder := F1_coder.ext E2
  have Kp := Kp.ext E2
  have O0 := O0.ext E2
  have V2 : Arv Z h2 b2 kA2 .char (3 : Int32) [(.int 0), (.int 0), (.int 0)] (.int 0) := V2
  show Goes p e below _ T2 (mkF m 77 #[.val (.ref a), .val (.int 3)] [(.ref b2), (.ref b1), (.ref b1)])
  refine Goes.of (fun _ => XS.dup X2.here hx rfl (hb hby d3_77) rfl rfl) ?_
  show Goes p e below _ T2 (mkF m 78 #[.val (.ref a), .val (.int 3)] [(.ref b2), (.ref b2), (.ref b1), (.ref b1)])
  refine Goes.of (fun _ => XS.iconst X2.here hx rfl (hb hby d3_78)) ?_
  show Goes p e below _ T2 (mkF m 79 #[.val (.ref a), .val (.int 3)] [(.int 0), (.ref b2), (.ref b2), (.ref b1), (.ref b1)])
  refine Goes.of (fun _ => XS.aloadN X2.here hx rfl (hb hby d3_79) rfl rfl) ?_
  show Goes p e below _ T2 (mkF m 80 #[.val (.ref a), .val (.int 3)] [(.ref a), (.int 0), (.ref b2), (.ref b2), (.ref b1), (.ref b1)])
  refine Goes.of (fun _ => XS.iconst X2.here hx rfl (hb hby d3_80)) ?_
  show Goes p e below _ T2 (mkF m 81 #[.val (.ref a), .val (.int 3)] [(.int 0), (.ref a), (.int 0), (.ref b2), (.ref b2), (.ref b1), (.ref b1)])
  refine goLdC (.int c0) X2 hx hZ eT2 Va (by decide) (by decide) rfl (g := (mkF m 81 #[.val (.ref a), .val (.int 3)] [(.int 0), (.ref a), (.int 0), (.ref b2), (.ref b2), (.ref b1), (.ref b1)])) rfl rfl (hb hby d3_81) ?_
  show Goes p e below _ T2 (mkF m 82 #[.val (.ref a), .val (.int 3)] [(.int c0), (.int 0), (.ref b2), (.ref b2), (.ref b1), (.ref b1)])
  refine goStC 0 X2 hx hZ eT2 V2 (by decide) (by decide) rfl (Nat.lt_of_lt_of_le (Nat.lt_succ_self _) (Nat.le_of_ble_eq_true rfl)) (g := (mkF m 82 #[.val (.ref a), .val (.int 3)] [(.int c0), (.int 0), (.ref b2), (.ref b2), (.ref b1), (.ref b1)])) rfl rfl (hb hby d3_82) ?_
  intro T4 h4 X4 eT4 W4 V2
  have N4 := Fr.snoc X4 N0 g_b2
  have Va := Va.other W4 ne_a_b2
  have A1 := A1.wr W4
  have F1_value := F1_value.other W4 (Or.inl ne_b1_b2)
  have F1_coder := F1_coder.other W4 (Or.inl ne_b1_b2)
  have A2 := A2.wr W4
  have Kp := Kp.wr W4 (Or.inr sz_b2)
  have O0 := O0.wr W4 g_b2
  have V2 : Arv Z h4 b2 kA2 .char (3 : Int32) [(.int (nar .char c0)), (.int 0), (.int 0)] (.int 0) := V2
  show Goes p e below _ T4 (mkF m 83 #[.val (.ref a), .val (.int 3)] [(.ref b2), (.ref b1), (.ref b1)])
  refine Goes.of (fun _ => XS.dup X4.here hx rfl (hb hby d3_83) rfl rfl) ?_
  show Goes p e below _ T4 (mkF m 84 #[.val (.ref a), .val (.int 3)] [(.ref b2), (.ref b2), (.ref b1), (.ref b1)])
  refine Goes.of (fun _ => XS.iconst X4.here hx rfl (hb hby d3_84)) ?_
  show Goes p e below _ T4 (mkF m 85 #[.val (.ref a), .val (.int 3)] [(.int 1), (.ref b2), (.ref b2), (.ref b1), (.ref b1)])
  refine Goes.of (fun _ => XS.aloadN X4.here hx rfl (hb hby d3_85) rfl rfl) ?_
  show Goes p e below _ T4 (mkF m 86 #[.val (.ref a), .val (.int 3)] [(.ref a), (.int 1), (.ref b2), (.ref b2), (.ref b1), (.ref b1)])
  refine Goes.of (fun _ => XS.iconst X4.here hx rfl (hb hby d3_86)) ?_
  show Goes p e below _ T4 (mkF m 87 #[.val (.ref a), .val (.int 3)] [(.int 1), (.ref a), (.int 1), (.ref b2), (.ref b2), (.ref b1), (.ref b1)])
  refine goLdC (.int c1) X4 hx hZ eT4 Va (by decide) (by decide) rfl (g := (mkF m 87 #[.val (.ref a), .val (.int 3)] [(.int 1), (.ref a), (.int 1), (.ref b2), (.ref b2), (.ref b1), (.ref b1)])) rfl rfl (hb hby d3_87) ?_
  show Goes p e below _ T4 (mkF m 88 #[.val (.ref a), .val (.int 3)] [(.int c1), (.int 1), (.ref b2), (.ref b2), (.ref b1), (.ref b1)])
  refine goStC 1 X4 hx hZ eT4 V2 (by decide) (by decide) rfl (Nat.lt_of_lt_of_le (Nat.lt_succ_self _) (Nat.le_of_ble_eq_true rfl)) (g := (mkF m 88 #[.val (.ref a), .val (.int 3)] [(.int c1), (.int 1), (.ref b2), (.ref b2), (.ref b1), (.ref b1)])) rfl rfl (hb hby d3_88) ?_
  intro T6 h6 X6 eT6 W6 V2
  have N6 := Fr.snoc X6 N4 g_b2
  have Va := Va.other W6 ne_a_b2
  have A1 := A1.wr W6
  have F1_value := F1_value.other W6 (Or.inl ne_b1_b2)
  have F1_coder := F1_coder.other W6 (Or.inl ne_b1_b2)
  have A2 := A2.wr W6
  have Kp := Kp.wr W6 (Or.inr sz_b2)
  have O0 := O0.wr W6 g_b2
  have V2 : Arv Z h6 b2 kA2 .char (3 : Int32) [(.int (nar .char c0)), (.int (nar .char c1)), (.int 0)] (.int 0) := V2
  show Goes p e below _ T6 (mkF m 89 #[.val (.ref a), .val (.int 3)] [(.ref b2), (.ref b1), (.ref b1)])
  refine Goes.of (fun _ => XS.dup X6.here hx rfl (hb hby d3_89) rfl rfl) ?_
  show Goes p e below _ T6 (mkF m 90 #[.val (.ref a), .val (.int 3)] [(.ref b2), (.ref b2), (.ref b1), (.ref b1)])
  refine Goes.of (fun _ => XS.iconst X6.here hx rfl (hb hby d3_90)) ?_
  show Goes p e below _ T6 (mkF m 91 #[.val (.ref a), .val (.int 3)] [(.int 2), (.ref b2), (.ref b2), (.ref b1), (.ref b1)])
  refine Goes.of (fun _ => XS.aloadN X6.here hx rfl (hb hby d3_91) rfl rfl) ?_
  show Goes p e below _ T6 (mkF m 92 #[.val (.ref a), .val (.int 3)] [(.ref a), (.int 2), (.ref b2), (.ref b2), (.ref b1), (.ref b1)])
  refine Goes.of (fun _ => XS.iconst X6.here hx rfl (hb hby d3_92)) ?_
  show Goes p e below _ T6 (mkF m 93 #[.val (.ref a), .val (.int 3)] [(.int 2), (.ref a), (.int 2), (.ref b2), (.ref b2), (.ref b1), (.ref b1)])
  refine goLdC (.int c2) X6 hx hZ eT6 Va (by decide) (by decide) rfl (g := (mkF m 93 #[.val (.ref a), .val (.int 3)] [(.int 2), (.ref a), (.int 2), (.ref b2), (.ref b2), (.ref b1), (.ref b1)])) rfl rfl (hb hby d3_93) ?_
  show Goes p e below _ T6 (mkF m 94 #[.val (.ref a), .val (.int 3)] [(.int c2), (.int 2), (.ref b2), (.ref b2), (.ref b1), (.ref b1)])
  refine goStC 2 X6 hx hZ eT6 V2 (by decide) (by decide) rfl (Nat.lt_of_lt_of_le (Nat.lt_succ_self _) (Nat.le_of_ble_eq_true rfl)) (g := (mkF m 94 #[.val (.ref a), .val (.int 3)] [(.int c2), (.int 2), (.ref b2), (.ref b2), (.ref b1), (.ref b1)])) rfl rfl (hb hby d3_94) ?_
  intro T8 h8 X8 eT8 W8 V2
  have N8 := Fr.snoc X8 N6 g_b2
  have Va := Va.other W8 ne_a_b2
  have A1 := A1.wr W8
  have F1_value := F1_value.other W8 (Or.inl ne_b1_b2)
  have F1_coder := F1_coder.other W8 (Or.inl ne_b1_b2)
  have A2 := A2.wr W8
  have Kp := Kp.wr W8 (Or.inr sz_b2)
  have O0 := O0.wr W8 g_b2
  have V2 : Arv Z h8 b2 kA2 .char (3 : Int32) [(.int (nar .char c0)), (.int (nar .char c1)), (.int (nar .char c2))] (.int 0) := V2
  show Goes p e below _ T8 (mkF m 95 #[.val (.ref a), .val (.int 3)] [(.ref b2), (.ref b1), (.ref b1)])
  refine goSpecial 1 X8 hx hZ rfl hown (hw _ (List.mem_of_getElem? (i := 17) rfl)) (hw _ (List.mem_of_getElem? (i := 18) rfl)) (hw _ (List.mem_of_getElem? (i := 16) rfl)) (hw _ (List.mem_of_getElem? (i := 19) rfl)) (by decide) (rm_sin1 l Z a0 hw b1 b2 _ [(nar .char c0), (nar .char c1), (nar .char c2)] cz h8 n0 O0 Sa Sh Sl Sc hcz g_b1 A1 F1_value F1_coder (by simp) (by simp) (by intro c hc; simp only [List.mem_cons, List.not_mem_nil, or_false] at hc; rcases hc with rfl | rfl | rfl <;> exact char16 _) ne_b1_b2 V2) eT8 (g := (mkF m 95 #[.val (.ref a), .val (.int 3)] [(.ref b2), (.ref b1), (.ref b1)])) rfl (by rw [hml]; rfl) b1 [(.ref b2)] [(.ref b1)] (lenOf pd___C_V rfl) rfl rfl (by show 2 * 0 + _ ≤ _; exact Nat.le_of_eq rfl) (hb hby d3_95) (by decide) (by decide) (by decide) (by decide) ?_
  intro v9 T9 L9 X9 q9
  obtain ⟨rfl, Nq9, Kq9, Su9⟩ := q9
  have N9 := Fr.app N8 Nq9
  have Va := Va.keep Kq9 (ninS ne_a_b1 nin0)
  have A1 := A1.keep Kq9
  have V2 := V2.keep Kq9 (ninS (Ne.symm ne_b1_b2) nin0)
  have A2 := A2.keep Kq9
  have Kp := Kp.trans Kq9 (allS (Or.inr sz_b1) all0)
  have O0 := O0.keep Kq9 (allS g_b1 all0)
  show Goes p e below _ T9 (mkF m 98 #[.val (.ref a), .val (.int 3)] [(.ref b1)])
  exact retRef X9 hx hret hlk rfl rfl (hb hby d3_98) (rfl : T9.heap = _) (by decide) (by decide) ⟨b1, rfl, N9, Kp, by have q := Su9; rw [narC hz0, narC hz1, narC hz2] at q; exact q⟩
set_option maxRecDepth 65536 in
set_option maxHeartbeats 40000000 in
theorem rm_make_4 (l : Launch) (Z : State) (a0 : Array Value) (hw : ∀ d ∈ tables_1, d.before a0 Z = true) (a : Addr) (ka : ClassId) (c0 c1 c2 c3 : Int32) (cz : Int32) (h0 : Heap) (n0 : Nat) (O0 : Old Z n0 h0) (Sa : Sta Z Z.heap "java/lang/StringUTF16" "$assertionsDisabled" "Z" (.int 1)) (Sh : Sta Z Z.heap "java/lang/StringUTF16" "HI_BYTE_SHIFT" "I" (.int 0)) (Sl : Sta Z Z.heap "java/lang/StringUTF16" "LO_BYTE_SHIFT" "I" (.int 8)) (Sc : Sta Z Z.heap "java/lang/String" "COMPACT_STRINGS" "Z" (.int cz)) (hcz : ¬ cz = 0) (hz0 : ¬ c0 < 0 ∧ ¬ (65535 : Int32) < c0) (hz1 : ¬ c1 < 0 ∧ ¬ (65535 : Int32) < c1) (hz2 : ¬ c2 < 0 ∧ ¬ (65535 : Int32) < c2) (hz3 : ¬ c3 < 0 ∧ ¬ (65535 : Int32) < c3) (Va : Arv Z h0 a ka .char (4 : Int32) [(.int c0), (.int c1), (.int c2), (.int c3)] (.int 0)) :
    Rm l (⟨"com/example/latchwork/latchwork/core/LockNamesCheckPinLaw", "make", "([CI)Ljava/lang/String;"⟩ : MethodName) method_6_code 2 (some (.object "java/lang/String")) ({ frames := 6, cells := 4, slots := 49160, locals := 88 } : Room) [] Z #[(.ref a), (.int 4)] h0 (fun v h L => ∃ b, v = some (.ref b) ∧ Fr n0 L ∧ Keep h0 h [] ∧ StU Z h b [c0, c1, c2, c3]) := by
  refine Rm.of (plainFor_of_name pn_com_example_latchwork_latchwork_core_LockNamesCheckPinLaw) ?_
  intro p e s m below meth cod T X hx hZ hby hml hown hnm hret hlk eT0
  have hown : s.vm.findClass "com/example/latchwork/latchwork/core/LockNamesCheckPinLaw" = some m.cls := hown
  have hnm : meth.name = "make" := hnm
  have N0 := Fr.nil n0
  have Kp := Keep.refl h0 []
  refine Goes.cast (ef_3 m a (4 : Int32)) ?_
  show Goes p e below _ T (mkF m 0 #[.val (.ref a), .val (.int 4)] [])
  refine Goes.of (fun _ => XS.iloadN X.here hx rfl (hb hby d3_0) rfl) ?_
  show Goes p e below _ T (mkF m 1 #[.val (.ref a), .val (.int 4)] [(.int 4)])
  refine Goes.of (fun _ => XS.ifYes X.here hx rfl (pc0 := 1) (pc' := 15) rfl (hb hby d3_1) rfl ((if0 _ _).trans (feq (by decide)).2) (by decide) (by decide)) ?_
  show Goes p e below _ T (mkF m 15 #[.val (.ref a), .val (.int 4)] [])
  refine Goes.of (fun _ => XS.iloadN X.here hx rfl (hb hby d3_15) rfl) ?_
  show Goes p e below _ T (mkF m 16 #[.val (.ref a), .val (.int 4)] [(.int 4)])
  refine Goes.of (fun _ => XS.iconst X.here hx rfl (hb hby d3_16)) ?_
  show Goes p e below _ T (mkF m 17 #[.val (.ref a), .val (.int 4)] [(.int 1), (.int 4)])
  refine Goes.of (fun _ => XS.icmpYes X.here hx rfl (pc0 := 17) (pc' := 37) rfl (hb hby d3_17) rfl (feq (by decide)).2 (by decide) (by decide)) ?_
  show Goes p e below _ T (mkF m 37 #[.val (.ref a), .val (.int 4)] [])
  refine Goes.of (fun _ => XS.iloadN X.here hx rfl (hb hby d3_37) rfl) ?_
  show Goes p e below _ T (mkF m 38 #[.val (.ref a), .val (.int 4)] [(.int 4)])
  refine Goes.of (fun _ => XS.iconst X.here hx rfl (hb hby d3_38)) ?_
  show Goes p e below _ T (mkF m 39 #[.val (.ref a), .val (.int 4)] [(.int 2), (.int 4)])
  refine Goes.of (fun _ => XS.icmpYes X.here hx rfl (pc0 := 39) (pc' := 65) rfl (hb hby d3_39) rfl (feq (by decide)).2 (by decide) (by decide)) ?_
  show Goes p e below _ T (mkF m 65 #[.val (.ref a), .val (.int 4)] [])
  refine Goes.of (fun _ => XS.iloadN X.here hx rfl (hb hby d3_65) rfl) ?_
  show Goes p e below _ T (mkF m 66 #[.val (.ref a), .val (.int 4)] [(.int 4)])
  refine Goes.of (fun _ => XS.iconst X.here hx rfl (hb hby d3_66)) ?_
  show Goes p e below _ T (mkF m 67 #[.val (.ref a), .val (.int 4)] [(.int 3), (.int 4)])
  refine Goes.of (fun _ => XS.icmpYes X.here hx rfl (pc0 := 67) (pc' := 99) rfl (hb hby d3_67) rfl (feq (by decide)).2 (by decide) (by decide)) ?_
  show Goes p e below _ T (mkF m 99 #[.val (.ref a), .val (.int 4)] [])
  refine goNew X hx hZ hown (hw _ (List.mem_of_getElem? (i := 14) rfl)) (hw _ (List.mem_of_getElem? (i := 15) rfl)) (hw _ (List.mem_of_getElem? (i := 16) rfl)) eT0 (g := (mkF m 99 #[.val (.ref a), .val (.int 4)] [])) rfl (hb hby d3_99) (by decide) (by decide) ?_
  intro T1 h1 b1 X1 eT1 E1 hb1 A1 D1
  have g_b1 : n0 ≤ b1 := Nat.le_trans (oldLe O0) hb1
  have sz_b1 : h0.size ≤ b1 := Nat.le_trans Kp.1 hb1
  have ne_a_b1 : a ≠ b1 := Nat.ne_of_lt (Nat.lt_of_lt_of_le Va.lt hb1)
  have Va := Va.ext E1
  have Kp := Kp.ext E1
  have O0 := O0.ext E1
  have F1_value : Fld Z h1 b1 "java/lang/String" "value" "[B" .null := D1 (Or.inr (hw _ (List.mem_of_getElem? (i := 29) rfl))) (ty := (.array .byte)) (by decide)
  have F1_coder : Fld Z h1 b1 "java/lang/String" "coder" "B" (.int 0) := D1 (Or.inr (hw _ (List.mem_of_getElem? (i := 30) rfl))) (ty := .byte) (by decide)
  show Goes p e below _ T1 (mkF m 102 #[.val (.ref a), .val (.int 4)] [(.ref b1)])
  refine Goes.of (fun _ => XS.dup X1.here hx rfl (hb hby d3_102) rfl rfl) ?_
  show Goes p e below _ T1 (mkF m 103 #[.val (.ref a), .val (.int 4)] [(.ref b1), (.ref b1)])
  refine Goes.of (fun _ => XS.iconst X1.here hx rfl (hb hby d3_103)) ?_
  show Goes p e below _ T1 (mkF m 104 #[.val (.ref a), .val (.int 4)] [(.int 4), (.ref b1), (.ref b1)])
  refine goNewP 4 X1 hx hZ (hw _ (List.mem_of_getElem? (i := 0) rfl)) eT1 (g := (mkF m 104 #[.val (.ref a), .val (.int 4)] [(.int 4), (.ref b1), (.ref b1)])) rfl (hb hby d3_104) rfl (by decide) (by decide) (by decide) (by decide) (by decide) (ad := "[C") (by first | rfl | decide) ?_
  intro T2 h2 b2 kA2 X2 eT2 E2 hb2 V2 A2
  have g_b2 : n0 ≤ b2 := Nat.le_trans (oldLe O0) hb2
  have sz_b2 : h0.size ≤ b2 := Nat.le_trans Kp.1 hb2
  have ne_a_b2 : a ≠ b2 := Nat.ne_of_lt (Nat.lt_of_lt_of_le Va.lt hb2)
  have ne_b1_b2 : b1 ≠ b2 := Nat.ne_of_lt (Nat.lt_of_lt_of_le A1.lt hb2)
  have Va := Va.ext E2
  have A1 := A1.ext E2
  have F1_value := F1_value.ext E2
  have F1_coder := F1_coder.ext E2
  have Kp := Kp.ext E2
  have O0 := O0.ext E2
  have V2 : Arv Z h2 b2 kA2 .char (4 : Int32) [(.int 0), (.int 0), (.int 0), (.int 0)] (.int 0) := V2
  show Goes p e below _ T2 (mkF m 106 #[.val (.ref a), .val (.int 4)] [(.ref b2), (.ref b1), (.ref b1)])
  refine Goes.of (fun _ => XS.dup X2.here hx rfl (hb hby d3_106) rfl rfl) ?_
  show Goes p e below _ T2 (mkF m 107 #[.val (.ref a), .val (.int 4)] [(.ref b2), (.ref b2), (.ref b1), (.ref b1)])
  refine Goes.of (fun _ => XS.iconst X2.here hx rfl (hb hby d3_107)) ?_
  show Goes p e below _ T2 (mkF m 108 #[.val (.ref a), .val (.int 4)] [(.int 0), (.ref b2), (.ref b2), (.ref b1), (.ref b1)])
  refine Goes.of (fun _ => XS.aloadN X2.here hx rfl (hb hby d3_108) rfl rfl) ?_
  show Goes p e below _ T2 (mkF m 109 #[.val (.ref a), .val (.int 4)] [(.ref a), (.int 0), (.ref b2), (.ref b2), (.ref b1), (.ref b1)])
  refine Goes.of (fun _ => XS.iconst X2.here hx rfl (hb hby d3_109)) ?_
  show Goes p e below _ T2 (mkF m 110 #[.val (.ref a), .val (.int 4)] [(.int 0), (.ref a), (.int 0), (.ref b2), (.ref b2), (.ref b1), (.ref b1)])
  refine goLdC (.int c0) X2 hx hZ eT2 Va (by decide) (by decide) rfl (g := (mkF m 110 #[.val (.ref a), .val (.int 4)] [(.int 0), (.ref a), (.int 0), (.ref b2), (.ref b2), (.ref b1), (.ref b1)])) rfl rfl (hb hby d3_110) ?_
  show Goes p e below _ T2 (mkF m 111 #[.val (.ref a), .val (.int 4)] [(.int c0), (.int 0), (.ref b2), (.ref b2), (.ref b1), (.ref b1)])
  refine goStC 0 X2 hx hZ eT2 V2 (by decide) (by decide) rfl (Nat.lt_of_lt_of_le (Nat.lt_succ_self _) (Nat.le_of_ble_eq_true rfl)) (g := (mkF m 111 #[.val (.ref a), .val (.int 4)] [(.int c0), (.int 0), (.ref b2), (.ref b2), (.ref b1), (.ref b1)])) rfl rfl (hb hby d3_111) ?_
  intro T4 h4 X4 eT4 W4 V2
  have N4 := Fr.snoc X4 N0 g_b2
  have Va := Va.other W4 ne_a_b2
  have A1 := A1.wr W4
  have F1_value := F1_value.other W4 (Or.inl ne_b1_b2)
  have F1_coder := F1_coder.other W4 (Or.inl ne_b1_b2)
  have A2 := A2.wr W4
  have Kp := Kp.wr W4 (Or.inr sz_b2)
  have O0 := O0.wr W4 g_b2
  have V2 : Arv Z h4 b2 kA2 .char (4 : Int32) [(.int (nar .char c0)), (.int 0), (.int 0), (.int 0)] (.int 0) := V2
  show Goes p e below _ T4 (mkF m 112 #[.val (.ref a), .val (.int 4)] [(.ref b2), (.ref b1), (.ref b1)])
  refine Goes.of (fun _ => XS.dup X4.here hx rfl (hb hby d3_112) rfl rfl) ?_
  show Goes p e below _ T4 (mkF m 113 #[.val (.ref a), .val (.int 4)] [(.ref b2), (.ref b2), (.ref b1), (.ref b1)])
  refine Goes.of (fun _ => XS.iconst X4.here hx rfl (hb hby d3_113)) ?_
  show Goes p e below _ T4 (mkF m 114 #[.val (.ref a), .val (.int 4)] [(.int 1), (.ref b2), (.ref b2), (.ref b1), (.ref b1)])
  refine Goes.of (fun _ => XS.aloadN X4.here hx rfl (hb hby d3_114) rfl rfl) ?_
  show Goes p e below _ T4 (mkF m 115 #[.val (.ref a), .val (.int 4)] [(.ref a), (.int 1), (.ref b2), (.ref b2), (.ref b1), (.ref b1)])
  refine Goes.of (fun _ => XS.iconst X4.here hx rfl (hb hby d3_115)) ?_
  show Goes p e below _ T4 (mkF m 116 #[.val (.ref a), .val (.int 4)] [(.int 1), (.ref a), (.int 1), (.ref b2), (.ref b2), (.ref b1), (.ref b1)])
  refine goLdC (.int c1) X4 hx hZ eT4 Va (by decide) (by decide) rfl (g := (mkF m 116 #[.val (.ref a), .val (.int 4)] [(.int 1), (.ref a), (.int 1), (.ref b2), (.ref b2), (.ref b1), (.ref b1)])) rfl rfl (hb hby d3_116) ?_
  show Goes p e below _ T4 (mkF m 117 #[.val (.ref a), .val (.int 4)] [(.int c1), (.int 1), (.ref b2), (.ref b2), (.ref b1), (.ref b1)])
  refine goStC 1 X4 hx hZ eT4 V2 (by decide) (by decide) rfl (Nat.lt_of_lt_of_le (Nat.lt_succ_self _) (Nat.le_of_ble_eq_true rfl)) (g := (mkF m 117 #[.val (.ref a), .val (.int 4)] [(.int c1), (.int 1), (.ref b2), (.ref b2), (.ref b1), (.ref b1)])) rfl rfl (hb hby d3_117) ?_
  intro T6 h6 X6 eT6 W6 V2
  have N6 := Fr.snoc X6 N4 g_b2
  have Va := Va.other W6 ne_a_b2
  have A1 := A1.wr W6
  have F1_value := F1_value.other W6 (Or.inl ne_b1_b2)
  have F1_coder := F1_coder.other W6 (Or.inl ne_b1_b2)
  have A2 := A2.wr W6
  have Kp := Kp.wr W6 (Or.inr sz_b2)
  have O0 := O0.wr W6 g_b2
  have V2 : Arv Z h6 b2 kA2 .char (4 : Int32) [(.int (nar .char c0)), (.int (nar .char c1)), (.int 0), (.int 0)] (.int 0) := V2
  show Goes p e below _ T6 (mkF m 118 #[.val (.ref a), .val (.int 4)] [(.ref b2), (.ref b1), (.ref b1)])
  refine Goes.of (fun _ => XS.dup X6.here hx rfl (hb hby d3_118) rfl rfl) ?_
  show Goes p e below _ T6 (mkF m 119 #[.val (.ref a), .val (.int 4)] [(.ref b2), (.ref b2), (.ref b1), (.ref b1)])
  refine Goes.of (fun _ => XS.iconst X6.here hx rfl (hb hby d3_119)) ?_
  show Goes p e below _ T6 (mkF m 120 #[.val (.ref a), .val (.int 4)] [(.int 2), (.ref b2), (.ref b2), (.ref b1), (.ref b1)])
  refine Goes.of (fun _ => XS.aloadN X6.here hx rfl (hb hby d3_120) rfl rfl) ?_
  show Goes p e below _ T6 (mkF m 121 #[.val (.ref a), .val (.int 4)] [(.ref a), (.int 2), (.ref b2), (.ref b2), (.ref b1), (.ref b1)])
  refine Goes.of (fun _ => XS.iconst X6.here hx rfl (hb hby d3_121)) ?_
  show Goes p e below _ T6 (mkF m 122 #[.val (.ref a), .val (.int 4)] [(.int 2), (.ref a), (.int 2), (.ref b2), (.ref b2), (.ref b1), (.ref b1)])
  refine goLdC (.int c2) X6 hx hZ eT6 Va (by decide) (by decide) rfl (g := (mkF m 122 #[.val (.ref a), .val (.int 4)] [(.int 2), (.ref a), (.int 2), (.ref b2), (.ref b2), (.ref b1), (.ref b1)])) rfl rfl (hb hby d3_122) ?_
  show Goes p e below _ T6 (mkF m 123 #[.val (.ref a), .val (.int 4)] [(.int c2), (.int 2), (.ref b2), (.ref b2), (.ref b1), (.ref b1)])
  refine goStC 2 X6 hx hZ eT6 V2 (by decide) (by decide) rfl (Nat.lt_of_lt_of_le (Nat.lt_succ_self _) (Nat.le_of_ble_eq_true rfl)) (g := (mkF m 123 #[.val (.ref a), .val (.int 4)] [(.int c2), (.int 2), (.ref b2), (.ref b2), (.ref b1), (.ref b1)])) rfl rfl (hb hby d3_123) ?_
  intro T8 h8 X8 eT8 W8 V2
  have N8 := Fr.snoc X8 N6 g_b2
  have Va := Va.other W8 ne_a_b2
  have A1 := A1.wr W8
  have F1_value := F1_value.other W8 (Or.inl ne_b1_b2)
  have F1_coder := F1_coder.other W8 (Or.inl ne_b1_b2)
  have A2 := A2.wr W8
  have Kp := Kp.wr W8 (Or.inr sz_b2)
  have O0 := O0.wr W8 g_b2
  have V2 : Arv Z h8 b2 kA2 .char (4 : Int32) [(.int (nar .char c0)), (.int (nar .char c1)), (.int (nar .char c2)), (.int 0)] (.int 0) := V2
  show Goes p e below _ T8 (mkF m 124 #[.val (.ref a), .val (.int 4)] [(.ref b2), (.ref b1), (.ref b1)])
  refine Goes.of (fun _ => XS.dup X8.here hx rfl (hb hby d3_124) rfl rfl) ?_
  show Goes p e below _ T8 (mkF m 125 #[.val (.ref a), .val (.int 4)] [(.ref b2), (.ref b2), (.ref b1), (.ref b1)])
  refine Goes.of (fun _ => XS.iconst X8.here hx rfl (hb hby d3_125)) ?_
  show Goes p e below _ T8 (mkF m 126 #[.val (.ref a), .val (.int 4)] [(.int 3), (.ref b2), (.ref b2), (.ref b1), (.ref b1)])
  refine Goes.of (fun _ => XS.aloadN X8.here hx rfl (hb hby d3_126) rfl rfl) ?_
  show Goes p e below _ T8 (mkF m 127 #[.val (.ref a), .val (.int 4)] [(.ref a), (.int 3), (.ref b2), (.ref b2), (.ref b1), (.ref b1)])
  refine Goes.of (fun _ => XS.iconst X8.here hx rfl (hb hby d3_127)) ?_
  show Goes p e below _ T8 (mkF m 128 #[.val (.ref a), .val (.int 4)] [(.int 3), (.ref a), (.int 3), (.ref b2), (.ref b2), (.ref b1), (.ref b1)])
  refine goLdC (.int c3) X8 hx hZ eT8 Va (by decide) (by decide) rfl (g := (mkF m 128 #[.val (.ref a), .val (.int 4)] [(.int 3), (.ref a), (.int 3), (.ref b2), (.ref b2), (.ref b1), (.ref b1)])) rfl rfl (hb hby d3_128) ?_
  show Goes p e below _ T8 (mkF m 129 #[.val (.ref a), .val (.int 4)] [(.int c3), (.int 3), (.ref b2), (.ref b2), (.ref b1), (.ref b1)])
  refine goStC 3 X8 hx hZ eT8 V2 (by decide) (by decide) rfl (Nat.lt_of_lt_of_le (Nat.lt_succ_self _) (Nat.le_of_ble_eq_true rfl)) (g := (mkF m 129 #[.val (.ref a), .val (.int 4)] [(.int c3), (.int 3), (.ref b2), (.ref b2), (.ref b1), (.ref b1)])) rfl rfl (hb hby d3_129) ?_
  intro T10 h10 X10 eT10 W10 V2
  have N10 := Fr.snoc X10 N8 g_b2
  have Va := Va.other W10 ne_a_b2
  have A1 := A1.wr W10
  have F1_value := F1_value.other W10 (Or.inl ne_b1_b2)
  have F1_coder := F1_coder.other W10 (Or.inl ne_b1_b2)
  have A2 := A2.wr W10
  have Kp := Kp.wr W10 (Or.inr sz_b2)
  have O0 := O0.wr W10 g_b2
  have V2 : Arv Z h10 b2 kA2 .char (4 : Int32) [(.int (nar .char c0)), (.int (nar .char c1)), (.int (nar .char c2)), (.int (nar .char c3))] (.int 0) := V2
  show Goes p e below _ T10 (mkF m 130 #[.val (.ref a), .val (.int 4)] [(.ref b2), (.ref b1), (.ref b1)])
  refine goSpecial 1 X10 hx hZ rfl hown (hw _ (List.mem_of_getElem? (i := 17) rfl)) (hw _ (List.mem_of_getElem? (i := 18) rfl)) (hw _ (List.mem_of_getElem? (i := 16) rfl)) (hw _ (List.mem_of_getElem? (i := 19) rfl)) (by decide) (rm_sin1 l Z a0 hw b1 b2 _ [(nar .char c0), (nar .char c1), (nar .char c2), (nar .char c3)] cz h10 n0 O0 Sa Sh Sl Sc hcz g_b1 A1 F1_value F1_coder (by simp) (by simp) (by intro c hc; simp only [List.mem_cons, List.not_mem_nil, or_false] at hc; rcases hc with rfl | rfl | rfl | rfl <;> exact char16 _) ne_b1_b2 V2) eT10 (g := (mkF m 130 #[.val (.ref a), .val (.int 4)] [(.ref b2), (.ref b1), (.ref b1)])) rfl (by rw [hml]; rfl) b1 [(.ref b2)] [(.ref b1)] (lenOf pd___C_V rfl) rfl rfl (by show 2 * 0 + _ ≤ _; exact Nat.le_of_eq rfl) (hb hby d3_130) (by decide) (by decide) (by decide) (by decide) ?_
  intro v11 T11 L11 X11 q11
  obtain ⟨rfl, Nq11, Kq11, Su11⟩ := q11
  have N11 := Fr.app N10 Nq11
  have Va := Va.keep Kq11 (ninS ne_a_b1 nin0)
  have A1 := A1.keep Kq11
  have V2 := V2.keep Kq11 (ninS (Ne.symm ne_b1_b2) nin0)
  have A2 := A2.keep Kq11
  have Kp := Kp.trans Kq11 (allS (Or.inr sz_b1) all0)
  have O0 := O0.keep Kq11 (allS g_b1 all0)
  show Goes p e below _ T11 (mkF m 133 #[.val (.ref a), .val (.int 4)] [(.ref b1)])
  exact retRef X11 hx hret hlk rfl rfl (hb hby d3_133) (rfl : T11.heap = _) (by decide) (by decide) ⟨b1, rfl, N11, Kp, by have q := Su11; rw [narC hz0, narC hz1, narC hz2, narC hz3] at q; exact q⟩
set_option maxRecDepth 65536 in
set_option maxHeartbeats 40000000 in
theorem rm_law (l : Launch) (Z : State) (a0 : Array Value) (hw : ∀ d ∈ tables_1, d.before a0 Z = true) (ws : List Jvm.Cond) (p0 p1 p2 p3 p4 : Int32) (cz : Int32) (fm : Value) (h0 : Heap) (n0 : Nat) (O0 : Old Z n0 h0) (Sa : Sta Z Z.heap "java/lang/StringUTF16" "$assertionsDisabled" "Z" (.int 1)) (Sh : Sta Z Z.heap "java/lang/StringUTF16" "HI_BYTE_SHIFT" "I" (.int 0)) (Sl : Sta Z Z.heap "java/lang/StringUTF16" "LO_BYTE_SHIFT" "I" (.int 8)) (Sc : Sta Z Z.heap "java/lang/String" "COMPACT_STRINGS" "Z" (.int cz)) (hcz : ¬ cz = 0) (Sf : Sta Z Z.heap "jdk/internal/util/Preconditions" "SIOOBE_FORMATTER" "Ljava/util/function/BiFunction;" fm) (hfm : fm.isRef = true) :
    RmH l x code maxLocals ret room_1 ws Z EL #[(.int p0), (.int p1), (.int p2), (.int p3), (.int p4)] h0 (fun v h L => v = some (.int 1) ∧ Fr n0 L) := by
  refine RmH.of (plainFor_of_name pn_com_example_latchwork_latchwork_core_LockNamesCheckPinLaw) ?_
  intro p e s m below meth cod T X hx hZ hby hml hown hnm hret hlk eT0 hS hk HC
  have hEL := hELof hw
  have wS := wSof hw
  have hown : s.vm.findClass "com/example/latchwork/latchwork/core/LockNamesCheckPinLaw" = some m.cls := hown
  have hnm : meth.name = "law" := hnm
  have N0 := Fr.nil n0
  refine Goes.cast (ef_0 m p0 p1 p2 p3 p4) ?_
  show Goes p e below _ T (mkF m 0 #[.val (.int p0), .val (.int p1), .val (.int p2), .val (.int p3), .val (.int p4), .unset, .unset, .unset, .unset, .unset, .unset] [])
  refine Goes.of (fun _ => XS.iconst X.here hx rfl (hb hby at_0)) ?_
  show Goes p e below _ T (mkF m 1 #[.val (.int p0), .val (.int p1), .val (.int p2), .val (.int p3), .val (.int p4), .unset, .unset, .unset, .unset, .unset, .unset] [(.int 4)])
  refine goNewP 4 X hx hZ (hw _ (List.mem_of_getElem? (i := 0) rfl)) eT0 (g := (mkF m 1 #[.val (.int p0), .val (.int p1), .val (.int p2), .val (.int p3), .val (.int p4), .unset, .unset, .unset, .unset, .unset, .unset] [(.int 4)])) rfl (hb hby at_1) rfl (by decide) (by decide) (by decide) (by decide) (by decide) (ad := "[C") (by first | rfl | decide) ?_
  intro T1 h1 b1 kA1 X1 eT1 E1 hb1 V1 A1
  have g_b1 : n0 ≤ b1 := Nat.le_trans (oldLe O0) hb1
  have hk := Nat.le_trans hk E1.1
  have HC := HC.trans (CHr.ext E1 HC.1)
  have O0 := O0.ext E1
  have V1 : Arv Z h1 b1 kA1 .char (4 : Int32) [(.int 0), (.int 0), (.int 0), (.int 0)] (.int 0) := V1
  show Goes p e below _ T1 (mkF m 3 #[.val (.int p0), .val (.int p1), .val (.int p2), .val (.int p3), .val (.int p4), .unset, .unset, .unset, .unset, .unset, .unset] [(.ref b1)])
  refine Goes.of (fun _ => XS.dup X1.here hx rfl (hb hby at_3) rfl rfl) ?_
  show Goes p e below _ T1 (mkF m 4 #[.val (.int p0), .val (.int p1), .val (.int p2), .val (.int p3), .val (.int p4), .unset, .unset, .unset, .unset, .unset, .unset] [(.ref b1), (.ref b1)])
  refine Goes.of (fun _ => XS.iconst X1.here hx rfl (hb hby at_4)) ?_
  show Goes p e below _ T1 (mkF m 5 #[.val (.int p0), .val (.int p1), .val (.int p2), .val (.int p3), .val (.int p4), .unset, .unset, .unset, .unset, .unset, .unset] [(.int 0), (.ref b1), (.ref b1)])
  refine Goes.of (fun _ => XS.iloadN X1.here hx rfl (hb hby at_5) rfl) ?_
  show Goes p e below _ T1 (mkF m 6 #[.val (.int p0), .val (.int p1), .val (.int p2), .val (.int p3), .val (.int p4), .unset, .unset, .unset, .unset, .unset, .unset] [(.int p1), (.int 0), (.ref b1), (.ref b1)])
  refine goStatic 3 X1 hx hZ hown (hw _ (List.mem_of_getElem? (i := 1) rfl)) (hw _ (List.mem_of_getElem? (i := 2) rfl)) (hw _ (List.mem_of_getElem? (i := 3) rfl)) (hw _ (List.mem_of_getElem? (i := 4) rfl)) (by decide) (rm_draw l Z a0 hw p1 h1 n0 O0) eT1 (g := (mkF m 6 #[.val (.int p0), .val (.int p1), .val (.int p2), .val (.int p3), .val (.int p4), .unset, .unset, .unset, .unset, .unset, .unset] [(.int p1), (.int 0), (.ref b1), (.ref b1)])) rfl (by rw [hml]; rfl) [(.int p1)] [(.int 0), (.ref b1), (.ref b1)] (lenOf pd__I_C rfl) rfl rfl (by show 2 * 0 + _ ≤ _; exact Nat.le_of_eq rfl) (hb hby at_6) (by decide) (by decide) (by decide) (by decide) ?_
  intro v2 T2 L2 X2 q2
  obtain ⟨c0, rfl, Nq2, eT2, hz0⟩ := q2
  have N2 := Fr.app N0 Nq2
  show Goes p e below _ T2 (mkF m 9 #[.val (.int p0), .val (.int p1), .val (.int p2), .val (.int p3), .val (.int p4), .unset, .unset, .unset, .unset, .unset, .unset] [(.int c0), (.int 0), (.ref b1), (.ref b1)])
  have Sf_b1 : Safe Z EL _ h1 b1 := Safe.arv hZ.alike V1 (by decide)
  refine goStC 0 X2 hx hZ eT2 V1 (by decide) (by decide) rfl (Nat.lt_of_lt_of_le (Nat.lt_succ_self _) (Nat.le_of_ble_eq_true rfl)) (g := (mkF m 9 #[.val (.int p0), .val (.int p1), .val (.int p2), .val (.int p3), .val (.int p4), .unset, .unset, .unset, .unset, .unset, .unset] [(.int c0), (.int 0), (.ref b1), (.ref b1)])) rfl rfl (hb hby at_9) ?_
  intro T3 h3 X3 eT3 W3 V1
  have N3 := Fr.snoc X3 N2 g_b1
  have A1 := A1.wr W3
  have HC := HC.trans (CHr.wr W3 Sf_b1 HC.1)
  have hk := Nat.le_trans hk (Nat.le_of_eq (Wr.size W3).symm)
  have O0 := O0.wr W3 g_b1
  have V1 : Arv Z h3 b1 kA1 .char (4 : Int32) [(.int (nar .char c0)), (.int 0), (.int 0), (.int 0)] (.int 0) := V1
  show Goes p e below _ T3 (mkF m 10 #[.val (.int p0), .val (.int p1), .val (.int p2), .val (.int p3), .val (.int p4), .unset, .unset, .unset, .unset, .unset, .unset] [(.ref b1)])
  refine Goes.of (fun _ => XS.dup X3.here hx rfl (hb hby at_10) rfl rfl) ?_
  show Goes p e below _ T3 (mkF m 11 #[.val (.int p0), .val (.int p1), .val (.int p2), .val (.int p3), .val (.int p4), .unset, .unset, .unset, .unset, .unset, .unset] [(.ref b1), (.ref b1)])
  refine Goes.of (fun _ => XS.iconst X3.here hx rfl (hb hby at_11)) ?_
  show Goes p e below _ T3 (mkF m 12 #[.val (.int p0), .val (.int p1), .val (.int p2), .val (.int p3), .val (.int p4), .unset, .unset, .unset, .unset, .unset, .unset] [(.int 1), (.ref b1), (.ref b1)])
  refine Goes.of (fun _ => XS.iloadN X3.here hx rfl (hb hby at_12) rfl) ?_
  show Goes p e below _ T3 (mkF m 13 #[.val (.int p0), .val (.int p1), .val (.int p2), .val (.int p3), .val (.int p4), .unset, .unset, .unset, .unset, .unset, .unset] [(.int p2), (.int 1), (.ref b1), (.ref b1)])
  refine goStatic 3 X3 hx hZ hown (hw _ (List.mem_of_getElem? (i := 1) rfl)) (hw _ (List.mem_of_getElem? (i := 2) rfl)) (hw _ (List.mem_of_getElem? (i := 3) rfl)) (hw _ (List.mem_of_getElem? (i := 4) rfl)) (by decide) (rm_draw l Z a0 hw p2 h3 n0 O0) eT3 (g := (mkF m 13 #[.val (.int p0), .val (.int p1), .val (.int p2), .val (.int p3), .val (.int p4), .unset, .unset, .unset, .unset, .unset, .unset] [(.int p2), (.int 1), (.ref b1), (.ref b1)])) rfl (by rw [hml]; rfl) [(.int p2)] [(.int 1), (.ref b1), (.ref b1)] (lenOf pd__I_C rfl) rfl rfl (by show 2 * 0 + _ ≤ _; exact Nat.le_of_eq rfl) (hb hby at_13) (by decide) (by decide) (by decide) (by decide) ?_
  intro v4 T4 L4 X4 q4
  obtain ⟨c1, rfl, Nq4, eT4, hz1⟩ := q4
  have N4 := Fr.app N3 Nq4
  show Goes p e below _ T4 (mkF m 16 #[.val (.int p0), .val (.int p1), .val (.int p2), .val (.int p3), .val (.int p4), .unset, .unset, .unset, .unset, .unset, .unset] [(.int c1), (.int 1), (.ref b1), (.ref b1)])
  have Sf_b1 : Safe Z EL _ h3 b1 := Safe.arv hZ.alike V1 (by decide)
  refine goStC 1 X4 hx hZ eT4 V1 (by decide) (by decide) rfl (Nat.lt_of_lt_of_le (Nat.lt_succ_self _) (Nat.le_of_ble_eq_true rfl)) (g := (mkF m 16 #[.val (.int p0), .val (.int p1), .val (.int p2), .val (.int p3), .val (.int p4), .unset, .unset, .unset, .unset, .unset, .unset] [(.int c1), (.int 1), (.ref b1), (.ref b1)])) rfl rfl (hb hby at_16) ?_
  intro T5 h5 X5 eT5 W5 V1
  have N5 := Fr.snoc X5 N4 g_b1
  have A1 := A1.wr W5
  have HC := HC.trans (CHr.wr W5 Sf_b1 HC.1)
  have hk := Nat.le_trans hk (Nat.le_of_eq (Wr.size W5).symm)
  have O0 := O0.wr W5 g_b1
  have V1 : Arv Z h5 b1 kA1 .char (4 : Int32) [(.int (nar .char c0)), (.int (nar .char c1)), (.int 0), (.int 0)] (.int 0) := V1
  show Goes p e below _ T5 (mkF m 17 #[.val (.int p0), .val (.int p1), .val (.int p2), .val (.int p3), .val (.int p4), .unset, .unset, .unset, .unset, .unset, .unset] [(.ref b1)])
  refine Goes.of (fun _ => XS.dup X5.here hx rfl (hb hby at_17) rfl rfl) ?_
  show Goes p e below _ T5 (mkF m 18 #[.val (.int p0), .val (.int p1), .val (.int p2), .val (.int p3), .val (.int p4), .unset, .unset, .unset, .unset, .unset, .unset] [(.ref b1), (.ref b1)])
  refine Goes.of (fun _ => XS.iconst X5.here hx rfl (hb hby at_18)) ?_
  show Goes p e below _ T5 (mkF m 19 #[.val (.int p0), .val (.int p1), .val (.int p2), .val (.int p3), .val (.int p4), .unset, .unset, .unset, .unset, .unset, .unset] [(.int 2), (.ref b1), (.ref b1)])
  refine Goes.of (fun _ => XS.iloadN X5.here hx rfl (hb hby at_19) rfl) ?_
  show Goes p e below _ T5 (mkF m 20 #[.val (.int p0), .val (.int p1), .val (.int p2), .val (.int p3), .val (.int p4), .unset, .unset, .unset, .unset, .unset, .unset] [(.int p3), (.int 2), (.ref b1), (.ref b1)])
  refine goStatic 3 X5 hx hZ hown (hw _ (List.mem_of_getElem? (i := 1) rfl)) (hw _ (List.mem_of_getElem? (i := 2) rfl)) (hw _ (List.mem_of_getElem? (i := 3) rfl)) (hw _ (List.mem_of_getElem? (i := 4) rfl)) (by decide) (rm_draw l Z a0 hw p3 h5 n0 O0) eT5 (g := (mkF m 20 #[.val (.int p0), .val (.int p1), .val (.int p2), .val (.int p3), .val (.int p4), .unset, .unset, .unset, .unset, .unset, .unset] [(.int p3), (.int 2), (.ref b1), (.ref b1)])) rfl (by rw [hml]; rfl) [(.int p3)] [(.int 2), (.ref b1), (.ref b1)] (lenOf pd__I_C rfl) rfl rfl (by show 2 * 0 + _ ≤ _; exact Nat.le_of_eq rfl) (hb hby at_20) (by decide) (by decide) (by decide) (by decide) ?_
  intro v6 T6 L6 X6 q6
  obtain ⟨c2, rfl, Nq6, eT6, hz2⟩ := q6
  have N6 := Fr.app N5 Nq6
  show Goes p e below _ T6 (mkF m 23 #[.val (.int p0), .val (.int p1), .val (.int p2), .val (.int p3), .val (.int p4), .unset, .unset, .unset, .unset, .unset, .unset] [(.int c2), (.int 2), (.ref b1), (.ref b1)])
  have Sf_b1 : Safe Z EL _ h5 b1 := Safe.arv hZ.alike V1 (by decide)
  refine goStC 2 X6 hx hZ eT6 V1 (by decide) (by decide) rfl (Nat.lt_of_lt_of_le (Nat.lt_succ_self _) (Nat.le_of_ble_eq_true rfl)) (g := (mkF m 23 #[.val (.int p0), .val (.int p1), .val (.int p2), .val (.int p3), .val (.int p4), .unset, .unset, .unset, .unset, .unset, .unset] [(.int c2), (.int 2), (.ref b1), (.ref b1)])) rfl rfl (hb hby at_23) ?_
  intro T7 h7 X7 eT7 W7 V1
  have N7 := Fr.snoc X7 N6 g_b1
  have A1 := A1.wr W7
  have HC := HC.trans (CHr.wr W7 Sf_b1 HC.1)
  have hk := Nat.le_trans hk (Nat.le_of_eq (Wr.size W7).symm)
  have O0 := O0.wr W7 g_b1
  have V1 : Arv Z h7 b1 kA1 .char (4 : Int32) [(.int (nar .char c0)), (.int (nar .char c1)), (.int (nar .char c2)), (.int 0)] (.int 0) := V1
  show Goes p e below _ T7 (mkF m 24 #[.val (.int p0), .val (.int p1), .val (.int p2), .val (.int p3), .val (.int p4), .unset, .unset, .unset, .unset, .unset, .unset] [(.ref b1)])
  refine Goes.of (fun _ => XS.dup X7.here hx rfl (hb hby at_24) rfl rfl) ?_
  show Goes p e below _ T7 (mkF m 25 #[.val (.int p0), .val (.int p1), .val (.int p2), .val (.int p3), .val (.int p4), .unset, .unset, .unset, .unset, .unset, .unset] [(.ref b1), (.ref b1)])
  refine Goes.of (fun _ => XS.iconst X7.here hx rfl (hb hby at_25)) ?_
  show Goes p e below _ T7 (mkF m 26 #[.val (.int p0), .val (.int p1), .val (.int p2), .val (.int p3), .val (.int p4), .unset, .unset, .unset, .unset, .unset, .unset] [(.int 3), (.ref b1), (.ref b1)])
  refine Goes.of (fun _ => XS.iload X7.here hx rfl (hb hby at_26) rfl) ?_
  show Goes p e below _ T7 (mkF m 28 #[.val (.int p0), .val (.int p1), .val (.int p2), .val (.int p3), .val (.int p4), .unset, .unset, .unset, .unset, .unset, .unset] [(.int p4), (.int 3), (.ref b1), (.ref b1)])
  refine goStatic 3 X7 hx hZ hown (hw _ (List.mem_of_getElem? (i := 1) rfl)) (hw _ (List.mem_of_getElem? (i := 2) rfl)) (hw _ (List.mem_of_getElem? (i := 3) rfl)) (hw _ (List.mem_of_getElem? (i := 4) rfl)) (by decide) (rm_draw l Z a0 hw p4 h7 n0 O0) eT7 (g := (mkF m 28 #[.val (.int p0), .val (.int p1), .val (.int p2), .val (.int p3), .val (.int p4), .unset, .unset, .unset, .unset, .unset, .unset] [(.int p4), (.int 3), (.ref b1), (.ref b1)])) rfl (by rw [hml]; rfl) [(.int p4)] [(.int 3), (.ref b1), (.ref b1)] (lenOf pd__I_C rfl) rfl rfl (by show 2 * 0 + _ ≤ _; exact Nat.le_of_eq rfl) (hb hby at_28) (by decide) (by decide) (by decide) (by decide) ?_
  intro v8 T8 L8 X8 q8
  obtain ⟨c3, rfl, Nq8, eT8, hz3⟩ := q8
  have N8 := Fr.app N7 Nq8
  show Goes p e below _ T8 (mkF m 31 #[.val (.int p0), .val (.int p1), .val (.int p2), .val (.int p3), .val (.int p4), .unset, .unset, .unset, .unset, .unset, .unset] [(.int c3), (.int 3), (.ref b1), (.ref b1)])
  have Sf_b1 : Safe Z EL _ h7 b1 := Safe.arv hZ.alike V1 (by decide)
  refine goStC 3 X8 hx hZ eT8 V1 (by decide) (by decide) rfl (Nat.lt_of_lt_of_le (Nat.lt_succ_self _) (Nat.le_of_ble_eq_true rfl)) (g := (mkF m 31 #[.val (.int p0), .val (.int p1), .val (.int p2), .val (.int p3), .val (.int p4), .unset, .unset, .unset, .unset, .unset, .unset] [(.int c3), (.int 3), (.ref b1), (.ref b1)])) rfl rfl (hb hby at_31) ?_
  intro T9 h9 X9 eT9 W9 V1
  have N9 := Fr.snoc X9 N8 g_b1
  have A1 := A1.wr W9
  have HC := HC.trans (CHr.wr W9 Sf_b1 HC.1)
  have hk := Nat.le_trans hk (Nat.le_of_eq (Wr.size W9).symm)
  have O0 := O0.wr W9 g_b1
  have V1 : Arv Z h9 b1 kA1 .char (4 : Int32) [(.int (nar .char c0)), (.int (nar .char c1)), (.int (nar .char c2)), (.int (nar .char c3))] (.int 0) := V1
  show Goes p e below _ T9 (mkF m 32 #[.val (.int p0), .val (.int p1), .val (.int p2), .val (.int p3), .val (.int p4), .unset, .unset, .unset, .unset, .unset, .unset] [(.ref b1)])
  have V1 : Arv Z h9 b1 kA1 .char (4 : Int32) [(.int c0), (.int c1), (.int c2), (.int c3)] (.int 0) := by have q := V1; rw [narC hz0, narC hz1, narC hz2, narC hz3] at q; exact q
  refine Goes.of (fun _ => XS.astore X9.here hx rfl (hb hby at_32) rfl rfl (l' := #[.val (.int p0), .val (.int p1), .val (.int p2), .val (.int p3), .val (.int p4), .val (.ref b1), .unset, .unset, .unset, .unset, .unset]) rfl) ?_
  show Goes p e below _ T9 (mkF m 34 #[.val (.int p0), .val (.int p1), .val (.int p2), .val (.int p3), .val (.int p4), .val (.ref b1), .unset, .unset, .unset, .unset, .unset] [])
  refine Goes.of (fun _ => XS.iloadN X9.here hx rfl (hb hby at_34) rfl) ?_
  show Goes p e below _ T9 (mkF m 35 #[.val (.int p0), .val (.int p1), .val (.int p2), .val (.int p3), .val (.int p4), .val (.ref b1), .unset, .unset, .unset, .unset, .unset] [(.int p0)])
  refine Goes.of (fun _ => XS.bipush X9.here hx rfl (hb hby at_35)) ?_
  show Goes p e below _ T9 (mkF m 37 #[.val (.int p0), .val (.int p1), .val (.int p2), .val (.int p3), .val (.int p4), .val (.ref b1), .unset, .unset, .unset, .unset, .unset] [(.int 8), (.int p0)])
  refine Goes.of (fun _ => XS.iand X9.here hx rfl (hb hby at_37) rfl) ?_
  show Goes p e below _ T9 (mkF m 38 #[.val (.int p0), .val (.int p1), .val (.int p2), .val (.int p3), .val (.int p4), .val (.ref b1), .unset, .unset, .unset, .unset, .unset] [(.int (p0 &&& (8 : Int32)))])
  by_cases hpc38 : (p0 &&& (8 : Int32)) = (0 : Int32)
  · refine Goes.of (fun _ => XS.ifYes X9.here hx rfl (pc0 := 38) (pc' := 45) rfl (hb hby at_38) rfl ((if0 _ _).trans (teq hpc38).1) (by decide) (by decide)) ?_
    show Goes p e below _ T9 (mkF m 45 #[.val (.int p0), .val (.int p1), .val (.int p2), .val (.int p3), .val (.int p4), .val (.ref b1), .unset, .unset, .unset, .unset, .unset] [])
    refine Goes.of (fun _ => XS.iconst X9.here hx rfl (hb hby at_45)) ?_
    show Goes p e below _ T9 (mkF m 46 #[.val (.int p0), .val (.int p1), .val (.int p2), .val (.int p3), .val (.int p4), .val (.ref b1), .unset, .unset, .unset, .unset, .unset] [(.int 0)])
    refine Goes.of (fun _ => XS.istore X9.here hx rfl (hb hby at_46) rfl (l' := #[.val (.int p0), .val (.int p1), .val (.int p2), .val (.int p3), .val (.int p4), .val (.ref b1), .val (.int 0), .unset, .unset, .unset, .unset]) rfl) ?_
    show Goes p e below _ T9 (mkF m 48 #[.val (.int p0), .val (.int p1), .val (.int p2), .val (.int p3), .val (.int p4), .val (.ref b1), .val (.int 0), .unset, .unset, .unset, .unset] [])
    refine Goes.of (fun _ => XS.iload X9.here hx rfl (hb hby at_48) rfl) ?_
    show Goes p e below _ T9 (mkF m 50 #[.val (.int p0), .val (.int p1), .val (.int p2), .val (.int p3), .val (.int p4), .val (.ref b1), .val (.int 0), .unset, .unset, .unset, .unset] [(.int 0)])
    refine Goes.of (fun _ => XS.ifYes X9.here hx rfl (pc0 := 50) (pc' := 57) rfl (hb hby at_50) rfl ((if0 _ _).trans (teq (by decide)).1) (by decide) (by decide)) ?_
    show Goes p e below _ T9 (mkF m 57 #[.val (.int p0), .val (.int p1), .val (.int p2), .val (.int p3), .val (.int p4), .val (.ref b1), .val (.int 0), .unset, .unset, .unset, .unset] [])
    refine Goes.of (fun _ => XS.iloadN X9.here hx rfl (hb hby at_57) rfl) ?_
    show Goes p e below _ T9 (mkF m 58 #[.val (.int p0), .val (.int p1), .val (.int p2), .val (.int p3), .val (.int p4), .val (.ref b1), .val (.int 0), .unset, .unset, .unset, .unset] [(.int p0)])
    refine Goes.of (fun _ => XS.bipush X9.here hx rfl (hb hby at_58)) ?_
    show Goes p e below _ T9 (mkF m 60 #[.val (.int p0), .val (.int p1), .val (.int p2), .val (.int p3), .val (.int p4), .val (.ref b1), .val (.int 0), .unset, .unset, .unset, .unset] [(.int 7), (.int p0)])
    refine Goes.of (fun _ => XS.iand X9.here hx rfl (hb hby at_60) rfl) ?_
    show Goes p e below _ T9 (mkF m 61 #[.val (.int p0), .val (.int p1), .val (.int p2), .val (.int p3), .val (.int p4), .val (.ref b1), .val (.int 0), .unset, .unset, .unset, .unset] [(.int (p0 &&& (7 : Int32)))])
    refine Goes.of (fun _ => XS.iconst X9.here hx rfl (hb hby at_61)) ?_
    show Goes p e below _ T9 (mkF m 62 #[.val (.int p0), .val (.int p1), .val (.int p2), .val (.int p3), .val (.int p4), .val (.ref b1), .val (.int 0), .unset, .unset, .unset, .unset] [(.int 5), (.int (p0 &&& (7 : Int32)))])
    refine Goes.of (fun _ => XS.irem X9.here hx rfl (hb hby at_62) rfl (by decide)) ?_
    show Goes p e below _ T9 (mkF m 63 #[.val (.int p0), .val (.int p1), .val (.int p2), .val (.int p3), .val (.int p4), .val (.ref b1), .val (.int 0), .unset, .unset, .unset, .unset] [(.int ((p0 &&& (7 : Int32)) - ((p0 &&& (7 : Int32)) / (5 : Int32)) * (5 : Int32)))])
    refine Goes.of (fun _ => XS.istore X9.here hx rfl (hb hby at_63) rfl (l' := #[.val (.int p0), .val (.int p1), .val (.int p2), .val (.int p3), .val (.int p4), .val (.ref b1), .val (.int 0), .val (.int ((p0 &&& (7 : Int32)) - ((p0 &&& (7 : Int32)) / (5 : Int32)) * (5 : Int32))), .unset, .unset, .unset]) rfl) ?_
    show Goes p e below _ T9 (mkF m 65 #[.val (.int p0), .val (.int p1), .val (.int p2), .val (.int p3), .val (.int p4), .val (.ref b1), .val (.int 0), .val (.int ((p0 &&& (7 : Int32)) - ((p0 &&& (7 : Int32)) / (5 : Int32)) * (5 : Int32))), .unset, .unset, .unset] [])
    generalize hnn : ((p0 &&& (7 : Int32)) - ((p0 &&& (7 : Int32)) / (5 : Int32)) * (5 : Int32)) = nn
    show Goes p e below _ T9 (mkF m 65 #[.val (.int p0), .val (.int p1), .val (.int p2), .val (.int p3), .val (.int p4), .val (.ref b1), .val (.int 0), .val (.int nn), .unset, .unset, .unset] [])
    have hn5 := rem5 p0
    rw [hnn] at hn5
    rcases hn5 with rfl | rfl | rfl | rfl | rfl
    · show Goes p e below _ T9 (mkF m 65 #[.val (.int p0), .val (.int p1), .val (.int p2), .val (.int p3), .val (.int p4), .val (.ref b1), .val (.int 0), .val (.int 0), .unset, .unset, .unset] [])
      refine Goes.of (fun _ => XS.aload X9.here hx rfl (hb hby at_65) rfl rfl) ?_
      show Goes p e below _ T9 (mkF m 67 #[.val (.int p0), .val (.int p1), .val (.int p2), .val (.int p3), .val (.int p4), .val (.ref b1), .val (.int 0), .val (.int 0), .unset, .unset, .unset] [(.ref b1)])
      refine Goes.of (fun _ => XS.iload X9.here hx rfl (hb hby at_67) rfl) ?_
      show Goes p e below _ T9 (mkF m 69 #[.val (.int p0), .val (.int p1), .val (.int p2), .val (.int p3), .val (.int p4), .val (.ref b1), .val (.int 0), .val (.int 0), .unset, .unset, .unset] [(.int 0), (.ref b1)])
      refine Goes.of (fun _ => XS.iconst X9.here hx rfl (hb hby at_69)) ?_
      show Goes p e below _ T9 (mkF m 70 #[.val (.int p0), .val (.int p1), .val (.int p2), .val (.int p3), .val (.int p4), .val (.ref b1), .val (.int 0), .val (.int 0), .unset, .unset, .unset] [(.int 0), (.int 0), (.ref b1)])
      refine goStatic 0 X9 hx hZ hown (hw _ (List.mem_of_getElem? (i := 8) rfl)) (hw _ (List.mem_of_getElem? (i := 9) rfl)) (hw _ (List.mem_of_getElem? (i := 3) rfl)) (hw _ (List.mem_of_getElem? (i := 10) rfl)) (by decide) (rm_bad_0_0 l Z a0 hw b1 _ c0 c1 c2 c3 h9 n0 O0 V1) eT9 (g := (mkF m 70 #[.val (.int p0), .val (.int p1), .val (.int p2), .val (.int p3), .val (.int p4), .val (.ref b1), .val (.int 0), .val (.int 0), .unset, .unset, .unset] [(.int 0), (.int 0), (.ref b1)])) rfl (by rw [hml]; rfl) [(.ref b1), (.int 0), (.int 0)] [] (lenOf pd___CII_Z rfl) rfl rfl (by show 2 * 0 + _ ≤ _; exact Nat.le_of_eq rfl) (hb hby at_70) (by decide) (by decide) (by decide) (by decide) ?_
      intro v10 T10 L10 X10 q10
      obtain ⟨rfl, Nq10, eT10⟩ := q10
      have N10 := Fr.app N9 Nq10
      show Goes p e below _ T10 (mkF m 73 #[.val (.int p0), .val (.int p1), .val (.int p2), .val (.int p3), .val (.int p4), .val (.ref b1), .val (.int 0), .val (.int 0), .unset, .unset, .unset] [(.int 0)])
      refine Goes.of (fun _ => XS.ifNo X10.here hx rfl (hb hby at_73) rfl ((if0 _ _).trans (teq (by decide)).2)) ?_
      show Goes p e below _ T10 (mkF m 76 #[.val (.int p0), .val (.int p1), .val (.int p2), .val (.int p3), .val (.int p4), .val (.ref b1), .val (.int 0), .val (.int 0), .unset, .unset, .unset] [])
      refine Goes.of (fun _ => XS.aload X10.here hx rfl (hb hby at_76) rfl rfl) ?_
      show Goes p e below _ T10 (mkF m 78 #[.val (.int p0), .val (.int p1), .val (.int p2), .val (.int p3), .val (.int p4), .val (.ref b1), .val (.int 0), .val (.int 0), .unset, .unset, .unset] [(.ref b1)])
      refine Goes.of (fun _ => XS.iload X10.here hx rfl (hb hby at_78) rfl) ?_
      show Goes p e below _ T10 (mkF m 80 #[.val (.int p0), .val (.int p1), .val (.int p2), .val (.int p3), .val (.int p4), .val (.ref b1), .val (.int 0), .val (.int 0), .unset, .unset, .unset] [(.int 0), (.ref b1)])
      refine Goes.of (fun _ => XS.iconst X10.here hx rfl (hb hby at_80)) ?_
      show Goes p e below _ T10 (mkF m 81 #[.val (.int p0), .val (.int p1), .val (.int p2), .val (.int p3), .val (.int p4), .val (.ref b1), .val (.int 0), .val (.int 0), .unset, .unset, .unset] [(.int 1), (.int 0), (.ref b1)])
      refine goStatic 0 X10 hx hZ hown (hw _ (List.mem_of_getElem? (i := 8) rfl)) (hw _ (List.mem_of_getElem? (i := 9) rfl)) (hw _ (List.mem_of_getElem? (i := 3) rfl)) (hw _ (List.mem_of_getElem? (i := 10) rfl)) (by decide) (rm_bad_0_1 l Z a0 hw b1 _ c0 c1 c2 c3 h9 n0 O0 V1) eT10 (g := (mkF m 81 #[.val (.int p0), .val (.int p1), .val (.int p2), .val (.int p3), .val (.int p4), .val (.ref b1), .val (.int 0), .val (.int 0), .unset, .unset, .unset] [(.int 1), (.int 0), (.ref b1)])) rfl (by rw [hml]; rfl) [(.ref b1), (.int 0), (.int 1)] [] (lenOf pd___CII_Z rfl) rfl rfl (by show 2 * 0 + _ ≤ _; exact Nat.le_of_eq rfl) (hb hby at_81) (by decide) (by decide) (by decide) (by decide) ?_
      intro v11 T11 L11 X11 q11
      obtain ⟨rfl, Nq11, eT11⟩ := q11
      have N11 := Fr.app N10 Nq11
      show Goes p e below _ T11 (mkF m 84 #[.val (.int p0), .val (.int p1), .val (.int p2), .val (.int p3), .val (.int p4), .val (.ref b1), .val (.int 0), .val (.int 0), .unset, .unset, .unset] [(.int 0)])
      refine Goes.of (fun _ => XS.ifNo X11.here hx rfl (hb hby at_84) rfl ((if0 _ _).trans (teq (by decide)).2)) ?_
      show Goes p e below _ T11 (mkF m 87 #[.val (.int p0), .val (.int p1), .val (.int p2), .val (.int p3), .val (.int p4), .val (.ref b1), .val (.int 0), .val (.int 0), .unset, .unset, .unset] [])
      refine Goes.of (fun _ => XS.aload X11.here hx rfl (hb hby at_87) rfl rfl) ?_
      show Goes p e below _ T11 (mkF m 89 #[.val (.int p0), .val (.int p1), .val (.int p2), .val (.int p3), .val (.int p4), .val (.ref b1), .val (.int 0), .val (.int 0), .unset, .unset, .unset] [(.ref b1)])
      refine Goes.of (fun _ => XS.iload X11.here hx rfl (hb hby at_89) rfl) ?_
      show Goes p e below _ T11 (mkF m 91 #[.val (.int p0), .val (.int p1), .val (.int p2), .val (.int p3), .val (.int p4), .val (.ref b1), .val (.int 0), .val (.int 0), .unset, .unset, .unset] [(.int 0), (.ref b1)])
      refine Goes.of (fun _ => XS.iconst X11.here hx rfl (hb hby at_91)) ?_
      show Goes p e below _ T11 (mkF m 92 #[.val (.int p0), .val (.int p1), .val (.int p2), .val (.int p3), .val (.int p4), .val (.ref b1), .val (.int 0), .val (.int 0), .unset, .unset, .unset] [(.int 2), (.int 0), (.ref b1)])
      refine goStatic 0 X11 hx hZ hown (hw _ (List.mem_of_getElem? (i := 8) rfl)) (hw _ (List.mem_of_getElem? (i := 9) rfl)) (hw _ (List.mem_of_getElem? (i := 3) rfl)) (hw _ (List.mem_of_getElem? (i := 10) rfl)) (by decide) (rm_bad_0_2 l Z a0 hw b1 _ c0 c1 c2 c3 h9 n0 O0 V1) eT11 (g := (mkF m 92 #[.val (.int p0), .val (.int p1), .val (.int p2), .val (.int p3), .val (.int p4), .val (.ref b1), .val (.int 0), .val (.int 0), .unset, .unset, .unset] [(.int 2), (.int 0), (.ref b1)])) rfl (by rw [hml]; rfl) [(.ref b1), (.int 0), (.int 2)] [] (lenOf pd___CII_Z rfl) rfl rfl (by show 2 * 0 + _ ≤ _; exact Nat.le_of_eq rfl) (hb hby at_92) (by decide) (by decide) (by decide) (by decide) ?_
      intro v12 T12 L12 X12 q12
      obtain ⟨rfl, Nq12, eT12⟩ := q12
      have N12 := Fr.app N11 Nq12
      show Goes p e below _ T12 (mkF m 95 #[.val (.int p0), .val (.int p1), .val (.int p2), .val (.int p3), .val (.int p4), .val (.ref b1), .val (.int 0), .val (.int 0), .unset, .unset, .unset] [(.int 0)])
      refine Goes.of (fun _ => XS.ifNo X12.here hx rfl (hb hby at_95) rfl ((if0 _ _).trans (teq (by decide)).2)) ?_
      show Goes p e below _ T12 (mkF m 98 #[.val (.int p0), .val (.int p1), .val (.int p2), .val (.int p3), .val (.int p4), .val (.ref b1), .val (.int 0), .val (.int 0), .unset, .unset, .unset] [])
      refine Goes.of (fun _ => XS.aload X12.here hx rfl (hb hby at_98) rfl rfl) ?_
      show Goes p e below _ T12 (mkF m 100 #[.val (.int p0), .val (.int p1), .val (.int p2), .val (.int p3), .val (.int p4), .val (.ref b1), .val (.int 0), .val (.int 0), .unset, .unset, .unset] [(.ref b1)])
      refine Goes.of (fun _ => XS.iload X12.here hx rfl (hb hby at_100) rfl) ?_
      show Goes p e below _ T12 (mkF m 102 #[.val (.int p0), .val (.int p1), .val (.int p2), .val (.int p3), .val (.int p4), .val (.ref b1), .val (.int 0), .val (.int 0), .unset, .unset, .unset] [(.int 0), (.ref b1)])
      refine Goes.of (fun _ => XS.iconst X12.here hx rfl (hb hby at_102)) ?_
      show Goes p e below _ T12 (mkF m 103 #[.val (.int p0), .val (.int p1), .val (.int p2), .val (.int p3), .val (.int p4), .val (.ref b1), .val (.int 0), .val (.int 0), .unset, .unset, .unset] [(.int 3), (.int 0), (.ref b1)])
      refine goStatic 0 X12 hx hZ hown (hw _ (List.mem_of_getElem? (i := 8) rfl)) (hw _ (List.mem_of_getElem? (i := 9) rfl)) (hw _ (List.mem_of_getElem? (i := 3) rfl)) (hw _ (List.mem_of_getElem? (i := 10) rfl)) (by decide) (rm_bad_0_3 l Z a0 hw b1 _ c0 c1 c2 c3 h9 n0 O0 V1) eT12 (g := (mkF m 103 #[.val (.int p0), .val (.int p1), .val (.int p2), .val (.int p3), .val (.int p4), .val (.ref b1), .val (.int 0), .val (.int 0), .unset, .unset, .unset] [(.int 3), (.int 0), (.ref b1)])) rfl (by rw [hml]; rfl) [(.ref b1), (.int 0), (.int 3)] [] (lenOf pd___CII_Z rfl) rfl rfl (by show 2 * 0 + _ ≤ _; exact Nat.le_of_eq rfl) (hb hby at_103) (by decide) (by decide) (by decide) (by decide) ?_
      intro v13 T13 L13 X13 q13
      obtain ⟨rfl, Nq13, eT13⟩ := q13
      have N13 := Fr.app N12 Nq13
      show Goes p e below _ T13 (mkF m 106 #[.val (.int p0), .val (.int p1), .val (.int p2), .val (.int p3), .val (.int p4), .val (.ref b1), .val (.int 0), .val (.int 0), .unset, .unset, .unset] [(.int 0)])
      refine Goes.of (fun _ => XS.ifNo X13.here hx rfl (hb hby at_106) rfl ((if0 _ _).trans (teq (by decide)).2)) ?_
      show Goes p e below _ T13 (mkF m 109 #[.val (.int p0), .val (.int p1), .val (.int p2), .val (.int p3), .val (.int p4), .val (.ref b1), .val (.int 0), .val (.int 0), .unset, .unset, .unset] [])
      refine Goes.of (fun _ => XS.iconst X13.here hx rfl (hb hby at_109)) ?_
      show Goes p e below _ T13 (mkF m 110 #[.val (.int p0), .val (.int p1), .val (.int p2), .val (.int p3), .val (.int p4), .val (.ref b1), .val (.int 0), .val (.int 0), .unset, .unset, .unset] [(.int 1)])
      refine Goes.of (fun _ => XS.goto X13.here hx rfl (pc0 := 110) (pc' := 114) rfl (hb hby at_110) (by decide) (by decide)) ?_
      show Goes p e below _ T13 (mkF m 114 #[.val (.int p0), .val (.int p1), .val (.int p2), .val (.int p3), .val (.int p4), .val (.ref b1), .val (.int 0), .val (.int 0), .unset, .unset, .unset] [(.int 1)])
      refine Goes.of (fun _ => XS.istore X13.here hx rfl (hb hby at_114) rfl (l' := #[.val (.int p0), .val (.int p1), .val (.int p2), .val (.int p3), .val (.int p4), .val (.ref b1), .val (.int 0), .val (.int 0), .val (.int 1), .unset, .unset]) rfl) ?_
      show Goes p e below _ T13 (mkF m 116 #[.val (.int p0), .val (.int p1), .val (.int p2), .val (.int p3), .val (.int p4), .val (.ref b1), .val (.int 0), .val (.int 0), .val (.int 1), .unset, .unset] [])
      refine Goes.of (fun _ => XS.iload X13.here hx rfl (hb hby at_116) rfl) ?_
      show Goes p e below _ T13 (mkF m 118 #[.val (.int p0), .val (.int p1), .val (.int p2), .val (.int p3), .val (.int p4), .val (.ref b1), .val (.int 0), .val (.int 0), .val (.int 1), .unset, .unset] [(.int 1)])
      refine Goes.of (fun _ => XS.ifYes X13.here hx rfl (pc0 := 118) (pc' := 123) rfl (hb hby at_118) rfl ((if0 _ _).trans (feq (by decide)).2) (by decide) (by decide)) ?_
      show Goes p e below _ T13 (mkF m 123 #[.val (.int p0), .val (.int p1), .val (.int p2), .val (.int p3), .val (.int p4), .val (.ref b1), .val (.int 0), .val (.int 0), .val (.int 1), .unset, .unset] [])
      have hval : Val [] := trivial
      refine Goes.of (fun _ => XS.iload X13.here hx rfl (hb hby at_123) rfl) ?_
      show Goes p e below _ T13 (mkF m 125 #[.val (.int p0), .val (.int p1), .val (.int p2), .val (.int p3), .val (.int p4), .val (.ref b1), .val (.int 0), .val (.int 0), .val (.int 1), .unset, .unset] [(.int 0)])
      refine Goes.of (fun _ => XS.ifYes X13.here hx rfl (pc0 := 125) (pc' := 189) rfl (hb hby at_125) rfl ((if0 _ _).trans (teq (by decide)).1) (by decide) (by decide)) ?_
      show Goes p e below _ T13 (mkF m 189 #[.val (.int p0), .val (.int p1), .val (.int p2), .val (.int p3), .val (.int p4), .val (.ref b1), .val (.int 0), .val (.int 0), .val (.int 1), .unset, .unset] [])
      refine Goes.of (fun _ => XS.aload X13.here hx rfl (hb hby at_189) rfl rfl) ?_
      show Goes p e below _ T13 (mkF m 191 #[.val (.int p0), .val (.int p1), .val (.int p2), .val (.int p3), .val (.int p4), .val (.ref b1), .val (.int 0), .val (.int 0), .val (.int 1), .unset, .unset] [(.ref b1)])
      refine Goes.of (fun _ => XS.iload X13.here hx rfl (hb hby at_191) rfl) ?_
      show Goes p e below _ T13 (mkF m 193 #[.val (.int p0), .val (.int p1), .val (.int p2), .val (.int p3), .val (.int p4), .val (.ref b1), .val (.int 0), .val (.int 0), .val (.int 1), .unset, .unset] [(.int 0), (.ref b1)])
      refine goStaticW 0 X13 hS hk hEL HC hx hZ hown (hw _ (List.mem_of_getElem? (i := 11) rfl)) (hw _ (List.mem_of_getElem? (i := 12) rfl)) (hw _ (List.mem_of_getElem? (i := 3) rfl)) (hw _ (List.mem_of_getElem? (i := 13) rfl)) (by decide) (rm_make_0 l Z a0 hw b1 _ c0 c1 c2 c3 cz h9 n0 O0 Sa Sh Sl Sc hcz hz0 hz1 hz2 hz3 V1) eT13 (g := (mkF m 193 #[.val (.int p0), .val (.int p1), .val (.int p2), .val (.int p3), .val (.int p4), .val (.ref b1), .val (.int 0), .val (.int 0), .val (.int 1), .unset, .unset] [(.int 0), (.ref b1)])) rfl (by rw [hml]; rfl) [(.ref b1), (.int 0)] [] (lenOf pd___CI_Ljava_lang_String_ rfl) rfl rfl (by show 2 * 0 + _ ≤ _; exact Nat.le_of_eq rfl) (hb hby at_193) (by decide) (by decide) (by decide) (by decide) ?_
      intro v14 T14 L14 kk14 X14 hS hk hZ hown HC q14
      obtain ⟨sb14, rfl, Nq14, Kq14, Su14⟩ := q14
      have N14 := Fr.app N13 Nq14
      have V1 := V1.keep Kq14 nin0
      have A1 := A1.keep Kq14
      have O0 := O0.keep Kq14 all0
      show Goes p e below _ T14 (mkF m 196 #[.val (.int p0), .val (.int p1), .val (.int p2), .val (.int p3), .val (.int p4), .val (.ref b1), .val (.int 0), .val (.int 0), .val (.int 1), .unset, .unset] [(.ref sb14)])
      refine Goes.of (fun _ => XS.astore X14.here hx rfl (hb hby at_196) rfl rfl (l' := #[.val (.int p0), .val (.int p1), .val (.int p2), .val (.int p3), .val (.int p4), .val (.ref b1), .val (.int 0), .val (.int 0), .val (.int 1), .val (.ref sb14), .unset]) rfl) ?_
      show Goes p e below _ T14 (mkF m 198 #[.val (.int p0), .val (.int p1), .val (.int p2), .val (.int p3), .val (.int p4), .val (.ref b1), .val (.int 0), .val (.int 0), .val (.int 1), .val (.ref sb14), .unset] [])
      obtain ⟨Es, tt, kt, Fv, hor⟩ := Su14
      rcases hor with ⟨Fc, hlat, Vt⟩ | ⟨-, Fc, Vt⟩
      · show Goes p e below _ T14 (mkF m 198 #[.val (.int p0), .val (.int p1), .val (.int p2), .val (.int p3), .val (.int p4), .val (.ref b1), .val (.int 0), .val (.int 0), .val (.int 1), .val (.ref sb14), .unset] [])
        refine Goes.of (fun _ => XS.aload X14.here hx rfl (hb hby at_198) rfl rfl) ?_
        show Goes p e below _ T14 (mkF m 200 #[.val (.int p0), .val (.int p1), .val (.int p2), .val (.int p3), .val (.int p4), .val (.ref b1), .val (.int 0), .val (.int 0), .val (.int 1), .val (.ref sb14), .unset] [(.ref sb14)])
        refine goStaticW 0 X14 hS hk hEL HC hx hZ hown (hw _ (List.mem_of_getElem? (i := 35) rfl)) (hw _ (List.mem_of_getElem? (i := 36) rfl)) (hw _ (List.mem_of_getElem? (i := 37) rfl)) (hw _ (List.mem_of_getElem? (i := 38) rfl)) (by decide) (rm_chk_lat l Z a0 hw sb14 tt kt [] cz fm T14.heap n0 O0 Sa Sh Sl Sc hcz Sf hfm (by simp) Es Fv Fc Vt (hcs_0 hz0 hz1 hz2 hz3) hlat) (rfl : T14.heap = _) (g := (mkF m 200 #[.val (.int p0), .val (.int p1), .val (.int p2), .val (.int p3), .val (.int p4), .val (.ref b1), .val (.int 0), .val (.int 0), .val (.int 1), .val (.ref sb14), .unset] [(.ref sb14)])) rfl (by rw [hml]; rfl) [(.ref sb14)] [] (lenOf pd__Ljava_lang_String__Ljava_lang_String_ rfl) rfl rfl (by show 2 * 0 + _ ≤ _; exact Nat.le_of_eq rfl) (hb hby at_200) (by decide) (by decide) (by decide) (by decide) ?_
        intro v15 T15 L15 kk15 X15 hS hk hZ hown HC q15
        obtain ⟨rfl, Nq15, Kq15⟩ := q15
        have N15 := Fr.app N14 Nq15
        have O0 := O0.keep Kq15 all0
        show Goes p e below _ T15 (mkF m 203 #[.val (.int p0), .val (.int p1), .val (.int p2), .val (.int p3), .val (.int p4), .val (.ref b1), .val (.int 0), .val (.int 0), .val (.int 1), .val (.ref sb14), .unset] [(.ref sb14)])
        refine Goes.of (fun _ => XS.astore X15.here hx rfl (hb hby at_203) rfl rfl (l' := #[.val (.int p0), .val (.int p1), .val (.int p2), .val (.int p3), .val (.int p4), .val (.ref b1), .val (.int 0), .val (.int 0), .val (.int 1), .val (.ref sb14), .val (.ref sb14)]) rfl) ?_
        show Goes p e below _ T15 (mkF m 205 #[.val (.int p0), .val (.int p1), .val (.int p2), .val (.int p3), .val (.int p4), .val (.ref b1), .val (.int 0), .val (.int 0), .val (.int 1), .val (.ref sb14), .val (.ref sb14)] [])
        refine Goes.of (fun _ => XS.aload X15.here hx rfl (hb hby at_205) rfl rfl) ?_
        show Goes p e below _ T15 (mkF m 207 #[.val (.int p0), .val (.int p1), .val (.int p2), .val (.int p3), .val (.int p4), .val (.ref b1), .val (.int 0), .val (.int 0), .val (.int 1), .val (.ref sb14), .val (.ref sb14)] [(.ref sb14)])
        refine Goes.of (fun _ => XS.aload X15.here hx rfl (hb hby at_207) rfl rfl) ?_
        show Goes p e below _ T15 (mkF m 209 #[.val (.int p0), .val (.int p1), .val (.int p2), .val (.int p3), .val (.int p4), .val (.ref b1), .val (.int 0), .val (.int 0), .val (.int 1), .val (.ref sb14), .val (.ref sb14)] [(.ref sb14), (.ref sb14)])
        refine Goes.of (fun _ => Jvm.RoadKit.acmp (g := (mkF m 209 #[.val (.int p0), .val (.int p1), .val (.int p2), .val (.int p3), .val (.int p4), .val (.ref b1), .val (.int 0), .val (.int 0), .val (.int 1), .val (.ref sb14), .val (.ref sb14)] [(.ref sb14), (.ref sb14)])) X15 hx rfl rfl rfl (pc0 := 209) (pc' := 212) (same := true) rfl (hb hby at_209) rfl (decide_eq_true rfl) (by decide) (by decide)) ?_
        show Goes p e below _ T15 (mkF m 212 #[.val (.int p0), .val (.int p1), .val (.int p2), .val (.int p3), .val (.int p4), .val (.ref b1), .val (.int 0), .val (.int 0), .val (.int 1), .val (.ref sb14), .val (.ref sb14)] [])
        refine Goes.of (fun _ => XS.iconst X15.here hx rfl (hb hby at_212)) ?_
        show Goes p e below _ T15 (mkF m 213 #[.val (.int p0), .val (.int p1), .val (.int p2), .val (.int p3), .val (.int p4), .val (.ref b1), .val (.int 0), .val (.int 0), .val (.int 1), .val (.ref sb14), .val (.ref sb14)] [(.int 1)])
        refine Goes.of (fun _ => XS.goto X15.here hx rfl (pc0 := 213) (pc' := 217) rfl (hb hby at_213) (by decide) (by decide)) ?_
        show Goes p e below _ T15 (mkF m 217 #[.val (.int p0), .val (.int p1), .val (.int p2), .val (.int p3), .val (.int p4), .val (.ref b1), .val (.int 0), .val (.int 0), .val (.int 1), .val (.ref sb14), .val (.ref sb14)] [(.int 1)])
        exact retZW (t := .boolean) X15 hS hk hZ hEL HC hx hret hlk (by simp) (hb hby at_217) (rfl : T15.heap = _) (by decide) (by decide) ⟨rfl, N15⟩
      · show Goes p e below _ T14 (mkF m 198 #[.val (.int p0), .val (.int p1), .val (.int p2), .val (.int p3), .val (.int p4), .val (.ref b1), .val (.int 0), .val (.int 0), .val (.int 1), .val (.ref sb14), .unset] [])
        refine Goes.of (fun _ => XS.aload X14.here hx rfl (hb hby at_198) rfl rfl) ?_
        show Goes p e below _ T14 (mkF m 200 #[.val (.int p0), .val (.int p1), .val (.int p2), .val (.int p3), .val (.int p4), .val (.ref b1), .val (.int 0), .val (.int 0), .val (.int 1), .val (.ref sb14), .unset] [(.ref sb14)])
        refine goStaticW 0 X14 hS hk hEL HC hx hZ hown (hw _ (List.mem_of_getElem? (i := 35) rfl)) (hw _ (List.mem_of_getElem? (i := 36) rfl)) (hw _ (List.mem_of_getElem? (i := 37) rfl)) (hw _ (List.mem_of_getElem? (i := 38) rfl)) (by decide) (rm_chk_utf l Z a0 hw sb14 tt kt [] cz fm T14.heap n0 O0 Sa Sh Sl Sc hcz Sf hfm (by simp) Es Fv Fc Vt (hcs_0 hz0 hz1 hz2 hz3) hval) (rfl : T14.heap = _) (g := (mkF m 200 #[.val (.int p0), .val (.int p1), .val (.int p2), .val (.int p3), .val (.int p4), .val (.ref b1), .val (.int 0), .val (.int 0), .val (.int 1), .val (.ref sb14), .unset] [(.ref sb14)])) rfl (by rw [hml]; rfl) [(.ref sb14)] [] (lenOf pd__Ljava_lang_String__Ljava_lang_String_ rfl) rfl rfl (by show 2 * 0 + _ ≤ _; exact Nat.le_of_eq rfl) (hb hby at_200) (by decide) (by decide) (by decide) (by decide) ?_
        intro v16 T16 L16 kk16 X16 hS hk hZ hown HC q16
        obtain ⟨rfl, Nq16, Kq16⟩ := q16
        have N16 := Fr.app N14 Nq16
        have O0 := O0.keep Kq16 all0
        show Goes p e below _ T16 (mkF m 203 #[.val (.int p0), .val (.int p1), .val (.int p2), .val (.int p3), .val (.int p4), .val (.ref b1), .val (.int 0), .val (.int 0), .val (.int 1), .val (.ref sb14), .unset] [(.ref sb14)])
        refine Goes.of (fun _ => XS.astore X16.here hx rfl (hb hby at_203) rfl rfl (l' := #[.val (.int p0), .val (.int p1), .val (.int p2), .val (.int p3), .val (.int p4), .val (.ref b1), .val (.int 0), .val (.int 0), .val (.int 1), .val (.ref sb14), .val (.ref sb14)]) rfl) ?_
        show Goes p e below _ T16 (mkF m 205 #[.val (.int p0), .val (.int p1), .val (.int p2), .val (.int p3), .val (.int p4), .val (.ref b1), .val (.int 0), .val (.int 0), .val (.int 1), .val (.ref sb14), .val (.ref sb14)] [])
        refine Goes.of (fun _ => XS.aload X16.here hx rfl (hb hby at_205) rfl rfl) ?_
        show Goes p e below _ T16 (mkF m 207 #[.val (.int p0), .val (.int p1), .val (.int p2), .val (.int p3), .val (.int p4), .val (.ref b1), .val (.int 0), .val (.int 0), .val (.int 1), .val (.ref sb14), .val (.ref sb14)] [(.ref sb14)])
        refine Goes.of (fun _ => XS.aload X16.here hx rfl (hb hby at_207) rfl rfl) ?_
        show Goes p e below _ T16 (mkF m 209 #[.val (.int p0), .val (.int p1), .val (.int p2), .val (.int p3), .val (.int p4), .val (.ref b1), .val (.int 0), .val (.int 0), .val (.int 1), .val (.ref sb14), .val (.ref sb14)] [(.ref sb14), (.ref sb14)])
        refine Goes.of (fun _ => Jvm.RoadKit.acmp (g := (mkF m 209 #[.val (.int p0), .val (.int p1), .val (.int p2), .val (.int p3), .val (.int p4), .val (.ref b1), .val (.int 0), .val (.int 0), .val (.int 1), .val (.ref sb14), .val (.ref sb14)] [(.ref sb14), (.ref sb14)])) X16 hx rfl rfl rfl (pc0 := 209) (pc' := 212) (same := true) rfl (hb hby at_209) rfl (decide_eq_true rfl) (by decide) (by decide)) ?_
        show Goes p e below _ T16 (mkF m 212 #[.val (.int p0), .val (.int p1), .val (.int p2), .val (.int p3), .val (.int p4), .val (.ref b1), .val (.int 0), .val (.int 0), .val (.int 1), .val (.ref sb14), .val (.ref sb14)] [])
        refine Goes.of (fun _ => XS.iconst X16.here hx rfl (hb hby at_212)) ?_
        show Goes p e below _ T16 (mkF m 213 #[.val (.int p0), .val (.int p1), .val (.int p2), .val (.int p3), .val (.int p4), .val (.ref b1), .val (.int 0), .val (.int 0), .val (.int 1), .val (.ref sb14), .val (.ref sb14)] [(.int 1)])
        refine Goes.of (fun _ => XS.goto X16.here hx rfl (pc0 := 213) (pc' := 217) rfl (hb hby at_213) (by decide) (by decide)) ?_
        show Goes p e below _ T16 (mkF m 217 #[.val (.int p0), .val (.int p1), .val (.int p2), .val (.int p3), .val (.int p4), .val (.ref b1), .val (.int 0), .val (.int 0), .val (.int 1), .val (.ref sb14), .val (.ref sb14)] [(.int 1)])
        exact retZW (t := .boolean) X16 hS hk hZ hEL HC hx hret hlk (by simp) (hb hby at_217) (rfl : T16.heap = _) (by decide) (by decide) ⟨rfl, N16⟩
    · show Goes p e below _ T9 (mkF m 65 #[.val (.int p0), .val (.int p1), .val (.int p2), .val (.int p3), .val (.int p4), .val (.ref b1), .val (.int 0), .val (.int 1), .unset, .unset, .unset] [])
      refine Goes.of (fun _ => XS.aload X9.here hx rfl (hb hby at_65) rfl rfl) ?_
      show Goes p e below _ T9 (mkF m 67 #[.val (.int p0), .val (.int p1), .val (.int p2), .val (.int p3), .val (.int p4), .val (.ref b1), .val (.int 0), .val (.int 1), .unset, .unset, .unset] [(.ref b1)])
      refine Goes.of (fun _ => XS.iload X9.here hx rfl (hb hby at_67) rfl) ?_
      show Goes p e below _ T9 (mkF m 69 #[.val (.int p0), .val (.int p1), .val (.int p2), .val (.int p3), .val (.int p4), .val (.ref b1), .val (.int 0), .val (.int 1), .unset, .unset, .unset] [(.int 1), (.ref b1)])
      refine Goes.of (fun _ => XS.iconst X9.here hx rfl (hb hby at_69)) ?_
      show Goes p e below _ T9 (mkF m 70 #[.val (.int p0), .val (.int p1), .val (.int p2), .val (.int p3), .val (.int p4), .val (.ref b1), .val (.int 0), .val (.int 1), .unset, .unset, .unset] [(.int 0), (.int 1), (.ref b1)])
      refine goStatic 0 X9 hx hZ hown (hw _ (List.mem_of_getElem? (i := 8) rfl)) (hw _ (List.mem_of_getElem? (i := 9) rfl)) (hw _ (List.mem_of_getElem? (i := 3) rfl)) (hw _ (List.mem_of_getElem? (i := 10) rfl)) (by decide) (rm_bad_1_0 l Z a0 hw b1 _ c0 c1 c2 c3 h9 n0 O0 V1) eT9 (g := (mkF m 70 #[.val (.int p0), .val (.int p1), .val (.int p2), .val (.int p3), .val (.int p4), .val (.ref b1), .val (.int 0), .val (.int 1), .unset, .unset, .unset] [(.int 0), (.int 1), (.ref b1)])) rfl (by rw [hml]; rfl) [(.ref b1), (.int 1), (.int 0)] [] (lenOf pd___CII_Z rfl) rfl rfl (by show 2 * 0 + _ ≤ _; exact Nat.le_of_eq rfl) (hb hby at_70) (by decide) (by decide) (by decide) (by decide) ?_
      intro v17 T17 L17 X17 q17
      obtain ⟨rfl, Nq17, eT17⟩ := q17
      have N17 := Fr.app N9 Nq17
      show Goes p e below _ T17 (mkF m 73 #[.val (.int p0), .val (.int p1), .val (.int p2), .val (.int p3), .val (.int p4), .val (.ref b1), .val (.int 0), .val (.int 1), .unset, .unset, .unset] [(.int (if hiV c0 = (0 : Int32) then (if loV c0 = (0 : Int32) then (0 : Int32) else (1 : Int32)) else (1 : Int32)))])
      by_cases hpc73 : (if hiV c0 = (0 : Int32) then (if loV c0 = (0 : Int32) then (0 : Int32) else (1 : Int32)) else (1 : Int32)) = (0 : Int32)
      · refine Goes.of (fun _ => XS.ifNo X17.here hx rfl (hb hby at_73) rfl ((if0 _ _).trans (teq hpc73).2)) ?_
        show Goes p e below _ T17 (mkF m 76 #[.val (.int p0), .val (.int p1), .val (.int p2), .val (.int p3), .val (.int p4), .val (.ref b1), .val (.int 0), .val (.int 1), .unset, .unset, .unset] [])
        refine Goes.of (fun _ => XS.aload X17.here hx rfl (hb hby at_76) rfl rfl) ?_
        show Goes p e below _ T17 (mkF m 78 #[.val (.int p0), .val (.int p1), .val (.int p2), .val (.int p3), .val (.int p4), .val (.ref b1), .val (.int 0), .val (.int 1), .unset, .unset, .unset] [(.ref b1)])
        refine Goes.of (fun _ => XS.iload X17.here hx rfl (hb hby at_78) rfl) ?_
        show Goes p e below _ T17 (mkF m 80 #[.val (.int p0), .val (.int p1), .val (.int p2), .val (.int p3), .val (.int p4), .val (.ref b1), .val (.int 0), .val (.int 1), .unset, .unset, .unset] [(.int 1), (.ref b1)])
        refine Goes.of (fun _ => XS.iconst X17.here hx rfl (hb hby at_80)) ?_
        show Goes p e below _ T17 (mkF m 81 #[.val (.int p0), .val (.int p1), .val (.int p2), .val (.int p3), .val (.int p4), .val (.ref b1), .val (.int 0), .val (.int 1), .unset, .unset, .unset] [(.int 1), (.int 1), (.ref b1)])
        refine goStatic 0 X17 hx hZ hown (hw _ (List.mem_of_getElem? (i := 8) rfl)) (hw _ (List.mem_of_getElem? (i := 9) rfl)) (hw _ (List.mem_of_getElem? (i := 3) rfl)) (hw _ (List.mem_of_getElem? (i := 10) rfl)) (by decide) (rm_bad_1_1 l Z a0 hw b1 _ c0 c1 c2 c3 h9 n0 O0 V1) eT17 (g := (mkF m 81 #[.val (.int p0), .val (.int p1), .val (.int p2), .val (.int p3), .val (.int p4), .val (.ref b1), .val (.int 0), .val (.int 1), .unset, .unset, .unset] [(.int 1), (.int 1), (.ref b1)])) rfl (by rw [hml]; rfl) [(.ref b1), (.int 1), (.int 1)] [] (lenOf pd___CII_Z rfl) rfl rfl (by show 2 * 0 + _ ≤ _; exact Nat.le_of_eq rfl) (hb hby at_81) (by decide) (by decide) (by decide) (by decide) ?_
        intro v18 T18 L18 X18 q18
        obtain ⟨rfl, Nq18, eT18⟩ := q18
        have N18 := Fr.app N17 Nq18
        show Goes p e below _ T18 (mkF m 84 #[.val (.int p0), .val (.int p1), .val (.int p2), .val (.int p3), .val (.int p4), .val (.ref b1), .val (.int 0), .val (.int 1), .unset, .unset, .unset] [(.int 0)])
        refine Goes.of (fun _ => XS.ifNo X18.here hx rfl (hb hby at_84) rfl ((if0 _ _).trans (teq (by decide)).2)) ?_
        show Goes p e below _ T18 (mkF m 87 #[.val (.int p0), .val (.int p1), .val (.int p2), .val (.int p3), .val (.int p4), .val (.ref b1), .val (.int 0), .val (.int 1), .unset, .unset, .unset] [])
        refine Goes.of (fun _ => XS.aload X18.here hx rfl (hb hby at_87) rfl rfl) ?_
        show Goes p e below _ T18 (mkF m 89 #[.val (.int p0), .val (.int p1), .val (.int p2), .val (.int p3), .val (.int p4), .val (.ref b1), .val (.int 0), .val (.int 1), .unset, .unset, .unset] [(.ref b1)])
        refine Goes.of (fun _ => XS.iload X18.here hx rfl (hb hby at_89) rfl) ?_
        show Goes p e below _ T18 (mkF m 91 #[.val (.int p0), .val (.int p1), .val (.int p2), .val (.int p3), .val (.int p4), .val (.ref b1), .val (.int 0), .val (.int 1), .unset, .unset, .unset] [(.int 1), (.ref b1)])
        refine Goes.of (fun _ => XS.iconst X18.here hx rfl (hb hby at_91)) ?_
        show Goes p e below _ T18 (mkF m 92 #[.val (.int p0), .val (.int p1), .val (.int p2), .val (.int p3), .val (.int p4), .val (.ref b1), .val (.int 0), .val (.int 1), .unset, .unset, .unset] [(.int 2), (.int 1), (.ref b1)])
        refine goStatic 0 X18 hx hZ hown (hw _ (List.mem_of_getElem? (i := 8) rfl)) (hw _ (List.mem_of_getElem? (i := 9) rfl)) (hw _ (List.mem_of_getElem? (i := 3) rfl)) (hw _ (List.mem_of_getElem? (i := 10) rfl)) (by decide) (rm_bad_1_2 l Z a0 hw b1 _ c0 c1 c2 c3 h9 n0 O0 V1) eT18 (g := (mkF m 92 #[.val (.int p0), .val (.int p1), .val (.int p2), .val (.int p3), .val (.int p4), .val (.ref b1), .val (.int 0), .val (.int 1), .unset, .unset, .unset] [(.int 2), (.int 1), (.ref b1)])) rfl (by rw [hml]; rfl) [(.ref b1), (.int 1), (.int 2)] [] (lenOf pd___CII_Z rfl) rfl rfl (by show 2 * 0 + _ ≤ _; exact Nat.le_of_eq rfl) (hb hby at_92) (by decide) (by decide) (by decide) (by decide) ?_
        intro v19 T19 L19 X19 q19
        obtain ⟨rfl, Nq19, eT19⟩ := q19
        have N19 := Fr.app N18 Nq19
        show Goes p e below _ T19 (mkF m 95 #[.val (.int p0), .val (.int p1), .val (.int p2), .val (.int p3), .val (.int p4), .val (.ref b1), .val (.int 0), .val (.int 1), .unset, .unset, .unset] [(.int 0)])
        refine Goes.of (fun _ => XS.ifNo X19.here hx rfl (hb hby at_95) rfl ((if0 _ _).trans (teq (by decide)).2)) ?_
        show Goes p e below _ T19 (mkF m 98 #[.val (.int p0), .val (.int p1), .val (.int p2), .val (.int p3), .val (.int p4), .val (.ref b1), .val (.int 0), .val (.int 1), .unset, .unset, .unset] [])
        refine Goes.of (fun _ => XS.aload X19.here hx rfl (hb hby at_98) rfl rfl) ?_
        show Goes p e below _ T19 (mkF m 100 #[.val (.int p0), .val (.int p1), .val (.int p2), .val (.int p3), .val (.int p4), .val (.ref b1), .val (.int 0), .val (.int 1), .unset, .unset, .unset] [(.ref b1)])
        refine Goes.of (fun _ => XS.iload X19.here hx rfl (hb hby at_100) rfl) ?_
        show Goes p e below _ T19 (mkF m 102 #[.val (.int p0), .val (.int p1), .val (.int p2), .val (.int p3), .val (.int p4), .val (.ref b1), .val (.int 0), .val (.int 1), .unset, .unset, .unset] [(.int 1), (.ref b1)])
        refine Goes.of (fun _ => XS.iconst X19.here hx rfl (hb hby at_102)) ?_
        show Goes p e below _ T19 (mkF m 103 #[.val (.int p0), .val (.int p1), .val (.int p2), .val (.int p3), .val (.int p4), .val (.ref b1), .val (.int 0), .val (.int 1), .unset, .unset, .unset] [(.int 3), (.int 1), (.ref b1)])
        refine goStatic 0 X19 hx hZ hown (hw _ (List.mem_of_getElem? (i := 8) rfl)) (hw _ (List.mem_of_getElem? (i := 9) rfl)) (hw _ (List.mem_of_getElem? (i := 3) rfl)) (hw _ (List.mem_of_getElem? (i := 10) rfl)) (by decide) (rm_bad_1_3 l Z a0 hw b1 _ c0 c1 c2 c3 h9 n0 O0 V1) eT19 (g := (mkF m 103 #[.val (.int p0), .val (.int p1), .val (.int p2), .val (.int p3), .val (.int p4), .val (.ref b1), .val (.int 0), .val (.int 1), .unset, .unset, .unset] [(.int 3), (.int 1), (.ref b1)])) rfl (by rw [hml]; rfl) [(.ref b1), (.int 1), (.int 3)] [] (lenOf pd___CII_Z rfl) rfl rfl (by show 2 * 0 + _ ≤ _; exact Nat.le_of_eq rfl) (hb hby at_103) (by decide) (by decide) (by decide) (by decide) ?_
        intro v20 T20 L20 X20 q20
        obtain ⟨rfl, Nq20, eT20⟩ := q20
        have N20 := Fr.app N19 Nq20
        show Goes p e below _ T20 (mkF m 106 #[.val (.int p0), .val (.int p1), .val (.int p2), .val (.int p3), .val (.int p4), .val (.ref b1), .val (.int 0), .val (.int 1), .unset, .unset, .unset] [(.int 0)])
        refine Goes.of (fun _ => XS.ifNo X20.here hx rfl (hb hby at_106) rfl ((if0 _ _).trans (teq (by decide)).2)) ?_
        show Goes p e below _ T20 (mkF m 109 #[.val (.int p0), .val (.int p1), .val (.int p2), .val (.int p3), .val (.int p4), .val (.ref b1), .val (.int 0), .val (.int 1), .unset, .unset, .unset] [])
        refine Goes.of (fun _ => XS.iconst X20.here hx rfl (hb hby at_109)) ?_
        show Goes p e below _ T20 (mkF m 110 #[.val (.int p0), .val (.int p1), .val (.int p2), .val (.int p3), .val (.int p4), .val (.ref b1), .val (.int 0), .val (.int 1), .unset, .unset, .unset] [(.int 1)])
        refine Goes.of (fun _ => XS.goto X20.here hx rfl (pc0 := 110) (pc' := 114) rfl (hb hby at_110) (by decide) (by decide)) ?_
        show Goes p e below _ T20 (mkF m 114 #[.val (.int p0), .val (.int p1), .val (.int p2), .val (.int p3), .val (.int p4), .val (.ref b1), .val (.int 0), .val (.int 1), .unset, .unset, .unset] [(.int 1)])
        refine Goes.of (fun _ => XS.istore X20.here hx rfl (hb hby at_114) rfl (l' := #[.val (.int p0), .val (.int p1), .val (.int p2), .val (.int p3), .val (.int p4), .val (.ref b1), .val (.int 0), .val (.int 1), .val (.int 1), .unset, .unset]) rfl) ?_
        show Goes p e below _ T20 (mkF m 116 #[.val (.int p0), .val (.int p1), .val (.int p2), .val (.int p3), .val (.int p4), .val (.ref b1), .val (.int 0), .val (.int 1), .val (.int 1), .unset, .unset] [])
        refine Goes.of (fun _ => XS.iload X20.here hx rfl (hb hby at_116) rfl) ?_
        show Goes p e below _ T20 (mkF m 118 #[.val (.int p0), .val (.int p1), .val (.int p2), .val (.int p3), .val (.int p4), .val (.ref b1), .val (.int 0), .val (.int 1), .val (.int 1), .unset, .unset] [(.int 1)])
        refine Goes.of (fun _ => XS.ifYes X20.here hx rfl (pc0 := 118) (pc' := 123) rfl (hb hby at_118) rfl ((if0 _ _).trans (feq (by decide)).2) (by decide) (by decide)) ?_
        show Goes p e below _ T20 (mkF m 123 #[.val (.int p0), .val (.int p1), .val (.int p2), .val (.int p3), .val (.int p4), .val (.ref b1), .val (.int 0), .val (.int 1), .val (.int 1), .unset, .unset] [])
        have hval : Val [c0] := val_1 hpc73
        refine Goes.of (fun _ => XS.iload X20.here hx rfl (hb hby at_123) rfl) ?_
        show Goes p e below _ T20 (mkF m 125 #[.val (.int p0), .val (.int p1), .val (.int p2), .val (.int p3), .val (.int p4), .val (.ref b1), .val (.int 0), .val (.int 1), .val (.int 1), .unset, .unset] [(.int 0)])
        refine Goes.of (fun _ => XS.ifYes X20.here hx rfl (pc0 := 125) (pc' := 189) rfl (hb hby at_125) rfl ((if0 _ _).trans (teq (by decide)).1) (by decide) (by decide)) ?_
        show Goes p e below _ T20 (mkF m 189 #[.val (.int p0), .val (.int p1), .val (.int p2), .val (.int p3), .val (.int p4), .val (.ref b1), .val (.int 0), .val (.int 1), .val (.int 1), .unset, .unset] [])
        refine Goes.of (fun _ => XS.aload X20.here hx rfl (hb hby at_189) rfl rfl) ?_
        show Goes p e below _ T20 (mkF m 191 #[.val (.int p0), .val (.int p1), .val (.int p2), .val (.int p3), .val (.int p4), .val (.ref b1), .val (.int 0), .val (.int 1), .val (.int 1), .unset, .unset] [(.ref b1)])
        refine Goes.of (fun _ => XS.iload X20.here hx rfl (hb hby at_191) rfl) ?_
        show Goes p e below _ T20 (mkF m 193 #[.val (.int p0), .val (.int p1), .val (.int p2), .val (.int p3), .val (.int p4), .val (.ref b1), .val (.int 0), .val (.int 1), .val (.int 1), .unset, .unset] [(.int 1), (.ref b1)])
        refine goStatic 0 X20 hx hZ hown (hw _ (List.mem_of_getElem? (i := 11) rfl)) (hw _ (List.mem_of_getElem? (i := 12) rfl)) (hw _ (List.mem_of_getElem? (i := 3) rfl)) (hw _ (List.mem_of_getElem? (i := 13) rfl)) (by decide) (rm_make_1 l Z a0 hw b1 _ c0 c1 c2 c3 cz h9 n0 O0 Sa Sh Sl Sc hcz hz0 hz1 hz2 hz3 V1) eT20 (g := (mkF m 193 #[.val (.int p0), .val (.int p1), .val (.int p2), .val (.int p3), .val (.int p4), .val (.ref b1), .val (.int 0), .val (.int 1), .val (.int 1), .unset, .unset] [(.int 1), (.ref b1)])) rfl (by rw [hml]; rfl) [(.ref b1), (.int 1)] [] (lenOf pd___CI_Ljava_lang_String_ rfl) rfl rfl (by show 2 * 0 + _ ≤ _; exact Nat.le_of_eq rfl) (hb hby at_193) (by decide) (by decide) (by decide) (by decide) ?_
        intro v21 T21 L21 X21 q21
        obtain ⟨sb21, rfl, Nq21, Kq21, Su21⟩ := q21
        have N21 := Fr.app N20 Nq21
        have V1 := V1.keep Kq21 nin0
        have A1 := A1.keep Kq21
        have HC := HC.trans (CHr.keep Kq21 sf0 HC.1)
        have hk := Nat.le_trans hk Kq21.1
        have O0 := O0.keep Kq21 all0
        show Goes p e below _ T21 (mkF m 196 #[.val (.int p0), .val (.int p1), .val (.int p2), .val (.int p3), .val (.int p4), .val (.ref b1), .val (.int 0), .val (.int 1), .val (.int 1), .unset, .unset] [(.ref sb21)])
        refine Goes.of (fun _ => XS.astore X21.here hx rfl (hb hby at_196) rfl rfl (l' := #[.val (.int p0), .val (.int p1), .val (.int p2), .val (.int p3), .val (.int p4), .val (.ref b1), .val (.int 0), .val (.int 1), .val (.int 1), .val (.ref sb21), .unset]) rfl) ?_
        show Goes p e below _ T21 (mkF m 198 #[.val (.int p0), .val (.int p1), .val (.int p2), .val (.int p3), .val (.int p4), .val (.ref b1), .val (.int 0), .val (.int 1), .val (.int 1), .val (.ref sb21), .unset] [])
        obtain ⟨Es, tt, kt, Fv, hor⟩ := Su21
        rcases hor with ⟨Fc, hlat, Vt⟩ | ⟨-, Fc, Vt⟩
        · show Goes p e below _ T21 (mkF m 198 #[.val (.int p0), .val (.int p1), .val (.int p2), .val (.int p3), .val (.int p4), .val (.ref b1), .val (.int 0), .val (.int 1), .val (.int 1), .val (.ref sb21), .unset] [])
          refine Goes.of (fun _ => XS.aload X21.here hx rfl (hb hby at_198) rfl rfl) ?_
          show Goes p e below _ T21 (mkF m 200 #[.val (.int p0), .val (.int p1), .val (.int p2), .val (.int p3), .val (.int p4), .val (.ref b1), .val (.int 0), .val (.int 1), .val (.int 1), .val (.ref sb21), .unset] [(.ref sb21)])
          refine goStaticW 0 X21 hS hk hEL HC hx hZ hown (hw _ (List.mem_of_getElem? (i := 35) rfl)) (hw _ (List.mem_of_getElem? (i := 36) rfl)) (hw _ (List.mem_of_getElem? (i := 37) rfl)) (hw _ (List.mem_of_getElem? (i := 38) rfl)) (by decide) (rm_chk_lat l Z a0 hw sb21 tt kt [c0] cz fm T21.heap n0 O0 Sa Sh Sl Sc hcz Sf hfm (by simp) Es Fv Fc Vt (hcs_1 hz0 hz1 hz2 hz3) hlat) (rfl : T21.heap = _) (g := (mkF m 200 #[.val (.int p0), .val (.int p1), .val (.int p2), .val (.int p3), .val (.int p4), .val (.ref b1), .val (.int 0), .val (.int 1), .val (.int 1), .val (.ref sb21), .unset] [(.ref sb21)])) rfl (by rw [hml]; rfl) [(.ref sb21)] [] (lenOf pd__Ljava_lang_String__Ljava_lang_String_ rfl) rfl rfl (by show 2 * 0 + _ ≤ _; exact Nat.le_of_eq rfl) (hb hby at_200) (by decide) (by decide) (by decide) (by decide) ?_
          intro v22 T22 L22 kk22 X22 hS hk hZ hown HC q22
          obtain ⟨rfl, Nq22, Kq22⟩ := q22
          have N22 := Fr.app N21 Nq22
          have O0 := O0.keep Kq22 all0
          show Goes p e below _ T22 (mkF m 203 #[.val (.int p0), .val (.int p1), .val (.int p2), .val (.int p3), .val (.int p4), .val (.ref b1), .val (.int 0), .val (.int 1), .val (.int 1), .val (.ref sb21), .unset] [(.ref sb21)])
          refine Goes.of (fun _ => XS.astore X22.here hx rfl (hb hby at_203) rfl rfl (l' := #[.val (.int p0), .val (.int p1), .val (.int p2), .val (.int p3), .val (.int p4), .val (.ref b1), .val (.int 0), .val (.int 1), .val (.int 1), .val (.ref sb21), .val (.ref sb21)]) rfl) ?_
          show Goes p e below _ T22 (mkF m 205 #[.val (.int p0), .val (.int p1), .val (.int p2), .val (.int p3), .val (.int p4), .val (.ref b1), .val (.int 0), .val (.int 1), .val (.int 1), .val (.ref sb21), .val (.ref sb21)] [])
          refine Goes.of (fun _ => XS.aload X22.here hx rfl (hb hby at_205) rfl rfl) ?_
          show Goes p e below _ T22 (mkF m 207 #[.val (.int p0), .val (.int p1), .val (.int p2), .val (.int p3), .val (.int p4), .val (.ref b1), .val (.int 0), .val (.int 1), .val (.int 1), .val (.ref sb21), .val (.ref sb21)] [(.ref sb21)])
          refine Goes.of (fun _ => XS.aload X22.here hx rfl (hb hby at_207) rfl rfl) ?_
          show Goes p e below _ T22 (mkF m 209 #[.val (.int p0), .val (.int p1), .val (.int p2), .val (.int p3), .val (.int p4), .val (.ref b1), .val (.int 0), .val (.int 1), .val (.int 1), .val (.ref sb21), .val (.ref sb21)] [(.ref sb21), (.ref sb21)])
          refine Goes.of (fun _ => Jvm.RoadKit.acmp (g := (mkF m 209 #[.val (.int p0), .val (.int p1), .val (.int p2), .val (.int p3), .val (.int p4), .val (.ref b1), .val (.int 0), .val (.int 1), .val (.int 1), .val (.ref sb21), .val (.ref sb21)] [(.ref sb21), (.ref sb21)])) X22 hx rfl rfl rfl (pc0 := 209) (pc' := 212) (same := true) rfl (hb hby at_209) rfl (decide_eq_true rfl) (by decide) (by decide)) ?_
          show Goes p e below _ T22 (mkF m 212 #[.val (.int p0), .val (.int p1), .val (.int p2), .val (.int p3), .val (.int p4), .val (.ref b1), .val (.int 0), .val (.int 1), .val (.int 1), .val (.ref sb21), .val (.ref sb21)] [])
          refine Goes.of (fun _ => XS.iconst X22.here hx rfl (hb hby at_212)) ?_
          show Goes p e below _ T22 (mkF m 213 #[.val (.int p0), .val (.int p1), .val (.int p2), .val (.int p3), .val (.int p4), .val (.ref b1), .val (.int 0), .val (.int 1), .val (.int 1), .val (.ref sb21), .val (.ref sb21)] [(.int 1)])
          refine Goes.of (fun _ => XS.goto X22.here hx rfl (pc0 := 213) (pc' := 217) rfl (hb hby at_213) (by decide) (by decide)) ?_
          show Goes p e below _ T22 (mkF m 217 #[.val (.int p0), .val (.int p1), .val (.int p2), .val (.int p3), .val (.int p4), .val (.ref b1), .val (.int 0), .val (.int 1), .val (.int 1), .val (.ref sb21), .val (.ref sb21)] [(.int 1)])
          exact retZW (t := .boolean) X22 hS hk hZ hEL HC hx hret hlk (by simp) (hb hby at_217) (rfl : T22.heap = _) (by decide) (by decide) ⟨rfl, N22⟩
        · show Goes p e below _ T21 (mkF m 198 #[.val (.int p0), .val (.int p1), .val (.int p2), .val (.int p3), .val (.int p4), .val (.ref b1), .val (.int 0), .val (.int 1), .val (.int 1), .val (.ref sb21), .unset] [])
          refine Goes.of (fun _ => XS.aload X21.here hx rfl (hb hby at_198) rfl rfl) ?_
          show Goes p e below _ T21 (mkF m 200 #[.val (.int p0), .val (.int p1), .val (.int p2), .val (.int p3), .val (.int p4), .val (.ref b1), .val (.int 0), .val (.int 1), .val (.int 1), .val (.ref sb21), .unset] [(.ref sb21)])
          refine goStaticW 0 X21 hS hk hEL HC hx hZ hown (hw _ (List.mem_of_getElem? (i := 35) rfl)) (hw _ (List.mem_of_getElem? (i := 36) rfl)) (hw _ (List.mem_of_getElem? (i := 37) rfl)) (hw _ (List.mem_of_getElem? (i := 38) rfl)) (by decide) (rm_chk_utf l Z a0 hw sb21 tt kt [c0] cz fm T21.heap n0 O0 Sa Sh Sl Sc hcz Sf hfm (by simp) Es Fv Fc Vt (hcs_1 hz0 hz1 hz2 hz3) hval) (rfl : T21.heap = _) (g := (mkF m 200 #[.val (.int p0), .val (.int p1), .val (.int p2), .val (.int p3), .val (.int p4), .val (.ref b1), .val (.int 0), .val (.int 1), .val (.int 1), .val (.ref sb21), .unset] [(.ref sb21)])) rfl (by rw [hml]; rfl) [(.ref sb21)] [] (lenOf pd__Ljava_lang_String__Ljava_lang_String_ rfl) rfl rfl (by show 2 * 0 + _ ≤ _; exact Nat.le_of_eq rfl) (hb hby at_200) (by decide) (by decide) (by decide) (by decide) ?_
          intro v23 T23 L23 kk23 X23 hS hk hZ hown HC q23
          obtain ⟨rfl, Nq23, Kq23⟩ := q23
          have N23 := Fr.app N21 Nq23
          have O0 := O0.keep Kq23 all0
          show Goes p e below _ T23 (mkF m 203 #[.val (.int p0), .val (.int p1), .val (.int p2), .val (.int p3), .val (.int p4), .val (.ref b1), .val (.int 0), .val (.int 1), .val (.int 1), .val (.ref sb21), .unset] [(.ref sb21)])
          refine Goes.of (fun _ => XS.astore X23.here hx rfl (hb hby at_203) rfl rfl (l' := #[.val (.int p0), .val (.int p1), .val (.int p2), .val (.int p3), .val (.int p4), .val (.ref b1), .val (.int 0), .val (.int 1), .val (.int 1), .val (.ref sb21), .val (.ref sb21)]) rfl) ?_
          show Goes p e below _ T23 (mkF m 205 #[.val (.int p0), .val (.int p1), .val (.int p2), .val (.int p3), .val (.int p4), .val (.ref b1), .val (.int 0), .val (.int 1), .val (.int 1), .val (.ref sb21), .val (.ref sb21)] [])
          refine Goes.of (fun _ => XS.aload X23.here hx rfl (hb hby at_205) rfl rfl) ?_
          show Goes p e below _ T23 (mkF m 207 #[.val (.int p0), .val (.int p1), .val (.int p2), .val (.int p3), .val (.int p4), .val (.ref b1), .val (.int 0), .val (.int 1), .val (.int 1), .val (.ref sb21), .val (.ref sb21)] [(.ref sb21)])
          refine Goes.of (fun _ => XS.aload X23.here hx rfl (hb hby at_207) rfl rfl) ?_
          show Goes p e below _ T23 (mkF m 209 #[.val (.int p0), .val (.int p1), .val (.int p2), .val (.int p3), .val (.int p4), .val (.ref b1), .val (.int 0), .val (.int 1), .val (.int 1), .val (.ref sb21), .val (.ref sb21)] [(.ref sb21), (.ref sb21)])
          refine Goes.of (fun _ => Jvm.RoadKit.acmp (g := (mkF m 209 #[.val (.int p0), .val (.int p1), .val (.int p2), .val (.int p3), .val (.int p4), .val (.ref b1), .val (.int 0), .val (.int 1), .val (.int 1), .val (.ref sb21), .val (.ref sb21)] [(.ref sb21), (.ref sb21)])) X23 hx rfl rfl rfl (pc0 := 209) (pc' := 212) (same := true) rfl (hb hby at_209) rfl (decide_eq_true rfl) (by decide) (by decide)) ?_
          show Goes p e below _ T23 (mkF m 212 #[.val (.int p0), .val (.int p1), .val (.int p2), .val (.int p3), .val (.int p4), .val (.ref b1), .val (.int 0), .val (.int 1), .val (.int 1), .val (.ref sb21), .val (.ref sb21)] [])
          refine Goes.of (fun _ => XS.iconst X23.here hx rfl (hb hby at_212)) ?_
          show Goes p e below _ T23 (mkF m 213 #[.val (.int p0), .val (.int p1), .val (.int p2), .val (.int p3), .val (.int p4), .val (.ref b1), .val (.int 0), .val (.int 1), .val (.int 1), .val (.ref sb21), .val (.ref sb21)] [(.int 1)])
          refine Goes.of (fun _ => XS.goto X23.here hx rfl (pc0 := 213) (pc' := 217) rfl (hb hby at_213) (by decide) (by decide)) ?_
          show Goes p e below _ T23 (mkF m 217 #[.val (.int p0), .val (.int p1), .val (.int p2), .val (.int p3), .val (.int p4), .val (.ref b1), .val (.int 0), .val (.int 1), .val (.int 1), .val (.ref sb21), .val (.ref sb21)] [(.int 1)])
          exact retZW (t := .boolean) X23 hS hk hZ hEL HC hx hret hlk (by simp) (hb hby at_217) (rfl : T23.heap = _) (by decide) (by decide) ⟨rfl, N23⟩
      · refine Goes.of (fun _ => XS.ifYes X17.here hx rfl (pc0 := 73) (pc' := 113) rfl (hb hby at_73) rfl ((if0 _ _).trans (feq hpc73).2) (by decide) (by decide)) ?_
        show Goes p e below _ T17 (mkF m 113 #[.val (.int p0), .val (.int p1), .val (.int p2), .val (.int p3), .val (.int p4), .val (.ref b1), .val (.int 0), .val (.int 1), .unset, .unset, .unset] [])
        refine Goes.of (fun _ => XS.iconst X17.here hx rfl (hb hby at_113)) ?_
        show Goes p e below _ T17 (mkF m 114 #[.val (.int p0), .val (.int p1), .val (.int p2), .val (.int p3), .val (.int p4), .val (.ref b1), .val (.int 0), .val (.int 1), .unset, .unset, .unset] [(.int 0)])
        refine Goes.of (fun _ => XS.istore X17.here hx rfl (hb hby at_114) rfl (l' := #[.val (.int p0), .val (.int p1), .val (.int p2), .val (.int p3), .val (.int p4), .val (.ref b1), .val (.int 0), .val (.int 1), .val (.int 0), .unset, .unset]) rfl) ?_
        show Goes p e below _ T17 (mkF m 116 #[.val (.int p0), .val (.int p1), .val (.int p2), .val (.int p3), .val (.int p4), .val (.ref b1), .val (.int 0), .val (.int 1), .val (.int 0), .unset, .unset] [])
        refine Goes.of (fun _ => XS.iload X17.here hx rfl (hb hby at_116) rfl) ?_
        show Goes p e below _ T17 (mkF m 118 #[.val (.int p0), .val (.int p1), .val (.int p2), .val (.int p3), .val (.int p4), .val (.ref b1), .val (.int 0), .val (.int 1), .val (.int 0), .unset, .unset] [(.int 0)])
        refine Goes.of (fun _ => XS.ifNo X17.here hx rfl (hb hby at_118) rfl ((if0 _ _).trans (teq (by decide)).2)) ?_
        show Goes p e below _ T17 (mkF m 121 #[.val (.int p0), .val (.int p1), .val (.int p2), .val (.int p3), .val (.int p4), .val (.ref b1), .val (.int 0), .val (.int 1), .val (.int 0), .unset, .unset] [])
        refine Goes.of (fun _ => XS.iconst X17.here hx rfl (hb hby at_121)) ?_
        show Goes p e below _ T17 (mkF m 122 #[.val (.int p0), .val (.int p1), .val (.int p2), .val (.int p3), .val (.int p4), .val (.ref b1), .val (.int 0), .val (.int 1), .val (.int 0), .unset, .unset] [(.int 1)])
        exact retZW (t := .boolean) X17 hS hk hZ hEL HC hx hret hlk (by simp) (hb hby at_122) eT17 (by decide) (by decide) ⟨rfl, N17⟩
    · show Goes p e below _ T9 (mkF m 65 #[.val (.int p0), .val (.int p1), .val (.int p2), .val (.int p3), .val (.int p4), .val (.ref b1), .val (.int 0), .val (.int 2), .unset, .unset, .unset] [])
      refine Goes.of (fun _ => XS.aload X9.here hx rfl (hb hby at_65) rfl rfl) ?_
      show Goes p e below _ T9 (mkF m 67 #[.val (.int p0), .val (.int p1), .val (.int p2), .val (.int p3), .val (.int p4), .val (.ref b1), .val (.int 0), .val (.int 2), .unset, .unset, .unset] [(.ref b1)])
      refine Goes.of (fun _ => XS.iload X9.here hx rfl (hb hby at_67) rfl) ?_
      show Goes p e below _ T9 (mkF m 69 #[.val (.int p0), .val (.int p1), .val (.int p2), .val (.int p3), .val (.int p4), .val (.ref b1), .val (.int 0), .val (.int 2), .unset, .unset, .unset] [(.int 2), (.ref b1)])
      refine Goes.of (fun _ => XS.iconst X9.here hx rfl (hb hby at_69)) ?_
      show Goes p e below _ T9 (mkF m 70 #[.val (.int p0), .val (.int p1), .val (.int p2), .val (.int p3), .val (.int p4), .val (.ref b1), .val (.int 0), .val (.int 2), .unset, .unset, .unset] [(.int 0), (.int 2), (.ref b1)])
      refine goStatic 0 X9 hx hZ hown (hw _ (List.mem_of_getElem? (i := 8) rfl)) (hw _ (List.mem_of_getElem? (i := 9) rfl)) (hw _ (List.mem_of_getElem? (i := 3) rfl)) (hw _ (List.mem_of_getElem? (i := 10) rfl)) (by decide) (rm_bad_2_0 l Z a0 hw b1 _ c0 c1 c2 c3 h9 n0 O0 V1) eT9 (g := (mkF m 70 #[.val (.int p0), .val (.int p1), .val (.int p2), .val (.int p3), .val (.int p4), .val (.ref b1), .val (.int 0), .val (.int 2), .unset, .unset, .unset] [(.int 0), (.int 2), (.ref b1)])) rfl (by rw [hml]; rfl) [(.ref b1), (.int 2), (.int 0)] [] (lenOf pd___CII_Z rfl) rfl rfl (by show 2 * 0 + _ ≤ _; exact Nat.le_of_eq rfl) (hb hby at_70) (by decide) (by decide) (by decide) (by decide) ?_
      intro v24 T24 L24 X24 q24
      obtain ⟨rfl, Nq24, eT24⟩ := q24
      have N24 := Fr.app N9 Nq24
      show Goes p e below _ T24 (mkF m 73 #[.val (.int p0), .val (.int p1), .val (.int p2), .val (.int p3), .val (.int p4), .val (.ref b1), .val (.int 0), .val (.int 2), .unset, .unset, .unset] [(.int (if hiV c0 = (0 : Int32) then (if loV c0 = (0 : Int32) then (0 : Int32) else (1 : Int32)) else (if loV c1 = (0 : Int32) then (1 : Int32) else (if loV c0 = (0 : Int32) then (0 : Int32) else (1 : Int32)))))])
      by_cases hpc73 : (if hiV c0 = (0 : Int32) then (if loV c0 = (0 : Int32) then (0 : Int32) else (1 : Int32)) else (if loV c1 = (0 : Int32) then (1 : Int32) else (if loV c0 = (0 : Int32) then (0 : Int32) else (1 : Int32)))) = (0 : Int32)
      · refine Goes.of (fun _ => XS.ifNo X24.here hx rfl (hb hby at_73) rfl ((if0 _ _).trans (teq hpc73).2)) ?_
        show Goes p e below _ T24 (mkF m 76 #[.val (.int p0), .val (.int p1), .val (.int p2), .val (.int p3), .val (.int p4), .val (.ref b1), .val (.int 0), .val (.int 2), .unset, .unset, .unset] [])
        refine Goes.of (fun _ => XS.aload X24.here hx rfl (hb hby at_76) rfl rfl) ?_
        show Goes p e below _ T24 (mkF m 78 #[.val (.int p0), .val (.int p1), .val (.int p2), .val (.int p3), .val (.int p4), .val (.ref b1), .val (.int 0), .val (.int 2), .unset, .unset, .unset] [(.ref b1)])
        refine Goes.of (fun _ => XS.iload X24.here hx rfl (hb hby at_78) rfl) ?_
        show Goes p e below _ T24 (mkF m 80 #[.val (.int p0), .val (.int p1), .val (.int p2), .val (.int p3), .val (.int p4), .val (.ref b1), .val (.int 0), .val (.int 2), .unset, .unset, .unset] [(.int 2), (.ref b1)])
        refine Goes.of (fun _ => XS.iconst X24.here hx rfl (hb hby at_80)) ?_
        show Goes p e below _ T24 (mkF m 81 #[.val (.int p0), .val (.int p1), .val (.int p2), .val (.int p3), .val (.int p4), .val (.ref b1), .val (.int 0), .val (.int 2), .unset, .unset, .unset] [(.int 1), (.int 2), (.ref b1)])
        refine goStatic 0 X24 hx hZ hown (hw _ (List.mem_of_getElem? (i := 8) rfl)) (hw _ (List.mem_of_getElem? (i := 9) rfl)) (hw _ (List.mem_of_getElem? (i := 3) rfl)) (hw _ (List.mem_of_getElem? (i := 10) rfl)) (by decide) (rm_bad_2_1 l Z a0 hw b1 _ c0 c1 c2 c3 h9 n0 O0 V1) eT24 (g := (mkF m 81 #[.val (.int p0), .val (.int p1), .val (.int p2), .val (.int p3), .val (.int p4), .val (.ref b1), .val (.int 0), .val (.int 2), .unset, .unset, .unset] [(.int 1), (.int 2), (.ref b1)])) rfl (by rw [hml]; rfl) [(.ref b1), (.int 2), (.int 1)] [] (lenOf pd___CII_Z rfl) rfl rfl (by show 2 * 0 + _ ≤ _; exact Nat.le_of_eq rfl) (hb hby at_81) (by decide) (by decide) (by decide) (by decide) ?_
        intro v25 T25 L25 X25 q25
        obtain ⟨rfl, Nq25, eT25⟩ := q25
        have N25 := Fr.app N24 Nq25
        show Goes p e below _ T25 (mkF m 84 #[.val (.int p0), .val (.int p1), .val (.int p2), .val (.int p3), .val (.int p4), .val (.ref b1), .val (.int 0), .val (.int 2), .unset, .unset, .unset] [(.int (if hiV c1 = (0 : Int32) then (if loV c1 = (0 : Int32) then (0 : Int32) else (if hiV c0 = (0 : Int32) then (1 : Int32) else (0 : Int32))) else (1 : Int32)))])
        by_cases hpc84 : (if hiV c1 = (0 : Int32) then (if loV c1 = (0 : Int32) then (0 : Int32) else (if hiV c0 = (0 : Int32) then (1 : Int32) else (0 : Int32))) else (1 : Int32)) = (0 : Int32)
        · refine Goes.of (fun _ => XS.ifNo X25.here hx rfl (hb hby at_84) rfl ((if0 _ _).trans (teq hpc84).2)) ?_
          show Goes p e below _ T25 (mkF m 87 #[.val (.int p0), .val (.int p1), .val (.int p2), .val (.int p3), .val (.int p4), .val (.ref b1), .val (.int 0), .val (.int 2), .unset, .unset, .unset] [])
          refine Goes.of (fun _ => XS.aload X25.here hx rfl (hb hby at_87) rfl rfl) ?_
          show Goes p e below _ T25 (mkF m 89 #[.val (.int p0), .val (.int p1), .val (.int p2), .val (.int p3), .val (.int p4), .val (.ref b1), .val (.int 0), .val (.int 2), .unset, .unset, .unset] [(.ref b1)])
          refine Goes.of (fun _ => XS.iload X25.here hx rfl (hb hby at_89) rfl) ?_
          show Goes p e below _ T25 (mkF m 91 #[.val (.int p0), .val (.int p1), .val (.int p2), .val (.int p3), .val (.int p4), .val (.ref b1), .val (.int 0), .val (.int 2), .unset, .unset, .unset] [(.int 2), (.ref b1)])
          refine Goes.of (fun _ => XS.iconst X25.here hx rfl (hb hby at_91)) ?_
          show Goes p e below _ T25 (mkF m 92 #[.val (.int p0), .val (.int p1), .val (.int p2), .val (.int p3), .val (.int p4), .val (.ref b1), .val (.int 0), .val (.int 2), .unset, .unset, .unset] [(.int 2), (.int 2), (.ref b1)])
          refine goStatic 0 X25 hx hZ hown (hw _ (List.mem_of_getElem? (i := 8) rfl)) (hw _ (List.mem_of_getElem? (i := 9) rfl)) (hw _ (List.mem_of_getElem? (i := 3) rfl)) (hw _ (List.mem_of_getElem? (i := 10) rfl)) (by decide) (rm_bad_2_2 l Z a0 hw b1 _ c0 c1 c2 c3 h9 n0 O0 V1) eT25 (g := (mkF m 92 #[.val (.int p0), .val (.int p1), .val (.int p2), .val (.int p3), .val (.int p4), .val (.ref b1), .val (.int 0), .val (.int 2), .unset, .unset, .unset] [(.int 2), (.int 2), (.ref b1)])) rfl (by rw [hml]; rfl) [(.ref b1), (.int 2), (.int 2)] [] (lenOf pd___CII_Z rfl) rfl rfl (by show 2 * 0 + _ ≤ _; exact Nat.le_of_eq rfl) (hb hby at_92) (by decide) (by decide) (by decide) (by decide) ?_
          intro v26 T26 L26 X26 q26
          obtain ⟨rfl, Nq26, eT26⟩ := q26
          have N26 := Fr.app N25 Nq26
          show Goes p e below _ T26 (mkF m 95 #[.val (.int p0), .val (.int p1), .val (.int p2), .val (.int p3), .val (.int p4), .val (.ref b1), .val (.int 0), .val (.int 2), .unset, .unset, .unset] [(.int 0)])
          refine Goes.of (fun _ => XS.ifNo X26.here hx rfl (hb hby at_95) rfl ((if0 _ _).trans (teq (by decide)).2)) ?_
          show Goes p e below _ T26 (mkF m 98 #[.val (.int p0), .val (.int p1), .val (.int p2), .val (.int p3), .val (.int p4), .val (.ref b1), .val (.int 0), .val (.int 2), .unset, .unset, .unset] [])
          refine Goes.of (fun _ => XS.aload X26.here hx rfl (hb hby at_98) rfl rfl) ?_
          show Goes p e below _ T26 (mkF m 100 #[.val (.int p0), .val (.int p1), .val (.int p2), .val (.int p3), .val (.int p4), .val (.ref b1), .val (.int 0), .val (.int 2), .unset, .unset, .unset] [(.ref b1)])
          refine Goes.of (fun _ => XS.iload X26.here hx rfl (hb hby at_100) rfl) ?_
          show Goes p e below _ T26 (mkF m 102 #[.val (.int p0), .val (.int p1), .val (.int p2), .val (.int p3), .val (.int p4), .val (.ref b1), .val (.int 0), .val (.int 2), .unset, .unset, .unset] [(.int 2), (.ref b1)])
          refine Goes.of (fun _ => XS.iconst X26.here hx rfl (hb hby at_102)) ?_
          show Goes p e below _ T26 (mkF m 103 #[.val (.int p0), .val (.int p1), .val (.int p2), .val (.int p3), .val (.int p4), .val (.ref b1), .val (.int 0), .val (.int 2), .unset, .unset, .unset] [(.int 3), (.int 2), (.ref b1)])
          refine goStatic 0 X26 hx hZ hown (hw _ (List.mem_of_getElem? (i := 8) rfl)) (hw _ (List.mem_of_getElem? (i := 9) rfl)) (hw _ (List.mem_of_getElem? (i := 3) rfl)) (hw _ (List.mem_of_getElem? (i := 10) rfl)) (by decide) (rm_bad_2_3 l Z a0 hw b1 _ c0 c1 c2 c3 h9 n0 O0 V1) eT26 (g := (mkF m 103 #[.val (.int p0), .val (.int p1), .val (.int p2), .val (.int p3), .val (.int p4), .val (.ref b1), .val (.int 0), .val (.int 2), .unset, .unset, .unset] [(.int 3), (.int 2), (.ref b1)])) rfl (by rw [hml]; rfl) [(.ref b1), (.int 2), (.int 3)] [] (lenOf pd___CII_Z rfl) rfl rfl (by show 2 * 0 + _ ≤ _; exact Nat.le_of_eq rfl) (hb hby at_103) (by decide) (by decide) (by decide) (by decide) ?_
          intro v27 T27 L27 X27 q27
          obtain ⟨rfl, Nq27, eT27⟩ := q27
          have N27 := Fr.app N26 Nq27
          show Goes p e below _ T27 (mkF m 106 #[.val (.int p0), .val (.int p1), .val (.int p2), .val (.int p3), .val (.int p4), .val (.ref b1), .val (.int 0), .val (.int 2), .unset, .unset, .unset] [(.int 0)])
          refine Goes.of (fun _ => XS.ifNo X27.here hx rfl (hb hby at_106) rfl ((if0 _ _).trans (teq (by decide)).2)) ?_
          show Goes p e below _ T27 (mkF m 109 #[.val (.int p0), .val (.int p1), .val (.int p2), .val (.int p3), .val (.int p4), .val (.ref b1), .val (.int 0), .val (.int 2), .unset, .unset, .unset] [])
          refine Goes.of (fun _ => XS.iconst X27.here hx rfl (hb hby at_109)) ?_
          show Goes p e below _ T27 (mkF m 110 #[.val (.int p0), .val (.int p1), .val (.int p2), .val (.int p3), .val (.int p4), .val (.ref b1), .val (.int 0), .val (.int 2), .unset, .unset, .unset] [(.int 1)])
          refine Goes.of (fun _ => XS.goto X27.here hx rfl (pc0 := 110) (pc' := 114) rfl (hb hby at_110) (by decide) (by decide)) ?_
          show Goes p e below _ T27 (mkF m 114 #[.val (.int p0), .val (.int p1), .val (.int p2), .val (.int p3), .val (.int p4), .val (.ref b1), .val (.int 0), .val (.int 2), .unset, .unset, .unset] [(.int 1)])
          refine Goes.of (fun _ => XS.istore X27.here hx rfl (hb hby at_114) rfl (l' := #[.val (.int p0), .val (.int p1), .val (.int p2), .val (.int p3), .val (.int p4), .val (.ref b1), .val (.int 0), .val (.int 2), .val (.int 1), .unset, .unset]) rfl) ?_
          show Goes p e below _ T27 (mkF m 116 #[.val (.int p0), .val (.int p1), .val (.int p2), .val (.int p3), .val (.int p4), .val (.ref b1), .val (.int 0), .val (.int 2), .val (.int 1), .unset, .unset] [])
          refine Goes.of (fun _ => XS.iload X27.here hx rfl (hb hby at_116) rfl) ?_
          show Goes p e below _ T27 (mkF m 118 #[.val (.int p0), .val (.int p1), .val (.int p2), .val (.int p3), .val (.int p4), .val (.ref b1), .val (.int 0), .val (.int 2), .val (.int 1), .unset, .unset] [(.int 1)])
          refine Goes.of (fun _ => XS.ifYes X27.here hx rfl (pc0 := 118) (pc' := 123) rfl (hb hby at_118) rfl ((if0 _ _).trans (feq (by decide)).2) (by decide) (by decide)) ?_
          show Goes p e below _ T27 (mkF m 123 #[.val (.int p0), .val (.int p1), .val (.int p2), .val (.int p3), .val (.int p4), .val (.ref b1), .val (.int 0), .val (.int 2), .val (.int 1), .unset, .unset] [])
          have hval : Val [c0, c1] := val_2 hpc73 hpc84
          refine Goes.of (fun _ => XS.iload X27.here hx rfl (hb hby at_123) rfl) ?_
          show Goes p e below _ T27 (mkF m 125 #[.val (.int p0), .val (.int p1), .val (.int p2), .val (.int p3), .val (.int p4), .val (.ref b1), .val (.int 0), .val (.int 2), .val (.int 1), .unset, .unset] [(.int 0)])
          refine Goes.of (fun _ => XS.ifYes X27.here hx rfl (pc0 := 125) (pc' := 189) rfl (hb hby at_125) rfl ((if0 _ _).trans (teq (by decide)).1) (by decide) (by decide)) ?_
          show Goes p e below _ T27 (mkF m 189 #[.val (.int p0), .val (.int p1), .val (.int p2), .val (.int p3), .val (.int p4), .val (.ref b1), .val (.int 0), .val (.int 2), .val (.int 1), .unset, .unset] [])
          refine Goes.of (fun _ => XS.aload X27.here hx rfl (hb hby at_189) rfl rfl) ?_
          show Goes p e below _ T27 (mkF m 191 #[.val (.int p0), .val (.int p1), .val (.int p2), .val (.int p3), .val (.int p4), .val (.ref b1), .val (.int 0), .val (.int 2), .val (.int 1), .unset, .unset] [(.ref b1)])
          refine Goes.of (fun _ => XS.iload X27.here hx rfl (hb hby at_191) rfl) ?_
          show Goes p e below _ T27 (mkF m 193 #[.val (.int p0), .val (.int p1), .val (.int p2), .val (.int p3), .val (.int p4), .val (.ref b1), .val (.int 0), .val (.int 2), .val (.int 1), .unset, .unset] [(.int 2), (.ref b1)])
          refine goStatic 0 X27 hx hZ hown (hw _ (List.mem_of_getElem? (i := 11) rfl)) (hw _ (List.mem_of_getElem? (i := 12) rfl)) (hw _ (List.mem_of_getElem? (i := 3) rfl)) (hw _ (List.mem_of_getElem? (i := 13) rfl)) (by decide) (rm_make_2 l Z a0 hw b1 _ c0 c1 c2 c3 cz h9 n0 O0 Sa Sh Sl Sc hcz hz0 hz1 hz2 hz3 V1) eT27 (g := (mkF m 193 #[.val (.int p0), .val (.int p1), .val (.int p2), .val (.int p3), .val (.int p4), .val (.ref b1), .val (.int 0), .val (.int 2), .val (.int 1), .unset, .unset] [(.int 2), (.ref b1)])) rfl (by rw [hml]; rfl) [(.ref b1), (.int 2)] [] (lenOf pd___CI_Ljava_lang_String_ rfl) rfl rfl (by show 2 * 0 + _ ≤ _; exact Nat.le_of_eq rfl) (hb hby at_193) (by decide) (by decide) (by decide) (by decide) ?_
          intro v28 T28 L28 X28 q28
          obtain ⟨sb28, rfl, Nq28, Kq28, Su28⟩ := q28
          have N28 := Fr.app N27 Nq28
          have V1 := V1.keep Kq28 nin0
          have A1 := A1.keep Kq28
          have HC := HC.trans (CHr.keep Kq28 sf0 HC.1)
          have hk := Nat.le_trans hk Kq28.1
          have O0 := O0.keep Kq28 all0
          show Goes p e below _ T28 (mkF m 196 #[.val (.int p0), .val (.int p1), .val (.int p2), .val (.int p3), .val (.int p4), .val (.ref b1), .val (.int 0), .val (.int 2), .val (.int 1), .unset, .unset] [(.ref sb28)])
          refine Goes.of (fun _ => XS.astore X28.here hx rfl (hb hby at_196) rfl rfl (l' := #[.val (.int p0), .val (.int p1), .val (.int p2), .val (.int p3), .val (.int p4), .val (.ref b1), .val (.int 0), .val (.int 2), .val (.int 1), .val (.ref sb28), .unset]) rfl) ?_
          show Goes p e below _ T28 (mkF m 198 #[.val (.int p0), .val (.int p1), .val (.int p2), .val (.int p3), .val (.int p4), .val (.ref b1), .val (.int 0), .val (.int 2), .val (.int 1), .val (.ref sb28), .unset] [])
          obtain ⟨Es, tt, kt, Fv, hor⟩ := Su28
          rcases hor with ⟨Fc, hlat, Vt⟩ | ⟨-, Fc, Vt⟩
          · show Goes p e below _ T28 (mkF m 198 #[.val (.int p0), .val (.int p1), .val (.int p2), .val (.int p3), .val (.int p4), .val (.ref b1), .val (.int 0), .val (.int 2), .val (.int 1), .val (.ref sb28), .unset] [])
            refine Goes.of (fun _ => XS.aload X28.here hx rfl (hb hby at_198) rfl rfl) ?_
            show Goes p e below _ T28 (mkF m 200 #[.val (.int p0), .val (.int p1), .val (.int p2), .val (.int p3), .val (.int p4), .val (.ref b1), .val (.int 0), .val (.int 2), .val (.int 1), .val (.ref sb28), .unset] [(.ref sb28)])
            refine goStaticW 0 X28 hS hk hEL HC hx hZ hown (hw _ (List.mem_of_getElem? (i := 35) rfl)) (hw _ (List.mem_of_getElem? (i := 36) rfl)) (hw _ (List.mem_of_getElem? (i := 37) rfl)) (hw _ (List.mem_of_getElem? (i := 38) rfl)) (by decide) (rm_chk_lat l Z a0 hw sb28 tt kt [c0, c1] cz fm T28.heap n0 O0 Sa Sh Sl Sc hcz Sf hfm (by simp) Es Fv Fc Vt (hcs_2 hz0 hz1 hz2 hz3) hlat) (rfl : T28.heap = _) (g := (mkF m 200 #[.val (.int p0), .val (.int p1), .val (.int p2), .val (.int p3), .val (.int p4), .val (.ref b1), .val (.int 0), .val (.int 2), .val (.int 1), .val (.ref sb28), .unset] [(.ref sb28)])) rfl (by rw [hml]; rfl) [(.ref sb28)] [] (lenOf pd__Ljava_lang_String__Ljava_lang_String_ rfl) rfl rfl (by show 2 * 0 + _ ≤ _; exact Nat.le_of_eq rfl) (hb hby at_200) (by decide) (by decide) (by decide) (by decide) ?_
            intro v29 T29 L29 kk29 X29 hS hk hZ hown HC q29
            obtain ⟨rfl, Nq29, Kq29⟩ := q29
            have N29 := Fr.app N28 Nq29
            have O0 := O0.keep Kq29 all0
            show Goes p e below _ T29 (mkF m 203 #[.val (.int p0), .val (.int p1), .val (.int p2), .val (.int p3), .val (.int p4), .val (.ref b1), .val (.int 0), .val (.int 2), .val (.int 1), .val (.ref sb28), .unset] [(.ref sb28)])
            refine Goes.of (fun _ => XS.astore X29.here hx rfl (hb hby at_203) rfl rfl (l' := #[.val (.int p0), .val (.int p1), .val (.int p2), .val (.int p3), .val (.int p4), .val (.ref b1), .val (.int 0), .val (.int 2), .val (.int 1), .val (.ref sb28), .val (.ref sb28)]) rfl) ?_
            show Goes p e below _ T29 (mkF m 205 #[.val (.int p0), .val (.int p1), .val (.int p2), .val (.int p3), .val (.int p4), .val (.ref b1), .val (.int 0), .val (.int 2), .val (.int 1), .val (.ref sb28), .val (.ref sb28)] [])
            refine Goes.of (fun _ => XS.aload X29.here hx rfl (hb hby at_205) rfl rfl) ?_
            show Goes p e below _ T29 (mkF m 207 #[.val (.int p0), .val (.int p1), .val (.int p2), .val (.int p3), .val (.int p4), .val (.ref b1), .val (.int 0), .val (.int 2), .val (.int 1), .val (.ref sb28), .val (.ref sb28)] [(.ref sb28)])
            refine Goes.of (fun _ => XS.aload X29.here hx rfl (hb hby at_207) rfl rfl) ?_
            show Goes p e below _ T29 (mkF m 209 #[.val (.int p0), .val (.int p1), .val (.int p2), .val (.int p3), .val (.int p4), .val (.ref b1), .val (.int 0), .val (.int 2), .val (.int 1), .val (.ref sb28), .val (.ref sb28)] [(.ref sb28), (.ref sb28)])
            refine Goes.of (fun _ => Jvm.RoadKit.acmp (g := (mkF m 209 #[.val (.int p0), .val (.int p1), .val (.int p2), .val (.int p3), .val (.int p4), .val (.ref b1), .val (.int 0), .val (.int 2), .val (.int 1), .val (.ref sb28), .val (.ref sb28)] [(.ref sb28), (.ref sb28)])) X29 hx rfl rfl rfl (pc0 := 209) (pc' := 212) (same := true) rfl (hb hby at_209) rfl (decide_eq_true rfl) (by decide) (by decide)) ?_
            show Goes p e below _ T29 (mkF m 212 #[.val (.int p0), .val (.int p1), .val (.int p2), .val (.int p3), .val (.int p4), .val (.ref b1), .val (.int 0), .val (.int 2), .val (.int 1), .val (.ref sb28), .val (.ref sb28)] [])
            refine Goes.of (fun _ => XS.iconst X29.here hx rfl (hb hby at_212)) ?_
            show Goes p e below _ T29 (mkF m 213 #[.val (.int p0), .val (.int p1), .val (.int p2), .val (.int p3), .val (.int p4), .val (.ref b1), .val (.int 0), .val (.int 2), .val (.int 1), .val (.ref sb28), .val (.ref sb28)] [(.int 1)])
            refine Goes.of (fun _ => XS.goto X29.here hx rfl (pc0 := 213) (pc' := 217) rfl (hb hby at_213) (by decide) (by decide)) ?_
            show Goes p e below _ T29 (mkF m 217 #[.val (.int p0), .val (.int p1), .val (.int p2), .val (.int p3), .val (.int p4), .val (.ref b1), .val (.int 0), .val (.int 2), .val (.int 1), .val (.ref sb28), .val (.ref sb28)] [(.int 1)])
            exact retZW (t := .boolean) X29 hS hk hZ hEL HC hx hret hlk (by simp) (hb hby at_217) (rfl : T29.heap = _) (by decide) (by decide) ⟨rfl, N29⟩
          · show Goes p e below _ T28 (mkF m 198 #[.val (.int p0), .val (.int p1), .val (.int p2), .val (.int p3), .val (.int p4), .val (.ref b1), .val (.int 0), .val (.int 2), .val (.int 1), .val (.ref sb28), .unset] [])
            refine Goes.of (fun _ => XS.aload X28.here hx rfl (hb hby at_198) rfl rfl) ?_
            show Goes p e below _ T28 (mkF m 200 #[.val (.int p0), .val (.int p1), .val (.int p2), .val (.int p3), .val (.int p4), .val (.ref b1), .val (.int 0), .val (.int 2), .val (.int 1), .val (.ref sb28), .unset] [(.ref sb28)])
            refine goStaticW 0 X28 hS hk hEL HC hx hZ hown (hw _ (List.mem_of_getElem? (i := 35) rfl)) (hw _ (List.mem_of_getElem? (i := 36) rfl)) (hw _ (List.mem_of_getElem? (i := 37) rfl)) (hw _ (List.mem_of_getElem? (i := 38) rfl)) (by decide) (rm_chk_utf l Z a0 hw sb28 tt kt [c0, c1] cz fm T28.heap n0 O0 Sa Sh Sl Sc hcz Sf hfm (by simp) Es Fv Fc Vt (hcs_2 hz0 hz1 hz2 hz3) hval) (rfl : T28.heap = _) (g := (mkF m 200 #[.val (.int p0), .val (.int p1), .val (.int p2), .val (.int p3), .val (.int p4), .val (.ref b1), .val (.int 0), .val (.int 2), .val (.int 1), .val (.ref sb28), .unset] [(.ref sb28)])) rfl (by rw [hml]; rfl) [(.ref sb28)] [] (lenOf pd__Ljava_lang_String__Ljava_lang_String_ rfl) rfl rfl (by show 2 * 0 + _ ≤ _; exact Nat.le_of_eq rfl) (hb hby at_200) (by decide) (by decide) (by decide) (by decide) ?_
            intro v30 T30 L30 kk30 X30 hS hk hZ hown HC q30
            obtain ⟨rfl, Nq30, Kq30⟩ := q30
            have N30 := Fr.app N28 Nq30
            have O0 := O0.keep Kq30 all0
            show Goes p e below _ T30 (mkF m 203 #[.val (.int p0), .val (.int p1), .val (.int p2), .val (.int p3), .val (.int p4), .val (.ref b1), .val (.int 0), .val (.int 2), .val (.int 1), .val (.ref sb28), .unset] [(.ref sb28)])
            refine Goes.of (fun _ => XS.astore X30.here hx rfl (hb hby at_203) rfl rfl (l' := #[.val (.int p0), .val (.int p1), .val (.int p2), .val (.int p3), .val (.int p4), .val (.ref b1), .val (.int 0), .val (.int 2), .val (.int 1), .val (.ref sb28), .val (.ref sb28)]) rfl) ?_
            show Goes p e below _ T30 (mkF m 205 #[.val (.int p0), .val (.int p1), .val (.int p2), .val (.int p3), .val (.int p4), .val (.ref b1), .val (.int 0), .val (.int 2), .val (.int 1), .val (.ref sb28), .val (.ref sb28)] [])
            refine Goes.of (fun _ => XS.aload X30.here hx rfl (hb hby at_205) rfl rfl) ?_
            show Goes p e below _ T30 (mkF m 207 #[.val (.int p0), .val (.int p1), .val (.int p2), .val (.int p3), .val (.int p4), .val (.ref b1), .val (.int 0), .val (.int 2), .val (.int 1), .val (.ref sb28), .val (.ref sb28)] [(.ref sb28)])
            refine Goes.of (fun _ => XS.aload X30.here hx rfl (hb hby at_207) rfl rfl) ?_
            show Goes p e below _ T30 (mkF m 209 #[.val (.int p0), .val (.int p1), .val (.int p2), .val (.int p3), .val (.int p4), .val (.ref b1), .val (.int 0), .val (.int 2), .val (.int 1), .val (.ref sb28), .val (.ref sb28)] [(.ref sb28), (.ref sb28)])
            refine Goes.of (fun _ => Jvm.RoadKit.acmp (g := (mkF m 209 #[.val (.int p0), .val (.int p1), .val (.int p2), .val (.int p3), .val (.int p4), .val (.ref b1), .val (.int 0), .val (.int 2), .val (.int 1), .val (.ref sb28), .val (.ref sb28)] [(.ref sb28), (.ref sb28)])) X30 hx rfl rfl rfl (pc0 := 209) (pc' := 212) (same := true) rfl (hb hby at_209) rfl (decide_eq_true rfl) (by decide) (by decide)) ?_
            show Goes p e below _ T30 (mkF m 212 #[.val (.int p0), .val (.int p1), .val (.int p2), .val (.int p3), .val (.int p4), .val (.ref b1), .val (.int 0), .val (.int 2), .val (.int 1), .val (.ref sb28), .val (.ref sb28)] [])
            refine Goes.of (fun _ => XS.iconst X30.here hx rfl (hb hby at_212)) ?_
            show Goes p e below _ T30 (mkF m 213 #[.val (.int p0), .val (.int p1), .val (.int p2), .val (.int p3), .val (.int p4), .val (.ref b1), .val (.int 0), .val (.int 2), .val (.int 1), .val (.ref sb28), .val (.ref sb28)] [(.int 1)])
            refine Goes.of (fun _ => XS.goto X30.here hx rfl (pc0 := 213) (pc' := 217) rfl (hb hby at_213) (by decide) (by decide)) ?_
            show Goes p e below _ T30 (mkF m 217 #[.val (.int p0), .val (.int p1), .val (.int p2), .val (.int p3), .val (.int p4), .val (.ref b1), .val (.int 0), .val (.int 2), .val (.int 1), .val (.ref sb28), .val (.ref sb28)] [(.int 1)])
            exact retZW (t := .boolean) X30 hS hk hZ hEL HC hx hret hlk (by simp) (hb hby at_217) (rfl : T30.heap = _) (by decide) (by decide) ⟨rfl, N30⟩
        · refine Goes.of (fun _ => XS.ifYes X25.here hx rfl (pc0 := 84) (pc' := 113) rfl (hb hby at_84) rfl ((if0 _ _).trans (feq hpc84).2) (by decide) (by decide)) ?_
          show Goes p e below _ T25 (mkF m 113 #[.val (.int p0), .val (.int p1), .val (.int p2), .val (.int p3), .val (.int p4), .val (.ref b1), .val (.int 0), .val (.int 2), .unset, .unset, .unset] [])
          refine Goes.of (fun _ => XS.iconst X25.here hx rfl (hb hby at_113)) ?_
          show Goes p e below _ T25 (mkF m 114 #[.val (.int p0), .val (.int p1), .val (.int p2), .val (.int p3), .val (.int p4), .val (.ref b1), .val (.int 0), .val (.int 2), .unset, .unset, .unset] [(.int 0)])
          refine Goes.of (fun _ => XS.istore X25.here hx rfl (hb hby at_114) rfl (l' := #[.val (.int p0), .val (.int p1), .val (.int p2), .val (.int p3), .val (.int p4), .val (.ref b1), .val (.int 0), .val (.int 2), .val (.int 0), .unset, .unset]) rfl) ?_
          show Goes p e below _ T25 (mkF m 116 #[.val (.int p0), .val (.int p1), .val (.int p2), .val (.int p3), .val (.int p4), .val (.ref b1), .val (.int 0), .val (.int 2), .val (.int 0), .unset, .unset] [])
          refine Goes.of (fun _ => XS.iload X25.here hx rfl (hb hby at_116) rfl) ?_
          show Goes p e below _ T25 (mkF m 118 #[.val (.int p0), .val (.int p1), .val (.int p2), .val (.int p3), .val (.int p4), .val (.ref b1), .val (.int 0), .val (.int 2), .val (.int 0), .unset, .unset] [(.int 0)])
          refine Goes.of (fun _ => XS.ifNo X25.here hx rfl (hb hby at_118) rfl ((if0 _ _).trans (teq (by decide)).2)) ?_
          show Goes p e below _ T25 (mkF m 121 #[.val (.int p0), .val (.int p1), .val (.int p2), .val (.int p3), .val (.int p4), .val (.ref b1), .val (.int 0), .val (.int 2), .val (.int 0), .unset, .unset] [])
          refine Goes.of (fun _ => XS.iconst X25.here hx rfl (hb hby at_121)) ?_
          show Goes p e below _ T25 (mkF m 122 #[.val (.int p0), .val (.int p1), .val (.int p2), .val (.int p3), .val (.int p4), .val (.ref b1), .val (.int 0), .val (.int 2), .val (.int 0), .unset, .unset] [(.int 1)])
          exact retZW (t := .boolean) X25 hS hk hZ hEL HC hx hret hlk (by simp) (hb hby at_122) eT25 (by decide) (by decide) ⟨rfl, N25⟩
      · refine Goes.of (fun _ => XS.ifYes X24.here hx rfl (pc0 := 73) (pc' := 113) rfl (hb hby at_73) rfl ((if0 _ _).trans (feq hpc73).2) (by decide) (by decide)) ?_
        show Goes p e below _ T24 (mkF m 113 #[.val (.int p0), .val (.int p1), .val (.int p2), .val (.int p3), .val (.int p4), .val (.ref b1), .val (.int 0), .val (.int 2), .unset, .unset, .unset] [])
        refine Goes.of (fun _ => XS.iconst X24.here hx rfl (hb hby at_113)) ?_
        show Goes p e below _ T24 (mkF m 114 #[.val (.int p0), .val (.int p1), .val (.int p2), .val (.int p3), .val (.int p4), .val (.ref b1), .val (.int 0), .val (.int 2), .unset, .unset, .unset] [(.int 0)])
        refine Goes.of (fun _ => XS.istore X24.here hx rfl (hb hby at_114) rfl (l' := #[.val (.int p0), .val (.int p1), .val (.int p2), .val (.int p3), .val (.int p4), .val (.ref b1), .val (.int 0), .val (.int 2), .val (.int 0), .unset, .unset]) rfl) ?_
        show Goes p e below _ T24 (mkF m 116 #[.val (.int p0), .val (.int p1), .val (.int p2), .val (.int p3), .val (.int p4), .val (.ref b1), .val (.int 0), .val (.int 2), .val (.int 0), .unset, .unset] [])
        refine Goes.of (fun _ => XS.iload X24.here hx rfl (hb hby at_116) rfl) ?_
        show Goes p e below _ T24 (mkF m 118 #[.val (.int p0), .val (.int p1), .val (.int p2), .val (.int p3), .val (.int p4), .val (.ref b1), .val (.int 0), .val (.int 2), .val (.int 0), .unset, .unset] [(.int 0)])
        refine Goes.of (fun _ => XS.ifNo X24.here hx rfl (hb hby at_118) rfl ((if0 _ _).trans (teq (by decide)).2)) ?_
        show Goes p e below _ T24 (mkF m 121 #[.val (.int p0), .val (.int p1), .val (.int p2), .val (.int p3), .val (.int p4), .val (.ref b1), .val (.int 0), .val (.int 2), .val (.int 0), .unset, .unset] [])
        refine Goes.of (fun _ => XS.iconst X24.here hx rfl (hb hby at_121)) ?_
        show Goes p e below _ T24 (mkF m 122 #[.val (.int p0), .val (.int p1), .val (.int p2), .val (.int p3), .val (.int p4), .val (.ref b1), .val (.int 0), .val (.int 2), .val (.int 0), .unset, .unset] [(.int 1)])
        exact retZW (t := .boolean) X24 hS hk hZ hEL HC hx hret hlk (by simp) (hb hby at_122) eT24 (by decide) (by decide) ⟨rfl, N24⟩
    · show Goes p e below _ T9 (mkF m 65 #[.val (.int p0), .val (.int p1), .val (.int p2), .val (.int p3), .val (.int p4), .val (.ref b1), .val (.int 0), .val (.int 3), .unset, .unset, .unset] [])
      refine Goes.of (fun _ => XS.aload X9.here hx rfl (hb hby at_65) rfl rfl) ?_
      show Goes p e below _ T9 (mkF m 67 #[.val (.int p0), .val (.int p1), .val (.int p2), .val (.int p3), .val (.int p4), .val (.ref b1), .val (.int 0), .val (.int 3), .unset, .unset, .unset] [(.ref b1)])
      refine Goes.of (fun _ => XS.iload X9.here hx rfl (hb hby at_67) rfl) ?_
      show Goes p e below _ T9 (mkF m 69 #[.val (.int p0), .val (.int p1), .val (.int p2), .val (.int p3), .val (.int p4), .val (.ref b1), .val (.int 0), .val (.int 3), .unset, .unset, .unset] [(.int 3), (.ref b1)])
      refine Goes.of (fun _ => XS.iconst X9.here hx rfl (hb hby at_69)) ?_
      show Goes p e below _ T9 (mkF m 70 #[.val (.int p0), .val (.int p1), .val (.int p2), .val (.int p3), .val (.int p4), .val (.ref b1), .val (.int 0), .val (.int 3), .unset, .unset, .unset] [(.int 0), (.int 3), (.ref b1)])
      refine goStatic 0 X9 hx hZ hown (hw _ (List.mem_of_getElem? (i := 8) rfl)) (hw _ (List.mem_of_getElem? (i := 9) rfl)) (hw _ (List.mem_of_getElem? (i := 3) rfl)) (hw _ (List.mem_of_getElem? (i := 10) rfl)) (by decide) (rm_bad_3_0 l Z a0 hw b1 _ c0 c1 c2 c3 h9 n0 O0 V1) eT9 (g := (mkF m 70 #[.val (.int p0), .val (.int p1), .val (.int p2), .val (.int p3), .val (.int p4), .val (.ref b1), .val (.int 0), .val (.int 3), .unset, .unset, .unset] [(.int 0), (.int 3), (.ref b1)])) rfl (by rw [hml]; rfl) [(.ref b1), (.int 3), (.int 0)] [] (lenOf pd___CII_Z rfl) rfl rfl (by show 2 * 0 + _ ≤ _; exact Nat.le_of_eq rfl) (hb hby at_70) (by decide) (by decide) (by decide) (by decide) ?_
      intro v31 T31 L31 X31 q31
      obtain ⟨rfl, Nq31, eT31⟩ := q31
      have N31 := Fr.app N9 Nq31
      show Goes p e below _ T31 (mkF m 73 #[.val (.int p0), .val (.int p1), .val (.int p2), .val (.int p3), .val (.int p4), .val (.ref b1), .val (.int 0), .val (.int 3), .unset, .unset, .unset] [(.int (if hiV c0 = (0 : Int32) then (if loV c0 = (0 : Int32) then (0 : Int32) else (1 : Int32)) else (if loV c1 = (0 : Int32) then (1 : Int32) else (if loV c0 = (0 : Int32) then (0 : Int32) else (1 : Int32)))))])
      by_cases hpc73 : (if hiV c0 = (0 : Int32) then (if loV c0 = (0 : Int32) then (0 : Int32) else (1 : Int32)) else (if loV c1 = (0 : Int32) then (1 : Int32) else (if loV c0 = (0 : Int32) then (0 : Int32) else (1 : Int32)))) = (0 : Int32)
      · refine Goes.of (fun _ => XS.ifNo X31.here hx rfl (hb hby at_73) rfl ((if0 _ _).trans (teq hpc73).2)) ?_
        show Goes p e below _ T31 (mkF m 76 #[.val (.int p0), .val (.int p1), .val (.int p2), .val (.int p3), .val (.int p4), .val (.ref b1), .val (.int 0), .val (.int 3), .unset, .unset, .unset] [])
        refine Goes.of (fun _ => XS.aload X31.here hx rfl (hb hby at_76) rfl rfl) ?_
        show Goes p e below _ T31 (mkF m 78 #[.val (.int p0), .val (.int p1), .val (.int p2), .val (.int p3), .val (.int p4), .val (.ref b1), .val (.int 0), .val (.int 3), .unset, .unset, .unset] [(.ref b1)])
        refine Goes.of (fun _ => XS.iload X31.here hx rfl (hb hby at_78) rfl) ?_
        show Goes p e below _ T31 (mkF m 80 #[.val (.int p0), .val (.int p1), .val (.int p2), .val (.int p3), .val (.int p4), .val (.ref b1), .val (.int 0), .val (.int 3), .unset, .unset, .unset] [(.int 3), (.ref b1)])
        refine Goes.of (fun _ => XS.iconst X31.here hx rfl (hb hby at_80)) ?_
        show Goes p e below _ T31 (mkF m 81 #[.val (.int p0), .val (.int p1), .val (.int p2), .val (.int p3), .val (.int p4), .val (.ref b1), .val (.int 0), .val (.int 3), .unset, .unset, .unset] [(.int 1), (.int 3), (.ref b1)])
        refine goStatic 0 X31 hx hZ hown (hw _ (List.mem_of_getElem? (i := 8) rfl)) (hw _ (List.mem_of_getElem? (i := 9) rfl)) (hw _ (List.mem_of_getElem? (i := 3) rfl)) (hw _ (List.mem_of_getElem? (i := 10) rfl)) (by decide) (rm_bad_3_1 l Z a0 hw b1 _ c0 c1 c2 c3 h9 n0 O0 V1) eT31 (g := (mkF m 81 #[.val (.int p0), .val (.int p1), .val (.int p2), .val (.int p3), .val (.int p4), .val (.ref b1), .val (.int 0), .val (.int 3), .unset, .unset, .unset] [(.int 1), (.int 3), (.ref b1)])) rfl (by rw [hml]; rfl) [(.ref b1), (.int 3), (.int 1)] [] (lenOf pd___CII_Z rfl) rfl rfl (by show 2 * 0 + _ ≤ _; exact Nat.le_of_eq rfl) (hb hby at_81) (by decide) (by decide) (by decide) (by decide) ?_
        intro v32 T32 L32 X32 q32
        obtain ⟨rfl, Nq32, eT32⟩ := q32
        have N32 := Fr.app N31 Nq32
        show Goes p e below _ T32 (mkF m 84 #[.val (.int p0), .val (.int p1), .val (.int p2), .val (.int p3), .val (.int p4), .val (.ref b1), .val (.int 0), .val (.int 3), .unset, .unset, .unset] [(.int (if hiV c1 = (0 : Int32) then (if loV c1 = (0 : Int32) then (0 : Int32) else (if hiV c0 = (0 : Int32) then (1 : Int32) else (0 : Int32))) else (if loV c2 = (0 : Int32) then (1 : Int32) else (if loV c1 = (0 : Int32) then (0 : Int32) else (if hiV c0 = (0 : Int32) then (1 : Int32) else (0 : Int32))))))])
        by_cases hpc84 : (if hiV c1 = (0 : Int32) then (if loV c1 = (0 : Int32) then (0 : Int32) else (if hiV c0 = (0 : Int32) then (1 : Int32) else (0 : Int32))) else (if loV c2 = (0 : Int32) then (1 : Int32) else (if loV c1 = (0 : Int32) then (0 : Int32) else (if hiV c0 = (0 : Int32) then (1 : Int32) else (0 : Int32))))) = (0 : Int32)
        · refine Goes.of (fun _ => XS.ifNo X32.here hx rfl (hb hby at_84) rfl ((if0 _ _).trans (teq hpc84).2)) ?_
          show Goes p e below _ T32 (mkF m 87 #[.val (.int p0), .val (.int p1), .val (.int p2), .val (.int p3), .val (.int p4), .val (.ref b1), .val (.int 0), .val (.int 3), .unset, .unset, .unset] [])
          refine Goes.of (fun _ => XS.aload X32.here hx rfl (hb hby at_87) rfl rfl) ?_
          show Goes p e below _ T32 (mkF m 89 #[.val (.int p0), .val (.int p1), .val (.int p2), .val (.int p3), .val (.int p4), .val (.ref b1), .val (.int 0), .val (.int 3), .unset, .unset, .unset] [(.ref b1)])
          refine Goes.of (fun _ => XS.iload X32.here hx rfl (hb hby at_89) rfl) ?_
          show Goes p e below _ T32 (mkF m 91 #[.val (.int p0), .val (.int p1), .val (.int p2), .val (.int p3), .val (.int p4), .val (.ref b1), .val (.int 0), .val (.int 3), .unset, .unset, .unset] [(.int 3), (.ref b1)])
          refine Goes.of (fun _ => XS.iconst X32.here hx rfl (hb hby at_91)) ?_
          show Goes p e below _ T32 (mkF m 92 #[.val (.int p0), .val (.int p1), .val (.int p2), .val (.int p3), .val (.int p4), .val (.ref b1), .val (.int 0), .val (.int 3), .unset, .unset, .unset] [(.int 2), (.int 3), (.ref b1)])
          refine goStatic 0 X32 hx hZ hown (hw _ (List.mem_of_getElem? (i := 8) rfl)) (hw _ (List.mem_of_getElem? (i := 9) rfl)) (hw _ (List.mem_of_getElem? (i := 3) rfl)) (hw _ (List.mem_of_getElem? (i := 10) rfl)) (by decide) (rm_bad_3_2 l Z a0 hw b1 _ c0 c1 c2 c3 h9 n0 O0 V1) eT32 (g := (mkF m 92 #[.val (.int p0), .val (.int p1), .val (.int p2), .val (.int p3), .val (.int p4), .val (.ref b1), .val (.int 0), .val (.int 3), .unset, .unset, .unset] [(.int 2), (.int 3), (.ref b1)])) rfl (by rw [hml]; rfl) [(.ref b1), (.int 3), (.int 2)] [] (lenOf pd___CII_Z rfl) rfl rfl (by show 2 * 0 + _ ≤ _; exact Nat.le_of_eq rfl) (hb hby at_92) (by decide) (by decide) (by decide) (by decide) ?_
          intro v33 T33 L33 X33 q33
          obtain ⟨rfl, Nq33, eT33⟩ := q33
          have N33 := Fr.app N32 Nq33
          show Goes p e below _ T33 (mkF m 95 #[.val (.int p0), .val (.int p1), .val (.int p2), .val (.int p3), .val (.int p4), .val (.ref b1), .val (.int 0), .val (.int 3), .unset, .unset, .unset] [(.int (if hiV c2 = (0 : Int32) then (if loV c2 = (0 : Int32) then (0 : Int32) else (if hiV c1 = (0 : Int32) then (1 : Int32) else (0 : Int32))) else (1 : Int32)))])
          by_cases hpc95 : (if hiV c2 = (0 : Int32) then (if loV c2 = (0 : Int32) then (0 : Int32) else (if hiV c1 = (0 : Int32) then (1 : Int32) else (0 : Int32))) else (1 : Int32)) = (0 : Int32)
          · refine Goes.of (fun _ => XS.ifNo X33.here hx rfl (hb hby at_95) rfl ((if0 _ _).trans (teq hpc95).2)) ?_
            show Goes p e below _ T33 (mkF m 98 #[.val (.int p0), .val (.int p1), .val (.int p2), .val (.int p3), .val (.int p4), .val (.ref b1), .val (.int 0), .val (.int 3), .unset, .unset, .unset] [])
            refine Goes.of (fun _ => XS.aload X33.here hx rfl (hb hby at_98) rfl rfl) ?_
            show Goes p e below _ T33 (mkF m 100 #[.val (.int p0), .val (.int p1), .val (.int p2), .val (.int p3), .val (.int p4), .val (.ref b1), .val (.int 0), .val (.int 3), .unset, .unset, .unset] [(.ref b1)])
            refine Goes.of (fun _ => XS.iload X33.here hx rfl (hb hby at_100) rfl) ?_
            show Goes p e below _ T33 (mkF m 102 #[.val (.int p0), .val (.int p1), .val (.int p2), .val (.int p3), .val (.int p4), .val (.ref b1), .val (.int 0), .val (.int 3), .unset, .unset, .unset] [(.int 3), (.ref b1)])
            refine Goes.of (fun _ => XS.iconst X33.here hx rfl (hb hby at_102)) ?_
            show Goes p e below _ T33 (mkF m 103 #[.val (.int p0), .val (.int p1), .val (.int p2), .val (.int p3), .val (.int p4), .val (.ref b1), .val (.int 0), .val (.int 3), .unset, .unset, .unset] [(.int 3), (.int 3), (.ref b1)])
            refine goStatic 0 X33 hx hZ hown (hw _ (List.mem_of_getElem? (i := 8) rfl)) (hw _ (List.mem_of_getElem? (i := 9) rfl)) (hw _ (List.mem_of_getElem? (i := 3) rfl)) (hw _ (List.mem_of_getElem? (i := 10) rfl)) (by decide) (rm_bad_3_3 l Z a0 hw b1 _ c0 c1 c2 c3 h9 n0 O0 V1) eT33 (g := (mkF m 103 #[.val (.int p0), .val (.int p1), .val (.int p2), .val (.int p3), .val (.int p4), .val (.ref b1), .val (.int 0), .val (.int 3), .unset, .unset, .unset] [(.int 3), (.int 3), (.ref b1)])) rfl (by rw [hml]; rfl) [(.ref b1), (.int 3), (.int 3)] [] (lenOf pd___CII_Z rfl) rfl rfl (by show 2 * 0 + _ ≤ _; exact Nat.le_of_eq rfl) (hb hby at_103) (by decide) (by decide) (by decide) (by decide) ?_
            intro v34 T34 L34 X34 q34
            obtain ⟨rfl, Nq34, eT34⟩ := q34
            have N34 := Fr.app N33 Nq34
            show Goes p e below _ T34 (mkF m 106 #[.val (.int p0), .val (.int p1), .val (.int p2), .val (.int p3), .val (.int p4), .val (.ref b1), .val (.int 0), .val (.int 3), .unset, .unset, .unset] [(.int 0)])
            refine Goes.of (fun _ => XS.ifNo X34.here hx rfl (hb hby at_106) rfl ((if0 _ _).trans (teq (by decide)).2)) ?_
            show Goes p e below _ T34 (mkF m 109 #[.val (.int p0), .val (.int p1), .val (.int p2), .val (.int p3), .val (.int p4), .val (.ref b1), .val (.int 0), .val (.int 3), .unset, .unset, .unset] [])
            refine Goes.of (fun _ => XS.iconst X34.here hx rfl (hb hby at_109)) ?_
            show Goes p e below _ T34 (mkF m 110 #[.val (.int p0), .val (.int p1), .val (.int p2), .val (.int p3), .val (.int p4), .val (.ref b1), .val (.int 0), .val (.int 3), .unset, .unset, .unset] [(.int 1)])
            refine Goes.of (fun _ => XS.goto X34.here hx rfl (pc0 := 110) (pc' := 114) rfl (hb hby at_110) (by decide) (by decide)) ?_
            show Goes p e below _ T34 (mkF m 114 #[.val (.int p0), .val (.int p1), .val (.int p2), .val (.int p3), .val (.int p4), .val (.ref b1), .val (.int 0), .val (.int 3), .unset, .unset, .unset] [(.int 1)])
            refine Goes.of (fun _ => XS.istore X34.here hx rfl (hb hby at_114) rfl (l' := #[.val (.int p0), .val (.int p1), .val (.int p2), .val (.int p3), .val (.int p4), .val (.ref b1), .val (.int 0), .val (.int 3), .val (.int 1), .unset, .unset]) rfl) ?_
            show Goes p e below _ T34 (mkF m 116 #[.val (.int p0), .val (.int p1), .val (.int p2), .val (.int p3), .val (.int p4), .val (.ref b1), .val (.int 0), .val (.int 3), .val (.int 1), .unset, .unset] [])
            refine Goes.of (fun _ => XS.iload X34.here hx rfl (hb hby at_116) rfl) ?_
            show Goes p e below _ T34 (mkF m 118 #[.val (.int p0), .val (.int p1), .val (.int p2), .val (.int p3), .val (.int p4), .val (.ref b1), .val (.int 0), .val (.int 3), .val (.int 1), .unset, .unset] [(.int 1)])
            refine Goes.of (fun _ => XS.ifYes X34.here hx rfl (pc0 := 118) (pc' := 123) rfl (hb hby at_118) rfl ((if0 _ _).trans (feq (by decide)).2) (by decide) (by decide)) ?_
            show Goes p e below _ T34 (mkF m 123 #[.val (.int p0), .val (.int p1), .val (.int p2), .val (.int p3), .val (.int p4), .val (.ref b1), .val (.int 0), .val (.int 3), .val (.int 1), .unset, .unset] [])
            have hval : Val [c0, c1, c2] := val_3 hpc73 hpc84 hpc95
            refine Goes.of (fun _ => XS.iload X34.here hx rfl (hb hby at_123) rfl) ?_
            show Goes p e below _ T34 (mkF m 125 #[.val (.int p0), .val (.int p1), .val (.int p2), .val (.int p3), .val (.int p4), .val (.ref b1), .val (.int 0), .val (.int 3), .val (.int 1), .unset, .unset] [(.int 0)])
            refine Goes.of (fun _ => XS.ifYes X34.here hx rfl (pc0 := 125) (pc' := 189) rfl (hb hby at_125) rfl ((if0 _ _).trans (teq (by decide)).1) (by decide) (by decide)) ?_
            show Goes p e below _ T34 (mkF m 189 #[.val (.int p0), .val (.int p1), .val (.int p2), .val (.int p3), .val (.int p4), .val (.ref b1), .val (.int 0), .val (.int 3), .val (.int 1), .unset, .unset] [])
            refine Goes.of (fun _ => XS.aload X34.here hx rfl (hb hby at_189) rfl rfl) ?_
            show Goes p e below _ T34 (mkF m 191 #[.val (.int p0), .val (.int p1), .val (.int p2), .val (.int p3), .val (.int p4), .val (.ref b1), .val (.int 0), .val (.int 3), .val (.int 1), .unset, .unset] [(.ref b1)])
            refine Goes.of (fun _ => XS.iload X34.here hx rfl (hb hby at_191) rfl) ?_
            show Goes p e below _ T34 (mkF m 193 #[.val (.int p0), .val (.int p1), .val (.int p2), .val (.int p3), .val (.int p4), .val (.ref b1), .val (.int 0), .val (.int 3), .val (.int 1), .unset, .unset] [(.int 3), (.ref b1)])
            refine goStatic 0 X34 hx hZ hown (hw _ (List.mem_of_getElem? (i := 11) rfl)) (hw _ (List.mem_of_getElem? (i := 12) rfl)) (hw _ (List.mem_of_getElem? (i := 3) rfl)) (hw _ (List.mem_of_getElem? (i := 13) rfl)) (by decide) (rm_make_3 l Z a0 hw b1 _ c0 c1 c2 c3 cz h9 n0 O0 Sa Sh Sl Sc hcz hz0 hz1 hz2 hz3 V1) eT34 (g := (mkF m 193 #[.val (.int p0), .val (.int p1), .val (.int p2), .val (.int p3), .val (.int p4), .val (.ref b1), .val (.int 0), .val (.int 3), .val (.int 1), .unset, .unset] [(.int 3), (.ref b1)])) rfl (by rw [hml]; rfl) [(.ref b1), (.int 3)] [] (lenOf pd___CI_Ljava_lang_String_ rfl) rfl rfl (by show 2 * 0 + _ ≤ _; exact Nat.le_of_eq rfl) (hb hby at_193) (by decide) (by decide) (by decide) (by decide) ?_
            intro v35 T35 L35 X35 q35
            obtain ⟨sb35, rfl, Nq35, Kq35, Su35⟩ := q35
            have N35 := Fr.app N34 Nq35
            have V1 := V1.keep Kq35 nin0
            have A1 := A1.keep Kq35
            have HC := HC.trans (CHr.keep Kq35 sf0 HC.1)
            have hk := Nat.le_trans hk Kq35.1
            have O0 := O0.keep Kq35 all0
            show Goes p e below _ T35 (mkF m 196 #[.val (.int p0), .val (.int p1), .val (.int p2), .val (.int p3), .val (.int p4), .val (.ref b1), .val (.int 0), .val (.int 3), .val (.int 1), .unset, .unset] [(.ref sb35)])
            refine Goes.of (fun _ => XS.astore X35.here hx rfl (hb hby at_196) rfl rfl (l' := #[.val (.int p0), .val (.int p1), .val (.int p2), .val (.int p3), .val (.int p4), .val (.ref b1), .val (.int 0), .val (.int 3), .val (.int 1), .val (.ref sb35), .unset]) rfl) ?_
            show Goes p e below _ T35 (mkF m 198 #[.val (.int p0), .val (.int p1), .val (.int p2), .val (.int p3), .val (.int p4), .val (.ref b1), .val (.int 0), .val (.int 3), .val (.int 1), .val (.ref sb35), .unset] [])
            obtain ⟨Es, tt, kt, Fv, hor⟩ := Su35
            rcases hor with ⟨Fc, hlat, Vt⟩ | ⟨-, Fc, Vt⟩
            · show Goes p e below _ T35 (mkF m 198 #[.val (.int p0), .val (.int p1), .val (.int p2), .val (.int p3), .val (.int p4), .val (.ref b1), .val (.int 0), .val (.int 3), .val (.int 1), .val (.ref sb35), .unset] [])
              refine Goes.of (fun _ => XS.aload X35.here hx rfl (hb hby at_198) rfl rfl) ?_
              show Goes p e below _ T35 (mkF m 200 #[.val (.int p0), .val (.int p1), .val (.int p2), .val (.int p3), .val (.int p4), .val (.ref b1), .val (.int 0), .val (.int 3), .val (.int 1), .val (.ref sb35), .unset] [(.ref sb35)])
              refine goStaticW 0 X35 hS hk hEL HC hx hZ hown (hw _ (List.mem_of_getElem? (i := 35) rfl)) (hw _ (List.mem_of_getElem? (i := 36) rfl)) (hw _ (List.mem_of_getElem? (i := 37) rfl)) (hw _ (List.mem_of_getElem? (i := 38) rfl)) (by decide) (rm_chk_lat l Z a0 hw sb35 tt kt [c0, c1, c2] cz fm T35.heap n0 O0 Sa Sh Sl Sc hcz Sf hfm (by simp) Es Fv Fc Vt (hcs_3 hz0 hz1 hz2 hz3) hlat) (rfl : T35.heap = _) (g := (mkF m 200 #[.val (.int p0), .val (.int p1), .val (.int p2), .val (.int p3), .val (.int p4), .val (.ref b1), .val (.int 0), .val (.int 3), .val (.int 1), .val (.ref sb35), .unset] [(.ref sb35)])) rfl (by rw [hml]; rfl) [(.ref sb35)] [] (lenOf pd__Ljava_lang_String__Ljava_lang_String_ rfl) rfl rfl (by show 2 * 0 + _ ≤ _; exact Nat.le_of_eq rfl) (hb hby at_200) (by decide) (by decide) (by decide) (by decide) ?_
              intro v36 T36 L36 kk36 X36 hS hk hZ hown HC q36
              obtain ⟨rfl, Nq36, Kq36⟩ := q36
              have N36 := Fr.app N35 Nq36
              have O0 := O0.keep Kq36 all0
              show Goes p e below _ T36 (mkF m 203 #[.val (.int p0), .val (.int p1), .val (.int p2), .val (.int p3), .val (.int p4), .val (.ref b1), .val (.int 0), .val (.int 3), .val (.int 1), .val (.ref sb35), .unset] [(.ref sb35)])
              refine Goes.of (fun _ => XS.astore X36.here hx rfl (hb hby at_203) rfl rfl (l' := #[.val (.int p0), .val (.int p1), .val (.int p2), .val (.int p3), .val (.int p4), .val (.ref b1), .val (.int 0), .val (.int 3), .val (.int 1), .val (.ref sb35), .val (.ref sb35)]) rfl) ?_
              show Goes p e below _ T36 (mkF m 205 #[.val (.int p0), .val (.int p1), .val (.int p2), .val (.int p3), .val (.int p4), .val (.ref b1), .val (.int 0), .val (.int 3), .val (.int 1), .val (.ref sb35), .val (.ref sb35)] [])
              refine Goes.of (fun _ => XS.aload X36.here hx rfl (hb hby at_205) rfl rfl) ?_
              show Goes p e below _ T36 (mkF m 207 #[.val (.int p0), .val (.int p1), .val (.int p2), .val (.int p3), .val (.int p4), .val (.ref b1), .val (.int 0), .val (.int 3), .val (.int 1), .val (.ref sb35), .val (.ref sb35)] [(.ref sb35)])
              refine Goes.of (fun _ => XS.aload X36.here hx rfl (hb hby at_207) rfl rfl) ?_
              show Goes p e below _ T36 (mkF m 209 #[.val (.int p0), .val (.int p1), .val (.int p2), .val (.int p3), .val (.int p4), .val (.ref b1), .val (.int 0), .val (.int 3), .val (.int 1), .val (.ref sb35), .val (.ref sb35)] [(.ref sb35), (.ref sb35)])
              refine Goes.of (fun _ => Jvm.RoadKit.acmp (g := (mkF m 209 #[.val (.int p0), .val (.int p1), .val (.int p2), .val (.int p3), .val (.int p4), .val (.ref b1), .val (.int 0), .val (.int 3), .val (.int 1), .val (.ref sb35), .val (.ref sb35)] [(.ref sb35), (.ref sb35)])) X36 hx rfl rfl rfl (pc0 := 209) (pc' := 212) (same := true) rfl (hb hby at_209) rfl (decide_eq_true rfl) (by decide) (by decide)) ?_
              show Goes p e below _ T36 (mkF m 212 #[.val (.int p0), .val (.int p1), .val (.int p2), .val (.int p3), .val (.int p4), .val (.ref b1), .val (.int 0), .val (.int 3), .val (.int 1), .val (.ref sb35), .val (.ref sb35)] [])
              refine Goes.of (fun _ => XS.iconst X36.here hx rfl (hb hby at_212)) ?_
              show Goes p e below _ T36 (mkF m 213 #[.val (.int p0), .val (.int p1), .val (.int p2), .val (.int p3), .val (.int p4), .val (.ref b1), .val (.int 0), .val (.int 3), .val (.int 1), .val (.ref sb35), .val (.ref sb35)] [(.int 1)])
              refine Goes.of (fun _ => XS.goto X36.here hx rfl (pc0 := 213) (pc' := 217) rfl (hb hby at_213) (by decide) (by decide)) ?_
              show Goes p e below _ T36 (mkF m 217 #[.val (.int p0), .val (.int p1), .val (.int p2), .val (.int p3), .val (.int p4), .val (.ref b1), .val (.int 0), .val (.int 3), .val (.int 1), .val (.ref sb35), .val (.ref sb35)] [(.int 1)])
              exact retZW (t := .boolean) X36 hS hk hZ hEL HC hx hret hlk (by simp) (hb hby at_217) (rfl : T36.heap = _) (by decide) (by decide) ⟨rfl, N36⟩
            · show Goes p e below _ T35 (mkF m 198 #[.val (.int p0), .val (.int p1), .val (.int p2), .val (.int p3), .val (.int p4), .val (.ref b1), .val (.int 0), .val (.int 3), .val (.int 1), .val (.ref sb35), .unset] [])
              refine Goes.of (fun _ => XS.aload X35.here hx rfl (hb hby at_198) rfl rfl) ?_
              show Goes p e below _ T35 (mkF m 200 #[.val (.int p0), .val (.int p1), .val (.int p2), .val (.int p3), .val (.int p4), .val (.ref b1), .val (.int 0), .val (.int 3), .val (.int 1), .val (.ref sb35), .unset] [(.ref sb35)])
              refine goStaticW 0 X35 hS hk hEL HC hx hZ hown (hw _ (List.mem_of_getElem? (i := 35) rfl)) (hw _ (List.mem_of_getElem? (i := 36) rfl)) (hw _ (List.mem_of_getElem? (i := 37) rfl)) (hw _ (List.mem_of_getElem? (i := 38) rfl)) (by decide) (rm_chk_utf l Z a0 hw sb35 tt kt [c0, c1, c2] cz fm T35.heap n0 O0 Sa Sh Sl Sc hcz Sf hfm (by simp) Es Fv Fc Vt (hcs_3 hz0 hz1 hz2 hz3) hval) (rfl : T35.heap = _) (g := (mkF m 200 #[.val (.int p0), .val (.int p1), .val (.int p2), .val (.int p3), .val (.int p4), .val (.ref b1), .val (.int 0), .val (.int 3), .val (.int 1), .val (.ref sb35), .unset] [(.ref sb35)])) rfl (by rw [hml]; rfl) [(.ref sb35)] [] (lenOf pd__Ljava_lang_String__Ljava_lang_String_ rfl) rfl rfl (by show 2 * 0 + _ ≤ _; exact Nat.le_of_eq rfl) (hb hby at_200) (by decide) (by decide) (by decide) (by decide) ?_
              intro v37 T37 L37 kk37 X37 hS hk hZ hown HC q37
              obtain ⟨rfl, Nq37, Kq37⟩ := q37
              have N37 := Fr.app N35 Nq37
              have O0 := O0.keep Kq37 all0
              show Goes p e below _ T37 (mkF m 203 #[.val (.int p0), .val (.int p1), .val (.int p2), .val (.int p3), .val (.int p4), .val (.ref b1), .val (.int 0), .val (.int 3), .val (.int 1), .val (.ref sb35), .unset] [(.ref sb35)])
              refine Goes.of (fun _ => XS.astore X37.here hx rfl (hb hby at_203) rfl rfl (l' := #[.val (.int p0), .val (.int p1), .val (.int p2), .val (.int p3), .val (.int p4), .val (.ref b1), .val (.int 0), .val (.int 3), .val (.int 1), .val (.ref sb35), .val (.ref sb35)]) rfl) ?_
              show Goes p e below _ T37 (mkF m 205 #[.val (.int p0), .val (.int p1), .val (.int p2), .val (.int p3), .val (.int p4), .val (.ref b1), .val (.int 0), .val (.int 3), .val (.int 1), .val (.ref sb35), .val (.ref sb35)] [])
              refine Goes.of (fun _ => XS.aload X37.here hx rfl (hb hby at_205) rfl rfl) ?_
              show Goes p e below _ T37 (mkF m 207 #[.val (.int p0), .val (.int p1), .val (.int p2), .val (.int p3), .val (.int p4), .val (.ref b1), .val (.int 0), .val (.int 3), .val (.int 1), .val (.ref sb35), .val (.ref sb35)] [(.ref sb35)])
              refine Goes.of (fun _ => XS.aload X37.here hx rfl (hb hby at_207) rfl rfl) ?_
              show Goes p e below _ T37 (mkF m 209 #[.val (.int p0), .val (.int p1), .val (.int p2), .val (.int p3), .val (.int p4), .val (.ref b1), .val (.int 0), .val (.int 3), .val (.int 1), .val (.ref sb35), .val (.ref sb35)] [(.ref sb35), (.ref sb35)])
              refine Goes.of (fun _ => Jvm.RoadKit.acmp (g := (mkF m 209 #[.val (.int p0), .val (.int p1), .val (.int p2), .val (.int p3), .val (.int p4), .val (.ref b1), .val (.int 0), .val (.int 3), .val (.int 1), .val (.ref sb35), .val (.ref sb35)] [(.ref sb35), (.ref sb35)])) X37 hx rfl rfl rfl (pc0 := 209) (pc' := 212) (same := true) rfl (hb hby at_209) rfl (decide_eq_true rfl) (by decide) (by decide)) ?_
              show Goes p e below _ T37 (mkF m 212 #[.val (.int p0), .val (.int p1), .val (.int p2), .val (.int p3), .val (.int p4), .val (.ref b1), .val (.int 0), .val (.int 3), .val (.int 1), .val (.ref sb35), .val (.ref sb35)] [])
              refine Goes.of (fun _ => XS.iconst X37.here hx rfl (hb hby at_212)) ?_
              show Goes p e below _ T37 (mkF m 213 #[.val (.int p0), .val (.int p1), .val (.int p2), .val (.int p3), .val (.int p4), .val (.ref b1), .val (.int 0), .val (.int 3), .val (.int 1), .val (.ref sb35), .val (.ref sb35)] [(.int 1)])
              refine Goes.of (fun _ => XS.goto X37.here hx rfl (pc0 := 213) (pc' := 217) rfl (hb hby at_213) (by decide) (by decide)) ?_
              show Goes p e below _ T37 (mkF m 217 #[.val (.int p0), .val (.int p1), .val (.int p2), .val (.int p3), .val (.int p4), .val (.ref b1), .val (.int 0), .val (.int 3), .val (.int 1), .val (.ref sb35), .val (.ref sb35)] [(.int 1)])
              exact retZW (t := .boolean) X37 hS hk hZ hEL HC hx hret hlk (by simp) (hb hby at_217) (rfl : T37.heap = _) (by decide) (by decide) ⟨rfl, N37⟩
          · refine Goes.of (fun _ => XS.ifYes X33.here hx rfl (pc0 := 95) (pc' := 113) rfl (hb hby at_95) rfl ((if0 _ _).trans (feq hpc95).2) (by decide) (by decide)) ?_
            show Goes p e below _ T33 (mkF m 113 #[.val (.int p0), .val (.int p1), .val (.int p2), .val (.int p3), .val (.int p4), .val (.ref b1), .val (.int 0), .val (.int 3), .unset, .unset, .unset] [])
            refine Goes.of (fun _ => XS.iconst X33.here hx rfl (hb hby at_113)) ?_
            show Goes p e below _ T33 (mkF m 114 #[.val (.int p0), .val (.int p1), .val (.int p2), .val (.int p3), .val (.int p4), .val (.ref b1), .val (.int 0), .val (.int 3), .unset, .unset, .unset] [(.int 0)])
            refine Goes.of (fun _ => XS.istore X33.here hx rfl (hb hby at_114) rfl (l' := #[.val (.int p0), .val (.int p1), .val (.int p2), .val (.int p3), .val (.int p4), .val (.ref b1), .val (.int 0), .val (.int 3), .val (.int 0), .unset, .unset]) rfl) ?_
            show Goes p e below _ T33 (mkF m 116 #[.val (.int p0), .val (.int p1), .val (.int p2), .val (.int p3), .val (.int p4), .val (.ref b1), .val (.int 0), .val (.int 3), .val (.int 0), .unset, .unset] [])
            refine Goes.of (fun _ => XS.iload X33.here hx rfl (hb hby at_116) rfl) ?_
            show Goes p e below _ T33 (mkF m 118 #[.val (.int p0), .val (.int p1), .val (.int p2), .val (.int p3), .val (.int p4), .val (.ref b1), .val (.int 0), .val (.int 3), .val (.int 0), .unset, .unset] [(.int 0)])
            refine Goes.of (fun _ => XS.ifNo X33.here hx rfl (hb hby at_118) rfl ((if0 _ _).trans (teq (by decide)).2)) ?_
            show Goes p e below _ T33 (mkF m 121 #[.val (.int p0), .val (.int p1), .val (.int p2), .val (.int p3), .val (.int p4), .val (.ref b1), .val (.int 0), .val (.int 3), .val (.int 0), .unset, .unset] [])
            refine Goes.of (fun _ => XS.iconst X33.here hx rfl (hb hby at_121)) ?_
            show Goes p e below _ T33 (mkF m 122 #[.val (.int p0), .val (.int p1), .val (.int p2), .val (.int p3), .val (.int p4), .val (.ref b1), .val (.int 0), .val (.int 3), .val (.int 0), .unset, .unset] [(.int 1)])
            exact retZW (t := .boolean) X33 hS hk hZ hEL HC hx hret hlk (by simp) (hb hby at_122) eT33 (by decide) (by decide) ⟨rfl, N33⟩
        · refine Goes.of (fun _ => XS.ifYes X32.here hx rfl (pc0 := 84) (pc' := 113) rfl (hb hby at_84) rfl ((if0 _ _).trans (feq hpc84).2) (by decide) (by decide)) ?_
          show Goes p e below _ T32 (mkF m 113 #[.val (.int p0), .val (.int p1), .val (.int p2), .val (.int p3), .val (.int p4), .val (.ref b1), .val (.int 0), .val (.int 3), .unset, .unset, .unset] [])
          refine Goes.of (fun _ => XS.iconst X32.here hx rfl (hb hby at_113)) ?_
          show Goes p e below _ T32 (mkF m 114 #[.val (.int p0), .val (.int p1), .val (.int p2), .val (.int p3), .val (.int p4), .val (.ref b1), .val (.int 0), .val (.int 3), .unset, .unset, .unset] [(.int 0)])
          refine Goes.of (fun _ => XS.istore X32.here hx rfl (hb hby at_114) rfl (l' := #[.val (.int p0), .val (.int p1), .val (.int p2), .val (.int p3), .val (.int p4), .val (.ref b1), .val (.int 0), .val (.int 3), .val (.int 0), .unset, .unset]) rfl) ?_
          show Goes p e below _ T32 (mkF m 116 #[.val (.int p0), .val (.int p1), .val (.int p2), .val (.int p3), .val (.int p4), .val (.ref b1), .val (.int 0), .val (.int 3), .val (.int 0), .unset, .unset] [])
          refine Goes.of (fun _ => XS.iload X32.here hx rfl (hb hby at_116) rfl) ?_
          show Goes p e below _ T32 (mkF m 118 #[.val (.int p0), .val (.int p1), .val (.int p2), .val (.int p3), .val (.int p4), .val (.ref b1), .val (.int 0), .val (.int 3), .val (.int 0), .unset, .unset] [(.int 0)])
          refine Goes.of (fun _ => XS.ifNo X32.here hx rfl (hb hby at_118) rfl ((if0 _ _).trans (teq (by decide)).2)) ?_
          show Goes p e below _ T32 (mkF m 121 #[.val (.int p0), .val (.int p1), .val (.int p2), .val (.int p3), .val (.int p4), .val (.ref b1), .val (.int 0), .val (.int 3), .val (.int 0), .unset, .unset] [])
          refine Goes.of (fun _ => XS.iconst X32.here hx rfl (hb hby at_121)) ?_
          show Goes p e below _ T32 (mkF m 122 #[.val (.int p0), .val (.int p1), .val (.int p2), .val (.int p3), .val (.int p4), .val (.ref b1), .val (.int 0), .val (.int 3), .val (.int 0), .unset, .unset] [(.int 1)])
          exact retZW (t := .boolean) X32 hS hk hZ hEL HC hx hret hlk (by simp) (hb hby at_122) eT32 (by decide) (by decide) ⟨rfl, N32⟩
      · refine Goes.of (fun _ => XS.ifYes X31.here hx rfl (pc0 := 73) (pc' := 113) rfl (hb hby at_73) rfl ((if0 _ _).trans (feq hpc73).2) (by decide) (by decide)) ?_
        show Goes p e below _ T31 (mkF m 113 #[.val (.int p0), .val (.int p1), .val (.int p2), .val (.int p3), .val (.int p4), .val (.ref b1), .val (.int 0), .val (.int 3), .unset, .unset, .unset] [])
        refine Goes.of (fun _ => XS.iconst X31.here hx rfl (hb hby at_113)) ?_
        show Goes p e below _ T31 (mkF m 114 #[.val (.int p0), .val (.int p1), .val (.int p2), .val (.int p3), .val (.int p4), .val (.ref b1), .val (.int 0), .val (.int 3), .unset, .unset, .unset] [(.int 0)])
        refine Goes.of (fun _ => XS.istore X31.here hx rfl (hb hby at_114) rfl (l' := #[.val (.int p0), .val (.int p1), .val (.int p2), .val (.int p3), .val (.int p4), .val (.ref b1), .val (.int 0), .val (.int 3), .val (.int 0), .unset, .unset]) rfl) ?_
        show Goes p e below _ T31 (mkF m 116 #[.val (.int p0), .val (.int p1), .val (.int p2), .val (.int p3), .val (.int p4), .val (.ref b1), .val (.int 0), .val (.int 3), .val (.int 0), .unset, .unset] [])
        refine Goes.of (fun _ => XS.iload X31.here hx rfl (hb hby at_116) rfl) ?_
        show Goes p e below _ T31 (mkF m 118 #[.val (.int p0), .val (.int p1), .val (.int p2), .val (.int p3), .val (.int p4), .val (.ref b1), .val (.int 0), .val (.int 3), .val (.int 0), .unset, .unset] [(.int 0)])
        refine Goes.of (fun _ => XS.ifNo X31.here hx rfl (hb hby at_118) rfl ((if0 _ _).trans (teq (by decide)).2)) ?_
        show Goes p e below _ T31 (mkF m 121 #[.val (.int p0), .val (.int p1), .val (.int p2), .val (.int p3), .val (.int p4), .val (.ref b1), .val (.int 0), .val (.int 3), .val (.int 0), .unset, .unset] [])
        refine Goes.of (fun _ => XS.iconst X31.here hx rfl (hb hby at_121)) ?_
        show Goes p e below _ T31 (mkF m 122 #[.val (.int p0), .val (.int p1), .val (.int p2), .val (.int p3), .val (.int p4), .val (.ref b1), .val (.int 0), .val (.int 3), .val (.int 0), .unset, .unset] [(.int 1)])
        exact retZW (t := .boolean) X31 hS hk hZ hEL HC hx hret hlk (by simp) (hb hby at_122) eT31 (by decide) (by decide) ⟨rfl, N31⟩
    · show Goes p e below _ T9 (mkF m 65 #[.val (.int p0), .val (.int p1), .val (.int p2), .val (.int p3), .val (.int p4), .val (.ref b1), .val (.int 0), .val (.int 4), .unset, .unset, .unset] [])
      refine Goes.of (fun _ => XS.aload X9.here hx rfl (hb hby at_65) rfl rfl) ?_
      show Goes p e below _ T9 (mkF m 67 #[.val (.int p0), .val (.int p1), .val (.int p2), .val (.int p3), .val (.int p4), .val (.ref b1), .val (.int 0), .val (.int 4), .unset, .unset, .unset] [(.ref b1)])
      refine Goes.of (fun _ => XS.iload X9.here hx rfl (hb hby at_67) rfl) ?_
      show Goes p e below _ T9 (mkF m 69 #[.val (.int p0), .val (.int p1), .val (.int p2), .val (.int p3), .val (.int p4), .val (.ref b1), .val (.int 0), .val (.int 4), .unset, .unset, .unset] [(.int 4), (.ref b1)])
      refine Goes.of (fun _ => XS.iconst X9.here hx rfl (hb hby at_69)) ?_
      show Goes p e below _ T9 (mkF m 70 #[.val (.int p0), .val (.int p1), .val (.int p2), .val (.int p3), .val (.int p4), .val (.ref b1), .val (.int 0), .val (.int 4), .unset, .unset, .unset] [(.int 0), (.int 4), (.ref b1)])
      refine goStatic 0 X9 hx hZ hown (hw _ (List.mem_of_getElem? (i := 8) rfl)) (hw _ (List.mem_of_getElem? (i := 9) rfl)) (hw _ (List.mem_of_getElem? (i := 3) rfl)) (hw _ (List.mem_of_getElem? (i := 10) rfl)) (by decide) (rm_bad_4_0 l Z a0 hw b1 _ c0 c1 c2 c3 h9 n0 O0 V1) eT9 (g := (mkF m 70 #[.val (.int p0), .val (.int p1), .val (.int p2), .val (.int p3), .val (.int p4), .val (.ref b1), .val (.int 0), .val (.int 4), .unset, .unset, .unset] [(.int 0), (.int 4), (.ref b1)])) rfl (by rw [hml]; rfl) [(.ref b1), (.int 4), (.int 0)] [] (lenOf pd___CII_Z rfl) rfl rfl (by show 2 * 0 + _ ≤ _; exact Nat.le_of_eq rfl) (hb hby at_70) (by decide) (by decide) (by decide) (by decide) ?_
      intro v38 T38 L38 X38 q38
      obtain ⟨rfl, Nq38, eT38⟩ := q38
      have N38 := Fr.app N9 Nq38
      show Goes p e below _ T38 (mkF m 73 #[.val (.int p0), .val (.int p1), .val (.int p2), .val (.int p3), .val (.int p4), .val (.ref b1), .val (.int 0), .val (.int 4), .unset, .unset, .unset] [(.int (if hiV c0 = (0 : Int32) then (if loV c0 = (0 : Int32) then (0 : Int32) else (1 : Int32)) else (if loV c1 = (0 : Int32) then (1 : Int32) else (if loV c0 = (0 : Int32) then (0 : Int32) else (1 : Int32)))))])
      by_cases hpc73 : (if hiV c0 = (0 : Int32) then (if loV c0 = (0 : Int32) then (0 : Int32) else (1 : Int32)) else (if loV c1 = (0 : Int32) then (1 : Int32) else (if loV c0 = (0 : Int32) then (0 : Int32) else (1 : Int32)))) = (0 : Int32)
      · refine Goes.of (fun _ => XS.ifNo X38.here hx rfl (hb hby at_73) rfl ((if0 _ _).trans (teq hpc73).2)) ?_
        show Goes p e below _ T38 (mkF m 76 #[.val (.int p0), .val (.int p1), .val (.int p2), .val (.int p3), .val (.int p4), .val (.ref b1), .val (.int 0), .val (.int 4), .unset, .unset, .unset] [])
        refine Goes.of (fun _ => XS.aload X38.here hx rfl (hb hby at_76) rfl rfl) ?_
        show Goes p e below _ T38 (mkF m 78 #[.val (.int p0), .val (.int p1), .val (.int p2), .val (.int p3), .val (.int p4), .val (.ref b1), .val (.int 0), .val (.int 4), .unset, .unset, .unset] [(.ref b1)])
        refine Goes.of (fun _ => XS.iload X38.here hx rfl (hb hby at_78) rfl) ?_
        show Goes p e below _ T38 (mkF m 80 #[.val (.int p0), .val (.int p1), .val (.int p2), .val (.int p3), .val (.int p4), .val (.ref b1), .val (.int 0), .val (.int 4), .unset, .unset, .unset] [(.int 4), (.ref b1)])
        refine Goes.of (fun _ => XS.iconst X38.here hx rfl (hb hby at_80)) ?_
        show Goes p e below _ T38 (mkF m 81 #[.val (.int p0), .val (.int p1), .val (.int p2), .val (.int p3), .val (.int p4), .val (.ref b1), .val (.int 0), .val (.int 4), .unset, .unset, .unset] [(.int 1), (.int 4), (.ref b1)])
        refine goStatic 0 X38 hx hZ hown (hw _ (List.mem_of_getElem? (i := 8) rfl)) (hw _ (List.mem_of_getElem? (i := 9) rfl)) (hw _ (List.mem_of_getElem? (i := 3) rfl)) (hw _ (List.mem_of_getElem? (i := 10) rfl)) (by decide) (rm_bad_4_1 l Z a0 hw b1 _ c0 c1 c2 c3 h9 n0 O0 V1) eT38 (g := (mkF m 81 #[.val (.int p0), .val (.int p1), .val (.int p2), .val (.int p3), .val (.int p4), .val (.ref b1), .val (.int 0), .val (.int 4), .unset, .unset, .unset] [(.int 1), (.int 4), (.ref b1)])) rfl (by rw [hml]; rfl) [(.ref b1), (.int 4), (.int 1)] [] (lenOf pd___CII_Z rfl) rfl rfl (by show 2 * 0 + _ ≤ _; exact Nat.le_of_eq rfl) (hb hby at_81) (by decide) (by decide) (by decide) (by decide) ?_
        intro v39 T39 L39 X39 q39
        obtain ⟨rfl, Nq39, eT39⟩ := q39
        have N39 := Fr.app N38 Nq39
        show Goes p e below _ T39 (mkF m 84 #[.val (.int p0), .val (.int p1), .val (.int p2), .val (.int p3), .val (.int p4), .val (.ref b1), .val (.int 0), .val (.int 4), .unset, .unset, .unset] [(.int (if hiV c1 = (0 : Int32) then (if loV c1 = (0 : Int32) then (0 : Int32) else (if hiV c0 = (0 : Int32) then (1 : Int32) else (0 : Int32))) else (if loV c2 = (0 : Int32) then (1 : Int32) else (if loV c1 = (0 : Int32) then (0 : Int32) else (if hiV c0 = (0 : Int32) then (1 : Int32) else (0 : Int32))))))])
        by_cases hpc84 : (if hiV c1 = (0 : Int32) then (if loV c1 = (0 : Int32) then (0 : Int32) else (if hiV c0 = (0 : Int32) then (1 : Int32) else (0 : Int32))) else (if loV c2 = (0 : Int32) then (1 : Int32) else (if loV c1 = (0 : Int32) then (0 : Int32) else (if hiV c0 = (0 : Int32) then (1 : Int32) else (0 : Int32))))) = (0 : Int32)
        · refine Goes.of (fun _ => XS.ifNo X39.here hx rfl (hb hby at_84) rfl ((if0 _ _).trans (teq hpc84).2)) ?_
          show Goes p e below _ T39 (mkF m 87 #[.val (.int p0), .val (.int p1), .val (.int p2), .val (.int p3), .val (.int p4), .val (.ref b1), .val (.int 0), .val (.int 4), .unset, .unset, .unset] [])
          refine Goes.of (fun _ => XS.aload X39.here hx rfl (hb hby at_87) rfl rfl) ?_
          show Goes p e below _ T39 (mkF m 89 #[.val (.int p0), .val (.int p1), .val (.int p2), .val (.int p3), .val (.int p4), .val (.ref b1), .val (.int 0), .val (.int 4), .unset, .unset, .unset] [(.ref b1)])
          refine Goes.of (fun _ => XS.iload X39.here hx rfl (hb hby at_89) rfl) ?_
          show Goes p e below _ T39 (mkF m 91 #[.val (.int p0), .val (.int p1), .val (.int p2), .val (.int p3), .val (.int p4), .val (.ref b1), .val (.int 0), .val (.int 4), .unset, .unset, .unset] [(.int 4), (.ref b1)])
          refine Goes.of (fun _ => XS.iconst X39.here hx rfl (hb hby at_91)) ?_
          show Goes p e below _ T39 (mkF m 92 #[.val (.int p0), .val (.int p1), .val (.int p2), .val (.int p3), .val (.int p4), .val (.ref b1), .val (.int 0), .val (.int 4), .unset, .unset, .unset] [(.int 2), (.int 4), (.ref b1)])
          refine goStatic 0 X39 hx hZ hown (hw _ (List.mem_of_getElem? (i := 8) rfl)) (hw _ (List.mem_of_getElem? (i := 9) rfl)) (hw _ (List.mem_of_getElem? (i := 3) rfl)) (hw _ (List.mem_of_getElem? (i := 10) rfl)) (by decide) (rm_bad_4_2 l Z a0 hw b1 _ c0 c1 c2 c3 h9 n0 O0 V1) eT39 (g := (mkF m 92 #[.val (.int p0), .val (.int p1), .val (.int p2), .val (.int p3), .val (.int p4), .val (.ref b1), .val (.int 0), .val (.int 4), .unset, .unset, .unset] [(.int 2), (.int 4), (.ref b1)])) rfl (by rw [hml]; rfl) [(.ref b1), (.int 4), (.int 2)] [] (lenOf pd___CII_Z rfl) rfl rfl (by show 2 * 0 + _ ≤ _; exact Nat.le_of_eq rfl) (hb hby at_92) (by decide) (by decide) (by decide) (by decide) ?_
          intro v40 T40 L40 X40 q40
          obtain ⟨rfl, Nq40, eT40⟩ := q40
          have N40 := Fr.app N39 Nq40
          show Goes p e below _ T40 (mkF m 95 #[.val (.int p0), .val (.int p1), .val (.int p2), .val (.int p3), .val (.int p4), .val (.ref b1), .val (.int 0), .val (.int 4), .unset, .unset, .unset] [(.int (if hiV c2 = (0 : Int32) then (if loV c2 = (0 : Int32) then (0 : Int32) else (if hiV c1 = (0 : Int32) then (1 : Int32) else (0 : Int32))) else (if loV c3 = (0 : Int32) then (1 : Int32) else (if loV c2 = (0 : Int32) then (0 : Int32) else (if hiV c1 = (0 : Int32) then (1 : Int32) else (0 : Int32))))))])
          by_cases hpc95 : (if hiV c2 = (0 : Int32) then (if loV c2 = (0 : Int32) then (0 : Int32) else (if hiV c1 = (0 : Int32) then (1 : Int32) else (0 : Int32))) else (if loV c3 = (0 : Int32) then (1 : Int32) else (if loV c2 = (0 : Int32) then (0 : Int32) else (if hiV c1 = (0 : Int32) then (1 : Int32) else (0 : Int32))))) = (0 : Int32)
          · refine Goes.of (fun _ => XS.ifNo X40.here hx rfl (hb hby at_95) rfl ((if0 _ _).trans (teq hpc95).2)) ?_
            show Goes p e below _ T40 (mkF m 98 #[.val (.int p0), .val (.int p1), .val (.int p2), .val (.int p3), .val (.int p4), .val (.ref b1), .val (.int 0), .val (.int 4), .unset, .unset, .unset] [])
            refine Goes.of (fun _ => XS.aload X40.here hx rfl (hb hby at_98) rfl rfl) ?_
            show Goes p e below _ T40 (mkF m 100 #[.val (.int p0), .val (.int p1), .val (.int p2), .val (.int p3), .val (.int p4), .val (.ref b1), .val (.int 0), .val (.int 4), .unset, .unset, .unset] [(.ref b1)])
            refine Goes.of (fun _ => XS.iload X40.here hx rfl (hb hby at_100) rfl) ?_
            show Goes p e below _ T40 (mkF m 102 #[.val (.int p0), .val (.int p1), .val (.int p2), .val (.int p3), .val (.int p4), .val (.ref b1), .val (.int 0), .val (.int 4), .unset, .unset, .unset] [(.int 4), (.ref b1)])
            refine Goes.of (fun _ => XS.iconst X40.here hx rfl (hb hby at_102)) ?_
            show Goes p e below _ T40 (mkF m 103 #[.val (.int p0), .val (.int p1), .val (.int p2), .val (.int p3), .val (.int p4), .val (.ref b1), .val (.int 0), .val (.int 4), .unset, .unset, .unset] [(.int 3), (.int 4), (.ref b1)])
            refine goStatic 0 X40 hx hZ hown (hw _ (List.mem_of_getElem? (i := 8) rfl)) (hw _ (List.mem_of_getElem? (i := 9) rfl)) (hw _ (List.mem_of_getElem? (i := 3) rfl)) (hw _ (List.mem_of_getElem? (i := 10) rfl)) (by decide) (rm_bad_4_3 l Z a0 hw b1 _ c0 c1 c2 c3 h9 n0 O0 V1) eT40 (g := (mkF m 103 #[.val (.int p0), .val (.int p1), .val (.int p2), .val (.int p3), .val (.int p4), .val (.ref b1), .val (.int 0), .val (.int 4), .unset, .unset, .unset] [(.int 3), (.int 4), (.ref b1)])) rfl (by rw [hml]; rfl) [(.ref b1), (.int 4), (.int 3)] [] (lenOf pd___CII_Z rfl) rfl rfl (by show 2 * 0 + _ ≤ _; exact Nat.le_of_eq rfl) (hb hby at_103) (by decide) (by decide) (by decide) (by decide) ?_
            intro v41 T41 L41 X41 q41
            obtain ⟨rfl, Nq41, eT41⟩ := q41
            have N41 := Fr.app N40 Nq41
            show Goes p e below _ T41 (mkF m 106 #[.val (.int p0), .val (.int p1), .val (.int p2), .val (.int p3), .val (.int p4), .val (.ref b1), .val (.int 0), .val (.int 4), .unset, .unset, .unset] [(.int (if hiV c3 = (0 : Int32) then (if loV c3 = (0 : Int32) then (0 : Int32) else (if hiV c2 = (0 : Int32) then (1 : Int32) else (0 : Int32))) else (1 : Int32)))])
            by_cases hpc106 : (if hiV c3 = (0 : Int32) then (if loV c3 = (0 : Int32) then (0 : Int32) else (if hiV c2 = (0 : Int32) then (1 : Int32) else (0 : Int32))) else (1 : Int32)) = (0 : Int32)
            · refine Goes.of (fun _ => XS.ifNo X41.here hx rfl (hb hby at_106) rfl ((if0 _ _).trans (teq hpc106).2)) ?_
              show Goes p e below _ T41 (mkF m 109 #[.val (.int p0), .val (.int p1), .val (.int p2), .val (.int p3), .val (.int p4), .val (.ref b1), .val (.int 0), .val (.int 4), .unset, .unset, .unset] [])
              refine Goes.of (fun _ => XS.iconst X41.here hx rfl (hb hby at_109)) ?_
              show Goes p e below _ T41 (mkF m 110 #[.val (.int p0), .val (.int p1), .val (.int p2), .val (.int p3), .val (.int p4), .val (.ref b1), .val (.int 0), .val (.int 4), .unset, .unset, .unset] [(.int 1)])
              refine Goes.of (fun _ => XS.goto X41.here hx rfl (pc0 := 110) (pc' := 114) rfl (hb hby at_110) (by decide) (by decide)) ?_
              show Goes p e below _ T41 (mkF m 114 #[.val (.int p0), .val (.int p1), .val (.int p2), .val (.int p3), .val (.int p4), .val (.ref b1), .val (.int 0), .val (.int 4), .unset, .unset, .unset] [(.int 1)])
              refine Goes.of (fun _ => XS.istore X41.here hx rfl (hb hby at_114) rfl (l' := #[.val (.int p0), .val (.int p1), .val (.int p2), .val (.int p3), .val (.int p4), .val (.ref b1), .val (.int 0), .val (.int 4), .val (.int 1), .unset, .unset]) rfl) ?_
              show Goes p e below _ T41 (mkF m 116 #[.val (.int p0), .val (.int p1), .val (.int p2), .val (.int p3), .val (.int p4), .val (.ref b1), .val (.int 0), .val (.int 4), .val (.int 1), .unset, .unset] [])
              refine Goes.of (fun _ => XS.iload X41.here hx rfl (hb hby at_116) rfl) ?_
              show Goes p e below _ T41 (mkF m 118 #[.val (.int p0), .val (.int p1), .val (.int p2), .val (.int p3), .val (.int p4), .val (.ref b1), .val (.int 0), .val (.int 4), .val (.int 1), .unset, .unset] [(.int 1)])
              refine Goes.of (fun _ => XS.ifYes X41.here hx rfl (pc0 := 118) (pc' := 123) rfl (hb hby at_118) rfl ((if0 _ _).trans (feq (by decide)).2) (by decide) (by decide)) ?_
              show Goes p e below _ T41 (mkF m 123 #[.val (.int p0), .val (.int p1), .val (.int p2), .val (.int p3), .val (.int p4), .val (.ref b1), .val (.int 0), .val (.int 4), .val (.int 1), .unset, .unset] [])
              have hval : Val [c0, c1, c2, c3] := val_4 hpc73 hpc84 hpc95 hpc106
              refine Goes.of (fun _ => XS.iload X41.here hx rfl (hb hby at_123) rfl) ?_
              show Goes p e below _ T41 (mkF m 125 #[.val (.int p0), .val (.int p1), .val (.int p2), .val (.int p3), .val (.int p4), .val (.ref b1), .val (.int 0), .val (.int 4), .val (.int 1), .unset, .unset] [(.int 0)])
              refine Goes.of (fun _ => XS.ifYes X41.here hx rfl (pc0 := 125) (pc' := 189) rfl (hb hby at_125) rfl ((if0 _ _).trans (teq (by decide)).1) (by decide) (by decide)) ?_
              show Goes p e below _ T41 (mkF m 189 #[.val (.int p0), .val (.int p1), .val (.int p2), .val (.int p3), .val (.int p4), .val (.ref b1), .val (.int 0), .val (.int 4), .val (.int 1), .unset, .unset] [])
              refine Goes.of (fun _ => XS.aload X41.here hx rfl (hb hby at_189) rfl rfl) ?_
              show Goes p e below _ T41 (mkF m 191 #[.val (.int p0), .val (.int p1), .val (.int p2), .val (.int p3), .val (.int p4), .val (.ref b1), .val (.int 0), .val (.int 4), .val (.int 1), .unset, .unset] [(.ref b1)])
              refine Goes.of (fun _ => XS.iload X41.here hx rfl (hb hby at_191) rfl) ?_
              show Goes p e below _ T41 (mkF m 193 #[.val (.int p0), .val (.int p1), .val (.int p2), .val (.int p3), .val (.int p4), .val (.ref b1), .val (.int 0), .val (.int 4), .val (.int 1), .unset, .unset] [(.int 4), (.ref b1)])
              refine goStatic 0 X41 hx hZ hown (hw _ (List.mem_of_getElem? (i := 11) rfl)) (hw _ (List.mem_of_getElem? (i := 12) rfl)) (hw _ (List.mem_of_getElem? (i := 3) rfl)) (hw _ (List.mem_of_getElem? (i := 13) rfl)) (by decide) (rm_make_4 l Z a0 hw b1 _ c0 c1 c2 c3 cz h9 n0 O0 Sa Sh Sl Sc hcz hz0 hz1 hz2 hz3 V1) eT41 (g := (mkF m 193 #[.val (.int p0), .val (.int p1), .val (.int p2), .val (.int p3), .val (.int p4), .val (.ref b1), .val (.int 0), .val (.int 4), .val (.int 1), .unset, .unset] [(.int 4), (.ref b1)])) rfl (by rw [hml]; rfl) [(.ref b1), (.int 4)] [] (lenOf pd___CI_Ljava_lang_String_ rfl) rfl rfl (by show 2 * 0 + _ ≤ _; exact Nat.le_of_eq rfl) (hb hby at_193) (by decide) (by decide) (by decide) (by decide) ?_
              intro v42 T42 L42 X42 q42
              obtain ⟨sb42, rfl, Nq42, Kq42, Su42⟩ := q42
              have N42 := Fr.app N41 Nq42
              have V1 := V1.keep Kq42 nin0
              have A1 := A1.keep Kq42
              have HC := HC.trans (CHr.keep Kq42 sf0 HC.1)
              have hk := Nat.le_trans hk Kq42.1
              have O0 := O0.keep Kq42 all0
              show Goes p e below _ T42 (mkF m 196 #[.val (.int p0), .val (.int p1), .val (.int p2), .val (.int p3), .val (.int p4), .val (.ref b1), .val (.int 0), .val (.int 4), .val (.int 1), .unset, .unset] [(.ref sb42)])
              refine Goes.of (fun _ => XS.astore X42.here hx rfl (hb hby at_196) rfl rfl (l' := #[.val (.int p0), .val (.int p1), .val (.int p2), .val (.int p3), .val (.int p4), .val (.ref b1), .val (.int 0), .val (.int 4), .val (.int 1), .val (.ref sb42), .unset]) rfl) ?_
              show Goes p e below _ T42 (mkF m 198 #[.val (.int p0), .val (.int p1), .val (.int p2), .val (.int p3), .val (.int p4), .val (.ref b1), .val (.int 0), .val (.int 4), .val (.int 1), .val (.ref sb42), .unset] [])
              obtain ⟨Es, tt, kt, Fv, hor⟩ := Su42
              rcases hor with ⟨Fc, hlat, Vt⟩ | ⟨-, Fc, Vt⟩
              · show Goes p e below _ T42 (mkF m 198 #[.val (.int p0), .val (.int p1), .val (.int p2), .val (.int p3), .val (.int p4), .val (.ref b1), .val (.int 0), .val (.int 4), .val (.int 1), .val (.ref sb42), .unset] [])
                refine Goes.of (fun _ => XS.aload X42.here hx rfl (hb hby at_198) rfl rfl) ?_
                show Goes p e below _ T42 (mkF m 200 #[.val (.int p0), .val (.int p1), .val (.int p2), .val (.int p3), .val (.int p4), .val (.ref b1), .val (.int 0), .val (.int 4), .val (.int 1), .val (.ref sb42), .unset] [(.ref sb42)])
                refine goStaticW 0 X42 hS hk hEL HC hx hZ hown (hw _ (List.mem_of_getElem? (i := 35) rfl)) (hw _ (List.mem_of_getElem? (i := 36) rfl)) (hw _ (List.mem_of_getElem? (i := 37) rfl)) (hw _ (List.mem_of_getElem? (i := 38) rfl)) (by decide) (rm_chk_lat l Z a0 hw sb42 tt kt [c0, c1, c2, c3] cz fm T42.heap n0 O0 Sa Sh Sl Sc hcz Sf hfm (by simp) Es Fv Fc Vt (hcs_4 hz0 hz1 hz2 hz3) hlat) (rfl : T42.heap = _) (g := (mkF m 200 #[.val (.int p0), .val (.int p1), .val (.int p2), .val (.int p3), .val (.int p4), .val (.ref b1), .val (.int 0), .val (.int 4), .val (.int 1), .val (.ref sb42), .unset] [(.ref sb42)])) rfl (by rw [hml]; rfl) [(.ref sb42)] [] (lenOf pd__Ljava_lang_String__Ljava_lang_String_ rfl) rfl rfl (by show 2 * 0 + _ ≤ _; exact Nat.le_of_eq rfl) (hb hby at_200) (by decide) (by decide) (by decide) (by decide) ?_
                intro v43 T43 L43 kk43 X43 hS hk hZ hown HC q43
                obtain ⟨rfl, Nq43, Kq43⟩ := q43
                have N43 := Fr.app N42 Nq43
                have O0 := O0.keep Kq43 all0
                show Goes p e below _ T43 (mkF m 203 #[.val (.int p0), .val (.int p1), .val (.int p2), .val (.int p3), .val (.int p4), .val (.ref b1), .val (.int 0), .val (.int 4), .val (.int 1), .val (.ref sb42), .unset] [(.ref sb42)])
                refine Goes.of (fun _ => XS.astore X43.here hx rfl (hb hby at_203) rfl rfl (l' := #[.val (.int p0), .val (.int p1), .val (.int p2), .val (.int p3), .val (.int p4), .val (.ref b1), .val (.int 0), .val (.int 4), .val (.int 1), .val (.ref sb42), .val (.ref sb42)]) rfl) ?_
                show Goes p e below _ T43 (mkF m 205 #[.val (.int p0), .val (.int p1), .val (.int p2), .val (.int p3), .val (.int p4), .val (.ref b1), .val (.int 0), .val (.int 4), .val (.int 1), .val (.ref sb42), .val (.ref sb42)] [])
                refine Goes.of (fun _ => XS.aload X43.here hx rfl (hb hby at_205) rfl rfl) ?_
                show Goes p e below _ T43 (mkF m 207 #[.val (.int p0), .val (.int p1), .val (.int p2), .val (.int p3), .val (.int p4), .val (.ref b1), .val (.int 0), .val (.int 4), .val (.int 1), .val (.ref sb42), .val (.ref sb42)] [(.ref sb42)])
                refine Goes.of (fun _ => XS.aload X43.here hx rfl (hb hby at_207) rfl rfl) ?_
                show Goes p e below _ T43 (mkF m 209 #[.val (.int p0), .val (.int p1), .val (.int p2), .val (.int p3), .val (.int p4), .val (.ref b1), .val (.int 0), .val (.int 4), .val (.int 1), .val (.ref sb42), .val (.ref sb42)] [(.ref sb42), (.ref sb42)])
                refine Goes.of (fun _ => Jvm.RoadKit.acmp (g := (mkF m 209 #[.val (.int p0), .val (.int p1), .val (.int p2), .val (.int p3), .val (.int p4), .val (.ref b1), .val (.int 0), .val (.int 4), .val (.int 1), .val (.ref sb42), .val (.ref sb42)] [(.ref sb42), (.ref sb42)])) X43 hx rfl rfl rfl (pc0 := 209) (pc' := 212) (same := true) rfl (hb hby at_209) rfl (decide_eq_true rfl) (by decide) (by decide)) ?_
                show Goes p e below _ T43 (mkF m 212 #[.val (.int p0), .val (.int p1), .val (.int p2), .val (.int p3), .val (.int p4), .val (.ref b1), .val (.int 0), .val (.int 4), .val (.int 1), .val (.ref sb42), .val (.ref sb42)] [])
                refine Goes.of (fun _ => XS.iconst X43.here hx rfl (hb hby at_212)) ?_
                show Goes p e below _ T43 (mkF m 213 #[.val (.int p0), .val (.int p1), .val (.int p2), .val (.int p3), .val (.int p4), .val (.ref b1), .val (.int 0), .val (.int 4), .val (.int 1), .val (.ref sb42), .val (.ref sb42)] [(.int 1)])
                refine Goes.of (fun _ => XS.goto X43.here hx rfl (pc0 := 213) (pc' := 217) rfl (hb hby at_213) (by decide) (by decide)) ?_
                show Goes p e below _ T43 (mkF m 217 #[.val (.int p0), .val (.int p1), .val (.int p2), .val (.int p3), .val (.int p4), .val (.ref b1), .val (.int 0), .val (.int 4), .val (.int 1), .val (.ref sb42), .val (.ref sb42)] [(.int 1)])
                exact retZW (t := .boolean) X43 hS hk hZ hEL HC hx hret hlk (by simp) (hb hby at_217) (rfl : T43.heap = _) (by decide) (by decide) ⟨rfl, N43⟩
              · show Goes p e below _ T42 (mkF m 198 #[.val (.int p0), .val (.int p1), .val (.int p2), .val (.int p3), .val (.int p4), .val (.ref b1), .val (.int 0), .val (.int 4), .val (.int 1), .val (.ref sb42), .unset] [])
                refine Goes.of (fun _ => XS.aload X42.here hx rfl (hb hby at_198) rfl rfl) ?_
                show Goes p e below _ T42 (mkF m 200 #[.val (.int p0), .val (.int p1), .val (.int p2), .val (.int p3), .val (.int p4), .val (.ref b1), .val (.int 0), .val (.int 4), .val (.int 1), .val (.ref sb42), .unset] [(.ref sb42)])
                refine goStaticW 0 X42 hS hk hEL HC hx hZ hown (hw _ (List.mem_of_getElem? (i := 35) rfl)) (hw _ (List.mem_of_getElem? (i := 36) rfl)) (hw _ (List.mem_of_getElem? (i := 37) rfl)) (hw _ (List.mem_of_getElem? (i := 38) rfl)) (by decide) (rm_chk_utf l Z a0 hw sb42 tt kt [c0, c1, c2, c3] cz fm T42.heap n0 O0 Sa Sh Sl Sc hcz Sf hfm (by simp) Es Fv Fc Vt (hcs_4 hz0 hz1 hz2 hz3) hval) (rfl : T42.heap = _) (g := (mkF m 200 #[.val (.int p0), .val (.int p1), .val (.int p2), .val (.int p3), .val (.int p4), .val (.ref b1), .val (.int 0), .val (.int 4), .val (.int 1), .val (.ref sb42), .unset] [(.ref sb42)])) rfl (by rw [hml]; rfl) [(.ref sb42)] [] (lenOf pd__Ljava_lang_String__Ljava_lang_String_ rfl) rfl rfl (by show 2 * 0 + _ ≤ _; exact Nat.le_of_eq rfl) (hb hby at_200) (by decide) (by decide) (by decide) (by decide) ?_
                intro v44 T44 L44 kk44 X44 hS hk hZ hown HC q44
                obtain ⟨rfl, Nq44, Kq44⟩ := q44
                have N44 := Fr.app N42 Nq44
                have O0 := O0.keep Kq44 all0
                show Goes p e below _ T44 (mkF m 203 #[.val (.int p0), .val (.int p1), .val (.int p2), .val (.int p3), .val (.int p4), .val (.ref b1), .val (.int 0), .val (.int 4), .val (.int 1), .val (.ref sb42), .unset] [(.ref sb42)])
                refine Goes.of (fun _ => XS.astore X44.here hx rfl (hb hby at_203) rfl rfl (l' := #[.val (.int p0), .val (.int p1), .val (.int p2), .val (.int p3), .val (.int p4), .val (.ref b1), .val (.int 0), .val (.int 4), .val (.int 1), .val (.ref sb42), .val (.ref sb42)]) rfl) ?_
                show Goes p e below _ T44 (mkF m 205 #[.val (.int p0), .val (.int p1), .val (.int p2), .val (.int p3), .val (.int p4), .val (.ref b1), .val (.int 0), .val (.int 4), .val (.int 1), .val (.ref sb42), .val (.ref sb42)] [])
                refine Goes.of (fun _ => XS.aload X44.here hx rfl (hb hby at_205) rfl rfl) ?_
                show Goes p e below _ T44 (mkF m 207 #[.val (.int p0), .val (.int p1), .val (.int p2), .val (.int p3), .val (.int p4), .val (.ref b1), .val (.int 0), .val (.int 4), .val (.int 1), .val (.ref sb42), .val (.ref sb42)] [(.ref sb42)])
                refine Goes.of (fun _ => XS.aload X44.here hx rfl (hb hby at_207) rfl rfl) ?_
                show Goes p e below _ T44 (mkF m 209 #[.val (.int p0), .val (.int p1), .val (.int p2), .val (.int p3), .val (.int p4), .val (.ref b1), .val (.int 0), .val (.int 4), .val (.int 1), .val (.ref sb42), .val (.ref sb42)] [(.ref sb42), (.ref sb42)])
                refine Goes.of (fun _ => Jvm.RoadKit.acmp (g := (mkF m 209 #[.val (.int p0), .val (.int p1), .val (.int p2), .val (.int p3), .val (.int p4), .val (.ref b1), .val (.int 0), .val (.int 4), .val (.int 1), .val (.ref sb42), .val (.ref sb42)] [(.ref sb42), (.ref sb42)])) X44 hx rfl rfl rfl (pc0 := 209) (pc' := 212) (same := true) rfl (hb hby at_209) rfl (decide_eq_true rfl) (by decide) (by decide)) ?_
                show Goes p e below _ T44 (mkF m 212 #[.val (.int p0), .val (.int p1), .val (.int p2), .val (.int p3), .val (.int p4), .val (.ref b1), .val (.int 0), .val (.int 4), .val (.int 1), .val (.ref sb42), .val (.ref sb42)] [])
                refine Goes.of (fun _ => XS.iconst X44.here hx rfl (hb hby at_212)) ?_
                show Goes p e below _ T44 (mkF m 213 #[.val (.int p0), .val (.int p1), .val (.int p2), .val (.int p3), .val (.int p4), .val (.ref b1), .val (.int 0), .val (.int 4), .val (.int 1), .val (.ref sb42), .val (.ref sb42)] [(.int 1)])
                refine Goes.of (fun _ => XS.goto X44.here hx rfl (pc0 := 213) (pc' := 217) rfl (hb hby at_213) (by decide) (by decide)) ?_
                show Goes p e below _ T44 (mkF m 217 #[.val (.int p0), .val (.int p1), .val (.int p2), .val (.int p3), .val (.int p4), .val (.ref b1), .val (.int 0), .val (.int 4), .val (.int 1), .val (.ref sb42), .val (.ref sb42)] [(.int 1)])
                exact retZW (t := .boolean) X44 hS hk hZ hEL HC hx hret hlk (by simp) (hb hby at_217) (rfl : T44.heap = _) (by decide) (by decide) ⟨rfl, N44⟩
            · refine Goes.of (fun _ => XS.ifYes X41.here hx rfl (pc0 := 106) (pc' := 113) rfl (hb hby at_106) rfl ((if0 _ _).trans (feq hpc106).2) (by decide) (by decide)) ?_
              show Goes p e below _ T41 (mkF m 113 #[.val (.int p0), .val (.int p1), .val (.int p2), .val (.int p3), .val (.int p4), .val (.ref b1), .val (.int 0), .val (.int 4), .unset, .unset, .unset] [])
              refine Goes.of (fun _ => XS.iconst X41.here hx rfl (hb hby at_113)) ?_
              show Goes p e below _ T41 (mkF m 114 #[.val (.int p0), .val (.int p1), .val (.int p2), .val (.int p3), .val (.int p4), .val (.ref b1), .val (.int 0), .val (.int 4), .unset, .unset, .unset] [(.int 0)])
              refine Goes.of (fun _ => XS.istore X41.here hx rfl (hb hby at_114) rfl (l' := #[.val (.int p0), .val (.int p1), .val (.int p2), .val (.int p3), .val (.int p4), .val (.ref b1), .val (.int 0), .val (.int 4), .val (.int 0), .unset, .unset]) rfl) ?_
              show Goes p e below _ T41 (mkF m 116 #[.val (.int p0), .val (.int p1), .val (.int p2), .val (.int p3), .val (.int p4), .val (.ref b1), .val (.int 0), .val (.int 4), .val (.int 0), .unset, .unset] [])
              refine Goes.of (fun _ => XS.iload X41.here hx rfl (hb hby at_116) rfl) ?_
              show Goes p e below _ T41 (mkF m 118 #[.val (.int p0), .val (.int p1), .val (.int p2), .val (.int p3), .val (.int p4), .val (.ref b1), .val (.int 0), .val (.int 4), .val (.int 0), .unset, .unset] [(.int 0)])
              refine Goes.of (fun _ => XS.ifNo X41.here hx rfl (hb hby at_118) rfl ((if0 _ _).trans (teq (by decide)).2)) ?_
              show Goes p e below _ T41 (mkF m 121 #[.val (.int p0), .val (.int p1), .val (.int p2), .val (.int p3), .val (.int p4), .val (.ref b1), .val (.int 0), .val (.int 4), .val (.int 0), .unset, .unset] [])
              refine Goes.of (fun _ => XS.iconst X41.here hx rfl (hb hby at_121)) ?_
              show Goes p e below _ T41 (mkF m 122 #[.val (.int p0), .val (.int p1), .val (.int p2), .val (.int p3), .val (.int p4), .val (.ref b1), .val (.int 0), .val (.int 4), .val (.int 0), .unset, .unset] [(.int 1)])
              exact retZW (t := .boolean) X41 hS hk hZ hEL HC hx hret hlk (by simp) (hb hby at_122) eT41 (by decide) (by decide) ⟨rfl, N41⟩
          · refine Goes.of (fun _ => XS.ifYes X40.here hx rfl (pc0 := 95) (pc' := 113) rfl (hb hby at_95) rfl ((if0 _ _).trans (feq hpc95).2) (by decide) (by decide)) ?_
            show Goes p e below _ T40 (mkF m 113 #[.val (.int p0), .val (.int p1), .val (.int p2), .val (.int p3), .val (.int p4), .val (.ref b1), .val (.int 0), .val (.int 4), .unset, .unset, .unset] [])
            refine Goes.of (fun _ => XS.iconst X40.here hx rfl (hb hby at_113)) ?_
            show Goes p e below _ T40 (mkF m 114 #[.val (.int p0), .val (.int p1), .val (.int p2), .val (.int p3), .val (.int p4), .val (.ref b1), .val (.int 0), .val (.int 4), .unset, .unset, .unset] [(.int 0)])
            refine Goes.of (fun _ => XS.istore X40.here hx rfl (hb hby at_114) rfl (l' := #[.val (.int p0), .val (.int p1), .val (.int p2), .val (.int p3), .val (.int p4), .val (.ref b1), .val (.int 0), .val (.int 4), .val (.int 0), .unset, .unset]) rfl) ?_
            show Goes p e below _ T40 (mkF m 116 #[.val (.int p0), .val (.int p1), .val (.int p2), .val (.int p3), .val (.int p4), .val (.ref b1), .val (.int 0), .val (.int 4), .val (.int 0), .unset, .unset] [])
            refine Goes.of (fun _ => XS.iload X40.here hx rfl (hb hby at_116) rfl) ?_
            show Goes p e below _ T40 (mkF m 118 #[.val (.int p0), .val (.int p1), .val (.int p2), .val (.int p3), .val (.int p4), .val (.ref b1), .val (.int 0), .val (.int 4), .val (.int 0), .unset, .unset] [(.int 0)])
            refine Goes.of (fun _ => XS.ifNo X40.here hx rfl (hb hby at_118) rfl ((if0 _ _).trans (teq (by decide)).2)) ?_
            show Goes p e below _ T40 (mkF m 121 #[.val (.int p0), .val (.int p1), .val (.int p2), .val (.int p3), .val (.int p4), .val (.ref b1), .val (.int 0), .val (.int 4), .val (.int 0), .unset, .unset] [])
            refine Goes.of (fun _ => XS.iconst X40.here hx rfl (hb hby at_121)) ?_
            show Goes p e below _ T40 (mkF m 122 #[.val (.int p0), .val (.int p1), .val (.int p2), .val (.int p3), .val (.int p4), .val (.ref b1), .val (.int 0), .val (.int 4), .val (.int 0), .unset, .unset] [(.int 1)])
            exact retZW (t := .boolean) X40 hS hk hZ hEL HC hx hret hlk (by simp) (hb hby at_122) eT40 (by decide) (by decide) ⟨rfl, N40⟩
        · refine Goes.of (fun _ => XS.ifYes X39.here hx rfl (pc0 := 84) (pc' := 113) rfl (hb hby at_84) rfl ((if0 _ _).trans (feq hpc84).2) (by decide) (by decide)) ?_
          show Goes p e below _ T39 (mkF m 113 #[.val (.int p0), .val (.int p1), .val (.int p2), .val (.int p3), .val (.int p4), .val (.ref b1), .val (.int 0), .val (.int 4), .unset, .unset, .unset] [])
          refine Goes.of (fun _ => XS.iconst X39.here hx rfl (hb hby at_113)) ?_
          show Goes p e below _ T39 (mkF m 114 #[.val (.int p0), .val (.int p1), .val (.int p2), .val (.int p3), .val (.int p4), .val (.ref b1), .val (.int 0), .val (.int 4), .unset, .unset, .unset] [(.int 0)])
          refine Goes.of (fun _ => XS.istore X39.here hx rfl (hb hby at_114) rfl (l' := #[.val (.int p0), .val (.int p1), .val (.int p2), .val (.int p3), .val (.int p4), .val (.ref b1), .val (.int 0), .val (.int 4), .val (.int 0), .unset, .unset]) rfl) ?_
          show Goes p e below _ T39 (mkF m 116 #[.val (.int p0), .val (.int p1), .val (.int p2), .val (.int p3), .val (.int p4), .val (.ref b1), .val (.int 0), .val (.int 4), .val (.int 0), .unset, .unset] [])
          refine Goes.of (fun _ => XS.iload X39.here hx rfl (hb hby at_116) rfl) ?_
          show Goes p e below _ T39 (mkF m 118 #[.val (.int p0), .val (.int p1), .val (.int p2), .val (.int p3), .val (.int p4), .val (.ref b1), .val (.int 0), .val (.int 4), .val (.int 0), .unset, .unset] [(.int 0)])
          refine Goes.of (fun _ => XS.ifNo X39.here hx rfl (hb hby at_118) rfl ((if0 _ _).trans (teq (by decide)).2)) ?_
          show Goes p e below _ T39 (mkF m 121 #[.val (.int p0), .val (.int p1), .val (.int p2), .val (.int p3), .val (.int p4), .val (.ref b1), .val (.int 0), .val (.int 4), .val (.int 0), .unset, .unset] [])
          refine Goes.of (fun _ => XS.iconst X39.here hx rfl (hb hby at_121)) ?_
          show Goes p e below _ T39 (mkF m 122 #[.val (.int p0), .val (.int p1), .val (.int p2), .val (.int p3), .val (.int p4), .val (.ref b1), .val (.int 0), .val (.int 4), .val (.int 0), .unset, .unset] [(.int 1)])
          exact retZW (t := .boolean) X39 hS hk hZ hEL HC hx hret hlk (by simp) (hb hby at_122) eT39 (by decide) (by decide) ⟨rfl, N39⟩
      · refine Goes.of (fun _ => XS.ifYes X38.here hx rfl (pc0 := 73) (pc' := 113) rfl (hb hby at_73) rfl ((if0 _ _).trans (feq hpc73).2) (by decide) (by decide)) ?_
        show Goes p e below _ T38 (mkF m 113 #[.val (.int p0), .val (.int p1), .val (.int p2), .val (.int p3), .val (.int p4), .val (.ref b1), .val (.int 0), .val (.int 4), .unset, .unset, .unset] [])
        refine Goes.of (fun _ => XS.iconst X38.here hx rfl (hb hby at_113)) ?_
        show Goes p e below _ T38 (mkF m 114 #[.val (.int p0), .val (.int p1), .val (.int p2), .val (.int p3), .val (.int p4), .val (.ref b1), .val (.int 0), .val (.int 4), .unset, .unset, .unset] [(.int 0)])
        refine Goes.of (fun _ => XS.istore X38.here hx rfl (hb hby at_114) rfl (l' := #[.val (.int p0), .val (.int p1), .val (.int p2), .val (.int p3), .val (.int p4), .val (.ref b1), .val (.int 0), .val (.int 4), .val (.int 0), .unset, .unset]) rfl) ?_
        show Goes p e below _ T38 (mkF m 116 #[.val (.int p0), .val (.int p1), .val (.int p2), .val (.int p3), .val (.int p4), .val (.ref b1), .val (.int 0), .val (.int 4), .val (.int 0), .unset, .unset] [])
        refine Goes.of (fun _ => XS.iload X38.here hx rfl (hb hby at_116) rfl) ?_
        show Goes p e below _ T38 (mkF m 118 #[.val (.int p0), .val (.int p1), .val (.int p2), .val (.int p3), .val (.int p4), .val (.ref b1), .val (.int 0), .val (.int 4), .val (.int 0), .unset, .unset] [(.int 0)])
        refine Goes.of (fun _ => XS.ifNo X38.here hx rfl (hb hby at_118) rfl ((if0 _ _).trans (teq (by decide)).2)) ?_
        show Goes p e below _ T38 (mkF m 121 #[.val (.int p0), .val (.int p1), .val (.int p2), .val (.int p3), .val (.int p4), .val (.ref b1), .val (.int 0), .val (.int 4), .val (.int 0), .unset, .unset] [])
        refine Goes.of (fun _ => XS.iconst X38.here hx rfl (hb hby at_121)) ?_
        show Goes p e below _ T38 (mkF m 122 #[.val (.int p0), .val (.int p1), .val (.int p2), .val (.int p3), .val (.int p4), .val (.ref b1), .val (.int 0), .val (.int 4), .val (.int 0), .unset, .unset] [(.int 1)])
        exact retZW (t := .boolean) X38 hS hk hZ hEL HC hx hret hlk (by simp) (hb hby at_122) eT38 (by decide) (by decide) ⟨rfl, N38⟩
  · refine Goes.of (fun _ => XS.ifNo X9.here hx rfl (hb hby at_38) rfl ((if0 _ _).trans (feq hpc38).1)) ?_
    show Goes p e below _ T9 (mkF m 41 #[.val (.int p0), .val (.int p1), .val (.int p2), .val (.int p3), .val (.int p4), .val (.ref b1), .unset, .unset, .unset, .unset, .unset] [])
    refine Goes.of (fun _ => XS.iconst X9.here hx rfl (hb hby at_41)) ?_
    show Goes p e below _ T9 (mkF m 42 #[.val (.int p0), .val (.int p1), .val (.int p2), .val (.int p3), .val (.int p4), .val (.ref b1), .unset, .unset, .unset, .unset, .unset] [(.int 1)])
    refine Goes.of (fun _ => XS.goto X9.here hx rfl (pc0 := 42) (pc' := 46) rfl (hb hby at_42) (by decide) (by decide)) ?_
    show Goes p e below _ T9 (mkF m 46 #[.val (.int p0), .val (.int p1), .val (.int p2), .val (.int p3), .val (.int p4), .val (.ref b1), .unset, .unset, .unset, .unset, .unset] [(.int 1)])
    refine Goes.of (fun _ => XS.istore X9.here hx rfl (hb hby at_46) rfl (l' := #[.val (.int p0), .val (.int p1), .val (.int p2), .val (.int p3), .val (.int p4), .val (.ref b1), .val (.int 1), .unset, .unset, .unset, .unset]) rfl) ?_
    show Goes p e below _ T9 (mkF m 48 #[.val (.int p0), .val (.int p1), .val (.int p2), .val (.int p3), .val (.int p4), .val (.ref b1), .val (.int 1), .unset, .unset, .unset, .unset] [])
    refine Goes.of (fun _ => XS.iload X9.here hx rfl (hb hby at_48) rfl) ?_
    show Goes p e below _ T9 (mkF m 50 #[.val (.int p0), .val (.int p1), .val (.int p2), .val (.int p3), .val (.int p4), .val (.ref b1), .val (.int 1), .unset, .unset, .unset, .unset] [(.int 1)])
    refine Goes.of (fun _ => XS.ifNo X9.here hx rfl (hb hby at_50) rfl ((if0 _ _).trans (feq (by decide)).1)) ?_
    show Goes p e below _ T9 (mkF m 53 #[.val (.int p0), .val (.int p1), .val (.int p2), .val (.int p3), .val (.int p4), .val (.ref b1), .val (.int 1), .unset, .unset, .unset, .unset] [])
    refine Goes.of (fun _ => XS.iconst X9.here hx rfl (hb hby at_53)) ?_
    show Goes p e below _ T9 (mkF m 54 #[.val (.int p0), .val (.int p1), .val (.int p2), .val (.int p3), .val (.int p4), .val (.ref b1), .val (.int 1), .unset, .unset, .unset, .unset] [(.int 4)])
    refine Goes.of (fun _ => XS.goto X9.here hx rfl (pc0 := 54) (pc' := 63) rfl (hb hby at_54) (by decide) (by decide)) ?_
    show Goes p e below _ T9 (mkF m 63 #[.val (.int p0), .val (.int p1), .val (.int p2), .val (.int p3), .val (.int p4), .val (.ref b1), .val (.int 1), .unset, .unset, .unset, .unset] [(.int 4)])
    refine Goes.of (fun _ => XS.istore X9.here hx rfl (hb hby at_63) rfl (l' := #[.val (.int p0), .val (.int p1), .val (.int p2), .val (.int p3), .val (.int p4), .val (.ref b1), .val (.int 1), .val (.int 4), .unset, .unset, .unset]) rfl) ?_
    show Goes p e below _ T9 (mkF m 65 #[.val (.int p0), .val (.int p1), .val (.int p2), .val (.int p3), .val (.int p4), .val (.ref b1), .val (.int 1), .val (.int 4), .unset, .unset, .unset] [])
    refine Goes.of (fun _ => XS.aload X9.here hx rfl (hb hby at_65) rfl rfl) ?_
    show Goes p e below _ T9 (mkF m 67 #[.val (.int p0), .val (.int p1), .val (.int p2), .val (.int p3), .val (.int p4), .val (.ref b1), .val (.int 1), .val (.int 4), .unset, .unset, .unset] [(.ref b1)])
    refine Goes.of (fun _ => XS.iload X9.here hx rfl (hb hby at_67) rfl) ?_
    show Goes p e below _ T9 (mkF m 69 #[.val (.int p0), .val (.int p1), .val (.int p2), .val (.int p3), .val (.int p4), .val (.ref b1), .val (.int 1), .val (.int 4), .unset, .unset, .unset] [(.int 4), (.ref b1)])
    refine Goes.of (fun _ => XS.iconst X9.here hx rfl (hb hby at_69)) ?_
    show Goes p e below _ T9 (mkF m 70 #[.val (.int p0), .val (.int p1), .val (.int p2), .val (.int p3), .val (.int p4), .val (.ref b1), .val (.int 1), .val (.int 4), .unset, .unset, .unset] [(.int 0), (.int 4), (.ref b1)])
    refine goStatic 0 X9 hx hZ hown (hw _ (List.mem_of_getElem? (i := 8) rfl)) (hw _ (List.mem_of_getElem? (i := 9) rfl)) (hw _ (List.mem_of_getElem? (i := 3) rfl)) (hw _ (List.mem_of_getElem? (i := 10) rfl)) (by decide) (rm_bad_4_0 l Z a0 hw b1 _ c0 c1 c2 c3 h9 n0 O0 V1) eT9 (g := (mkF m 70 #[.val (.int p0), .val (.int p1), .val (.int p2), .val (.int p3), .val (.int p4), .val (.ref b1), .val (.int 1), .val (.int 4), .unset, .unset, .unset] [(.int 0), (.int 4), (.ref b1)])) rfl (by rw [hml]; rfl) [(.ref b1), (.int 4), (.int 0)] [] (lenOf pd___CII_Z rfl) rfl rfl (by show 2 * 0 + _ ≤ _; exact Nat.le_of_eq rfl) (hb hby at_70) (by decide) (by decide) (by decide) (by decide) ?_
    intro v45 T45 L45 X45 q45
    obtain ⟨rfl, Nq45, eT45⟩ := q45
    have N45 := Fr.app N9 Nq45
    show Goes p e below _ T45 (mkF m 73 #[.val (.int p0), .val (.int p1), .val (.int p2), .val (.int p3), .val (.int p4), .val (.ref b1), .val (.int 1), .val (.int 4), .unset, .unset, .unset] [(.int (if hiV c0 = (0 : Int32) then (if loV c0 = (0 : Int32) then (0 : Int32) else (1 : Int32)) else (if loV c1 = (0 : Int32) then (1 : Int32) else (if loV c0 = (0 : Int32) then (0 : Int32) else (1 : Int32)))))])
    by_cases hpc73 : (if hiV c0 = (0 : Int32) then (if loV c0 = (0 : Int32) then (0 : Int32) else (1 : Int32)) else (if loV c1 = (0 : Int32) then (1 : Int32) else (if loV c0 = (0 : Int32) then (0 : Int32) else (1 : Int32)))) = (0 : Int32)
    · refine Goes.of (fun _ => XS.ifNo X45.here hx rfl (hb hby at_73) rfl ((if0 _ _).trans (teq hpc73).2)) ?_
      show Goes p e below _ T45 (mkF m 76 #[.val (.int p0), .val (.int p1), .val (.int p2), .val (.int p3), .val (.int p4), .val (.ref b1), .val (.int 1), .val (.int 4), .unset, .unset, .unset] [])
      refine Goes.of (fun _ => XS.aload X45.here hx rfl (hb hby at_76) rfl rfl) ?_
      show Goes p e below _ T45 (mkF m 78 #[.val (.int p0), .val (.int p1), .val (.int p2), .val (.int p3), .val (.int p4), .val (.ref b1), .val (.int 1), .val (.int 4), .unset, .unset, .unset] [(.ref b1)])
      refine Goes.of (fun _ => XS.iload X45.here hx rfl (hb hby at_78) rfl) ?_
      show Goes p e below _ T45 (mkF m 80 #[.val (.int p0), .val (.int p1), .val (.int p2), .val (.int p3), .val (.int p4), .val (.ref b1), .val (.int 1), .val (.int 4), .unset, .unset, .unset] [(.int 4), (.ref b1)])
      refine Goes.of (fun _ => XS.iconst X45.here hx rfl (hb hby at_80)) ?_
      show Goes p e below _ T45 (mkF m 81 #[.val (.int p0), .val (.int p1), .val (.int p2), .val (.int p3), .val (.int p4), .val (.ref b1), .val (.int 1), .val (.int 4), .unset, .unset, .unset] [(.int 1), (.int 4), (.ref b1)])
      refine goStatic 0 X45 hx hZ hown (hw _ (List.mem_of_getElem? (i := 8) rfl)) (hw _ (List.mem_of_getElem? (i := 9) rfl)) (hw _ (List.mem_of_getElem? (i := 3) rfl)) (hw _ (List.mem_of_getElem? (i := 10) rfl)) (by decide) (rm_bad_4_1 l Z a0 hw b1 _ c0 c1 c2 c3 h9 n0 O0 V1) eT45 (g := (mkF m 81 #[.val (.int p0), .val (.int p1), .val (.int p2), .val (.int p3), .val (.int p4), .val (.ref b1), .val (.int 1), .val (.int 4), .unset, .unset, .unset] [(.int 1), (.int 4), (.ref b1)])) rfl (by rw [hml]; rfl) [(.ref b1), (.int 4), (.int 1)] [] (lenOf pd___CII_Z rfl) rfl rfl (by show 2 * 0 + _ ≤ _; exact Nat.le_of_eq rfl) (hb hby at_81) (by decide) (by decide) (by decide) (by decide) ?_
      intro v46 T46 L46 X46 q46
      obtain ⟨rfl, Nq46, eT46⟩ := q46
      have N46 := Fr.app N45 Nq46
      show Goes p e below _ T46 (mkF m 84 #[.val (.int p0), .val (.int p1), .val (.int p2), .val (.int p3), .val (.int p4), .val (.ref b1), .val (.int 1), .val (.int 4), .unset, .unset, .unset] [(.int (if hiV c1 = (0 : Int32) then (if loV c1 = (0 : Int32) then (0 : Int32) else (if hiV c0 = (0 : Int32) then (1 : Int32) else (0 : Int32))) else (if loV c2 = (0 : Int32) then (1 : Int32) else (if loV c1 = (0 : Int32) then (0 : Int32) else (if hiV c0 = (0 : Int32) then (1 : Int32) else (0 : Int32))))))])
      by_cases hpc84 : (if hiV c1 = (0 : Int32) then (if loV c1 = (0 : Int32) then (0 : Int32) else (if hiV c0 = (0 : Int32) then (1 : Int32) else (0 : Int32))) else (if loV c2 = (0 : Int32) then (1 : Int32) else (if loV c1 = (0 : Int32) then (0 : Int32) else (if hiV c0 = (0 : Int32) then (1 : Int32) else (0 : Int32))))) = (0 : Int32)
      · refine Goes.of (fun _ => XS.ifNo X46.here hx rfl (hb hby at_84) rfl ((if0 _ _).trans (teq hpc84).2)) ?_
        show Goes p e below _ T46 (mkF m 87 #[.val (.int p0), .val (.int p1), .val (.int p2), .val (.int p3), .val (.int p4), .val (.ref b1), .val (.int 1), .val (.int 4), .unset, .unset, .unset] [])
        refine Goes.of (fun _ => XS.aload X46.here hx rfl (hb hby at_87) rfl rfl) ?_
        show Goes p e below _ T46 (mkF m 89 #[.val (.int p0), .val (.int p1), .val (.int p2), .val (.int p3), .val (.int p4), .val (.ref b1), .val (.int 1), .val (.int 4), .unset, .unset, .unset] [(.ref b1)])
        refine Goes.of (fun _ => XS.iload X46.here hx rfl (hb hby at_89) rfl) ?_
        show Goes p e below _ T46 (mkF m 91 #[.val (.int p0), .val (.int p1), .val (.int p2), .val (.int p3), .val (.int p4), .val (.ref b1), .val (.int 1), .val (.int 4), .unset, .unset, .unset] [(.int 4), (.ref b1)])
        refine Goes.of (fun _ => XS.iconst X46.here hx rfl (hb hby at_91)) ?_
        show Goes p e below _ T46 (mkF m 92 #[.val (.int p0), .val (.int p1), .val (.int p2), .val (.int p3), .val (.int p4), .val (.ref b1), .val (.int 1), .val (.int 4), .unset, .unset, .unset] [(.int 2), (.int 4), (.ref b1)])
        refine goStatic 0 X46 hx hZ hown (hw _ (List.mem_of_getElem? (i := 8) rfl)) (hw _ (List.mem_of_getElem? (i := 9) rfl)) (hw _ (List.mem_of_getElem? (i := 3) rfl)) (hw _ (List.mem_of_getElem? (i := 10) rfl)) (by decide) (rm_bad_4_2 l Z a0 hw b1 _ c0 c1 c2 c3 h9 n0 O0 V1) eT46 (g := (mkF m 92 #[.val (.int p0), .val (.int p1), .val (.int p2), .val (.int p3), .val (.int p4), .val (.ref b1), .val (.int 1), .val (.int 4), .unset, .unset, .unset] [(.int 2), (.int 4), (.ref b1)])) rfl (by rw [hml]; rfl) [(.ref b1), (.int 4), (.int 2)] [] (lenOf pd___CII_Z rfl) rfl rfl (by show 2 * 0 + _ ≤ _; exact Nat.le_of_eq rfl) (hb hby at_92) (by decide) (by decide) (by decide) (by decide) ?_
        intro v47 T47 L47 X47 q47
        obtain ⟨rfl, Nq47, eT47⟩ := q47
        have N47 := Fr.app N46 Nq47
        show Goes p e below _ T47 (mkF m 95 #[.val (.int p0), .val (.int p1), .val (.int p2), .val (.int p3), .val (.int p4), .val (.ref b1), .val (.int 1), .val (.int 4), .unset, .unset, .unset] [(.int (if hiV c2 = (0 : Int32) then (if loV c2 = (0 : Int32) then (0 : Int32) else (if hiV c1 = (0 : Int32) then (1 : Int32) else (0 : Int32))) else (if loV c3 = (0 : Int32) then (1 : Int32) else (if loV c2 = (0 : Int32) then (0 : Int32) else (if hiV c1 = (0 : Int32) then (1 : Int32) else (0 : Int32))))))])
        by_cases hpc95 : (if hiV c2 = (0 : Int32) then (if loV c2 = (0 : Int32) then (0 : Int32) else (if hiV c1 = (0 : Int32) then (1 : Int32) else (0 : Int32))) else (if loV c3 = (0 : Int32) then (1 : Int32) else (if loV c2 = (0 : Int32) then (0 : Int32) else (if hiV c1 = (0 : Int32) then (1 : Int32) else (0 : Int32))))) = (0 : Int32)
        · refine Goes.of (fun _ => XS.ifNo X47.here hx rfl (hb hby at_95) rfl ((if0 _ _).trans (teq hpc95).2)) ?_
          show Goes p e below _ T47 (mkF m 98 #[.val (.int p0), .val (.int p1), .val (.int p2), .val (.int p3), .val (.int p4), .val (.ref b1), .val (.int 1), .val (.int 4), .unset, .unset, .unset] [])
          refine Goes.of (fun _ => XS.aload X47.here hx rfl (hb hby at_98) rfl rfl) ?_
          show Goes p e below _ T47 (mkF m 100 #[.val (.int p0), .val (.int p1), .val (.int p2), .val (.int p3), .val (.int p4), .val (.ref b1), .val (.int 1), .val (.int 4), .unset, .unset, .unset] [(.ref b1)])
          refine Goes.of (fun _ => XS.iload X47.here hx rfl (hb hby at_100) rfl) ?_
          show Goes p e below _ T47 (mkF m 102 #[.val (.int p0), .val (.int p1), .val (.int p2), .val (.int p3), .val (.int p4), .val (.ref b1), .val (.int 1), .val (.int 4), .unset, .unset, .unset] [(.int 4), (.ref b1)])
          refine Goes.of (fun _ => XS.iconst X47.here hx rfl (hb hby at_102)) ?_
          show Goes p e below _ T47 (mkF m 103 #[.val (.int p0), .val (.int p1), .val (.int p2), .val (.int p3), .val (.int p4), .val (.ref b1), .val (.int 1), .val (.int 4), .unset, .unset, .unset] [(.int 3), (.int 4), (.ref b1)])
          refine goStatic 0 X47 hx hZ hown (hw _ (List.mem_of_getElem? (i := 8) rfl)) (hw _ (List.mem_of_getElem? (i := 9) rfl)) (hw _ (List.mem_of_getElem? (i := 3) rfl)) (hw _ (List.mem_of_getElem? (i := 10) rfl)) (by decide) (rm_bad_4_3 l Z a0 hw b1 _ c0 c1 c2 c3 h9 n0 O0 V1) eT47 (g := (mkF m 103 #[.val (.int p0), .val (.int p1), .val (.int p2), .val (.int p3), .val (.int p4), .val (.ref b1), .val (.int 1), .val (.int 4), .unset, .unset, .unset] [(.int 3), (.int 4), (.ref b1)])) rfl (by rw [hml]; rfl) [(.ref b1), (.int 4), (.int 3)] [] (lenOf pd___CII_Z rfl) rfl rfl (by show 2 * 0 + _ ≤ _; exact Nat.le_of_eq rfl) (hb hby at_103) (by decide) (by decide) (by decide) (by decide) ?_
          intro v48 T48 L48 X48 q48
          obtain ⟨rfl, Nq48, eT48⟩ := q48
          have N48 := Fr.app N47 Nq48
          show Goes p e below _ T48 (mkF m 106 #[.val (.int p0), .val (.int p1), .val (.int p2), .val (.int p3), .val (.int p4), .val (.ref b1), .val (.int 1), .val (.int 4), .unset, .unset, .unset] [(.int (if hiV c3 = (0 : Int32) then (if loV c3 = (0 : Int32) then (0 : Int32) else (if hiV c2 = (0 : Int32) then (1 : Int32) else (0 : Int32))) else (1 : Int32)))])
          by_cases hpc106 : (if hiV c3 = (0 : Int32) then (if loV c3 = (0 : Int32) then (0 : Int32) else (if hiV c2 = (0 : Int32) then (1 : Int32) else (0 : Int32))) else (1 : Int32)) = (0 : Int32)
          · refine Goes.of (fun _ => XS.ifNo X48.here hx rfl (hb hby at_106) rfl ((if0 _ _).trans (teq hpc106).2)) ?_
            show Goes p e below _ T48 (mkF m 109 #[.val (.int p0), .val (.int p1), .val (.int p2), .val (.int p3), .val (.int p4), .val (.ref b1), .val (.int 1), .val (.int 4), .unset, .unset, .unset] [])
            refine Goes.of (fun _ => XS.iconst X48.here hx rfl (hb hby at_109)) ?_
            show Goes p e below _ T48 (mkF m 110 #[.val (.int p0), .val (.int p1), .val (.int p2), .val (.int p3), .val (.int p4), .val (.ref b1), .val (.int 1), .val (.int 4), .unset, .unset, .unset] [(.int 1)])
            refine Goes.of (fun _ => XS.goto X48.here hx rfl (pc0 := 110) (pc' := 114) rfl (hb hby at_110) (by decide) (by decide)) ?_
            show Goes p e below _ T48 (mkF m 114 #[.val (.int p0), .val (.int p1), .val (.int p2), .val (.int p3), .val (.int p4), .val (.ref b1), .val (.int 1), .val (.int 4), .unset, .unset, .unset] [(.int 1)])
            refine Goes.of (fun _ => XS.istore X48.here hx rfl (hb hby at_114) rfl (l' := #[.val (.int p0), .val (.int p1), .val (.int p2), .val (.int p3), .val (.int p4), .val (.ref b1), .val (.int 1), .val (.int 4), .val (.int 1), .unset, .unset]) rfl) ?_
            show Goes p e below _ T48 (mkF m 116 #[.val (.int p0), .val (.int p1), .val (.int p2), .val (.int p3), .val (.int p4), .val (.ref b1), .val (.int 1), .val (.int 4), .val (.int 1), .unset, .unset] [])
            refine Goes.of (fun _ => XS.iload X48.here hx rfl (hb hby at_116) rfl) ?_
            show Goes p e below _ T48 (mkF m 118 #[.val (.int p0), .val (.int p1), .val (.int p2), .val (.int p3), .val (.int p4), .val (.ref b1), .val (.int 1), .val (.int 4), .val (.int 1), .unset, .unset] [(.int 1)])
            refine Goes.of (fun _ => XS.ifYes X48.here hx rfl (pc0 := 118) (pc' := 123) rfl (hb hby at_118) rfl ((if0 _ _).trans (feq (by decide)).2) (by decide) (by decide)) ?_
            show Goes p e below _ T48 (mkF m 123 #[.val (.int p0), .val (.int p1), .val (.int p2), .val (.int p3), .val (.int p4), .val (.ref b1), .val (.int 1), .val (.int 4), .val (.int 1), .unset, .unset] [])
            have hval : Val [c0, c1, c2, c3] := val_4 hpc73 hpc84 hpc95 hpc106
            refine Goes.of (fun _ => XS.iload X48.here hx rfl (hb hby at_123) rfl) ?_
            show Goes p e below _ T48 (mkF m 125 #[.val (.int p0), .val (.int p1), .val (.int p2), .val (.int p3), .val (.int p4), .val (.ref b1), .val (.int 1), .val (.int 4), .val (.int 1), .unset, .unset] [(.int 1)])
            refine Goes.of (fun _ => XS.ifNo X48.here hx rfl (hb hby at_125) rfl ((if0 _ _).trans (feq (by decide)).1)) ?_
            show Goes p e below _ T48 (mkF m 128 #[.val (.int p0), .val (.int p1), .val (.int p2), .val (.int p3), .val (.int p4), .val (.ref b1), .val (.int 1), .val (.int 4), .val (.int 1), .unset, .unset] [])
            refine Goes.of (fun _ => XS.sipush X48.here hx rfl (hb hby at_128)) ?_
            show Goes p e below _ T48 (mkF m 131 #[.val (.int p0), .val (.int p1), .val (.int p2), .val (.int p3), .val (.int p4), .val (.ref b1), .val (.int 1), .val (.int 4), .val (.int 1), .unset, .unset] [(.int 16384)])
            refine goNewP 16384 X48 hx hZ (hw _ (List.mem_of_getElem? (i := 0) rfl)) eT48 (g := (mkF m 131 #[.val (.int p0), .val (.int p1), .val (.int p2), .val (.int p3), .val (.int p4), .val (.ref b1), .val (.int 1), .val (.int 4), .val (.int 1), .unset, .unset] [(.int 16384)])) rfl (hb hby at_131) rfl (by decide) (by decide) (by decide) (by decide) (by decide) (ad := "[C") (by first | rfl | decide) ?_
            intro T49 h49 b49 kA49 X49 eT49 E49 hb49 V49 A49
            have g_b49 : n0 ≤ b49 := Nat.le_trans (oldLe O0) hb49
            have ne_b1_b49 : b1 ≠ b49 := Nat.ne_of_lt (Nat.lt_of_lt_of_le V1.lt hb49)
            have V1 := V1.ext E49
            have A1 := A1.ext E49
            have hk := Nat.le_trans hk E49.1
            have HC := HC.trans (CHr.ext E49 HC.1)
            have O0 := O0.ext E49
            show Goes p e below _ T49 (mkF m 133 #[.val (.int p0), .val (.int p1), .val (.int p2), .val (.int p3), .val (.int p4), .val (.ref b1), .val (.int 1), .val (.int 4), .val (.int 1), .unset, .unset] [(.ref b49)])
            have V49 : Arv Z h49 b49 kA49 .char (16384 : Int32) (List.replicate 16384 (.int 0)) (.int 0) := V49
            refine Goes.of (fun _ => XS.astore X49.here hx rfl (hb hby at_133) rfl rfl (l' := #[.val (.int p0), .val (.int p1), .val (.int p2), .val (.int p3), .val (.int p4), .val (.ref b1), .val (.int 1), .val (.int 4), .val (.int 1), .unset, .val (.ref b49)]) rfl) ?_
            show Goes p e below _ T49 (mkF m 135 #[.val (.int p0), .val (.int p1), .val (.int p2), .val (.int p3), .val (.int p4), .val (.ref b1), .val (.int 1), .val (.int 4), .val (.int 1), .unset, .val (.ref b49)] [])
            refine Goes.of (fun _ => XS.aload X49.here hx rfl (hb hby at_135) rfl rfl) ?_
            show Goes p e below _ T49 (mkF m 137 #[.val (.int p0), .val (.int p1), .val (.int p2), .val (.int p3), .val (.int p4), .val (.ref b1), .val (.int 1), .val (.int 4), .val (.int 1), .unset, .val (.ref b49)] [(.ref b49)])
            refine Goes.of (fun _ => XS.sipush X49.here hx rfl (hb hby at_137)) ?_
            show Goes p e below _ T49 (mkF m 140 #[.val (.int p0), .val (.int p1), .val (.int p2), .val (.int p3), .val (.int p4), .val (.ref b1), .val (.int 1), .val (.int 4), .val (.int 1), .unset, .val (.ref b49)] [(.int 16380), (.ref b49)])
            refine Goes.of (fun _ => XS.aload X49.here hx rfl (hb hby at_140) rfl rfl) ?_
            show Goes p e below _ T49 (mkF m 142 #[.val (.int p0), .val (.int p1), .val (.int p2), .val (.int p3), .val (.int p4), .val (.ref b1), .val (.int 1), .val (.int 4), .val (.int 1), .unset, .val (.ref b49)] [(.ref b1), (.int 16380), (.ref b49)])
            refine Goes.of (fun _ => XS.iconst X49.here hx rfl (hb hby at_142)) ?_
            show Goes p e below _ T49 (mkF m 143 #[.val (.int p0), .val (.int p1), .val (.int p2), .val (.int p3), .val (.int p4), .val (.ref b1), .val (.int 1), .val (.int 4), .val (.int 1), .unset, .val (.ref b49)] [(.int 0), (.ref b1), (.int 16380), (.ref b49)])
            refine goLdC (.int c0) X49 hx hZ eT49 V1 (by decide) (by decide) rfl (g := (mkF m 143 #[.val (.int p0), .val (.int p1), .val (.int p2), .val (.int p3), .val (.int p4), .val (.ref b1), .val (.int 1), .val (.int 4), .val (.int 1), .unset, .val (.ref b49)] [(.int 0), (.ref b1), (.int 16380), (.ref b49)])) rfl rfl (hb hby at_143) ?_
            show Goes p e below _ T49 (mkF m 144 #[.val (.int p0), .val (.int p1), .val (.int p2), .val (.int p3), .val (.int p4), .val (.ref b1), .val (.int 1), .val (.int 4), .val (.int 1), .unset, .val (.ref b49)] [(.int c0), (.int 16380), (.ref b49)])
            have Sf_b49 : Safe Z EL _ h49 b49 := Safe.arv hZ.alike V49 (by decide)
            refine goStC 16380 X49 hx hZ eT49 V49 (by decide) (by decide) (by decide) (Nat.lt_of_lt_of_eq (m := 16384) (by decide) (by rw [List.length_replicate])) (g := (mkF m 144 #[.val (.int p0), .val (.int p1), .val (.int p2), .val (.int p3), .val (.int p4), .val (.ref b1), .val (.int 1), .val (.int 4), .val (.int 1), .unset, .val (.ref b49)] [(.int c0), (.int 16380), (.ref b49)])) rfl rfl (hb hby at_144) ?_
            intro T51 h51 X51 eT51 W51 V49
            have N51 := Fr.snoc X51 N48 g_b49
            have V1 := V1.other W51 ne_b1_b49
            have A1 := A1.wr W51
            have A49 := A49.wr W51
            have HC := HC.trans (CHr.wr W51 Sf_b49 HC.1)
            have hk := Nat.le_trans hk (Nat.le_of_eq (Wr.size W51).symm)
            have O0 := O0.wr W51 g_b49
            show Goes p e below _ T51 (mkF m 145 #[.val (.int p0), .val (.int p1), .val (.int p2), .val (.int p3), .val (.int p4), .val (.ref b1), .val (.int 1), .val (.int 4), .val (.int 1), .unset, .val (.ref b49)] [])
            refine Goes.of (fun _ => XS.aload X51.here hx rfl (hb hby at_145) rfl rfl) ?_
            show Goes p e below _ T51 (mkF m 147 #[.val (.int p0), .val (.int p1), .val (.int p2), .val (.int p3), .val (.int p4), .val (.ref b1), .val (.int 1), .val (.int 4), .val (.int 1), .unset, .val (.ref b49)] [(.ref b49)])
            refine Goes.of (fun _ => XS.sipush X51.here hx rfl (hb hby at_147)) ?_
            show Goes p e below _ T51 (mkF m 150 #[.val (.int p0), .val (.int p1), .val (.int p2), .val (.int p3), .val (.int p4), .val (.ref b1), .val (.int 1), .val (.int 4), .val (.int 1), .unset, .val (.ref b49)] [(.int 16381), (.ref b49)])
            refine Goes.of (fun _ => XS.aload X51.here hx rfl (hb hby at_150) rfl rfl) ?_
            show Goes p e below _ T51 (mkF m 152 #[.val (.int p0), .val (.int p1), .val (.int p2), .val (.int p3), .val (.int p4), .val (.ref b1), .val (.int 1), .val (.int 4), .val (.int 1), .unset, .val (.ref b49)] [(.ref b1), (.int 16381), (.ref b49)])
            refine Goes.of (fun _ => XS.iconst X51.here hx rfl (hb hby at_152)) ?_
            show Goes p e below _ T51 (mkF m 153 #[.val (.int p0), .val (.int p1), .val (.int p2), .val (.int p3), .val (.int p4), .val (.ref b1), .val (.int 1), .val (.int 4), .val (.int 1), .unset, .val (.ref b49)] [(.int 1), (.ref b1), (.int 16381), (.ref b49)])
            refine goLdC (.int c1) X51 hx hZ eT51 V1 (by decide) (by decide) rfl (g := (mkF m 153 #[.val (.int p0), .val (.int p1), .val (.int p2), .val (.int p3), .val (.int p4), .val (.ref b1), .val (.int 1), .val (.int 4), .val (.int 1), .unset, .val (.ref b49)] [(.int 1), (.ref b1), (.int 16381), (.ref b49)])) rfl rfl (hb hby at_153) ?_
            show Goes p e below _ T51 (mkF m 154 #[.val (.int p0), .val (.int p1), .val (.int p2), .val (.int p3), .val (.int p4), .val (.ref b1), .val (.int 1), .val (.int 4), .val (.int 1), .unset, .val (.ref b49)] [(.int c1), (.int 16381), (.ref b49)])
            have Sf_b49 : Safe Z EL _ h51 b49 := Safe.arv hZ.alike V49 (by decide)
            refine goStC 16381 X51 hx hZ eT51 V49 (by decide) (by decide) (by decide) (Nat.lt_of_lt_of_eq (m := 16384) (by decide) (by rw [List.length_set, List.length_replicate])) (g := (mkF m 154 #[.val (.int p0), .val (.int p1), .val (.int p2), .val (.int p3), .val (.int p4), .val (.ref b1), .val (.int 1), .val (.int 4), .val (.int 1), .unset, .val (.ref b49)] [(.int c1), (.int 16381), (.ref b49)])) rfl rfl (hb hby at_154) ?_
            intro T53 h53 X53 eT53 W53 V49
            have N53 := Fr.snoc X53 N51 g_b49
            have V1 := V1.other W53 ne_b1_b49
            have A1 := A1.wr W53
            have A49 := A49.wr W53
            have HC := HC.trans (CHr.wr W53 Sf_b49 HC.1)
            have hk := Nat.le_trans hk (Nat.le_of_eq (Wr.size W53).symm)
            have O0 := O0.wr W53 g_b49
            show Goes p e below _ T53 (mkF m 155 #[.val (.int p0), .val (.int p1), .val (.int p2), .val (.int p3), .val (.int p4), .val (.ref b1), .val (.int 1), .val (.int 4), .val (.int 1), .unset, .val (.ref b49)] [])
            refine Goes.of (fun _ => XS.aload X53.here hx rfl (hb hby at_155) rfl rfl) ?_
            show Goes p e below _ T53 (mkF m 157 #[.val (.int p0), .val (.int p1), .val (.int p2), .val (.int p3), .val (.int p4), .val (.ref b1), .val (.int 1), .val (.int 4), .val (.int 1), .unset, .val (.ref b49)] [(.ref b49)])
            refine Goes.of (fun _ => XS.sipush X53.here hx rfl (hb hby at_157)) ?_
            show Goes p e below _ T53 (mkF m 160 #[.val (.int p0), .val (.int p1), .val (.int p2), .val (.int p3), .val (.int p4), .val (.ref b1), .val (.int 1), .val (.int 4), .val (.int 1), .unset, .val (.ref b49)] [(.int 16382), (.ref b49)])
            refine Goes.of (fun _ => XS.aload X53.here hx rfl (hb hby at_160) rfl rfl) ?_
            show Goes p e below _ T53 (mkF m 162 #[.val (.int p0), .val (.int p1), .val (.int p2), .val (.int p3), .val (.int p4), .val (.ref b1), .val (.int 1), .val (.int 4), .val (.int 1), .unset, .val (.ref b49)] [(.ref b1), (.int 16382), (.ref b49)])
            refine Goes.of (fun _ => XS.iconst X53.here hx rfl (hb hby at_162)) ?_
            show Goes p e below _ T53 (mkF m 163 #[.val (.int p0), .val (.int p1), .val (.int p2), .val (.int p3), .val (.int p4), .val (.ref b1), .val (.int 1), .val (.int 4), .val (.int 1), .unset, .val (.ref b49)] [(.int 2), (.ref b1), (.int 16382), (.ref b49)])
            refine goLdC (.int c2) X53 hx hZ eT53 V1 (by decide) (by decide) rfl (g := (mkF m 163 #[.val (.int p0), .val (.int p1), .val (.int p2), .val (.int p3), .val (.int p4), .val (.ref b1), .val (.int 1), .val (.int 4), .val (.int 1), .unset, .val (.ref b49)] [(.int 2), (.ref b1), (.int 16382), (.ref b49)])) rfl rfl (hb hby at_163) ?_
            show Goes p e below _ T53 (mkF m 164 #[.val (.int p0), .val (.int p1), .val (.int p2), .val (.int p3), .val (.int p4), .val (.ref b1), .val (.int 1), .val (.int 4), .val (.int 1), .unset, .val (.ref b49)] [(.int c2), (.int 16382), (.ref b49)])
            have Sf_b49 : Safe Z EL _ h53 b49 := Safe.arv hZ.alike V49 (by decide)
            refine goStC 16382 X53 hx hZ eT53 V49 (by decide) (by decide) (by decide) (Nat.lt_of_lt_of_eq (m := 16384) (by decide) (by rw [List.length_set, List.length_set, List.length_replicate])) (g := (mkF m 164 #[.val (.int p0), .val (.int p1), .val (.int p2), .val (.int p3), .val (.int p4), .val (.ref b1), .val (.int 1), .val (.int 4), .val (.int 1), .unset, .val (.ref b49)] [(.int c2), (.int 16382), (.ref b49)])) rfl rfl (hb hby at_164) ?_
            intro T55 h55 X55 eT55 W55 V49
            have N55 := Fr.snoc X55 N53 g_b49
            have V1 := V1.other W55 ne_b1_b49
            have A1 := A1.wr W55
            have A49 := A49.wr W55
            have HC := HC.trans (CHr.wr W55 Sf_b49 HC.1)
            have hk := Nat.le_trans hk (Nat.le_of_eq (Wr.size W55).symm)
            have O0 := O0.wr W55 g_b49
            show Goes p e below _ T55 (mkF m 165 #[.val (.int p0), .val (.int p1), .val (.int p2), .val (.int p3), .val (.int p4), .val (.ref b1), .val (.int 1), .val (.int 4), .val (.int 1), .unset, .val (.ref b49)] [])
            refine Goes.of (fun _ => XS.aload X55.here hx rfl (hb hby at_165) rfl rfl) ?_
            show Goes p e below _ T55 (mkF m 167 #[.val (.int p0), .val (.int p1), .val (.int p2), .val (.int p3), .val (.int p4), .val (.ref b1), .val (.int 1), .val (.int 4), .val (.int 1), .unset, .val (.ref b49)] [(.ref b49)])
            refine Goes.of (fun _ => XS.sipush X55.here hx rfl (hb hby at_167)) ?_
            show Goes p e below _ T55 (mkF m 170 #[.val (.int p0), .val (.int p1), .val (.int p2), .val (.int p3), .val (.int p4), .val (.ref b1), .val (.int 1), .val (.int 4), .val (.int 1), .unset, .val (.ref b49)] [(.int 16383), (.ref b49)])
            refine Goes.of (fun _ => XS.aload X55.here hx rfl (hb hby at_170) rfl rfl) ?_
            show Goes p e below _ T55 (mkF m 172 #[.val (.int p0), .val (.int p1), .val (.int p2), .val (.int p3), .val (.int p4), .val (.ref b1), .val (.int 1), .val (.int 4), .val (.int 1), .unset, .val (.ref b49)] [(.ref b1), (.int 16383), (.ref b49)])
            refine Goes.of (fun _ => XS.iconst X55.here hx rfl (hb hby at_172)) ?_
            show Goes p e below _ T55 (mkF m 173 #[.val (.int p0), .val (.int p1), .val (.int p2), .val (.int p3), .val (.int p4), .val (.ref b1), .val (.int 1), .val (.int 4), .val (.int 1), .unset, .val (.ref b49)] [(.int 3), (.ref b1), (.int 16383), (.ref b49)])
            refine goLdC (.int c3) X55 hx hZ eT55 V1 (by decide) (by decide) rfl (g := (mkF m 173 #[.val (.int p0), .val (.int p1), .val (.int p2), .val (.int p3), .val (.int p4), .val (.ref b1), .val (.int 1), .val (.int 4), .val (.int 1), .unset, .val (.ref b49)] [(.int 3), (.ref b1), (.int 16383), (.ref b49)])) rfl rfl (hb hby at_173) ?_
            show Goes p e below _ T55 (mkF m 174 #[.val (.int p0), .val (.int p1), .val (.int p2), .val (.int p3), .val (.int p4), .val (.ref b1), .val (.int 1), .val (.int 4), .val (.int 1), .unset, .val (.ref b49)] [(.int c3), (.int 16383), (.ref b49)])
            have Sf_b49 : Safe Z EL _ h55 b49 := Safe.arv hZ.alike V49 (by decide)
            refine goStC 16383 X55 hx hZ eT55 V49 (by decide) (by decide) (by decide) (Nat.lt_of_lt_of_eq (m := 16384) (by decide) (by rw [List.length_set, List.length_set, List.length_set, List.length_replicate])) (g := (mkF m 174 #[.val (.int p0), .val (.int p1), .val (.int p2), .val (.int p3), .val (.int p4), .val (.ref b1), .val (.int 1), .val (.int 4), .val (.int 1), .unset, .val (.ref b49)] [(.int c3), (.int 16383), (.ref b49)])) rfl rfl (hb hby at_174) ?_
            intro T57 h57 X57 eT57 W57 V49
            have N57 := Fr.snoc X57 N55 g_b49
            have V1 := V1.other W57 ne_b1_b49
            have A1 := A1.wr W57
            have A49 := A49.wr W57
            have HC := HC.trans (CHr.wr W57 Sf_b49 HC.1)
            have hk := Nat.le_trans hk (Nat.le_of_eq (Wr.size W57).symm)
            have O0 := O0.wr W57 g_b49
            show Goes p e below _ T57 (mkF m 175 #[.val (.int p0), .val (.int p1), .val (.int p2), .val (.int p3), .val (.int p4), .val (.ref b1), .val (.int 1), .val (.int 4), .val (.int 1), .unset, .val (.ref b49)] [])
            obtain ⟨cs, hl, hcs, hval, V49⟩ := big hz0 hz1 hz2 hz3 hval V49
            refine goNew X57 hx hZ hown (hw _ (List.mem_of_getElem? (i := 14) rfl)) (hw _ (List.mem_of_getElem? (i := 15) rfl)) (hw _ (List.mem_of_getElem? (i := 16) rfl)) eT57 (g := (mkF m 175 #[.val (.int p0), .val (.int p1), .val (.int p2), .val (.int p3), .val (.int p4), .val (.ref b1), .val (.int 1), .val (.int 4), .val (.int 1), .unset, .val (.ref b49)] [])) rfl (hb hby at_175) (by decide) (by decide) ?_
            intro T58 h58 b58 X58 eT58 E58 hb58 A58 D58
            have g_b58 : n0 ≤ b58 := Nat.le_trans (oldLe O0) hb58
            have ne_b1_b58 : b1 ≠ b58 := Nat.ne_of_lt (Nat.lt_of_lt_of_le V1.lt hb58)
            have ne_b49_b58 : b49 ≠ b58 := Nat.ne_of_lt (Nat.lt_of_lt_of_le V49.lt hb58)
            have V1 := V1.ext E58
            have A1 := A1.ext E58
            have V49 := V49.ext E58
            have A49 := A49.ext E58
            have hk := Nat.le_trans hk E58.1
            have HC := HC.trans (CHr.ext E58 HC.1)
            have O0 := O0.ext E58
            have F58_value : Fld Z h58 b58 "java/lang/String" "value" "[B" .null := D58 (Or.inr (hw _ (List.mem_of_getElem? (i := 29) rfl))) (ty := (.array .byte)) (by decide)
            have F58_coder : Fld Z h58 b58 "java/lang/String" "coder" "B" (.int 0) := D58 (Or.inr (hw _ (List.mem_of_getElem? (i := 30) rfl))) (ty := .byte) (by decide)
            show Goes p e below _ T58 (mkF m 178 #[.val (.int p0), .val (.int p1), .val (.int p2), .val (.int p3), .val (.int p4), .val (.ref b1), .val (.int 1), .val (.int 4), .val (.int 1), .unset, .val (.ref b49)] [(.ref b58)])
            refine Goes.of (fun _ => XS.dup X58.here hx rfl (hb hby at_178) rfl rfl) ?_
            show Goes p e below _ T58 (mkF m 179 #[.val (.int p0), .val (.int p1), .val (.int p2), .val (.int p3), .val (.int p4), .val (.ref b1), .val (.int 1), .val (.int 4), .val (.int 1), .unset, .val (.ref b49)] [(.ref b58), (.ref b58)])
            refine Goes.of (fun _ => XS.aload X58.here hx rfl (hb hby at_179) rfl rfl) ?_
            show Goes p e below _ T58 (mkF m 181 #[.val (.int p0), .val (.int p1), .val (.int p2), .val (.int p3), .val (.int p4), .val (.ref b1), .val (.int 1), .val (.int 4), .val (.int 1), .unset, .val (.ref b49)] [(.ref b49), (.ref b58), (.ref b58)])
            have Sf_b58 : Safe Z EL _ h58 b58 := safeNull hZ.alike A58 F58_value
            refine goSpecial 1 X58 hx hZ rfl hown (hw _ (List.mem_of_getElem? (i := 17) rfl)) (hw _ (List.mem_of_getElem? (i := 18) rfl)) (hw _ (List.mem_of_getElem? (i := 16) rfl)) (hw _ (List.mem_of_getElem? (i := 19) rfl)) (by decide) (rm_sin1 l Z a0 hw b58 b49 _ cs cz h58 n0 O0 Sa Sh Sl Sc hcz g_b58 A58 F58_value F58_coder (by omega) (by omega) hcs (Ne.symm ne_b49_b58) V49) eT58 (g := (mkF m 181 #[.val (.int p0), .val (.int p1), .val (.int p2), .val (.int p3), .val (.int p4), .val (.ref b1), .val (.int 1), .val (.int 4), .val (.int 1), .unset, .val (.ref b49)] [(.ref b49), (.ref b58), (.ref b58)])) rfl (by rw [hml]; rfl) b58 [(.ref b49)] [(.ref b58)] (lenOf pd___C_V rfl) rfl rfl (by show 2 * 0 + _ ≤ _; exact Nat.le_of_eq rfl) (hb hby at_181) (by decide) (by decide) (by decide) (by decide) ?_
            intro v59 T59 L59 X59 q59
            obtain ⟨rfl, Nq59, Kq59, Su59⟩ := q59
            have N59 := Fr.app N57 Nq59
            have V1 := V1.keep Kq59 (ninS ne_b1_b58 nin0)
            have A1 := A1.keep Kq59
            have V49 := V49.keep Kq59 (ninS ne_b49_b58 nin0)
            have A49 := A49.keep Kq59
            have A58 := A58.keep Kq59
            have HC := HC.trans (CHr.keep Kq59 (sfS Sf_b58 sf0) HC.1)
            have hk := Nat.le_trans hk Kq59.1
            have O0 := O0.keep Kq59 (allS g_b58 all0)
            show Goes p e below _ T59 (mkF m 184 #[.val (.int p0), .val (.int p1), .val (.int p2), .val (.int p3), .val (.int p4), .val (.ref b1), .val (.int 1), .val (.int 4), .val (.int 1), .unset, .val (.ref b49)] [(.ref b58)])
            refine Goes.of (fun _ => XS.astore X59.here hx rfl (hb hby at_184) rfl rfl (l' := #[.val (.int p0), .val (.int p1), .val (.int p2), .val (.int p3), .val (.int p4), .val (.ref b1), .val (.int 1), .val (.int 4), .val (.int 1), .val (.ref b58), .val (.ref b49)]) rfl) ?_
            show Goes p e below _ T59 (mkF m 186 #[.val (.int p0), .val (.int p1), .val (.int p2), .val (.int p3), .val (.int p4), .val (.ref b1), .val (.int 1), .val (.int 4), .val (.int 1), .val (.ref b58), .val (.ref b49)] [])
            refine Goes.of (fun _ => XS.goto X59.here hx rfl (pc0 := 186) (pc' := 198) rfl (hb hby at_186) (by decide) (by decide)) ?_
            show Goes p e below _ T59 (mkF m 198 #[.val (.int p0), .val (.int p1), .val (.int p2), .val (.int p3), .val (.int p4), .val (.ref b1), .val (.int 1), .val (.int 4), .val (.int 1), .val (.ref b58), .val (.ref b49)] [])
            obtain ⟨Es, tt, kt, Fv, hor⟩ := Su59
            rcases hor with ⟨Fc, hlat, Vt⟩ | ⟨-, Fc, Vt⟩
            · show Goes p e below _ T59 (mkF m 198 #[.val (.int p0), .val (.int p1), .val (.int p2), .val (.int p3), .val (.int p4), .val (.ref b1), .val (.int 1), .val (.int 4), .val (.int 1), .val (.ref b58), .val (.ref b49)] [])
              refine Goes.of (fun _ => XS.aload X59.here hx rfl (hb hby at_198) rfl rfl) ?_
              show Goes p e below _ T59 (mkF m 200 #[.val (.int p0), .val (.int p1), .val (.int p2), .val (.int p3), .val (.int p4), .val (.ref b1), .val (.int 1), .val (.int 4), .val (.int 1), .val (.ref b58), .val (.ref b49)] [(.ref b58)])
              refine goStaticW 0 X59 hS hk hEL HC hx hZ hown (hw _ (List.mem_of_getElem? (i := 35) rfl)) (hw _ (List.mem_of_getElem? (i := 36) rfl)) (hw _ (List.mem_of_getElem? (i := 37) rfl)) (hw _ (List.mem_of_getElem? (i := 38) rfl)) (by decide) (rm_chk_lat l Z a0 hw b58 tt kt cs cz fm T59.heap n0 O0 Sa Sh Sl Sc hcz Sf hfm (by omega) Es Fv Fc Vt hcs hlat) (rfl : T59.heap = _) (g := (mkF m 200 #[.val (.int p0), .val (.int p1), .val (.int p2), .val (.int p3), .val (.int p4), .val (.ref b1), .val (.int 1), .val (.int 4), .val (.int 1), .val (.ref b58), .val (.ref b49)] [(.ref b58)])) rfl (by rw [hml]; rfl) [(.ref b58)] [] (lenOf pd__Ljava_lang_String__Ljava_lang_String_ rfl) rfl rfl (by show 2 * 0 + _ ≤ _; exact Nat.le_of_eq rfl) (hb hby at_200) (by decide) (by decide) (by decide) (by decide) ?_
              intro v60 T60 L60 kk60 X60 hS hk hZ hown HC q60
              obtain ⟨rfl, Nq60, Kq60⟩ := q60
              have N60 := Fr.app N59 Nq60
              have O0 := O0.keep Kq60 all0
              show Goes p e below _ T60 (mkF m 203 #[.val (.int p0), .val (.int p1), .val (.int p2), .val (.int p3), .val (.int p4), .val (.ref b1), .val (.int 1), .val (.int 4), .val (.int 1), .val (.ref b58), .val (.ref b49)] [(.ref b58)])
              refine Goes.of (fun _ => XS.astore X60.here hx rfl (hb hby at_203) rfl rfl (l' := #[.val (.int p0), .val (.int p1), .val (.int p2), .val (.int p3), .val (.int p4), .val (.ref b1), .val (.int 1), .val (.int 4), .val (.int 1), .val (.ref b58), .val (.ref b58)]) rfl) ?_
              show Goes p e below _ T60 (mkF m 205 #[.val (.int p0), .val (.int p1), .val (.int p2), .val (.int p3), .val (.int p4), .val (.ref b1), .val (.int 1), .val (.int 4), .val (.int 1), .val (.ref b58), .val (.ref b58)] [])
              refine Goes.of (fun _ => XS.aload X60.here hx rfl (hb hby at_205) rfl rfl) ?_
              show Goes p e below _ T60 (mkF m 207 #[.val (.int p0), .val (.int p1), .val (.int p2), .val (.int p3), .val (.int p4), .val (.ref b1), .val (.int 1), .val (.int 4), .val (.int 1), .val (.ref b58), .val (.ref b58)] [(.ref b58)])
              refine Goes.of (fun _ => XS.aload X60.here hx rfl (hb hby at_207) rfl rfl) ?_
              show Goes p e below _ T60 (mkF m 209 #[.val (.int p0), .val (.int p1), .val (.int p2), .val (.int p3), .val (.int p4), .val (.ref b1), .val (.int 1), .val (.int 4), .val (.int 1), .val (.ref b58), .val (.ref b58)] [(.ref b58), (.ref b58)])
              refine Goes.of (fun _ => Jvm.RoadKit.acmp (g := (mkF m 209 #[.val (.int p0), .val (.int p1), .val (.int p2), .val (.int p3), .val (.int p4), .val (.ref b1), .val (.int 1), .val (.int 4), .val (.int 1), .val (.ref b58), .val (.ref b58)] [(.ref b58), (.ref b58)])) X60 hx rfl rfl rfl (pc0 := 209) (pc' := 212) (same := true) rfl (hb hby at_209) rfl (decide_eq_true rfl) (by decide) (by decide)) ?_
              show Goes p e below _ T60 (mkF m 212 #[.val (.int p0), .val (.int p1), .val (.int p2), .val (.int p3), .val (.int p4), .val (.ref b1), .val (.int 1), .val (.int 4), .val (.int 1), .val (.ref b58), .val (.ref b58)] [])
              refine Goes.of (fun _ => XS.iconst X60.here hx rfl (hb hby at_212)) ?_
              show Goes p e below _ T60 (mkF m 213 #[.val (.int p0), .val (.int p1), .val (.int p2), .val (.int p3), .val (.int p4), .val (.ref b1), .val (.int 1), .val (.int 4), .val (.int 1), .val (.ref b58), .val (.ref b58)] [(.int 1)])
              refine Goes.of (fun _ => XS.goto X60.here hx rfl (pc0 := 213) (pc' := 217) rfl (hb hby at_213) (by decide) (by decide)) ?_
              show Goes p e below _ T60 (mkF m 217 #[.val (.int p0), .val (.int p1), .val (.int p2), .val (.int p3), .val (.int p4), .val (.ref b1), .val (.int 1), .val (.int 4), .val (.int 1), .val (.ref b58), .val (.ref b58)] [(.int 1)])
              exact retZW (t := .boolean) X60 hS hk hZ hEL HC hx hret hlk (by simp) (hb hby at_217) (rfl : T60.heap = _) (by decide) (by decide) ⟨rfl, N60⟩
            · show Goes p e below _ T59 (mkF m 198 #[.val (.int p0), .val (.int p1), .val (.int p2), .val (.int p3), .val (.int p4), .val (.ref b1), .val (.int 1), .val (.int 4), .val (.int 1), .val (.ref b58), .val (.ref b49)] [])
              refine Goes.of (fun _ => XS.aload X59.here hx rfl (hb hby at_198) rfl rfl) ?_
              show Goes p e below _ T59 (mkF m 200 #[.val (.int p0), .val (.int p1), .val (.int p2), .val (.int p3), .val (.int p4), .val (.ref b1), .val (.int 1), .val (.int 4), .val (.int 1), .val (.ref b58), .val (.ref b49)] [(.ref b58)])
              refine goStaticW 0 X59 hS hk hEL HC hx hZ hown (hw _ (List.mem_of_getElem? (i := 35) rfl)) (hw _ (List.mem_of_getElem? (i := 36) rfl)) (hw _ (List.mem_of_getElem? (i := 37) rfl)) (hw _ (List.mem_of_getElem? (i := 38) rfl)) (by decide) (rm_chk_utf l Z a0 hw b58 tt kt cs cz fm T59.heap n0 O0 Sa Sh Sl Sc hcz Sf hfm (by omega) Es Fv Fc Vt hcs hval) (rfl : T59.heap = _) (g := (mkF m 200 #[.val (.int p0), .val (.int p1), .val (.int p2), .val (.int p3), .val (.int p4), .val (.ref b1), .val (.int 1), .val (.int 4), .val (.int 1), .val (.ref b58), .val (.ref b49)] [(.ref b58)])) rfl (by rw [hml]; rfl) [(.ref b58)] [] (lenOf pd__Ljava_lang_String__Ljava_lang_String_ rfl) rfl rfl (by show 2 * 0 + _ ≤ _; exact Nat.le_of_eq rfl) (hb hby at_200) (by decide) (by decide) (by decide) (by decide) ?_
              intro v61 T61 L61 kk61 X61 hS hk hZ hown HC q61
              obtain ⟨rfl, Nq61, Kq61⟩ := q61
              have N61 := Fr.app N59 Nq61
              have O0 := O0.keep Kq61 all0
              show Goes p e below _ T61 (mkF m 203 #[.val (.int p0), .val (.int p1), .val (.int p2), .val (.int p3), .val (.int p4), .val (.ref b1), .val (.int 1), .val (.int 4), .val (.int 1), .val (.ref b58), .val (.ref b49)] [(.ref b58)])
              refine Goes.of (fun _ => XS.astore X61.here hx rfl (hb hby at_203) rfl rfl (l' := #[.val (.int p0), .val (.int p1), .val (.int p2), .val (.int p3), .val (.int p4), .val (.ref b1), .val (.int 1), .val (.int 4), .val (.int 1), .val (.ref b58), .val (.ref b58)]) rfl) ?_
              show Goes p e below _ T61 (mkF m 205 #[.val (.int p0), .val (.int p1), .val (.int p2), .val (.int p3), .val (.int p4), .val (.ref b1), .val (.int 1), .val (.int 4), .val (.int 1), .val (.ref b58), .val (.ref b58)] [])
              refine Goes.of (fun _ => XS.aload X61.here hx rfl (hb hby at_205) rfl rfl) ?_
              show Goes p e below _ T61 (mkF m 207 #[.val (.int p0), .val (.int p1), .val (.int p2), .val (.int p3), .val (.int p4), .val (.ref b1), .val (.int 1), .val (.int 4), .val (.int 1), .val (.ref b58), .val (.ref b58)] [(.ref b58)])
              refine Goes.of (fun _ => XS.aload X61.here hx rfl (hb hby at_207) rfl rfl) ?_
              show Goes p e below _ T61 (mkF m 209 #[.val (.int p0), .val (.int p1), .val (.int p2), .val (.int p3), .val (.int p4), .val (.ref b1), .val (.int 1), .val (.int 4), .val (.int 1), .val (.ref b58), .val (.ref b58)] [(.ref b58), (.ref b58)])
              refine Goes.of (fun _ => Jvm.RoadKit.acmp (g := (mkF m 209 #[.val (.int p0), .val (.int p1), .val (.int p2), .val (.int p3), .val (.int p4), .val (.ref b1), .val (.int 1), .val (.int 4), .val (.int 1), .val (.ref b58), .val (.ref b58)] [(.ref b58), (.ref b58)])) X61 hx rfl rfl rfl (pc0 := 209) (pc' := 212) (same := true) rfl (hb hby at_209) rfl (decide_eq_true rfl) (by decide) (by decide)) ?_
              show Goes p e below _ T61 (mkF m 212 #[.val (.int p0), .val (.int p1), .val (.int p2), .val (.int p3), .val (.int p4), .val (.ref b1), .val (.int 1), .val (.int 4), .val (.int 1), .val (.ref b58), .val (.ref b58)] [])
              refine Goes.of (fun _ => XS.iconst X61.here hx rfl (hb hby at_212)) ?_
              show Goes p e below _ T61 (mkF m 213 #[.val (.int p0), .val (.int p1), .val (.int p2), .val (.int p3), .val (.int p4), .val (.ref b1), .val (.int 1), .val (.int 4), .val (.int 1), .val (.ref b58), .val (.ref b58)] [(.int 1)])
              refine Goes.of (fun _ => XS.goto X61.here hx rfl (pc0 := 213) (pc' := 217) rfl (hb hby at_213) (by decide) (by decide)) ?_
              show Goes p e below _ T61 (mkF m 217 #[.val (.int p0), .val (.int p1), .val (.int p2), .val (.int p3), .val (.int p4), .val (.ref b1), .val (.int 1), .val (.int 4), .val (.int 1), .val (.ref b58), .val (.ref b58)] [(.int 1)])
              exact retZW (t := .boolean) X61 hS hk hZ hEL HC hx hret hlk (by simp) (hb hby at_217) (rfl : T61.heap = _) (by decide) (by decide) ⟨rfl, N61⟩
          · refine Goes.of (fun _ => XS.ifYes X48.here hx rfl (pc0 := 106) (pc' := 113) rfl (hb hby at_106) rfl ((if0 _ _).trans (feq hpc106).2) (by decide) (by decide)) ?_
            show Goes p e below _ T48 (mkF m 113 #[.val (.int p0), .val (.int p1), .val (.int p2), .val (.int p3), .val (.int p4), .val (.ref b1), .val (.int 1), .val (.int 4), .unset, .unset, .unset] [])
            refine Goes.of (fun _ => XS.iconst X48.here hx rfl (hb hby at_113)) ?_
            show Goes p e below _ T48 (mkF m 114 #[.val (.int p0), .val (.int p1), .val (.int p2), .val (.int p3), .val (.int p4), .val (.ref b1), .val (.int 1), .val (.int 4), .unset, .unset, .unset] [(.int 0)])
            refine Goes.of (fun _ => XS.istore X48.here hx rfl (hb hby at_114) rfl (l' := #[.val (.int p0), .val (.int p1), .val (.int p2), .val (.int p3), .val (.int p4), .val (.ref b1), .val (.int 1), .val (.int 4), .val (.int 0), .unset, .unset]) rfl) ?_
            show Goes p e below _ T48 (mkF m 116 #[.val (.int p0), .val (.int p1), .val (.int p2), .val (.int p3), .val (.int p4), .val (.ref b1), .val (.int 1), .val (.int 4), .val (.int 0), .unset, .unset] [])
            refine Goes.of (fun _ => XS.iload X48.here hx rfl (hb hby at_116) rfl) ?_
            show Goes p e below _ T48 (mkF m 118 #[.val (.int p0), .val (.int p1), .val (.int p2), .val (.int p3), .val (.int p4), .val (.ref b1), .val (.int 1), .val (.int 4), .val (.int 0), .unset, .unset] [(.int 0)])
            refine Goes.of (fun _ => XS.ifNo X48.here hx rfl (hb hby at_118) rfl ((if0 _ _).trans (teq (by decide)).2)) ?_
            show Goes p e below _ T48 (mkF m 121 #[.val (.int p0), .val (.int p1), .val (.int p2), .val (.int p3), .val (.int p4), .val (.ref b1), .val (.int 1), .val (.int 4), .val (.int 0), .unset, .unset] [])
            refine Goes.of (fun _ => XS.iconst X48.here hx rfl (hb hby at_121)) ?_
            show Goes p e below _ T48 (mkF m 122 #[.val (.int p0), .val (.int p1), .val (.int p2), .val (.int p3), .val (.int p4), .val (.ref b1), .val (.int 1), .val (.int 4), .val (.int 0), .unset, .unset] [(.int 1)])
            exact retZW (t := .boolean) X48 hS hk hZ hEL HC hx hret hlk (by simp) (hb hby at_122) eT48 (by decide) (by decide) ⟨rfl, N48⟩
        · refine Goes.of (fun _ => XS.ifYes X47.here hx rfl (pc0 := 95) (pc' := 113) rfl (hb hby at_95) rfl ((if0 _ _).trans (feq hpc95).2) (by decide) (by decide)) ?_
          show Goes p e below _ T47 (mkF m 113 #[.val (.int p0), .val (.int p1), .val (.int p2), .val (.int p3), .val (.int p4), .val (.ref b1), .val (.int 1), .val (.int 4), .unset, .unset, .unset] [])
          refine Goes.of (fun _ => XS.iconst X47.here hx rfl (hb hby at_113)) ?_
          show Goes p e below _ T47 (mkF m 114 #[.val (.int p0), .val (.int p1), .val (.int p2), .val (.int p3), .val (.int p4), .val (.ref b1), .val (.int 1), .val (.int 4), .unset, .unset, .unset] [(.int 0)])
          refine Goes.of (fun _ => XS.istore X47.here hx rfl (hb hby at_114) rfl (l' := #[.val (.int p0), .val (.int p1), .val (.int p2), .val (.int p3), .val (.int p4), .val (.ref b1), .val (.int 1), .val (.int 4), .val (.int 0), .unset, .unset]) rfl) ?_
          show Goes p e below _ T47 (mkF m 116 #[.val (.int p0), .val (.int p1), .val (.int p2), .val (.int p3), .val (.int p4), .val (.ref b1), .val (.int 1), .val (.int 4), .val (.int 0), .unset, .unset] [])
          refine Goes.of (fun _ => XS.iload X47.here hx rfl (hb hby at_116) rfl) ?_
          show Goes p e below _ T47 (mkF m 118 #[.val (.int p0), .val (.int p1), .val (.int p2), .val (.int p3), .val (.int p4), .val (.ref b1), .val (.int 1), .val (.int 4), .val (.int 0), .unset, .unset] [(.int 0)])
          refine Goes.of (fun _ => XS.ifNo X47.here hx rfl (hb hby at_118) rfl ((if0 _ _).trans (teq (by decide)).2)) ?_
          show Goes p e below _ T47 (mkF m 121 #[.val (.int p0), .val (.int p1), .val (.int p2), .val (.int p3), .val (.int p4), .val (.ref b1), .val (.int 1), .val (.int 4), .val (.int 0), .unset, .unset] [])
          refine Goes.of (fun _ => XS.iconst X47.here hx rfl (hb hby at_121)) ?_
          show Goes p e below _ T47 (mkF m 122 #[.val (.int p0), .val (.int p1), .val (.int p2), .val (.int p3), .val (.int p4), .val (.ref b1), .val (.int 1), .val (.int 4), .val (.int 0), .unset, .unset] [(.int 1)])
          exact retZW (t := .boolean) X47 hS hk hZ hEL HC hx hret hlk (by simp) (hb hby at_122) eT47 (by decide) (by decide) ⟨rfl, N47⟩
      · refine Goes.of (fun _ => XS.ifYes X46.here hx rfl (pc0 := 84) (pc' := 113) rfl (hb hby at_84) rfl ((if0 _ _).trans (feq hpc84).2) (by decide) (by decide)) ?_
        show Goes p e below _ T46 (mkF m 113 #[.val (.int p0), .val (.int p1), .val (.int p2), .val (.int p3), .val (.int p4), .val (.ref b1), .val (.int 1), .val (.int 4), .unset, .unset, .unset] [])
        refine Goes.of (fun _ => XS.iconst X46.here hx rfl (hb hby at_113)) ?_
        show Goes p e below _ T46 (mkF m 114 #[.val (.int p0), .val (.int p1), .val (.int p2), .val (.int p3), .val (.int p4), .val (.ref b1), .val (.int 1), .val (.int 4), .unset, .unset, .unset] [(.int 0)])
        refine Goes.of (fun _ => XS.istore X46.here hx rfl (hb hby at_114) rfl (l' := #[.val (.int p0), .val (.int p1), .val (.int p2), .val (.int p3), .val (.int p4), .val (.ref b1), .val (.int 1), .val (.int 4), .val (.int 0), .unset, .unset]) rfl) ?_
        show Goes p e below _ T46 (mkF m 116 #[.val (.int p0), .val (.int p1), .val (.int p2), .val (.int p3), .val (.int p4), .val (.ref b1), .val (.int 1), .val (.int 4), .val (.int 0), .unset, .unset] [])
        refine Goes.of (fun _ => XS.iload X46.here hx rfl (hb hby at_116) rfl) ?_
        show Goes p e below _ T46 (mkF m 118 #[.val (.int p0), .val (.int p1), .val (.int p2), .val (.int p3), .val (.int p4), .val (.ref b1), .val (.int 1), .val (.int 4), .val (.int 0), .unset, .unset] [(.int 0)])
        refine Goes.of (fun _ => XS.ifNo X46.here hx rfl (hb hby at_118) rfl ((if0 _ _).trans (teq (by decide)).2)) ?_
        show Goes p e below _ T46 (mkF m 121 #[.val (.int p0), .val (.int p1), .val (.int p2), .val (.int p3), .val (.int p4), .val (.ref b1), .val (.int 1), .val (.int 4), .val (.int 0), .unset, .unset] [])
        refine Goes.of (fun _ => XS.iconst X46.here hx rfl (hb hby at_121)) ?_
        show Goes p e below _ T46 (mkF m 122 #[.val (.int p0), .val (.int p1), .val (.int p2), .val (.int p3), .val (.int p4), .val (.ref b1), .val (.int 1), .val (.int 4), .val (.int 0), .unset, .unset] [(.int 1)])
        exact retZW (t := .boolean) X46 hS hk hZ hEL HC hx hret hlk (by simp) (hb hby at_122) eT46 (by decide) (by decide) ⟨rfl, N46⟩
    · refine Goes.of (fun _ => XS.ifYes X45.here hx rfl (pc0 := 73) (pc' := 113) rfl (hb hby at_73) rfl ((if0 _ _).trans (feq hpc73).2) (by decide) (by decide)) ?_
      show Goes p e below _ T45 (mkF m 113 #[.val (.int p0), .val (.int p1), .val (.int p2), .val (.int p3), .val (.int p4), .val (.ref b1), .val (.int 1), .val (.int 4), .unset, .unset, .unset] [])
      refine Goes.of (fun _ => XS.iconst X45.here hx rfl (hb hby at_113)) ?_
      show Goes p e below _ T45 (mkF m 114 #[.val (.int p0), .val (.int p1), .val (.int p2), .val (.int p3), .val (.int p4), .val (.ref b1), .val (.int 1), .val (.int 4), .unset, .unset, .unset] [(.int 0)])
      refine Goes.of (fun _ => XS.istore X45.here hx rfl (hb hby at_114) rfl (l' := #[.val (.int p0), .val (.int p1), .val (.int p2), .val (.int p3), .val (.int p4), .val (.ref b1), .val (.int 1), .val (.int 4), .val (.int 0), .unset, .unset]) rfl) ?_
      show Goes p e below _ T45 (mkF m 116 #[.val (.int p0), .val (.int p1), .val (.int p2), .val (.int p3), .val (.int p4), .val (.ref b1), .val (.int 1), .val (.int 4), .val (.int 0), .unset, .unset] [])
      refine Goes.of (fun _ => XS.iload X45.here hx rfl (hb hby at_116) rfl) ?_
      show Goes p e below _ T45 (mkF m 118 #[.val (.int p0), .val (.int p1), .val (.int p2), .val (.int p3), .val (.int p4), .val (.ref b1), .val (.int 1), .val (.int 4), .val (.int 0), .unset, .unset] [(.int 0)])
      refine Goes.of (fun _ => XS.ifNo X45.here hx rfl (hb hby at_118) rfl ((if0 _ _).trans (teq (by decide)).2)) ?_
      show Goes p e below _ T45 (mkF m 121 #[.val (.int p0), .val (.int p1), .val (.int p2), .val (.int p3), .val (.int p4), .val (.ref b1), .val (.int 1), .val (.int 4), .val (.int 0), .unset, .unset] [])
      refine Goes.of (fun _ => XS.iconst X45.here hx rfl (hb hby at_121)) ?_
      show Goes p e below _ T45 (mkF m 122 #[.val (.int p0), .val (.int p1), .val (.int p2), .val (.int p3), .val (.int p4), .val (.ref b1), .val (.int 1), .val (.int 4), .val (.int 0), .unset, .unset] [(.int 1)])
      exact retZW (t := .boolean) X45 hS hk hZ hEL HC hx hret hlk (by simp) (hb hby at_122) eT45 (by decide) (by decide) ⟨rfl, N45⟩
set_option maxRecDepth 65536 in
set_option maxHeartbeats 40000000 in
theorem comes_1 {Post : Tables → Env → Array Value → State → Outcome → State → Prop} (hpost : ∀ tb e args s v u, (limb_1_1.after args s (.returned v) u = true ∧ limb_1_2.after args s (.returned v) u = true ∧ True) → ReturnedEndW s (.returned v) u (Jvm.fieldLocs frame_1_writes args s ++ Jvm.arrayLocs frame_1_arrays args s ++ Jvm.staticLocs frame_1_statics s) 24 133248 → Post tb e args s (.returned v) u) :
    ArmFor flags0 classFile x code maxLocals ret World_1 tables_1 room_1 Calls_1 rest_1 Pre_1 Post := by
  intro l hfl _ _ p e ha hc hk s m args below hf hA hF happ hP
  obtain ⟨hcalls, hrest, hpre⟩ := hP
  obtain ⟨-, -, -, hnamed, -, -, -, hat⟩ := (Spec.applies_iff hf).mp happ
  obtain ⟨hg, hn⟩ := and_e (Cond.before_iff.mp (show (Jvm.Cond.and given_1 narrow_1).before args s = true from hpre))
  obtain ⟨hcount, hg0⟩ := and_e hg
  obtain ⟨hv0, hg1⟩ := and_e hg0
  obtain ⟨hv1, hg2⟩ := and_e hg1
  obtain ⟨hv2, hg3⟩ := and_e hg2
  obtain ⟨hv3, hg4⟩ := and_e hg3
  have hv4 := hg4
  obtain ⟨w0, w1, w2, w3, w4, rfl⟩ : ∃ w0 w1 w2 w3 w4 : Value, args = #[w0, w1, w2, w3, w4] := by
    have hs : args.size = 5 := by simpa [Cond.value, given_1] using hcount
    obtain ⟨L⟩ := args
    match L, hs with
    | [w0, w1, w2, w3, w4], _ => exact ⟨w0, w1, w2, w3, w4, rfl⟩
  have hw := fun d (hd : d ∈ tables_1) => atoms_spec (ws := Jvm.Cond.code x code maxLocals ret :: tables_1) hat d (List.mem_cons_of_mem _ hd)
  have hfit : Fit s := fun {y c} hc i hi => by
    obtain ⟨ha, rfl⟩ := Array.getElem?_eq_some_iff.mp hc
    have q := List.all_eq_true.mp ((Array.all_eq_true_iff_forall_mem.mp hF) _ (Array.getElem_mem ha)) i (List.mem_range.mpr hi)
    simpa [Array.getElem?_eq_getElem hi] using q
  obtain ⟨hsets, hown0⟩ := atoms_of _ (rest_1_c_eq ▸ (show rest_1_c.before _ s = true from hrest))
  obtain ⟨i0, ei0⟩ := is_v hv0
  obtain rfl : w0 = (.int i0) := Option.some.inj ei0
  obtain ⟨i1, ei1⟩ := is_v hv1
  obtain rfl : w1 = (.int i1) := Option.some.inj ei1
  obtain ⟨i2, ei2⟩ := is_v hv2
  obtain rfl : w2 = (.int i2) := Option.some.inj ei2
  obtain ⟨i3, ei3⟩ := is_v hv3
  obtain rfl : w3 = (.int i3) := Option.some.inj ei3
  obtain ⟨i4, ei4⟩ := is_v hv4
  obtain rfl : w4 = (.int i4) := Option.some.inj ei4
  obtain ⟨cz, evcz⟩ := is_v (Cond.before_iff.mp (hsets _ (List.mem_of_getElem? (i := 1) rfl)))
  have Sc := Sta.start evcz (Or.inl (hsets _ (List.mem_of_getElem? (i := 0) rfl)))
  have hcz := ne_of_not evcz (hsets _ (List.mem_of_getElem? (i := 2) rfl))
  obtain ⟨fm, evfm, hfm⟩ := isR_v (Cond.before_iff.mp (hsets _ (List.mem_of_getElem? (i := 8) rfl)))
  have Sf := Sta.start evfm (Or.inl (hsets _ (List.mem_of_getElem? (i := 7) rfl)))
  have Sa := Sta.start (Cond.eq_int (n := 1) (hsets _ (List.mem_of_getElem? (i := 12) rfl)) (Term.int_eval _)) (Or.inl (hsets _ (List.mem_of_getElem? (i := 11) rfl)))
  have Sh := Sta.start (Cond.eq_int (n := 0) (hsets _ (List.mem_of_getElem? (i := 15) rfl)) (Term.int_eval _)) (Or.inl (hsets _ (List.mem_of_getElem? (i := 14) rfl)))
  have Sl := Sta.start (Cond.eq_int (n := 8) (hsets _ (List.mem_of_getElem? (i := 18) rfl)) (Term.int_eval _)) (Or.inl (hsets _ (List.mem_of_getElem? (i := 17) rfl)))
  have hCH : CHv s EL s.vm s.heap := CHv.start (hELof hw) (fun p hp => hcalls.1 p (List.mem_cons_of_mem _ hp)) (hsets _ (List.mem_of_getElem? (i := 2) rfl)) (hw _ (List.mem_of_getElem? (i := 28) rfl)) (hw _ (List.mem_of_getElem? (i := 15) rfl))
  obtain ⟨n, o, h1, h2, h3, _, L, rfl, ⟨rfl, N⟩, -, hq⟩ := rm_law l s _ hw tables_1 i0 i1 i2 i3 i4 cz fm s.heap s.heap.size (Old.start s) Sa Sh Sl Sc hcz Sf hfm p e ha hc hk s m _ below hf ((Spec.applies_iff_loose hf).mp happ).1 ⟨rfl, State.Warmed39.refl s, rfl, hCH⟩ trivial
  refine ⟨n, _, h1, h2, h3, hpost _ _ _ _ _ _ ⟨Cond.after_iff.mpr rfl, Cond.after_iff.mpr (eq_i res_at (Term.int_eval (1)) rfl), trivial⟩ ⟨hq.1, hq.2.1, hq.2.2.1, (hq.2.2.2.sift fun y hy => Or.inr (N y hy)).mono (by decide) (by decide)⟩⟩
theorem main_1_1 : Claimed_1_1 := comes_1 fun _ _ _ _ _ _ h hF => ⟨h.1, hF⟩
theorem main_1_2 : Claimed_1_2 := comes_1 fun _ _ _ _ _ _ h hF => ⟨h.2.1, hF⟩
end Jvm.Pilot.@@N@@
namespace Jvm.Pilot.@@N@@
open Jvm Jvm.ClassFile Sem Op Lib Jvm.Free Jvm.Stand Jvm.Pilot.@@N@@.Jvm.D
/-! MADE BY PROGRAM (witnessworld.py) out of the Statement's table words and the real class files: 22 classes; the members and pool entries that the words name. The judged class is class 1, her method 6. -/
namespace start1
open Jvm.ClassFile
def u (s : String) : CpInfo := .utf8 (stringToUtf16 s)
/-- a pool by its gaps: so many unusable entries, then the entry; so many at the end -/
def gap : Nat → List CpInfo → List CpInfo
  | 0, r => r
  | n + 1, r => .unusable :: gap n r
def poolList (es : List (Nat × CpInfo)) (last : Nat) : List CpInfo := es.foldr (fun e r => gap e.1 (e.2 :: r)) (gap last [])
def pool (es : List (Nat × CpInfo)) (last : Nat) : Array CpInfo := ⟨poolList es last⟩
def fileOf (pool : Array CpInfo) (this : Nat) (attrs : Array Attribute := #[]) (ms : Array MethodInfo := #[]) (fl : Nat := 33) (sup : Nat := 0) (ifs : Array Nat := #[]) (fds : Array FieldInfo := #[]) : ClassFile where
  minorVersion := 0
  majorVersion := 65
  constantPool := pool
  accessFlags := fl
  thisClass := this
  superClass := sup
  interfaces := ifs
  fields := fds
  methods := ms
  attributes := attrs
def plain (name : String) (sup : Option ClassId) : Class where
  name := name
  kind := .ordinary
  loader := none
  accessFlags := 33
  super := sup
  interfaces := #[]
  cf := none
  fields := #[]
  methods := #[]
  instanceTypes := #[]
  staticTypes := #[]
  resolved := #[]
  callSites := []
  init := .initialized
  statics := none
  mirror := none

def pool0 : Array CpInfo := pool [(5, u "<init>"), (0, u "()V"), (1, .class_ 10), (1, u "java/lang/Object")] 113

def k0c0 : Code := { maxStack := 0, maxLocals := 1, code := object_method_1_code, exceptionTable := #[], attributes := #[] }
def k0m0 : Method := { name := "<init>", desc := "()V", sig := { parameters := [], returnType := none }, accessFlags := 1, code := some k0c0 }
/-- java/lang/Object -/
def k0 : Class := { plain "java/lang/Object" none with
  accessFlags := 33
  interfaces := #[]
  cf := some (fileOf pool0 8 #[] #[{ accessFlags := 1, nameIndex := 5, descriptorIndex := 6, attributes := #[] }] 33 0 #[] #[])
  fields := #[]
  methods := #[k0m0]
  instanceTypes := #[]
  staticTypes := #[]
  resolved := Array.replicate 124 none
  statics := none }

def pool1 : Array CpInfo := pool [(2, .class_ 4), (1, u "java/lang/Object"), (0, u "<init>"), (0, u "()V"), (0, .integer 55296), (0, .integer 56320), (0, .integer 65535), (0, .integer 56319), (0, .integer 57343), (0, .methodref 13 14), (0, .class_ 15), (0, .nameAndType 16 17), (0, u "com/example/latchwork/latchwork/core/LockNamesCheckPinLaw"), (0, u "high"), (0, u "(C)Z"), (0, .methodref 13 19), (0, .nameAndType 20 17), (0, u "low"), (0, .class_ 22), (0, u "java/lang/String"), (0, .methodref 21 24), (0, .nameAndType 5 25), (0, u "([C)V"), (0, .methodref 13 27), (0, .nameAndType 28 29), (0, u "draw"), (0, u "(I)C"), (0, .methodref 13 31), (0, .nameAndType 32 33), (0, u "bad"), (0, u "([CII)Z"), (0, .methodref 13 35), (0, .nameAndType 36 37), (0, u "make"), (0, u "([CI)Ljava/lang/String;"), (0, .methodref 39 40), (0, .class_ 41), (0, .nameAndType 42 43), (0, u "com/example/latchwork/latchwork/core/LockNames"), (0, u "check"), (0, u "(Ljava/lang/String;)Ljava/lang/String;"), (3, u "law"), (0, u "(IIIII)Z")] 4

def k1m0 : Method := { name := "<init>", desc := "()V", sig := { parameters := [], returnType := none }, accessFlags := 2, code := none }
def k1c1 : Code := { maxStack := 3, maxLocals := 3, code := method_2_code, exceptionTable := #[], attributes := #[] }
def k1m1 : Method := { name := "draw", desc := "(I)C", sig := { parameters := [.int], returnType := some .char }, accessFlags := 10, code := some k1c1 }
def k1c2 : Code := { maxStack := 2, maxLocals := 1, code := method_3_code, exceptionTable := #[], attributes := #[] }
def k1m2 : Method := { name := "high", desc := "(C)Z", sig := { parameters := [.char], returnType := some .boolean }, accessFlags := 10, code := some k1c2 }
def k1c3 : Code := { maxStack := 2, maxLocals := 1, code := method_4_code, exceptionTable := #[], attributes := #[] }
def k1m3 : Method := { name := "low", desc := "(C)Z", sig := { parameters := [.char], returnType := some .boolean }, accessFlags := 10, code := some k1c3 }
def k1c4 : Code := { maxStack := 3, maxLocals := 3, code := method_5_code, exceptionTable := #[], attributes := #[] }
def k1m4 : Method := { name := "bad", desc := "([CII)Z", sig := { parameters := [(.array .char), .int, .int], returnType := some .boolean }, accessFlags := 10, code := some k1c4 }
def k1c5 : Code := { maxStack := 7, maxLocals := 2, code := method_6_code, exceptionTable := #[], attributes := #[] }
def k1m5 : Method := { name := "make", desc := "([CI)Ljava/lang/String;", sig := { parameters := [(.array .char), .int], returnType := some (.object "java/lang/String") }, accessFlags := 10, code := some k1c5 }
def k1c6 : Code := { maxStack := 4, maxLocals := 11, code := code, exceptionTable := #[], attributes := #[] }
def k1m6 : Method := { name := "law", desc := "(IIIII)Z", sig := { parameters := [.int, .int, .int, .int, .int], returnType := some .boolean }, accessFlags := 9, code := some k1c6 }
/-- com/example/latchwork/latchwork/core/LockNamesCheckPinLaw -/
def k1 : Class := { plain "com/example/latchwork/latchwork/core/LockNamesCheckPinLaw" (some 0) with
  accessFlags := 49
  interfaces := #[]
  cf := some (fileOf pool1 13 #[] #[{ accessFlags := 2, nameIndex := 5, descriptorIndex := 6, attributes := #[] }, { accessFlags := 10, nameIndex := 28, descriptorIndex := 29, attributes := #[] }, { accessFlags := 10, nameIndex := 16, descriptorIndex := 17, attributes := #[] }, { accessFlags := 10, nameIndex := 20, descriptorIndex := 17, attributes := #[] }, { accessFlags := 10, nameIndex := 32, descriptorIndex := 33, attributes := #[] }, { accessFlags := 10, nameIndex := 36, descriptorIndex := 37, attributes := #[] }, { accessFlags := 9, nameIndex := 47, descriptorIndex := 48, attributes := #[] }] 49 2 #[] #[])
  fields := #[]
  methods := #[k1m0, k1m1, k1m2, k1m3, k1m4, k1m5, k1m6]
  instanceTypes := #[]
  staticTypes := #[]
  resolved := Array.replicate 53 none
  statics := none }

def pool2 : Array CpInfo := pool [(1, .class_ 2), (0, u "java/io/Serializable"), (0, .class_ 4), (0, u "java/lang/Object")] 2

/-- java/io/Serializable -/
def k2 : Class := { plain "java/io/Serializable" (some 0) with
  accessFlags := 1537
  interfaces := #[]
  cf := some (fileOf pool2 1 #[] #[] 1537 3 #[] #[])
  fields := #[]
  methods := #[]
  instanceTypes := #[]
  staticTypes := #[]
  resolved := Array.replicate 7 none
  statics := none }

def pool3 : Array CpInfo := pool [(1, .class_ 2), (0, u "java/lang/Comparable"), (0, .class_ 4), (0, u "java/lang/Object")] 7

/-- java/lang/Comparable -/
def k3 : Class := { plain "java/lang/Comparable" (some 0) with
  accessFlags := 1537
  interfaces := #[]
  cf := some (fileOf pool3 1 #[] #[] 1537 3 #[] #[])
  fields := #[]
  methods := #[]
  instanceTypes := #[]
  staticTypes := #[]
  resolved := Array.replicate 12 none
  statics := none }

def pool4 : Array CpInfo := pool [(2, .class_ 4), (1, u "java/lang/CharSequence"), (42, .class_ 48), (0, u "java/lang/CharSequence$1CodePointIterator"), (10, .class_ 60), (0, u "java/lang/CharSequence$1CharIterator"), (5, .class_ 67), (0, u "java/lang/Object")] 63

/-- java/lang/CharSequence -/
def k4 : Class := { plain "java/lang/CharSequence" (some 0) with
  accessFlags := 1537
  interfaces := #[]
  cf := some (fileOf pool4 2 #[.nestMembers #[47, 59]] #[] 1537 66 #[] #[])
  fields := #[]
  methods := #[]
  instanceTypes := #[]
  staticTypes := #[]
  resolved := Array.replicate 131 none
  statics := none }

def pool5 : Array CpInfo := pool [(1, .class_ 2), (0, u "java/lang/constant/Constable"), (0, .class_ 4), (0, u "java/lang/Object")] 6

/-- java/lang/constant/Constable -/
def k5 : Class := { plain "java/lang/constant/Constable" (some 0) with
  accessFlags := 1537
  interfaces := #[]
  cf := some (fileOf pool5 1 #[] #[] 1537 3 #[] #[])
  fields := #[]
  methods := #[]
  instanceTypes := #[]
  staticTypes := #[]
  resolved := Array.replicate 11 none
  statics := none }

def pool6 : Array CpInfo := pool [(1, .class_ 2), (0, u "java/lang/constant/ConstantDesc"), (0, .class_ 4), (0, u "java/lang/Object")] 32

/-- java/lang/constant/ConstantDesc -/
def k6 : Class := { plain "java/lang/constant/ConstantDesc" (some 0) with
  accessFlags := 1537
  interfaces := #[]
  cf := some (fileOf pool6 1 #[] #[] 1537 3 #[] #[])
  fields := #[]
  methods := #[]
  instanceTypes := #[]
  staticTypes := #[]
  resolved := Array.replicate 37 none
  statics := none }

def pool7 : Array CpInfo := pool [(1, .methodref 2 3), (0, .class_ 4), (0, .nameAndType 5 6), (0, u "java/lang/Object"), (0, u "<init>"), (0, u "()V"), (0, .string 8), (0, u ""), (0, .fieldref 10 11), (0, .class_ 12), (0, .nameAndType 13 14), (0, u "java/lang/String"), (0, u "value"), (0, u "[B"), (0, .fieldref 10 16), (0, .nameAndType 17 18), (0, u "coder"), (0, u "B"), (2, u "hash"), (0, u "I"), (2, u "hashIsZero"), (0, u "Z"), (0, .methodref 10 28), (0, .nameAndType 5 29), (0, u "([CIILjava/lang/Void;)V"), (8, .fieldref 10 39), (0, .nameAndType 40 26), (0, u "COMPACT_STRINGS"), (1, .class_ 44), (1, u "java/lang/StringUTF16"), (0, u "compress"), (1, .methodref 42 48), (0, .nameAndType 49 50), (0, u "coderFromArrayLen"), (0, u "([BI)B"), (46, u "([BII)I"), (44, u "()Z"), (34, .methodref 42 178), (0, .nameAndType 45 179), (0, u "([CII)[B"), (154, u "()I"), (0, .methodref 10 336), (0, .nameAndType 17 337), (0, u "()B"), (53, u "(II)V"), (100, .methodref 10 493), (0, .nameAndType 494 142), (0, u "isLatin1"), (4, .methodref 10 500), (0, .nameAndType 501 391), (0, u "checkIndex"), (0, .methodref 42 503), (0, .nameAndType 504 97), (0, u "codePointAt"), (2, u "length"), (67, .class_ 576), (0, u "java/lang/CharSequence"), (22, u "CASE_INSENSITIVE_ORDER"), (0, u "Ljava/util/Comparator;"), (164, u "(I)I"), (244, u "([C)V"), (42, .fieldref 1054 1055), (0, .class_ 1056), (0, .nameAndType 1057 1058), (0, u "jdk/internal/util/Preconditions"), (0, u "SIOOBE_FORMATTER"), (0, u "Ljava/util/function/BiFunction;"), (0, .methodref 1054 1060), (0, .nameAndType 501 1061), (0, u "(IILjava/util/function/BiFunction;)I"), (39, u "serialPersistentFields"), (0, u "[Ljava/io/ObjectStreamField;"), (0, .class_ 1104), (0, u "java/lang/String$CaseInsensitiveComparator"), (1, .class_ 1107), (0, u "java/io/Serializable"), (0, .class_ 1109), (0, u "java/lang/Comparable"), (0, .class_ 1111), (0, u "java/lang/constant/Constable"), (0, .class_ 1113), (0, u "java/lang/constant/ConstantDesc"), (2, u "serialVersionUID"), (0, u "J"), (3, u "REPL"), (0, u "C"), (2, u "LATIN1"), (1, u "UTF16")] 323

def k7m0 : Method := { name := "<init>", desc := "()V", sig := { parameters := [], returnType := none }, accessFlags := 1, code := none }
def k7c1 : Code := { maxStack := 5, maxLocals := 2, code := jdk_42_method_3_code, exceptionTable := #[], attributes := #[] }
def k7m1 : Method := { name := "<init>", desc := "([C)V", sig := { parameters := [(.array .char)], returnType := none }, accessFlags := 1, code := some k7c1 }
def k7c2 : Code := { maxStack := 2, maxLocals := 1, code := jdk_42_method_54_code, exceptionTable := #[], attributes := #[] }
def k7m2 : Method := { name := "length", desc := "()I", sig := { parameters := [], returnType := some .int }, accessFlags := 1, code := some k7c2 }
def k7c3 : Code := { maxStack := 3, maxLocals := 3, code := jdk_42_method_57_code, exceptionTable := #[], attributes := #[] }
def k7m3 : Method := { name := "codePointAt", desc := "(I)I", sig := { parameters := [.int], returnType := some .int }, accessFlags := 1, code := some k7c3 }
def k7c4 : Code := { maxStack := 4, maxLocals := 6, code := jdk_42_method_149_code, exceptionTable := #[], attributes := #[] }
def k7m4 : Method := { name := "<init>", desc := "([CIILjava/lang/Void;)V", sig := { parameters := [(.array .char), .int, .int, (.object "java/lang/Void")], returnType := none }, accessFlags := 2, code := some k7c4 }
def k7c5 : Code := { maxStack := 1, maxLocals := 1, code := jdk_42_method_152_code, exceptionTable := #[], attributes := #[] }
def k7m5 : Method := { name := "coder", desc := "()B", sig := { parameters := [], returnType := some .byte }, accessFlags := 0, code := some k7c5 }
def k7c6 : Code := { maxStack := 1, maxLocals := 1, code := jdk_42_method_154_code, exceptionTable := #[], attributes := #[] }
def k7m6 : Method := { name := "isLatin1", desc := "()Z", sig := { parameters := [], returnType := some .boolean }, accessFlags := 0, code := some k7c6 }
def k7c7 : Code := { maxStack := 3, maxLocals := 2, code := jdk_42_method_155_code, exceptionTable := #[], attributes := #[] }
def k7m7 : Method := { name := "checkIndex", desc := "(II)V", sig := { parameters := [.int, .int], returnType := none }, accessFlags := 8, code := some k7c7 }
/-- java/lang/String -/
def k7 : Class := { plain "java/lang/String" (some 0) with
  accessFlags := 49
  interfaces := #[2, 3, 4, 5, 6]
  cf := some (fileOf pool7 10 #[.nestMembers #[1103]] #[{ accessFlags := 1, nameIndex := 5, descriptorIndex := 6, attributes := #[] }, { accessFlags := 1, nameIndex := 5, descriptorIndex := 1010, attributes := #[] }, { accessFlags := 1, nameIndex := 507, descriptorIndex := 334, attributes := #[] }, { accessFlags := 1, nameIndex := 504, descriptorIndex := 765, attributes := #[] }, { accessFlags := 2, nameIndex := 5, descriptorIndex := 29, attributes := #[] }, { accessFlags := 0, nameIndex := 17, descriptorIndex := 337, attributes := #[] }, { accessFlags := 0, nameIndex := 494, descriptorIndex := 142, attributes := #[] }, { accessFlags := 8, nameIndex := 501, descriptorIndex := 391, attributes := #[] }] 49 2 #[1106, 1108, 575, 1110, 1112] #[{ accessFlags := 18, nameIndex := 13, descriptorIndex := 14, attributes := #[] }, { accessFlags := 18, nameIndex := 17, descriptorIndex := 18, attributes := #[] }, { accessFlags := 2, nameIndex := 21, descriptorIndex := 22, attributes := #[] }, { accessFlags := 2, nameIndex := 25, descriptorIndex := 26, attributes := #[] }, { accessFlags := 26, nameIndex := 1116, descriptorIndex := 1117, attributes := #[] }, { accessFlags := 24, nameIndex := 40, descriptorIndex := 26, attributes := #[] }, { accessFlags := 26, nameIndex := 1101, descriptorIndex := 1102, attributes := #[] }, { accessFlags := 26, nameIndex := 1121, descriptorIndex := 1122, attributes := #[] }, { accessFlags := 25, nameIndex := 599, descriptorIndex := 600, attributes := #[] }, { accessFlags := 24, nameIndex := 1125, descriptorIndex := 18, attributes := #[] }, { accessFlags := 24, nameIndex := 1127, descriptorIndex := 18, attributes := #[] }])
  fields := #[{ name := "value", type := (.array .byte), accessFlags := 18, slot := 0, constantValue := 0 }, { name := "coder", type := .byte, accessFlags := 18, slot := 1, constantValue := 0 }, { name := "hash", type := .int, accessFlags := 2, slot := 2, constantValue := 0 }, { name := "hashIsZero", type := .boolean, accessFlags := 2, slot := 3, constantValue := 0 }, { name := "serialVersionUID", type := .long, accessFlags := 26, slot := 0, constantValue := 0 }, { name := "COMPACT_STRINGS", type := .boolean, accessFlags := 24, slot := 1, constantValue := 0 }, { name := "serialPersistentFields", type := (.array (.object "java/io/ObjectStreamField")), accessFlags := 26, slot := 2, constantValue := 0 }, { name := "REPL", type := .char, accessFlags := 26, slot := 3, constantValue := 0 }, { name := "CASE_INSENSITIVE_ORDER", type := (.object "java/util/Comparator"), accessFlags := 25, slot := 4, constantValue := 0 }, { name := "LATIN1", type := .byte, accessFlags := 24, slot := 5, constantValue := 0 }, { name := "UTF16", type := .byte, accessFlags := 24, slot := 6, constantValue := 0 }]
  methods := #[k7m0, k7m1, k7m2, k7m3, k7m4, k7m5, k7m6, k7m7]
  instanceTypes := #[(.array .byte), .byte, .int, .boolean]
  staticTypes := #[.long, .boolean, (.array (.object "java/io/ObjectStreamField")), .char, (.object "java/util/Comparator"), .byte, .byte]
  resolved := Array.replicate 1451 none
  statics := some 0 }

def pool8 : Array CpInfo := pool [(2, .class_ 4), (1, u "java/lang/Object"), (0, u "<init>"), (0, u "()V"), (0, .string 8), (0, u "name"), (0, .methodref 10 11), (0, .class_ 12), (0, .nameAndType 13 14), (0, u "java/util/Objects"), (0, u "requireNonNull"), (0, u "(Ljava/lang/Object;Ljava/lang/String;)Ljava/lang/Object;"), (0, .methodref 16 17), (0, .class_ 18), (0, .nameAndType 19 20), (0, u "java/lang/String"), (0, u "length"), (0, u "()I"), (0, .class_ 22), (0, u "com/example/latchwork/latchwork/core/LockNames"), (5, u "(Ljava/lang/String;)Ljava/lang/String;"), (7, .methodref 16 37), (0, .nameAndType 38 39), (0, u "codePointAt"), (0, u "(I)I"), (0, .methodref 21 41), (0, .nameAndType 42 43), (0, u "isLoneSurrogate"), (0, u "(I)Z"), (1, .methodref 46 47), (0, .class_ 48), (0, .nameAndType 49 39), (0, u "java/lang/Character"), (0, u "charCount"), (36, .integer 55296), (0, .integer 57343), (0, u "LONGEST"), (0, u "I"), (2, u "SHOWN"), (3, u "check")] 20

def k8m0 : Method := { name := "<init>", desc := "()V", sig := { parameters := [], returnType := none }, accessFlags := 2, code := none }
def k8c1 : Code := { maxStack := 4, maxLocals := 3, code := prog_6_method_2_code, exceptionTable := #[], attributes := #[] }
def k8m1 : Method := { name := "check", desc := "(Ljava/lang/String;)Ljava/lang/String;", sig := { parameters := [(.object "java/lang/String")], returnType := some (.object "java/lang/String") }, accessFlags := 8, code := some k8c1 }
def k8c2 : Code := { maxStack := 2, maxLocals := 1, code := prog_6_method_4_code, exceptionTable := #[], attributes := #[] }
def k8m2 : Method := { name := "isLoneSurrogate", desc := "(I)Z", sig := { parameters := [.int], returnType := some .boolean }, accessFlags := 10, code := some k8c2 }
/-- com/example/latchwork/latchwork/core/LockNames -/
def k8 : Class := { plain "com/example/latchwork/latchwork/core/LockNames" (some 0) with
  accessFlags := 49
  interfaces := #[]
  cf := some (fileOf pool8 21 #[] #[{ accessFlags := 2, nameIndex := 5, descriptorIndex := 6, attributes := #[] }, { accessFlags := 8, nameIndex := 96, descriptorIndex := 28, attributes := #[] }, { accessFlags := 10, nameIndex := 42, descriptorIndex := 43, attributes := #[] }] 49 2 #[] #[{ accessFlags := 24, nameIndex := 88, descriptorIndex := 89, attributes := #[] }, { accessFlags := 26, nameIndex := 92, descriptorIndex := 89, attributes := #[] }])
  fields := #[{ name := "LONGEST", type := .int, accessFlags := 24, slot := 0, constantValue := 0 }, { name := "SHOWN", type := .int, accessFlags := 26, slot := 1, constantValue := 0 }]
  methods := #[k8m0, k8m1, k8m2]
  instanceTypes := #[]
  staticTypes := #[.int, .int]
  resolved := Array.replicate 117 none
  statics := none }

def pool9 : Array CpInfo := pool [(2, .class_ 4), (1, u "java/lang/Object"), (0, u "<init>"), (0, u "()V"), (35, .class_ 44), (1, u "java/util/Objects"), (0, u "requireNonNull"), (48, u "(Ljava/lang/Object;Ljava/lang/String;)Ljava/lang/Object;")] 89

def k9m0 : Method := { name := "<init>", desc := "()V", sig := { parameters := [], returnType := none }, accessFlags := 2, code := none }
def k9c1 : Code := { maxStack := 3, maxLocals := 2, code := jdk_31_method_11_code, exceptionTable := #[], attributes := #[] }
def k9m1 : Method := { name := "requireNonNull", desc := "(Ljava/lang/Object;Ljava/lang/String;)Ljava/lang/Object;", sig := { parameters := [(.object "java/lang/Object"), (.object "java/lang/String")], returnType := some (.object "java/lang/Object") }, accessFlags := 9, code := some k9c1 }
/-- java/util/Objects -/
def k9 : Class := { plain "java/util/Objects" (some 0) with
  accessFlags := 49
  interfaces := #[]
  cf := some (fileOf pool9 42 #[] #[{ accessFlags := 2, nameIndex := 5, descriptorIndex := 6, attributes := #[] }, { accessFlags := 9, nameIndex := 45, descriptorIndex := 94, attributes := #[] }] 49 2 #[] #[])
  fields := #[]
  methods := #[k9m0, k9m1]
  instanceTypes := #[]
  staticTypes := #[]
  resolved := Array.replicate 184 none
  statics := none }

def pool10 : Array CpInfo := pool [(6, .class_ 8), (1, u "java/lang/Object"), (0, u "<init>"), (0, u "()V"), (0, .methodref 12 13), (0, .class_ 14), (0, .nameAndType 15 16), (0, u "java/lang/StringUTF16"), (0, u "newBytesLength"), (0, u "(I)I"), (3, .integer 1073741823), (23, .fieldref 12 45), (0, .nameAndType 46 47), (0, u "$assertionsDisabled"), (0, u "Z"), (11, .fieldref 12 60), (0, .nameAndType 61 62), (0, u "HI_BYTE_SHIFT"), (0, u "I"), (0, .fieldref 12 64), (0, .nameAndType 65 62), (0, u "LO_BYTE_SHIFT"), (5, .methodref 12 72), (0, .nameAndType 73 74), (0, u "getChar"), (0, u "([BI)C"), (0, .methodref 76 77), (0, .class_ 78), (0, .nameAndType 79 80), (0, u "java/lang/Character"), (0, u "isHighSurrogate"), (0, u "(C)Z"), (0, .methodref 76 82), (0, .nameAndType 83 80), (0, u "isLowSurrogate"), (0, .methodref 76 85), (0, .nameAndType 86 87), (0, u "toCodePoint"), (0, u "(CC)I"), (0, .methodref 12 89), (0, .nameAndType 90 91), (0, u "codePointAt"), (0, u "([BIIZ)I"), (15, .methodref 12 108), (0, .nameAndType 109 110), (0, u "newBytesFor"), (0, u "(I)[B"), (0, .methodref 12 112), (0, .nameAndType 113 114), (0, u "putChar"), (0, u "([BII)V"), (0, .methodref 12 116), (0, .nameAndType 117 118), (0, u "compress"), (0, u "([CI[BII)I"), (0, .methodref 12 120), (0, .nameAndType 121 122), (0, u "toBytes"), (0, u "([CII)[B"), (127, u "([BII)I"), (10, u "coderFromArrayLen"), (0, u "([BI)B"), (106, .class_ 371), (1, u "java/lang/StringUTF16$LinesSpliterator"), (58, u "MAX_LENGTH"), (196, .class_ 628), (0, u "java/lang/StringUTF16$CodePointsSpliterator"), (0, .class_ 630), (0, u "java/lang/StringUTF16$CharsSpliterator")] 4

def k10m0 : Method := { name := "<init>", desc := "()V", sig := { parameters := [], returnType := none }, accessFlags := 0, code := none }
def k10c1 : Code := { maxStack := 1, maxLocals := 1, code := jdk_52_method_2_code, exceptionTable := #[], attributes := #[] }
def k10m1 : Method := { name := "newBytesFor", desc := "(I)[B", sig := { parameters := [.int], returnType := some (.array .byte) }, accessFlags := 9, code := some k10c1 }
def k10c2 : Code := { maxStack := 4, maxLocals := 1, code := jdk_52_method_3_code, exceptionTable := #[], attributes := #[] }
def k10m2 : Method := { name := "newBytesLength", desc := "(I)I", sig := { parameters := [.int], returnType := some .int }, accessFlags := 9, code := some k10c2 }
def k10c3 : Code := { maxStack := 4, maxLocals := 3, code := jdk_52_method_4_code, exceptionTable := #[], attributes := #[] }
def k10m3 : Method := { name := "putChar", desc := "([BII)V", sig := { parameters := [(.array .byte), .int, .int], returnType := none }, accessFlags := 8, code := some k10c3 }
def k10c4 : Code := { maxStack := 3, maxLocals := 2, code := jdk_52_method_5_code, exceptionTable := #[], attributes := #[] }
def k10m4 : Method := { name := "getChar", desc := "([BI)C", sig := { parameters := [(.array .byte), .int], returnType := some .char }, accessFlags := 8, code := some k10c4 }
def k10c5 : Code := { maxStack := 2, maxLocals := 6, code := jdk_52_method_7_code, exceptionTable := #[], attributes := #[] }
def k10m5 : Method := { name := "codePointAt", desc := "([BIIZ)I", sig := { parameters := [(.array .byte), .int, .int, .boolean], returnType := some .int }, accessFlags := 10, code := some k10c5 }
def k10c6 : Code := { maxStack := 4, maxLocals := 3, code := jdk_52_method_8_code, exceptionTable := #[], attributes := #[] }
def k10m6 : Method := { name := "codePointAt", desc := "([BII)I", sig := { parameters := [(.array .byte), .int, .int], returnType := some .int }, accessFlags := 9, code := some k10c6 }
def k10c7 : Code := { maxStack := 4, maxLocals := 5, code := jdk_52_method_14_code, exceptionTable := #[], attributes := #[] }
def k10m7 : Method := { name := "toBytes", desc := "([CII)[B", sig := { parameters := [(.array .char), .int, .int], returnType := some (.array .byte) }, accessFlags := 9, code := some k10c7 }
def k10c8 : Code := { maxStack := 2, maxLocals := 2, code := jdk_52_method_15_code, exceptionTable := #[], attributes := #[] }
def k10m8 : Method := { name := "coderFromArrayLen", desc := "([BI)B", sig := { parameters := [(.array .byte), .int], returnType := some .byte }, accessFlags := 8, code := some k10c8 }
def k10c9 : Code := { maxStack := 5, maxLocals := 6, code := jdk_52_method_16_code, exceptionTable := #[], attributes := #[] }
def k10m9 : Method := { name := "compress", desc := "([CII)[B", sig := { parameters := [(.array .char), .int, .int], returnType := some (.array .byte) }, accessFlags := 9, code := some k10c9 }
def k10c10 : Code := { maxStack := 3, maxLocals := 7, code := jdk_52_method_21_code, exceptionTable := #[], attributes := #[] }
def k10m10 : Method := { name := "compress", desc := "([CI[BII)I", sig := { parameters := [(.array .char), .int, (.array .byte), .int, .int], returnType := some .int }, accessFlags := 9, code := some k10c10 }
/-- java/lang/StringUTF16 -/
def k10 : Class := { plain "java/lang/StringUTF16" (some 0) with
  accessFlags := 48
  interfaces := #[]
  cf := some (fileOf pool10 12 #[.nestMembers #[627, 629, 369]] #[{ accessFlags := 0, nameIndex := 9, descriptorIndex := 10, attributes := #[] }, { accessFlags := 9, nameIndex := 109, descriptorIndex := 110, attributes := #[] }, { accessFlags := 9, nameIndex := 15, descriptorIndex := 16, attributes := #[] }, { accessFlags := 8, nameIndex := 113, descriptorIndex := 114, attributes := #[] }, { accessFlags := 8, nameIndex := 73, descriptorIndex := 74, attributes := #[] }, { accessFlags := 10, nameIndex := 90, descriptorIndex := 91, attributes := #[] }, { accessFlags := 9, nameIndex := 90, descriptorIndex := 250, attributes := #[] }, { accessFlags := 9, nameIndex := 121, descriptorIndex := 122, attributes := #[] }, { accessFlags := 8, nameIndex := 261, descriptorIndex := 262, attributes := #[] }, { accessFlags := 9, nameIndex := 117, descriptorIndex := 122, attributes := #[] }, { accessFlags := 9, nameIndex := 117, descriptorIndex := 118, attributes := #[] }] 48 6 #[] #[{ accessFlags := 26, nameIndex := 61, descriptorIndex := 62, attributes := #[] }, { accessFlags := 26, nameIndex := 65, descriptorIndex := 62, attributes := #[] }, { accessFlags := 24, nameIndex := 430, descriptorIndex := 62, attributes := #[] }, { accessFlags := 4120, nameIndex := 46, descriptorIndex := 47, attributes := #[] }])
  fields := #[{ name := "HI_BYTE_SHIFT", type := .int, accessFlags := 26, slot := 0, constantValue := 0 }, { name := "LO_BYTE_SHIFT", type := .int, accessFlags := 26, slot := 1, constantValue := 0 }, { name := "MAX_LENGTH", type := .int, accessFlags := 24, slot := 2, constantValue := 0 }, { name := "$assertionsDisabled", type := .boolean, accessFlags := 4120, slot := 3, constantValue := 0 }]
  methods := #[k10m0, k10m1, k10m2, k10m3, k10m4, k10m5, k10m6, k10m7, k10m8, k10m9, k10m10]
  instanceTypes := #[]
  staticTypes := #[.int, .int, .int, .boolean]
  resolved := Array.replicate 635 none
  statics := some 1 }

def pool11 : Array CpInfo := pool [(2, .class_ 4), (1, u "java/lang/Object"), (0, u "<init>"), (0, u "()V"), (17, .class_ 26), (1, u "jdk/internal/util/Preconditions"), (6, u "checkIndex"), (21, .class_ 56), (0, u "jdk/internal/util/Preconditions$4"), (57, .class_ 115), (0, u "jdk/internal/util/Preconditions$1"), (7, u "SIOOBE_FORMATTER"), (0, u "Ljava/util/function/BiFunction;"), (0, .class_ 126), (0, u "jdk/internal/util/Preconditions$2"), (3, u "AIOOBE_FORMATTER"), (0, .class_ 132), (0, u "jdk/internal/util/Preconditions$3"), (3, u "IOOBE_FORMATTER"), (41, u "(IILjava/util/function/BiFunction;)I")] 15

def k11m0 : Method := { name := "<init>", desc := "()V", sig := { parameters := [], returnType := none }, accessFlags := 1, code := none }
def k11c1 : Code := { maxStack := 3, maxLocals := 3, code := jdk_41_method_11_code, exceptionTable := #[], attributes := #[] }
def k11m1 : Method := { name := "checkIndex", desc := "(IILjava/util/function/BiFunction;)I", sig := { parameters := [.int, .int, (.object "java/util/function/BiFunction")], returnType := some .int }, accessFlags := 9, code := some k11c1 }
/-- jdk/internal/util/Preconditions -/
def k11 : Class := { plain "jdk/internal/util/Preconditions" (some 0) with
  accessFlags := 33
  interfaces := #[]
  cf := some (fileOf pool11 24 #[.nestMembers #[55, 131, 125, 114]] #[{ accessFlags := 1, nameIndex := 5, descriptorIndex := 6, attributes := #[] }, { accessFlags := 9, nameIndex := 33, descriptorIndex := 178, attributes := #[] }] 33 2 #[] #[{ accessFlags := 25, nameIndex := 123, descriptorIndex := 124, attributes := #[] }, { accessFlags := 25, nameIndex := 130, descriptorIndex := 124, attributes := #[] }, { accessFlags := 25, nameIndex := 136, descriptorIndex := 124, attributes := #[] }])
  fields := #[{ name := "SIOOBE_FORMATTER", type := (.object "java/util/function/BiFunction"), accessFlags := 25, slot := 0, constantValue := 0 }, { name := "AIOOBE_FORMATTER", type := (.object "java/util/function/BiFunction"), accessFlags := 25, slot := 1, constantValue := 0 }, { name := "IOOBE_FORMATTER", type := (.object "java/util/function/BiFunction"), accessFlags := 25, slot := 2, constantValue := 0 }]
  methods := #[k11m0, k11m1]
  instanceTypes := #[]
  staticTypes := #[(.object "java/util/function/BiFunction"), (.object "java/util/function/BiFunction"), (.object "java/util/function/BiFunction")]
  resolved := Array.replicate 194 none
  statics := some 2 }

def pool12 : Array CpInfo := pool [(1, .class_ 2), (0, u "java/lang/Character"), (18, u "value"), (0, u "C"), (19, .class_ 44), (1, u "java/lang/Object"), (3, .class_ 50), (1, u "java/lang/Character$CharacterCache"), (22, .integer 65536), (1, .integer 55296), (0, .integer 56320), (0, .integer 57344), (2, u "isHighSurrogate"), (0, u "(C)Z"), (2, u "isLowSurrogate"), (0, .integer 4238353408), (12, u "toCodePoint"), (0, u "(CC)I"), (74, u "(I)I"), (109, u "$assertionsDisabled"), (0, u "Z"), (21, .class_ 309), (1, u "java/lang/Character$UnicodeBlock"), (73, u "TYPE"), (0, u "Ljava/lang/Class;"), (0, .class_ 386), (0, u "java/io/Serializable"), (0, .class_ 388), (0, u "java/lang/Comparable"), (0, .class_ 390), (0, u "java/lang/constant/Constable"), (0, u "MIN_RADIX"), (0, u "I"), (2, u "MAX_RADIX"), (1, u "MIN_VALUE"), (1, u "MAX_VALUE"), (3, u "UNASSIGNED"), (0, u "B"), (0, u "UPPERCASE_LETTER"), (1, u "LOWERCASE_LETTER"), (0, u "TITLECASE_LETTER"), (1, u "MODIFIER_LETTER"), (1, u "OTHER_LETTER"), (1, u "NON_SPACING_MARK"), (1, u "ENCLOSING_MARK"), (1, u "COMBINING_SPACING_MARK"), (1, u "DECIMAL_DIGIT_NUMBER"), (1, u "LETTER_NUMBER"), (1, u "OTHER_NUMBER"), (1, u "SPACE_SEPARATOR"), (1, u "LINE_SEPARATOR"), (1, u "PARAGRAPH_SEPARATOR"), (1, u "CONTROL"), (1, u "FORMAT"), (1, u "PRIVATE_USE"), (1, u "SURROGATE"), (1, u "DASH_PUNCTUATION"), (1, u "START_PUNCTUATION"), (1, u "END_PUNCTUATION"), (1, u "CONNECTOR_PUNCTUATION"), (1, u "OTHER_PUNCTUATION"), (1, u "MATH_SYMBOL"), (1, u "CURRENCY_SYMBOL"), (1, u "MODIFIER_SYMBOL"), (1, u "OTHER_SYMBOL"), (1, u "INITIAL_QUOTE_PUNCTUATION"), (1, u "FINAL_QUOTE_PUNCTUATION"), (1, u "ERROR"), (1, u "DIRECTIONALITY_UNDEFINED"), (0, u "DIRECTIONALITY_LEFT_TO_RIGHT"), (0, u "DIRECTIONALITY_RIGHT_TO_LEFT"), (0, u "DIRECTIONALITY_RIGHT_TO_LEFT_ARABIC"), (0, u "DIRECTIONALITY_EUROPEAN_NUMBER"), (0, u "DIRECTIONALITY_EUROPEAN_NUMBER_SEPARATOR"), (0, u "DIRECTIONALITY_EUROPEAN_NUMBER_TERMINATOR"), (0, u "DIRECTIONALITY_ARABIC_NUMBER"), (0, u "DIRECTIONALITY_COMMON_NUMBER_SEPARATOR"), (0, u "DIRECTIONALITY_NONSPACING_MARK"), (0, u "DIRECTIONALITY_BOUNDARY_NEUTRAL"), (0, u "DIRECTIONALITY_PARAGRAPH_SEPARATOR"), (0, u "DIRECTIONALITY_SEGMENT_SEPARATOR"), (0, u "DIRECTIONALITY_WHITESPACE"), (0, u "DIRECTIONALITY_OTHER_NEUTRALS"), (0, u "DIRECTIONALITY_LEFT_TO_RIGHT_EMBEDDING"), (0, u "DIRECTIONALITY_LEFT_TO_RIGHT_OVERRIDE"), (0, u "DIRECTIONALITY_RIGHT_TO_LEFT_EMBEDDING"), (0, u "DIRECTIONALITY_RIGHT_TO_LEFT_OVERRIDE"), (1, u "DIRECTIONALITY_POP_DIRECTIONAL_FORMAT"), (0, u "DIRECTIONALITY_LEFT_TO_RIGHT_ISOLATE"), (0, u "DIRECTIONALITY_RIGHT_TO_LEFT_ISOLATE"), (0, u "DIRECTIONALITY_FIRST_STRONG_ISOLATE"), (0, u "DIRECTIONALITY_POP_DIRECTIONAL_ISOLATE"), (0, u "MIN_HIGH_SURROGATE"), (0, u "MAX_HIGH_SURROGATE"), (1, u "MIN_LOW_SURROGATE"), (0, u "MAX_LOW_SURROGATE"), (1, u "MIN_SURROGATE"), (0, u "MAX_SURROGATE"), (0, u "MIN_SUPPLEMENTARY_CODE_POINT"), (0, u "MIN_CODE_POINT"), (0, u "MAX_CODE_POINT"), (1, u "serialVersionUID"), (0, u "J"), (2, u "SIZE"), (0, u "BYTES"), (29, u "charCount"), (58, .class_ 596), (0, u "java/lang/Character$UnicodeScript"), (0, .class_ 598), (0, u "java/lang/Character$Subset")] 5

def k12c0 : Code := { maxStack := 2, maxLocals := 1, code := jdk_89_method_14_code, exceptionTable := #[], attributes := #[] }
def k12m0 : Method := { name := "isHighSurrogate", desc := "(C)Z", sig := { parameters := [.char], returnType := some .boolean }, accessFlags := 9, code := some k12c0 }
def k12c1 : Code := { maxStack := 2, maxLocals := 1, code := jdk_89_method_15_code, exceptionTable := #[], attributes := #[] }
def k12m1 : Method := { name := "isLowSurrogate", desc := "(C)Z", sig := { parameters := [.char], returnType := some .boolean }, accessFlags := 9, code := some k12c1 }
def k12c2 : Code := { maxStack := 2, maxLocals := 1, code := jdk_89_method_18_code, exceptionTable := #[], attributes := #[] }
def k12m2 : Method := { name := "charCount", desc := "(I)I", sig := { parameters := [.int], returnType := some .int }, accessFlags := 9, code := some k12c2 }
def k12c3 : Code := { maxStack := 2, maxLocals := 2, code := jdk_89_method_19_code, exceptionTable := #[], attributes := #[] }
def k12m3 : Method := { name := "toCodePoint", desc := "(CC)I", sig := { parameters := [.char, .char], returnType := some .int }, accessFlags := 9, code := some k12c3 }
/-- java/lang/Character -/
def k12 : Class := { plain "java/lang/Character" (some 0) with
  accessFlags := 49
  interfaces := #[2, 3, 5]
  cf := some (fileOf pool12 1 #[.nestMembers #[48, 595, 307, 597]] #[{ accessFlags := 9, nameIndex := 80, descriptorIndex := 81, attributes := #[] }, { accessFlags := 9, nameIndex := 84, descriptorIndex := 81, attributes := #[] }, { accessFlags := 9, nameIndex := 536, descriptorIndex := 174, attributes := #[] }, { accessFlags := 9, nameIndex := 98, descriptorIndex := 99, attributes := #[] }] 49 42 #[385, 387, 389] #[{ accessFlags := 25, nameIndex := 391, descriptorIndex := 392, attributes := #[] }, { accessFlags := 25, nameIndex := 395, descriptorIndex := 392, attributes := #[] }, { accessFlags := 25, nameIndex := 397, descriptorIndex := 22, attributes := #[] }, { accessFlags := 25, nameIndex := 399, descriptorIndex := 22, attributes := #[] }, { accessFlags := 25, nameIndex := 383, descriptorIndex := 384, attributes := #[] }, { accessFlags := 25, nameIndex := 403, descriptorIndex := 404, attributes := #[] }, { accessFlags := 25, nameIndex := 405, descriptorIndex := 404, attributes := #[] }, { accessFlags := 25, nameIndex := 407, descriptorIndex := 404, attributes := #[] }, { accessFlags := 25, nameIndex := 408, descriptorIndex := 404, attributes := #[] }, { accessFlags := 25, nameIndex := 410, descriptorIndex := 404, attributes := #[] }, { accessFlags := 25, nameIndex := 412, descriptorIndex := 404, attributes := #[] }, { accessFlags := 25, nameIndex := 414, descriptorIndex := 404, attributes := #[] }, { accessFlags := 25, nameIndex := 416, descriptorIndex := 404, attributes := #[] }, { accessFlags := 25, nameIndex := 418, descriptorIndex := 404, attributes := #[] }, { accessFlags := 25, nameIndex := 420, descriptorIndex := 404, attributes := #[] }, { accessFlags := 25, nameIndex := 422, descriptorIndex := 404, attributes := #[] }, { accessFlags := 25, nameIndex := 424, descriptorIndex := 404, attributes := #[] }, { accessFlags := 25, nameIndex := 426, descriptorIndex := 404, attributes := #[] }, { accessFlags := 25, nameIndex := 428, descriptorIndex := 404, attributes := #[] }, { accessFlags := 25, nameIndex := 430, descriptorIndex := 404, attributes := #[] }, { accessFlags := 25, nameIndex := 432, descriptorIndex := 404, attributes := #[] }, { accessFlags := 25, nameIndex := 434, descriptorIndex := 404, attributes := #[] }, { accessFlags := 25, nameIndex := 436, descriptorIndex := 404, attributes := #[] }, { accessFlags := 25, nameIndex := 438, descriptorIndex := 404, attributes := #[] }, { accessFlags := 25, nameIndex := 440, descriptorIndex := 404, attributes := #[] }, { accessFlags := 25, nameIndex := 442, descriptorIndex := 404, attributes := #[] }, { accessFlags := 25, nameIndex := 444, descriptorIndex := 404, attributes := #[] }, { accessFlags := 25, nameIndex := 446, descriptorIndex := 404, attributes := #[] }, { accessFlags := 25, nameIndex := 448, descriptorIndex := 404, attributes := #[] }, { accessFlags := 25, nameIndex := 450, descriptorIndex := 404, attributes := #[] }, { accessFlags := 25, nameIndex := 452, descriptorIndex := 404, attributes := #[] }, { accessFlags := 25, nameIndex := 454, descriptorIndex := 404, attributes := #[] }, { accessFlags := 25, nameIndex := 456, descriptorIndex := 404, attributes := #[] }, { accessFlags := 25, nameIndex := 458, descriptorIndex := 404, attributes := #[] }, { accessFlags := 25, nameIndex := 460, descriptorIndex := 404, attributes := #[] }, { accessFlags := 24, nameIndex := 462, descriptorIndex := 392, attributes := #[] }, { accessFlags := 25, nameIndex := 464, descriptorIndex := 404, attributes := #[] }, { accessFlags := 25, nameIndex := 465, descriptorIndex := 404, attributes := #[] }, { accessFlags := 25, nameIndex := 466, descriptorIndex := 404, attributes := #[] }, { accessFlags := 25, nameIndex := 467, descriptorIndex := 404, attributes := #[] }, { accessFlags := 25, nameIndex := 468, descriptorIndex := 404, attributes := #[] }, { accessFlags := 25, nameIndex := 469, descriptorIndex := 404, attributes := #[] }, { accessFlags := 25, nameIndex := 470, descriptorIndex := 404, attributes := #[] }, { accessFlags := 25, nameIndex := 471, descriptorIndex := 404, attributes := #[] }, { accessFlags := 25, nameIndex := 472, descriptorIndex := 404, attributes := #[] }, { accessFlags := 25, nameIndex := 473, descriptorIndex := 404, attributes := #[] }, { accessFlags := 25, nameIndex := 474, descriptorIndex := 404, attributes := #[] }, { accessFlags := 25, nameIndex := 475, descriptorIndex := 404, attributes := #[] }, { accessFlags := 25, nameIndex := 476, descriptorIndex := 404, attributes := #[] }, { accessFlags := 25, nameIndex := 477, descriptorIndex := 404, attributes := #[] }, { accessFlags := 25, nameIndex := 478, descriptorIndex := 404, attributes := #[] }, { accessFlags := 25, nameIndex := 479, descriptorIndex := 404, attributes := #[] }, { accessFlags := 25, nameIndex := 480, descriptorIndex := 404, attributes := #[] }, { accessFlags := 25, nameIndex := 481, descriptorIndex := 404, attributes := #[] }, { accessFlags := 25, nameIndex := 482, descriptorIndex := 404, attributes := #[] }, { accessFlags := 25, nameIndex := 484, descriptorIndex := 404, attributes := #[] }, { accessFlags := 25, nameIndex := 485, descriptorIndex := 404, attributes := #[] }, { accessFlags := 25, nameIndex := 486, descriptorIndex := 404, attributes := #[] }, { accessFlags := 25, nameIndex := 487, descriptorIndex := 404, attributes := #[] }, { accessFlags := 25, nameIndex := 488, descriptorIndex := 404, attributes := #[] }, { accessFlags := 25, nameIndex := 489, descriptorIndex := 22, attributes := #[] }, { accessFlags := 25, nameIndex := 490, descriptorIndex := 22, attributes := #[] }, { accessFlags := 25, nameIndex := 492, descriptorIndex := 22, attributes := #[] }, { accessFlags := 25, nameIndex := 493, descriptorIndex := 22, attributes := #[] }, { accessFlags := 25, nameIndex := 495, descriptorIndex := 22, attributes := #[] }, { accessFlags := 25, nameIndex := 496, descriptorIndex := 22, attributes := #[] }, { accessFlags := 25, nameIndex := 497, descriptorIndex := 392, attributes := #[] }, { accessFlags := 25, nameIndex := 498, descriptorIndex := 392, attributes := #[] }, { accessFlags := 25, nameIndex := 499, descriptorIndex := 392, attributes := #[] }, { accessFlags := 18, nameIndex := 21, descriptorIndex := 22, attributes := #[] }, { accessFlags := 26, nameIndex := 501, descriptorIndex := 502, attributes := #[] }, { accessFlags := 25, nameIndex := 505, descriptorIndex := 392, attributes := #[] }, { accessFlags := 25, nameIndex := 506, descriptorIndex := 392, attributes := #[] }, { accessFlags := 4120, nameIndex := 284, descriptorIndex := 285, attributes := #[] }])
  fields := #[{ name := "MIN_RADIX", type := .int, accessFlags := 25, slot := 0, constantValue := 0 }, { name := "MAX_RADIX", type := .int, accessFlags := 25, slot := 1, constantValue := 0 }, { name := "MIN_VALUE", type := .char, accessFlags := 25, slot := 2, constantValue := 0 }, { name := "MAX_VALUE", type := .char, accessFlags := 25, slot := 3, constantValue := 0 }, { name := "TYPE", type := (.object "java/lang/Class"), accessFlags := 25, slot := 4, constantValue := 0 }, { name := "UNASSIGNED", type := .byte, accessFlags := 25, slot := 5, constantValue := 0 }, { name := "UPPERCASE_LETTER", type := .byte, accessFlags := 25, slot := 6, constantValue := 0 }, { name := "LOWERCASE_LETTER", type := .byte, accessFlags := 25, slot := 7, constantValue := 0 }, { name := "TITLECASE_LETTER", type := .byte, accessFlags := 25, slot := 8, constantValue := 0 }, { name := "MODIFIER_LETTER", type := .byte, accessFlags := 25, slot := 9, constantValue := 0 }, { name := "OTHER_LETTER", type := .byte, accessFlags := 25, slot := 10, constantValue := 0 }, { name := "NON_SPACING_MARK", type := .byte, accessFlags := 25, slot := 11, constantValue := 0 }, { name := "ENCLOSING_MARK", type := .byte, accessFlags := 25, slot := 12, constantValue := 0 }, { name := "COMBINING_SPACING_MARK", type := .byte, accessFlags := 25, slot := 13, constantValue := 0 }, { name := "DECIMAL_DIGIT_NUMBER", type := .byte, accessFlags := 25, slot := 14, constantValue := 0 }, { name := "LETTER_NUMBER", type := .byte, accessFlags := 25, slot := 15, constantValue := 0 }, { name := "OTHER_NUMBER", type := .byte, accessFlags := 25, slot := 16, constantValue := 0 }, { name := "SPACE_SEPARATOR", type := .byte, accessFlags := 25, slot := 17, constantValue := 0 }, { name := "LINE_SEPARATOR", type := .byte, accessFlags := 25, slot := 18, constantValue := 0 }, { name := "PARAGRAPH_SEPARATOR", type := .byte, accessFlags := 25, slot := 19, constantValue := 0 }, { name := "CONTROL", type := .byte, accessFlags := 25, slot := 20, constantValue := 0 }, { name := "FORMAT", type := .byte, accessFlags := 25, slot := 21, constantValue := 0 }, { name := "PRIVATE_USE", type := .byte, accessFlags := 25, slot := 22, constantValue := 0 }, { name := "SURROGATE", type := .byte, accessFlags := 25, slot := 23, constantValue := 0 }, { name := "DASH_PUNCTUATION", type := .byte, accessFlags := 25, slot := 24, constantValue := 0 }, { name := "START_PUNCTUATION", type := .byte, accessFlags := 25, slot := 25, constantValue := 0 }, { name := "END_PUNCTUATION", type := .byte, accessFlags := 25, slot := 26, constantValue := 0 }, { name := "CONNECTOR_PUNCTUATION", type := .byte, accessFlags := 25, slot := 27, constantValue := 0 }, { name := "OTHER_PUNCTUATION", type := .byte, accessFlags := 25, slot := 28, constantValue := 0 }, { name := "MATH_SYMBOL", type := .byte, accessFlags := 25, slot := 29, constantValue := 0 }, { name := "CURRENCY_SYMBOL", type := .byte, accessFlags := 25, slot := 30, constantValue := 0 }, { name := "MODIFIER_SYMBOL", type := .byte, accessFlags := 25, slot := 31, constantValue := 0 }, { name := "OTHER_SYMBOL", type := .byte, accessFlags := 25, slot := 32, constantValue := 0 }, { name := "INITIAL_QUOTE_PUNCTUATION", type := .byte, accessFlags := 25, slot := 33, constantValue := 0 }, { name := "FINAL_QUOTE_PUNCTUATION", type := .byte, accessFlags := 25, slot := 34, constantValue := 0 }, { name := "ERROR", type := .int, accessFlags := 24, slot := 35, constantValue := 0 }, { name := "DIRECTIONALITY_UNDEFINED", type := .byte, accessFlags := 25, slot := 36, constantValue := 0 }, { name := "DIRECTIONALITY_LEFT_TO_RIGHT", type := .byte, accessFlags := 25, slot := 37, constantValue := 0 }, { name := "DIRECTIONALITY_RIGHT_TO_LEFT", type := .byte, accessFlags := 25, slot := 38, constantValue := 0 }, { name := "DIRECTIONALITY_RIGHT_TO_LEFT_ARABIC", type := .byte, accessFlags := 25, slot := 39, constantValue := 0 }, { name := "DIRECTIONALITY_EUROPEAN_NUMBER", type := .byte, accessFlags := 25, slot := 40, constantValue := 0 }, { name := "DIRECTIONALITY_EUROPEAN_NUMBER_SEPARATOR", type := .byte, accessFlags := 25, slot := 41, constantValue := 0 }, { name := "DIRECTIONALITY_EUROPEAN_NUMBER_TERMINATOR", type := .byte, accessFlags := 25, slot := 42, constantValue := 0 }, { name := "DIRECTIONALITY_ARABIC_NUMBER", type := .byte, accessFlags := 25, slot := 43, constantValue := 0 }, { name := "DIRECTIONALITY_COMMON_NUMBER_SEPARATOR", type := .byte, accessFlags := 25, slot := 44, constantValue := 0 }, { name := "DIRECTIONALITY_NONSPACING_MARK", type := .byte, accessFlags := 25, slot := 45, constantValue := 0 }, { name := "DIRECTIONALITY_BOUNDARY_NEUTRAL", type := .byte, accessFlags := 25, slot := 46, constantValue := 0 }, { name := "DIRECTIONALITY_PARAGRAPH_SEPARATOR", type := .byte, accessFlags := 25, slot := 47, constantValue := 0 }, { name := "DIRECTIONALITY_SEGMENT_SEPARATOR", type := .byte, accessFlags := 25, slot := 48, constantValue := 0 }, { name := "DIRECTIONALITY_WHITESPACE", type := .byte, accessFlags := 25, slot := 49, constantValue := 0 }, { name := "DIRECTIONALITY_OTHER_NEUTRALS", type := .byte, accessFlags := 25, slot := 50, constantValue := 0 }, { name := "DIRECTIONALITY_LEFT_TO_RIGHT_EMBEDDING", type := .byte, accessFlags := 25, slot := 51, constantValue := 0 }, { name := "DIRECTIONALITY_LEFT_TO_RIGHT_OVERRIDE", type := .byte, accessFlags := 25, slot := 52, constantValue := 0 }, { name := "DIRECTIONALITY_RIGHT_TO_LEFT_EMBEDDING", type := .byte, accessFlags := 25, slot := 53, constantValue := 0 }, { name := "DIRECTIONALITY_RIGHT_TO_LEFT_OVERRIDE", type := .byte, accessFlags := 25, slot := 54, constantValue := 0 }, { name := "DIRECTIONALITY_POP_DIRECTIONAL_FORMAT", type := .byte, accessFlags := 25, slot := 55, constantValue := 0 }, { name := "DIRECTIONALITY_LEFT_TO_RIGHT_ISOLATE", type := .byte, accessFlags := 25, slot := 56, constantValue := 0 }, { name := "DIRECTIONALITY_RIGHT_TO_LEFT_ISOLATE", type := .byte, accessFlags := 25, slot := 57, constantValue := 0 }, { name := "DIRECTIONALITY_FIRST_STRONG_ISOLATE", type := .byte, accessFlags := 25, slot := 58, constantValue := 0 }, { name := "DIRECTIONALITY_POP_DIRECTIONAL_ISOLATE", type := .byte, accessFlags := 25, slot := 59, constantValue := 0 }, { name := "MIN_HIGH_SURROGATE", type := .char, accessFlags := 25, slot := 60, constantValue := 0 }, { name := "MAX_HIGH_SURROGATE", type := .char, accessFlags := 25, slot := 61, constantValue := 0 }, { name := "MIN_LOW_SURROGATE", type := .char, accessFlags := 25, slot := 62, constantValue := 0 }, { name := "MAX_LOW_SURROGATE", type := .char, accessFlags := 25, slot := 63, constantValue := 0 }, { name := "MIN_SURROGATE", type := .char, accessFlags := 25, slot := 64, constantValue := 0 }, { name := "MAX_SURROGATE", type := .char, accessFlags := 25, slot := 65, constantValue := 0 }, { name := "MIN_SUPPLEMENTARY_CODE_POINT", type := .int, accessFlags := 25, slot := 66, constantValue := 0 }, { name := "MIN_CODE_POINT", type := .int, accessFlags := 25, slot := 67, constantValue := 0 }, { name := "MAX_CODE_POINT", type := .int, accessFlags := 25, slot := 68, constantValue := 0 }, { name := "value", type := .char, accessFlags := 18, slot := 0, constantValue := 0 }, { name := "serialVersionUID", type := .long, accessFlags := 26, slot := 69, constantValue := 0 }, { name := "SIZE", type := .int, accessFlags := 25, slot := 70, constantValue := 0 }, { name := "BYTES", type := .int, accessFlags := 25, slot := 71, constantValue := 0 }, { name := "$assertionsDisabled", type := .boolean, accessFlags := 4120, slot := 72, constantValue := 0 }]
  methods := #[k12m0, k12m1, k12m2, k12m3]
  instanceTypes := #[.char]
  staticTypes := #[.int, .int, .char, .char, (.object "java/lang/Class"), .byte, .byte, .byte, .byte, .byte, .byte, .byte, .byte, .byte, .byte, .byte, .byte, .byte, .byte, .byte, .byte, .byte, .byte, .byte, .byte, .byte, .byte, .byte, .byte, .byte, .byte, .byte, .byte, .byte, .byte, .int, .byte, .byte, .byte, .byte, .byte, .byte, .byte, .byte, .byte, .byte, .byte, .byte, .byte, .byte, .byte, .byte, .byte, .byte, .byte, .byte, .byte, .byte, .byte, .byte, .char, .char, .char, .char, .char, .char, .int, .int, .int, .long, .int, .int, .boolean]
  resolved := Array.replicate 604 none
  statics := none }

def pool13 : Array CpInfo := pool [(4, .class_ 6), (1, u "java/lang/Object"), (0, u "<init>"), (0, u "()V"), (5, .class_ 16), (1, u "java/lang/StringLatin1"), (104, u "$assertionsDisabled"), (0, u "Z"), (98, .class_ 223), (1, u "java/lang/StringLatin1$LinesSpliterator"), (166, .class_ 391), (0, u "java/lang/StringLatin1$CharsSpliterator")] 3

def k13m0 : Method := { name := "<init>", desc := "()V", sig := { parameters := [], returnType := none }, accessFlags := 0, code := none }
/-- java/lang/StringLatin1 -/
def k13 : Class := { plain "java/lang/StringLatin1" (some 0) with
  accessFlags := 48
  interfaces := #[]
  cf := some (fileOf pool13 14 #[.nestMembers #[390, 221]] #[{ accessFlags := 0, nameIndex := 7, descriptorIndex := 8, attributes := #[] }] 48 4 #[] #[{ accessFlags := 4120, nameIndex := 121, descriptorIndex := 122, attributes := #[] }])
  fields := #[{ name := "$assertionsDisabled", type := .boolean, accessFlags := 4120, slot := 0, constantValue := 0 }]
  methods := #[k13m0]
  instanceTypes := #[]
  staticTypes := #[.boolean]
  resolved := Array.replicate 395 none
  statics := none }

def pool14 : Array CpInfo := pool [(9, u "<init>"), (6, .class_ 18), (1, u "java/lang/Object"), (0, u "()V"), (1, .class_ 23), (1, u "jdk/internal/util/ArraysSupport"), (0, u "LOG2_ARRAY_LONG_INDEX_SCALE"), (0, u "I"), (2, u "U"), (0, u "Ljdk/internal/misc/Unsafe;"), (8, u "BIG_ENDIAN"), (0, u "Z"), (8, u "LOG2_BYTE_BIT_SIZE"), (4, u "LOG2_ARRAY_INT_INDEX_SCALE"), (54, u "JLA"), (0, u "Ljdk/internal/access/JavaLangAccess;"), (11, u "LOG2_ARRAY_BOOLEAN_INDEX_SCALE"), (9, u "LOG2_ARRAY_BYTE_INDEX_SCALE"), (5, u "LOG2_ARRAY_CHAR_INDEX_SCALE"), (5, u "LOG2_ARRAY_SHORT_INDEX_SCALE"), (18, u "LOG2_ARRAY_FLOAT_INDEX_SCALE"), (24, u "LOG2_ARRAY_DOUBLE_INDEX_SCALE"), (89, u "T_BOOLEAN"), (2, u "T_CHAR"), (1, u "T_FLOAT"), (1, u "T_DOUBLE"), (1, u "T_BYTE"), (1, u "T_SHORT"), (1, u "T_INT"), (1, u "T_LONG"), (1, u "SOFT_MAX_ARRAY_LENGTH")] 83

def k14m0 : Method := { name := "<init>", desc := "()V", sig := { parameters := [], returnType := none }, accessFlags := 2, code := none }
/-- jdk/internal/util/ArraysSupport -/
def k14 : Class := { plain "jdk/internal/util/ArraysSupport" (some 0) with
  accessFlags := 33
  interfaces := #[]
  cf := some (fileOf pool14 21 #[] #[{ accessFlags := 2, nameIndex := 9, descriptorIndex := 19, attributes := #[] }] 33 16 #[] #[{ accessFlags := 24, nameIndex := 28, descriptorIndex := 29, attributes := #[] }, { accessFlags := 26, nameIndex := 38, descriptorIndex := 39, attributes := #[] }, { accessFlags := 25, nameIndex := 121, descriptorIndex := 25, attributes := #[] }, { accessFlags := 25, nameIndex := 131, descriptorIndex := 25, attributes := #[] }, { accessFlags := 25, nameIndex := 137, descriptorIndex := 25, attributes := #[] }, { accessFlags := 25, nameIndex := 143, descriptorIndex := 25, attributes := #[] }, { accessFlags := 25, nameIndex := 53, descriptorIndex := 25, attributes := #[] }, { accessFlags := 25, nameIndex := 24, descriptorIndex := 25, attributes := #[] }, { accessFlags := 25, nameIndex := 162, descriptorIndex := 25, attributes := #[] }, { accessFlags := 25, nameIndex := 187, descriptorIndex := 25, attributes := #[] }, { accessFlags := 26, nameIndex := 48, descriptorIndex := 25, attributes := #[] }, { accessFlags := 25, nameIndex := 277, descriptorIndex := 25, attributes := #[] }, { accessFlags := 25, nameIndex := 280, descriptorIndex := 25, attributes := #[] }, { accessFlags := 25, nameIndex := 282, descriptorIndex := 25, attributes := #[] }, { accessFlags := 25, nameIndex := 284, descriptorIndex := 25, attributes := #[] }, { accessFlags := 25, nameIndex := 286, descriptorIndex := 25, attributes := #[] }, { accessFlags := 25, nameIndex := 288, descriptorIndex := 25, attributes := #[] }, { accessFlags := 25, nameIndex := 290, descriptorIndex := 25, attributes := #[] }, { accessFlags := 25, nameIndex := 292, descriptorIndex := 25, attributes := #[] }, { accessFlags := 26, nameIndex := 108, descriptorIndex := 109, attributes := #[] }, { accessFlags := 25, nameIndex := 294, descriptorIndex := 25, attributes := #[] }])
  fields := #[{ name := "U", type := (.object "jdk/internal/misc/Unsafe"), accessFlags := 24, slot := 0, constantValue := 0 }, { name := "BIG_ENDIAN", type := .boolean, accessFlags := 26, slot := 1, constantValue := 0 }, { name := "LOG2_ARRAY_BOOLEAN_INDEX_SCALE", type := .int, accessFlags := 25, slot := 2, constantValue := 0 }, { name := "LOG2_ARRAY_BYTE_INDEX_SCALE", type := .int, accessFlags := 25, slot := 3, constantValue := 0 }, { name := "LOG2_ARRAY_CHAR_INDEX_SCALE", type := .int, accessFlags := 25, slot := 4, constantValue := 0 }, { name := "LOG2_ARRAY_SHORT_INDEX_SCALE", type := .int, accessFlags := 25, slot := 5, constantValue := 0 }, { name := "LOG2_ARRAY_INT_INDEX_SCALE", type := .int, accessFlags := 25, slot := 6, constantValue := 0 }, { name := "LOG2_ARRAY_LONG_INDEX_SCALE", type := .int, accessFlags := 25, slot := 7, constantValue := 0 }, { name := "LOG2_ARRAY_FLOAT_INDEX_SCALE", type := .int, accessFlags := 25, slot := 8, constantValue := 0 }, { name := "LOG2_ARRAY_DOUBLE_INDEX_SCALE", type := .int, accessFlags := 25, slot := 9, constantValue := 0 }, { name := "LOG2_BYTE_BIT_SIZE", type := .int, accessFlags := 26, slot := 10, constantValue := 0 }, { name := "T_BOOLEAN", type := .int, accessFlags := 25, slot := 11, constantValue := 0 }, { name := "T_CHAR", type := .int, accessFlags := 25, slot := 12, constantValue := 0 }, { name := "T_FLOAT", type := .int, accessFlags := 25, slot := 13, constantValue := 0 }, { name := "T_DOUBLE", type := .int, accessFlags := 25, slot := 14, constantValue := 0 }, { name := "T_BYTE", type := .int, accessFlags := 25, slot := 15, constantValue := 0 }, { name := "T_SHORT", type := .int, accessFlags := 25, slot := 16, constantValue := 0 }, { name := "T_INT", type := .int, accessFlags := 25, slot := 17, constantValue := 0 }, { name := "T_LONG", type := .int, accessFlags := 25, slot := 18, constantValue := 0 }, { name := "JLA", type := (.object "jdk/internal/access/JavaLangAccess"), accessFlags := 26, slot := 19, constantValue := 0 }, { name := "SOFT_MAX_ARRAY_LENGTH", type := .int, accessFlags := 25, slot := 20, constantValue := 0 }]
  methods := #[k14m0]
  instanceTypes := #[]
  staticTypes := #[(.object "jdk/internal/misc/Unsafe"), .boolean, .int, .int, .int, .int, .int, .int, .int, .int, .int, .int, .int, .int, .int, .int, .int, .int, .int, (.object "jdk/internal/access/JavaLangAccess"), .int]
  resolved := Array.replicate 378 none
  statics := none }

def pool15 : Array CpInfo := pool [(1, u "java/lang/Cloneable"), (0, .class_ 1), (0, u "java/lang/Object"), (0, .class_ 3)] 3

/-- java/lang/Cloneable -/
def k15 : Class := { plain "java/lang/Cloneable" (some 0) with
  accessFlags := 1537
  interfaces := #[]
  cf := some (fileOf pool15 2 #[] #[] 1537 4 #[] #[])
  fields := #[]
  methods := #[]
  instanceTypes := #[]
  staticTypes := #[]
  resolved := Array.replicate 8 none
  statics := none }

/-- the primitive byte -/
def k16 : Class := { plain "byte" none with kind := .primitive 'B', accessFlags := 0x411 }
/-- [B -/
def k17 : Class := { plain "[B" (some 0) with kind := .array 16 .byte, interfaces := #[15, 2], accessFlags := 1041 }

/-- the primitive char -/
def k18 : Class := { plain "char" none with kind := .primitive 'C', accessFlags := 0x411 }
/-- [C -/
def k19 : Class := { plain "[C" (some 0) with kind := .array 18 .char, interfaces := #[15, 2], accessFlags := 1041 }

/-- the primitive int -/
def k20 : Class := { plain "int" none with kind := .primitive 'I', accessFlags := 0x411 }
/-- [I -/
def k21 : Class := { plain "[I" (some 0) with kind := .array 20 .int, interfaces := #[15, 2], accessFlags := 1041 }

def heap : Heap := #[{ cls := 7, slots := #[.long 0, .int 1, .null, .int 0, .null, .int 0, .int 0], vm := .statics 7 },
  { cls := 10, slots := #[.int 0, .int 8, .int 0, .int 1], vm := .statics 10 },
  { cls := 11, slots := #[.null, .null, .null], vm := .statics 11 }]
def classes : Array Class := #[k0, k1, k2, k3, k4, k5, k6, k7, k8, k9, k10, k11, k12, k13, k14, k15, k16, k17, k18, k19, k20, k21]
def interned : List (Array UInt16 × Addr) := []
def slotsUsed : Nat := 14
def theMethod : MethodId := ⟨1, 6⟩
def args0 : Array Value := #[.int 5, .int 1, .int 3, .int 4, .int 7]
def aboutOver (below : List Frame) : State where
  vm := { classes := classes, interned := interned.toArray }
  heap := heap
  slotsUsed := slotsUsed
  threads := #[{ frames := .invoking theMethod args0 :: below }]
def below0 : List Frame := [.native { method := ⟨0, 0⟩, args := #[] }]
def about1 : State := aboutOver below0
def p0 : Program := .bare "" "" ""
def e0 : Env := launch0.env 0 0 0
theorem w_frames : about1.frames = Frame.invoking theMethod args0 :: below0 := rfl
set_option maxRecDepth 65536 in
theorem w_args : argsFit about1.vm theMethod args0 = true := by decide +kernel
set_option maxRecDepth 65536 in
theorem w_heap : heapFits about1 = true := by decide +kernel
set_option maxRecDepth 65536 in
theorem w_runnable : about1.curStatus? = some .runnable := by decide +kernel
set_option maxRecDepth 65536 in
theorem w_alone : about1.alone = true := by decide +kernel
set_option maxRecDepth 65536 in
theorem w_named : about1.methodNamed? x = some theMethod := by decide +kernel
set_option maxRecDepth 65536 in
theorem w_hears : about1.hears theMethod below0 = true := by decide +kernel
set_option maxRecDepth 65536 in
theorem w_ripe : about1.ripe theMethod args0 below0 = true := by decide +kernel
theorem w_running : about1.status = .running := rfl
set_option maxRecDepth 65536 in
theorem w_room : about1.hasRoom e0.platform room_1 = true :=
  launch0.hasRoom_least _ room_1 (by decide +kernel) (by decide +kernel) (by decide +kernel) (by decide +kernel) (by decide +kernel) (by decide +kernel)
theorem allAtoms_all (ts : List Jvm.Cond) (a : Array Jvm.Value) (st : Jvm.State) : (allAtoms ts).before a st = ts.all (fun c => c.before a st) := by
  induction ts with
  | nil => rfl
  | cons c t ih =>
    show (Jvm.Cond.and c (allAtoms t)).before a st = _
    rw [Jvm.Cond.before_and, ih, List.all_cons]
def words1 : List Jvm.Cond := Jvm.Cond.code x code maxLocals ret :: tables_1
/-- a 'code' word, met by the world's own term for the bytes: nothing is compared byte by byte -/
theorem code_word {y : MethodName} {bytes : ByteArray} {mx : Nat} {rt : Option FieldType} {a : Array Value} {s : State} {m : MethodId} {meth : Method} {c : Code} (h1 : s.methodNamed? y = some m) (h2 : s.vm.method? m = some meth) (h3 : meth.code = some c) (h4 : c.code = bytes)
    (h5 : (c.maxLocals == mx && c.exceptionTable.isEmpty && decide (c.maxStack ≤ mostOperands) && decide (meth.sig.returnType = rt) && !meth.locks && decide (parseMethodDescriptor y.desc = some meth.sig)) = true) : (Jvm.Cond.code y bytes mx rt).before a s = true := by
  simp only [Bool.and_eq_true, beq_iff_eq, Bool.not_eq_true', decide_eq_true_eq] at h5
  obtain ⟨⟨⟨⟨⟨g1, g2⟩, g3⟩, g4⟩, g5⟩, g6⟩ := h5
  simp [Cond.before, Cond.holds, Cond.value, h1, h2, h3, h4, g1, g2, g3, g4, g5, g6]
def isCode : Jvm.Cond → Bool
  | .code _ _ _ _ => true
  | _ => false
theorem all_split {L : List Jvm.Cond} {P : Jvm.Cond → Bool} (h1 : L.all (fun c => isCode c || P c) = true) (h2 : ∀ c ∈ L.filter isCode, P c = true) : L.all P = true := by
  refine List.all_eq_true.mpr fun c hc => ?_
  have h := List.all_eq_true.mp h1 c hc
  rcases Bool.eq_false_or_eq_true (isCode c) with hi | hi
  · exact h2 c (List.mem_filter.mpr ⟨hc, hi⟩)
  · simpa [hi] using h
set_option maxRecDepth 65536 in
theorem w_c0 : (Jvm.Cond.code x code maxLocals ret).before args0 about1 = true := code_word (m := ⟨1, 6⟩) (meth := k1m6) (c := k1c6) (by decide +kernel) rfl rfl rfl (by decide +kernel)
set_option maxRecDepth 65536 in
theorem w_c1 : (Jvm.Cond.code ({ cls := "com/example/latchwork/latchwork/core/LockNamesCheckPinLaw", name := "draw", desc := "(I)C" } : Jvm.MethodName) method_2_code (3 : Nat) (Option.some Jvm.ClassFile.FieldType.char)).before args0 about1 = true := code_word (m := ⟨1, 1⟩) (meth := k1m1) (c := k1c1) (by decide +kernel) rfl rfl rfl (by decide +kernel)
set_option maxRecDepth 65536 in
theorem w_c2 : (Jvm.Cond.code ({ cls := "com/example/latchwork/latchwork/core/LockNamesCheckPinLaw", name := "bad", desc := "([CII)Z" } : Jvm.MethodName) method_5_code (3 : Nat) (Option.some Jvm.ClassFile.FieldType.boolean)).before args0 about1 = true := code_word (m := ⟨1, 4⟩) (meth := k1m4) (c := k1c4) (by decide +kernel) rfl rfl rfl (by decide +kernel)
set_option maxRecDepth 65536 in
theorem w_c3 : (Jvm.Cond.code ({ cls := "com/example/latchwork/latchwork/core/LockNamesCheckPinLaw", name := "make", desc := "([CI)Ljava/lang/String;" } : Jvm.MethodName) method_6_code (2 : Nat) (Option.some (Jvm.ClassFile.FieldType.object "java/lang/String"))).before args0 about1 = true := code_word (m := ⟨1, 5⟩) (meth := k1m5) (c := k1c5) (by decide +kernel) rfl rfl rfl (by decide +kernel)
set_option maxRecDepth 65536 in
theorem w_c4 : (Jvm.Cond.code ({ cls := "java/lang/String", name := "<init>", desc := "([C)V" } : Jvm.MethodName) jdk_42_method_3_code (2 : Nat) (Option.none : Option Jvm.ClassFile.FieldType)).before args0 about1 = true := code_word (m := ⟨7, 1⟩) (meth := k7m1) (c := k7c1) (by decide +kernel) rfl rfl rfl (by decide +kernel)
set_option maxRecDepth 65536 in
theorem w_c5 : (Jvm.Cond.code ({ cls := "java/lang/String", name := "<init>", desc := "([CIILjava/lang/Void;)V" } : Jvm.MethodName) jdk_42_method_149_code (6 : Nat) (Option.none : Option Jvm.ClassFile.FieldType)).before args0 about1 = true := code_word (m := ⟨7, 4⟩) (meth := k7m4) (c := k7c4) (by decide +kernel) rfl rfl rfl (by decide +kernel)
set_option maxRecDepth 65536 in
theorem w_c6 : (Jvm.Cond.code ({ cls := "java/lang/Object", name := "<init>", desc := "()V" } : Jvm.MethodName) object_method_1_code (1 : Nat) (Option.none : Option Jvm.ClassFile.FieldType)).before args0 about1 = true := code_word (m := ⟨0, 0⟩) (meth := k0m0) (c := k0c0) (by decide +kernel) rfl rfl rfl (by decide +kernel)
set_option maxRecDepth 65536 in
theorem w_c7 : (Jvm.Cond.code ({ cls := "com/example/latchwork/latchwork/core/LockNames", name := "check", desc := "(Ljava/lang/String;)Ljava/lang/String;" } : Jvm.MethodName) prog_6_method_2_code (3 : Nat) (Option.some (Jvm.ClassFile.FieldType.object "java/lang/String"))).before args0 about1 = true := code_word (m := ⟨8, 1⟩) (meth := k8m1) (c := k8c1) (by decide +kernel) rfl rfl rfl (by decide +kernel)
set_option maxRecDepth 65536 in
theorem w_c8 : (Jvm.Cond.code ({ cls := "java/util/Objects", name := "requireNonNull", desc := "(Ljava/lang/Object;Ljava/lang/String;)Ljava/lang/Object;" } : Jvm.MethodName) jdk_31_method_11_code (2 : Nat) (Option.some (Jvm.ClassFile.FieldType.object "java/lang/Object"))).before args0 about1 = true := code_word (m := ⟨9, 1⟩) (meth := k9m1) (c := k9c1) (by decide +kernel) rfl rfl rfl (by decide +kernel)
set_option maxRecDepth 65536 in
theorem w_c9 : (Jvm.Cond.code ({ cls := "java/lang/String", name := "length", desc := "()I" } : Jvm.MethodName) jdk_42_method_54_code (1 : Nat) (Option.some Jvm.ClassFile.FieldType.int)).before args0 about1 = true := code_word (m := ⟨7, 2⟩) (meth := k7m2) (c := k7c2) (by decide +kernel) rfl rfl rfl (by decide +kernel)
set_option maxRecDepth 65536 in
theorem w_c10 : (Jvm.Cond.code ({ cls := "java/lang/String", name := "coder", desc := "()B" } : Jvm.MethodName) jdk_42_method_152_code (1 : Nat) (Option.some Jvm.ClassFile.FieldType.byte)).before args0 about1 = true := code_word (m := ⟨7, 5⟩) (meth := k7m5) (c := k7c5) (by decide +kernel) rfl rfl rfl (by decide +kernel)
set_option maxRecDepth 65536 in
theorem w_c11 : (Jvm.Cond.code ({ cls := "com/example/latchwork/latchwork/core/LockNamesCheckPinLaw", name := "high", desc := "(C)Z" } : Jvm.MethodName) method_3_code (1 : Nat) (Option.some Jvm.ClassFile.FieldType.boolean)).before args0 about1 = true := code_word (m := ⟨1, 2⟩) (meth := k1m2) (c := k1c2) (by decide +kernel) rfl rfl rfl (by decide +kernel)
set_option maxRecDepth 65536 in
theorem w_c12 : (Jvm.Cond.code ({ cls := "com/example/latchwork/latchwork/core/LockNamesCheckPinLaw", name := "low", desc := "(C)Z" } : Jvm.MethodName) method_4_code (1 : Nat) (Option.some Jvm.ClassFile.FieldType.boolean)).before args0 about1 = true := code_word (m := ⟨1, 3⟩) (meth := k1m3) (c := k1c3) (by decide +kernel) rfl rfl rfl (by decide +kernel)
set_option maxRecDepth 65536 in
theorem w_c13 : (Jvm.Cond.code ({ cls := "java/lang/StringUTF16", name := "compress", desc := "([CII)[B" } : Jvm.MethodName) jdk_52_method_16_code (6 : Nat) (Option.some (Jvm.ClassFile.FieldType.array Jvm.ClassFile.FieldType.byte))).before args0 about1 = true := code_word (m := ⟨10, 9⟩) (meth := k10m9) (c := k10c9) (by decide +kernel) rfl rfl rfl (by decide +kernel)
set_option maxRecDepth 65536 in
theorem w_c14 : (Jvm.Cond.code ({ cls := "java/lang/StringUTF16", name := "compress", desc := "([CI[BII)I" } : Jvm.MethodName) jdk_52_method_21_code (7 : Nat) (Option.some Jvm.ClassFile.FieldType.int)).before args0 about1 = true := code_word (m := ⟨10, 10⟩) (meth := k10m10) (c := k10c10) (by decide +kernel) rfl rfl rfl (by decide +kernel)
set_option maxRecDepth 65536 in
theorem w_c15 : (Jvm.Cond.code ({ cls := "java/lang/StringUTF16", name := "toBytes", desc := "([CII)[B" } : Jvm.MethodName) jdk_52_method_14_code (5 : Nat) (Option.some (Jvm.ClassFile.FieldType.array Jvm.ClassFile.FieldType.byte))).before args0 about1 = true := code_word (m := ⟨10, 7⟩) (meth := k10m7) (c := k10c7) (by decide +kernel) rfl rfl rfl (by decide +kernel)
set_option maxRecDepth 65536 in
theorem w_c16 : (Jvm.Cond.code ({ cls := "java/lang/StringUTF16", name := "newBytesFor", desc := "(I)[B" } : Jvm.MethodName) jdk_52_method_2_code (1 : Nat) (Option.some (Jvm.ClassFile.FieldType.array Jvm.ClassFile.FieldType.byte))).before args0 about1 = true := code_word (m := ⟨10, 1⟩) (meth := k10m1) (c := k10c1) (by decide +kernel) rfl rfl rfl (by decide +kernel)
set_option maxRecDepth 65536 in
theorem w_c17 : (Jvm.Cond.code ({ cls := "java/lang/StringUTF16", name := "newBytesLength", desc := "(I)I" } : Jvm.MethodName) jdk_52_method_3_code (1 : Nat) (Option.some Jvm.ClassFile.FieldType.int)).before args0 about1 = true := code_word (m := ⟨10, 2⟩) (meth := k10m2) (c := k10c2) (by decide +kernel) rfl rfl rfl (by decide +kernel)
set_option maxRecDepth 65536 in
theorem w_c18 : (Jvm.Cond.code ({ cls := "java/lang/StringUTF16", name := "putChar", desc := "([BII)V" } : Jvm.MethodName) jdk_52_method_4_code (3 : Nat) (Option.none : Option Jvm.ClassFile.FieldType)).before args0 about1 = true := code_word (m := ⟨10, 3⟩) (meth := k10m3) (c := k10c3) (by decide +kernel) rfl rfl rfl (by decide +kernel)
set_option maxRecDepth 65536 in
theorem w_c19 : (Jvm.Cond.code ({ cls := "java/lang/StringUTF16", name := "getChar", desc := "([BI)C" } : Jvm.MethodName) jdk_52_method_5_code (2 : Nat) (Option.some Jvm.ClassFile.FieldType.char)).before args0 about1 = true := code_word (m := ⟨10, 4⟩) (meth := k10m4) (c := k10c4) (by decide +kernel) rfl rfl rfl (by decide +kernel)
set_option maxRecDepth 65536 in
theorem w_c20 : (Jvm.Cond.code ({ cls := "java/lang/StringUTF16", name := "coderFromArrayLen", desc := "([BI)B" } : Jvm.MethodName) jdk_52_method_15_code (2 : Nat) (Option.some Jvm.ClassFile.FieldType.byte)).before args0 about1 = true := code_word (m := ⟨10, 8⟩) (meth := k10m8) (c := k10c8) (by decide +kernel) rfl rfl rfl (by decide +kernel)
set_option maxRecDepth 65536 in
theorem w_c21 : (Jvm.Cond.code ({ cls := "java/lang/String", name := "codePointAt", desc := "(I)I" } : Jvm.MethodName) jdk_42_method_57_code (3 : Nat) (Option.some Jvm.ClassFile.FieldType.int)).before args0 about1 = true := code_word (m := ⟨7, 3⟩) (meth := k7m3) (c := k7c3) (by decide +kernel) rfl rfl rfl (by decide +kernel)
set_option maxRecDepth 65536 in
theorem w_c22 : (Jvm.Cond.code ({ cls := "java/lang/String", name := "isLatin1", desc := "()Z" } : Jvm.MethodName) jdk_42_method_154_code (1 : Nat) (Option.some Jvm.ClassFile.FieldType.boolean)).before args0 about1 = true := code_word (m := ⟨7, 6⟩) (meth := k7m6) (c := k7c6) (by decide +kernel) rfl rfl rfl (by decide +kernel)
set_option maxRecDepth 65536 in
theorem w_c23 : (Jvm.Cond.code ({ cls := "java/lang/String", name := "checkIndex", desc := "(II)V" } : Jvm.MethodName) jdk_42_method_155_code (2 : Nat) (Option.none : Option Jvm.ClassFile.FieldType)).before args0 about1 = true := code_word (m := ⟨7, 7⟩) (meth := k7m7) (c := k7c7) (by decide +kernel) rfl rfl rfl (by decide +kernel)
set_option maxRecDepth 65536 in
theorem w_c24 : (Jvm.Cond.code ({ cls := "jdk/internal/util/Preconditions", name := "checkIndex", desc := "(IILjava/util/function/BiFunction;)I" } : Jvm.MethodName) jdk_41_method_11_code (3 : Nat) (Option.some Jvm.ClassFile.FieldType.int)).before args0 about1 = true := code_word (m := ⟨11, 1⟩) (meth := k11m1) (c := k11c1) (by decide +kernel) rfl rfl rfl (by decide +kernel)
set_option maxRecDepth 65536 in
theorem w_c25 : (Jvm.Cond.code ({ cls := "java/lang/StringUTF16", name := "codePointAt", desc := "([BII)I" } : Jvm.MethodName) jdk_52_method_8_code (3 : Nat) (Option.some Jvm.ClassFile.FieldType.int)).before args0 about1 = true := code_word (m := ⟨10, 6⟩) (meth := k10m6) (c := k10c6) (by decide +kernel) rfl rfl rfl (by decide +kernel)
set_option maxRecDepth 65536 in
theorem w_c26 : (Jvm.Cond.code ({ cls := "java/lang/StringUTF16", name := "codePointAt", desc := "([BIIZ)I" } : Jvm.MethodName) jdk_52_method_7_code (6 : Nat) (Option.some Jvm.ClassFile.FieldType.int)).before args0 about1 = true := code_word (m := ⟨10, 5⟩) (meth := k10m5) (c := k10c5) (by decide +kernel) rfl rfl rfl (by decide +kernel)
set_option maxRecDepth 65536 in
theorem w_c27 : (Jvm.Cond.code ({ cls := "java/lang/Character", name := "isHighSurrogate", desc := "(C)Z" } : Jvm.MethodName) jdk_89_method_14_code (1 : Nat) (Option.some Jvm.ClassFile.FieldType.boolean)).before args0 about1 = true := code_word (m := ⟨12, 0⟩) (meth := k12m0) (c := k12c0) (by decide +kernel) rfl rfl rfl (by decide +kernel)
set_option maxRecDepth 65536 in
theorem w_c28 : (Jvm.Cond.code ({ cls := "com/example/latchwork/latchwork/core/LockNames", name := "isLoneSurrogate", desc := "(I)Z" } : Jvm.MethodName) prog_6_method_4_code (1 : Nat) (Option.some Jvm.ClassFile.FieldType.boolean)).before args0 about1 = true := code_word (m := ⟨8, 2⟩) (meth := k8m2) (c := k8c2) (by decide +kernel) rfl rfl rfl (by decide +kernel)
set_option maxRecDepth 65536 in
theorem w_c29 : (Jvm.Cond.code ({ cls := "java/lang/Character", name := "charCount", desc := "(I)I" } : Jvm.MethodName) jdk_89_method_18_code (1 : Nat) (Option.some Jvm.ClassFile.FieldType.int)).before args0 about1 = true := code_word (m := ⟨12, 2⟩) (meth := k12m2) (c := k12c2) (by decide +kernel) rfl rfl rfl (by decide +kernel)
set_option maxRecDepth 65536 in
theorem w_c30 : (Jvm.Cond.code ({ cls := "java/lang/Character", name := "isLowSurrogate", desc := "(C)Z" } : Jvm.MethodName) jdk_89_method_15_code (1 : Nat) (Option.some Jvm.ClassFile.FieldType.boolean)).before args0 about1 = true := code_word (m := ⟨12, 1⟩) (meth := k12m1) (c := k12c1) (by decide +kernel) rfl rfl rfl (by decide +kernel)
set_option maxRecDepth 65536 in
theorem w_c31 : (Jvm.Cond.code ({ cls := "java/lang/Character", name := "toCodePoint", desc := "(CC)I" } : Jvm.MethodName) jdk_89_method_19_code (2 : Nat) (Option.some Jvm.ClassFile.FieldType.int)).before args0 about1 = true := code_word (m := ⟨12, 3⟩) (meth := k12m3) (c := k12c3) (by decide +kernel) rfl rfl rfl (by decide +kernel)
def codes1 : List Jvm.Cond := [Jvm.Cond.code x code maxLocals ret, Jvm.Cond.code ({ cls := "com/example/latchwork/latchwork/core/LockNamesCheckPinLaw", name := "draw", desc := "(I)C" } : Jvm.MethodName) method_2_code (3 : Nat) (Option.some Jvm.ClassFile.FieldType.char), Jvm.Cond.code ({ cls := "com/example/latchwork/latchwork/core/LockNamesCheckPinLaw", name := "bad", desc := "([CII)Z" } : Jvm.MethodName) method_5_code (3 : Nat) (Option.some Jvm.ClassFile.FieldType.boolean), Jvm.Cond.code ({ cls := "com/example/latchwork/latchwork/core/LockNamesCheckPinLaw", name := "make", desc := "([CI)Ljava/lang/String;" } : Jvm.MethodName) method_6_code (2 : Nat) (Option.some (Jvm.ClassFile.FieldType.object "java/lang/String")), Jvm.Cond.code ({ cls := "java/lang/String", name := "<init>", desc := "([C)V" } : Jvm.MethodName) jdk_42_method_3_code (2 : Nat) (Option.none : Option Jvm.ClassFile.FieldType), Jvm.Cond.code ({ cls := "java/lang/String", name := "<init>", desc := "([CIILjava/lang/Void;)V" } : Jvm.MethodName) jdk_42_method_149_code (6 : Nat) (Option.none : Option Jvm.ClassFile.FieldType), Jvm.Cond.code ({ cls := "java/lang/Object", name := "<init>", desc := "()V" } : Jvm.MethodName) object_method_1_code (1 : Nat) (Option.none : Option Jvm.ClassFile.FieldType), Jvm.Cond.code ({ cls := "com/example/latchwork/latchwork/core/LockNames", name := "check", desc := "(Ljava/lang/String;)Ljava/lang/String;" } : Jvm.MethodName) prog_6_method_2_code (3 : Nat) (Option.some (Jvm.ClassFile.FieldType.object "java/lang/String")), Jvm.Cond.code ({ cls := "java/util/Objects", name := "requireNonNull", desc := "(Ljava/lang/Object;Ljava/lang/String;)Ljava/lang/Object;" } : Jvm.MethodName) jdk_31_method_11_code (2 : Nat) (Option.some (Jvm.ClassFile.FieldType.object "java/lang/Object")), Jvm.Cond.code ({ cls := "java/lang/String", name := "length", desc := "()I" } : Jvm.MethodName) jdk_42_method_54_code (1 : Nat) (Option.some Jvm.ClassFile.FieldType.int), Jvm.Cond.code ({ cls := "java/lang/String", name := "coder", desc := "()B" } : Jvm.MethodName) jdk_42_method_152_code (1 : Nat) (Option.some Jvm.ClassFile.FieldType.byte), Jvm.Cond.code ({ cls := "com/example/latchwork/latchwork/core/LockNamesCheckPinLaw", name := "high", desc := "(C)Z" } : Jvm.MethodName) method_3_code (1 : Nat) (Option.some Jvm.ClassFile.FieldType.boolean), Jvm.Cond.code ({ cls := "com/example/latchwork/latchwork/core/LockNamesCheckPinLaw", name := "low", desc := "(C)Z" } : Jvm.MethodName) method_4_code (1 : Nat) (Option.some Jvm.ClassFile.FieldType.boolean), Jvm.Cond.code ({ cls := "java/lang/StringUTF16", name := "compress", desc := "([CII)[B" } : Jvm.MethodName) jdk_52_method_16_code (6 : Nat) (Option.some (Jvm.ClassFile.FieldType.array Jvm.ClassFile.FieldType.byte)), Jvm.Cond.code ({ cls := "java/lang/StringUTF16", name := "compress", desc := "([CI[BII)I" } : Jvm.MethodName) jdk_52_method_21_code (7 : Nat) (Option.some Jvm.ClassFile.FieldType.int), Jvm.Cond.code ({ cls := "java/lang/StringUTF16", name := "toBytes", desc := "([CII)[B" } : Jvm.MethodName) jdk_52_method_14_code (5 : Nat) (Option.some (Jvm.ClassFile.FieldType.array Jvm.ClassFile.FieldType.byte)), Jvm.Cond.code ({ cls := "java/lang/StringUTF16", name := "newBytesFor", desc := "(I)[B" } : Jvm.MethodName) jdk_52_method_2_code (1 : Nat) (Option.some (Jvm.ClassFile.FieldType.array Jvm.ClassFile.FieldType.byte)), Jvm.Cond.code ({ cls := "java/lang/StringUTF16", name := "newBytesLength", desc := "(I)I" } : Jvm.MethodName) jdk_52_method_3_code (1 : Nat) (Option.some Jvm.ClassFile.FieldType.int), Jvm.Cond.code ({ cls := "java/lang/StringUTF16", name := "putChar", desc := "([BII)V" } : Jvm.MethodName) jdk_52_method_4_code (3 : Nat) (Option.none : Option Jvm.ClassFile.FieldType), Jvm.Cond.code ({ cls := "java/lang/StringUTF16", name := "getChar", desc := "([BI)C" } : Jvm.MethodName) jdk_52_method_5_code (2 : Nat) (Option.some Jvm.ClassFile.FieldType.char), Jvm.Cond.code ({ cls := "java/lang/StringUTF16", name := "coderFromArrayLen", desc := "([BI)B" } : Jvm.MethodName) jdk_52_method_15_code (2 : Nat) (Option.some Jvm.ClassFile.FieldType.byte), Jvm.Cond.code ({ cls := "java/lang/String", name := "codePointAt", desc := "(I)I" } : Jvm.MethodName) jdk_42_method_57_code (3 : Nat) (Option.some Jvm.ClassFile.FieldType.int), Jvm.Cond.code ({ cls := "java/lang/String", name := "isLatin1", desc := "()Z" } : Jvm.MethodName) jdk_42_method_154_code (1 : Nat) (Option.some Jvm.ClassFile.FieldType.boolean), Jvm.Cond.code ({ cls := "java/lang/String", name := "checkIndex", desc := "(II)V" } : Jvm.MethodName) jdk_42_method_155_code (2 : Nat) (Option.none : Option Jvm.ClassFile.FieldType), Jvm.Cond.code ({ cls := "jdk/internal/util/Preconditions", name := "checkIndex", desc := "(IILjava/util/function/BiFunction;)I" } : Jvm.MethodName) jdk_41_method_11_code (3 : Nat) (Option.some Jvm.ClassFile.FieldType.int), Jvm.Cond.code ({ cls := "java/lang/StringUTF16", name := "codePointAt", desc := "([BII)I" } : Jvm.MethodName) jdk_52_method_8_code (3 : Nat) (Option.some Jvm.ClassFile.FieldType.int), Jvm.Cond.code ({ cls := "java/lang/StringUTF16", name := "codePointAt", desc := "([BIIZ)I" } : Jvm.MethodName) jdk_52_method_7_code (6 : Nat) (Option.some Jvm.ClassFile.FieldType.int), Jvm.Cond.code ({ cls := "java/lang/Character", name := "isHighSurrogate", desc := "(C)Z" } : Jvm.MethodName) jdk_89_method_14_code (1 : Nat) (Option.some Jvm.ClassFile.FieldType.boolean), Jvm.Cond.code ({ cls := "com/example/latchwork/latchwork/core/LockNames", name := "isLoneSurrogate", desc := "(I)Z" } : Jvm.MethodName) prog_6_method_4_code (1 : Nat) (Option.some Jvm.ClassFile.FieldType.boolean), Jvm.Cond.code ({ cls := "java/lang/Character", name := "charCount", desc := "(I)I" } : Jvm.MethodName) jdk_89_method_18_code (1 : Nat) (Option.some Jvm.ClassFile.FieldType.int), Jvm.Cond.code ({ cls := "java/lang/Character", name := "isLowSurrogate", desc := "(C)Z" } : Jvm.MethodName) jdk_89_method_15_code (1 : Nat) (Option.some Jvm.ClassFile.FieldType.boolean), Jvm.Cond.code ({ cls := "java/lang/Character", name := "toCodePoint", desc := "(CC)I" } : Jvm.MethodName) jdk_89_method_19_code (2 : Nat) (Option.some Jvm.ClassFile.FieldType.int)]
set_option maxRecDepth 65536 in
theorem codes_eq : words1.filter isCode = codes1 := rfl
theorem w_codes : ∀ c ∈ words1.filter isCode, c.before args0 about1 = true := by
  rw [codes_eq]
  intro c hc
  simp only [codes1, List.mem_cons, List.not_mem_nil, or_false] at hc
  rcases hc with rfl | rfl | rfl | rfl | rfl | rfl | rfl | rfl | rfl | rfl | rfl | rfl | rfl | rfl | rfl | rfl | rfl | rfl | rfl | rfl | rfl | rfl | rfl | rfl | rfl | rfl | rfl | rfl | rfl | rfl | rfl | rfl
  · exact w_c0
  · exact w_c1
  · exact w_c2
  · exact w_c3
  · exact w_c4
  · exact w_c5
  · exact w_c6
  · exact w_c7
  · exact w_c8
  · exact w_c9
  · exact w_c10
  · exact w_c11
  · exact w_c12
  · exact w_c13
  · exact w_c14
  · exact w_c15
  · exact w_c16
  · exact w_c17
  · exact w_c18
  · exact w_c19
  · exact w_c20
  · exact w_c21
  · exact w_c22
  · exact w_c23
  · exact w_c24
  · exact w_c25
  · exact w_c26
  · exact w_c27
  · exact w_c28
  · exact w_c29
  · exact w_c30
  · exact w_c31
set_option maxRecDepth 65536 in
theorem w_t1 : (words1.take 24).all (fun c => isCode c || c.before args0 about1) = true := by decide +kernel
set_option maxRecDepth 65536 in
theorem w_t2 : ((words1.drop 24).take 24).all (fun c => isCode c || c.before args0 about1) = true := by decide +kernel
set_option maxRecDepth 65536 in
theorem w_t3 : (((words1.drop 24).drop 24).take 24).all (fun c => isCode c || c.before args0 about1) = true := by decide +kernel
set_option maxRecDepth 65536 in
theorem w_t4 : ((((words1.drop 24).drop 24).drop 24).take 24).all (fun c => isCode c || c.before args0 about1) = true := by decide +kernel
set_option maxRecDepth 65536 in
theorem w_t5 : (((((words1.drop 24).drop 24).drop 24).drop 24).take 24).all (fun c => isCode c || c.before args0 about1) = true := by decide +kernel
set_option maxRecDepth 65536 in
theorem w_t6 : (((((words1.drop 24).drop 24).drop 24).drop 24).drop 24).all (fun c => isCode c || c.before args0 about1) = true := by decide +kernel
theorem w_tables : (allAtoms (Jvm.Cond.code x code maxLocals ret :: tables_1)).before args0 about1 = true := by
  rw [allAtoms_all]
  show words1.all (fun c => c.before args0 about1) = true
  refine all_split ?_ w_codes
  rw [← List.take_append_drop 24 words1, List.all_append, w_t1, ← List.take_append_drop 24 (words1.drop 24), List.all_append, w_t2, ← List.take_append_drop 24 ((words1.drop 24).drop 24), List.all_append, w_t3, ← List.take_append_drop 24 (((words1.drop 24).drop 24).drop 24), List.all_append, w_t4, ← List.take_append_drop 24 ((((words1.drop 24).drop 24).drop 24).drop 24), List.all_append, w_t5, w_t6]
  rfl
set_option maxRecDepth 65536 in
theorem w_rest : rest_1_c.before args0 about1 = true := by decide +kernel
set_option maxRecDepth 65536 in
theorem w_case : (Jvm.Cond.and given_1 narrow_1).before args0 about1 = true := by decide +kernel
set_option maxRecDepth 65536 in
theorem w_consts : constsHeld consts_1 about1 := Jvm.Lit.constsHeldB_iff.mp (by decide +kernel)
theorem w_applies : (headSpec (Jvm.Cond.code x code maxLocals ret :: tables_1) room_1).applies x e0.platform about1 = true :=
  (Spec.applies_iff w_frames).mpr ⟨w_running, w_runnable, w_alone, w_named, w_hears, w_ripe, w_room, w_tables⟩
theorem atStart : AtStart classFile x code maxLocals ret World_1 tables_1 room_1 Calls_1 rest_1 Pre_1 launch0 p0 e0 about1 theMethod args0 below0 :=
  ⟨lists_1, trivial, launch0.admits_env _ _ _, launch0.least_env, fairChoices_fair.cas, fairChoices_fair.clock, w_frames, w_args, w_heap, w_applies, ⟨w_consts, trivial⟩, w_rest, w_case⟩
end start1
theorem witness_1 : WitnessClaimed_1 := ⟨start1.p0, start1.e0, start1.about1, start1.theMethod, start1.args0, start1.below0, start1.atStart⟩
end Jvm.Pilot.@@N@@
