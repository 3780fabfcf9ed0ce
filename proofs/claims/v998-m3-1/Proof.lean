import JvmDerived
import JvmDerived.Pilot.@@N@@Statement
import JvmDerived.Pilot.@@N@@Code
set_option linter.unusedVariables false
set_option linter.unusedSimpArgs false
namespace Jvm.Own
open Jvm Sem ClassFile Op Lib Jvm.Stand Jvm.Free Jvm.LawKit Jvm.RoadKit
/-- from this state and frame the run comes to an end that E says -/
def Goes (p : Program) (e : Env) (below : List Frame) (E : Outcome → State → Prop) (T : State) (f : JFrame) : Prop :=
  ∃ s₂ o, Steps p.tables e below (T.setTop f) s₂ ∧ s₂.status = .running ∧ Ended s₂ below o ∧ E o s₂
/-- the end of a walk that interns nothing -/
def EndN (s : State) (Q : Option Value → Heap → List Loc → Prop) (K N : Nat) (o : Outcome) (U : State) : Prop :=
  ∃ v L, o = .returned v ∧ Q v U.heap L ∧ FrameEnd s o U L K N
/-- a body's contract -/
def Rm (l : Launch) (y : MethodName) (bytes : ByteArray) (maxL : Nat) (ret : Option FieldType) (rm : Room) (ws : List Jvm.Cond) (Z : State) (as' : Array Value) (h : Heap) (Q : Option Value → Heap → List Loc → Prop) : Prop :=
  MetFree l y (head1 (Jvm.Cond.code y bytes maxL ret :: ws) rm) (fun a U => a = as' ∧ Z.Warmed39 U.vm ∧ U.heap = h) (fun _ _ _ _ _ => True) (fun _ U o U' => ∃ v L, o = .returned v ∧ Q v U'.heap L ∧ FrameEnd U o U' L rm.cells rm.slots)
section Own1
variable {p : Program} {l : Launch} {e : Env} {R : Room} {s : State} {m : MethodId} {args : Array Value} {below : List Frame} {meth : Method} {c : Code} {T : State} {locs : List Loc} {cells slots : Nat} {Z : State} {a0 : Array Value} {h : Heap} {E : Outcome → State → Prop}
theorem Goes.of {T T' : State} {f f' : JFrame} (st : ∀ t, Steps p.tables e below (T'.setTop f') t → Steps p.tables e below (T.setTop f) t) (k : Goes p e below E T' f') : Goes p e below E T f := by
  obtain ⟨s₂, o, h1, h2⟩ := k
  exact ⟨s₂, o, st _ h1, h2⟩
theorem Goes.cast {T : State} {f f' : JFrame} (q : f = f') (k : Goes p e below E T f') : Goes p e below E T f := q ▸ k
theorem oldLe {n0 : Nat} (O : Old Z n0 h) : n0 ≤ h.size := O.1 ▸ O.2.1
theorem goRet {Q : Option Value → Heap → List Loc → Prop} {K N : Nat} {g : JFrame} {v : Option Value} (X : Stand p l e R s m args below meth c T locs cells slots) (hv : meth.sig.returnType = none → v = none) (hlocks : meth.locks = false) (eT : T.heap = h) (hQ : Q v h locs) (hK : cells ≤ K) (hN : slots ≤ N)
    (st : ∀ fs, (∀ (f : JFrame) (acts : List Action), f.method = m → f.locked = none → f.entered = [] → (doReturn e (T.setTop f) acts v).1 = T.setFrames fs) → Steps p.tables e below (T.setTop g) (T.setFrames fs)) : Goes p e below (EndN s Q K N) T g := by
  obtain ⟨fs, hr, hrun, hended, hW, hsame⟩ := X.leave (v := v) hv hlocks
  subst eT
  exact ⟨_, _, st fs hr, hrun, hended, _, _, rfl, hQ, ⟨_, rfl⟩, hW, hsame.mono hK hN⟩
theorem retZ {Q : Option Value → Heap → List Loc → Prop} {K N pc : Nat} {Ls : Array Slot} {z : Int32} {t : FieldType} {rest : List Value} (X : Stand p l e R s m args below meth c T locs cells slots) (hx : p.tables.exec = Jvm.exec) (hret : meth.sig.returnType = some t) (hlocks : meth.locks = false) (ht : t = .boolean ∨ t = .byte ∨ t = .char ∨ t = .short)
    (hd : decode c.code pc = .ok (.ireturn, 1)) (eT : T.heap = h) (hK : cells ≤ K) (hN : slots ≤ N) (hQ : Q (some (.int (nar t z))) h locs) : Goes p e below (EndN s Q K N) T (mkF m pc Ls (.int z :: rest)) :=
  goRet X (fun q => by rw [hret] at q; cases q) hlocks eT hQ hK hN fun fs hr => retN X hx hret ht hd hr
theorem retInt {Q : Option Value → Heap → List Loc → Prop} {K N pc : Nat} {Ls : Array Slot} {z : Int32} {rest : List Value} (X : Stand p l e R s m args below meth c T locs cells slots) (hx : p.tables.exec = Jvm.exec) (hret : meth.sig.returnType = some .int) (hlocks : meth.locks = false)
    (hd : decode c.code pc = .ok (.ireturn, 1)) (eT : T.heap = h) (hK : cells ≤ K) (hN : slots ≤ N) (hQ : Q (some (.int z)) h locs) : Goes p e below (EndN s Q K N) T (mkF m pc Ls (.int z :: rest)) :=
  goRet X (fun q => by rw [hret] at q; cases q) hlocks eT hQ hK hN fun fs hr => by
    have hm' : T.vm.method? m = some meth := X.method'
    have hn : narrow .int (.int z) = .int z := rfl
    show Steps p.tables e below (T.setTop { method := m, pc := pc, locals := Ls, stack := _ :: rest, locked := none }) _
    jvm_step X.here [X.here.top, hx, hd, hm', hret, hn]
    first | (intro acts; rw [hr _ acts rfl rfl rfl]) | rw [hr _ _ rfl rfl rfl]
    exact Steps.refl _
theorem retLong {Q : Option Value → Heap → List Loc → Prop} {K N pc : Nat} {Ls : Array Slot} {z : Int64} {rest : List Value} (X : Stand p l e R s m args below meth c T locs cells slots) (hx : p.tables.exec = Jvm.exec) (hret : meth.sig.returnType = some .long) (hlocks : meth.locks = false)
    (hd : decode c.code pc = .ok (.lreturn, 1)) (eT : T.heap = h) (hK : cells ≤ K) (hN : slots ≤ N) (hQ : Q (some (.long z)) h locs) : Goes p e below (EndN s Q K N) T (mkF m pc Ls (.long z :: rest)) :=
  goRet X (fun q => by rw [hret] at q; cases q) hlocks eT hQ hK hN fun fs hr => by
    have hm' : T.vm.method? m = some meth := X.method'
    show Steps p.tables e below (T.setTop { method := m, pc := pc, locals := Ls, stack := _ :: rest, locked := none }) _
    jvm_step X.here [X.here.top, hx, hd, hm', hret, narrow]
    first | (intro acts; rw [hr _ acts rfl rfl rfl]) | rw [hr _ _ rfl rfl rfl]
    exact Steps.refl _
theorem retRef {Q : Option Value → Heap → List Loc → Prop} {K N pc : Nat} {Ls : Array Slot} {z : Value} {t : FieldType} {rest : List Value} (X : Stand p l e R s m args below meth c T locs cells slots) (hx : p.tables.exec = Jvm.exec) (hret : meth.sig.returnType = some t) (hlocks : meth.locks = false) (ht : t.isReference = true) (hz : z.isRef = true)
    (hd : decode c.code pc = .ok (.areturn, 1)) (eT : T.heap = h) (hK : cells ≤ K) (hN : slots ≤ N) (hQ : Q (some z) h locs) : Goes p e below (EndN s Q K N) T (mkF m pc Ls (z :: rest)) :=
  goRet X (fun q => by rw [hret] at q; cases q) hlocks eT hQ hK hN fun fs hr => by
    have hm' : T.vm.method? m = some meth := X.method'
    show Steps p.tables e below (T.setTop { method := m, pc := pc, locals := Ls, stack := _ :: rest, locked := none }) _
    rcases ref_cases hz with rfl | ⟨_, rfl⟩
    all_goals
      jvm_step X.here [X.here.top, hx, hd, hm', hret, ht, Value.isRef]
      first | (intro acts; rw [hr _ acts rfl rfl rfl]) | rw [hr _ _ rfl rfl rfl]
      exact Steps.refl _
theorem retVoid {Q : Option Value → Heap → List Loc → Prop} {K N pc : Nat} {Ls : Array Slot} {rest : List Value} (X : Stand p l e R s m args below meth c T locs cells slots) (hx : p.tables.exec = Jvm.exec) (hret : meth.sig.returnType = none) (hlocks : meth.locks = false)
    (hd : decode c.code pc = .ok (.return_, 1)) (eT : T.heap = h) (hK : cells ≤ K) (hN : slots ≤ N) (hQ : Q none h locs) : Goes p e below (EndN s Q K N) T (mkF m pc Ls rest) :=
  goRet X (fun _ => rfl) hlocks eT hQ hK hN fun fs hr => by
    have hm' : T.vm.method? m = some meth := X.method'
    show Steps p.tables e below (T.setTop { method := m, pc := pc, locals := Ls, stack := rest, locked := none }) _
    jvm_step X.here [X.here.top, hx, hd, hm', hret]
    first | (intro acts; rw [hr _ acts rfl rfl rfl]) | rw [hr _ _ rfl rfl rfl]
    exact Steps.refl _
/-- a body's contract out of its walk -/
theorem Rm.of {ws : List Jvm.Cond} {y : MethodName} {bytes : ByteArray} {maxL : Nat} {ret : Option FieldType} {rm : Room} {as' : Array Value} {h : Heap} {Q : Option Value → Heap → List Loc → Prop} (hp : plainFor y = true)
    (body : ∀ (p : Program) (e : Env) (s : State) (m : MethodId) (below : List Frame) (meth : Method) (c : Code) (T : State), Stand p l e rm s m as' below meth c T [] 0 0 → p.tables.exec = Jvm.exec → Z.Warmed39 s.vm → c.code = bytes → c.maxLocals = maxL → s.vm.findClass y.cls = some m.cls → meth.name = y.name → meth.sig.returnType = ret → meth.locks = false → T.heap = h →
      Goes p e below (EndN s Q rm.cells rm.slots) T (entryFrame m as' maxL)) : Rm l y bytes maxL ret rm ws Z as' h Q := by
  refine MetFree.of_bodySF hp hisR ?_
  intro p e s m args below meth c s₁ Bd hml0 hP hK
  obtain ⟨rfl, hZ, hh⟩ := hP
  exact body p e s m below meth c s₁ (Stand.of_body Bd) Bd.exec hZ Bd.bytes hml0 (findClass_of_methodNamed Bd.named) (name_of_methodNamed Bd.named Bd.method).1 Bd.returns Bd.notSynchronized (by rw [← hh, Bd.state]; rfl)
theorem goStatic {own : String} {index : Nat} {y : MethodName} {bytes : ByteArray} {maxL : Nat} {ret : Option FieldType} {rm : Room} {as' : Array Value} {Q : Option Value → Heap → List Loc → Prop} (W : Nat)
    (X : Stand p l e R s m args below meth c T locs cells slots) (hx : p.tables.exec = Jvm.exec) (hZ : Z.Warmed39 s.vm) (hown : s.vm.findClass own = some m.cls) (w1 : (Jvm.Cond.methodLink own index y).before a0 Z = true) (w2 : (Jvm.Cond.static y).before a0 Z = true) (w3 : (Jvm.Cond.initialized y.cls).before a0 Z = true) (w4 : (Jvm.Cond.code y bytes maxL ret).before a0 Z = true)
    (hy : y.cls ≠ "java/lang/invoke/MethodHandle" ∧ y.cls ≠ "java/lang/invoke/VarHandle") (r : Rm l y bytes maxL ret rm [] Z as' h Q) (eT : T.heap = h) {g : JFrame} (hg : g.method = m) (hsize : g.locals.size = c.maxLocals) (argsL rest : List Value) (hlen : ∀ sig, parseMethodDescriptor y.desc = some sig → argsL.length = sig.parameters.length)
    (hstack : g.stack = argsL.reverse ++ rest) (has : argsL.toArray = as') (hW : 2 * g.monitorRoom + (rest.map fun v => v.category).sum ≤ W) (hd : decode c.code g.pc = .ok (.invokestatic index, 3)) (hf : rm.frames + 1 ≤ R.frames) (hl : W + (maxL + 11) + rm.locals ≤ R.locals) (hc : cells + rm.cells ≤ R.cells) (hs : slots + rm.slots ≤ R.slots)
    (k : ∀ v T' L, Stand p l e R s m args below meth c T' (locs ++ L) (cells + rm.cells) (slots + rm.slots) → Q v T'.heap L → Goes p e below E T' { g with pc := g.pc + 3, stack := v.toList ++ rest }) : Goes p e below E T g := by
  obtain ⟨v, vm₁, ⟨T', L', k', n'⟩, -, X', ⟨L, hQ, q1, q2, q3⟩, st⟩ := Jvm.LawKit.callS X hx (y := y) hown (mvT hZ w1) (mvT hZ w2) (mvT hZ w3) (mvT hZ w4) hy (backOf (W := W) r hZ w4 w3 hf hl) hg hsize hlen hstack hW hd (fun _ _ => ⟨has, eT, hc, hs⟩)
  dsimp only [Pt.U, Pt.locs, Pt.cells, Pt.slots] at X' q1 q2 q3 st hQ
  subst q1 q2 q3
  exact Goes.of st (k v T' L X' hQ)
theorem goSpecial {own : String} {index : Nat} {y : MethodName} {bytes : ByteArray} {maxL : Nat} {rm : Room} {as' : Array Value} {Q : Option Value → Heap → List Loc → Prop} (W : Nat)
    (X : Stand p l e R s m args below meth c T locs cells slots) (hx : p.tables.exec = Jvm.exec) (hZ : Z.Warmed39 s.vm) (hy1 : y.name = "<init>") (hown : s.vm.findClass own = some m.cls) (w1 : (Jvm.Cond.methodLink own index y).before a0 Z = true) (w2 : (Jvm.Cond.instanceMethod y).before a0 Z = true) (w3 : (Jvm.Cond.initialized y.cls).before a0 Z = true) (w4 : (Jvm.Cond.code y bytes maxL none).before a0 Z = true)
    (hy : y.cls ≠ "java/lang/invoke/MethodHandle" ∧ y.cls ≠ "java/lang/invoke/VarHandle") (r : Rm l y bytes maxL none rm [] Z as' h Q) (eT : T.heap = h) {g : JFrame} (hg : g.method = m) (hsize : g.locals.size = c.maxLocals) (a : Addr) (argsL rest : List Value) (hlen : ∀ sig, parseMethodDescriptor y.desc = some sig → argsL.length = sig.parameters.length)
    (hstack : g.stack = argsL.reverse ++ .ref a :: rest) (has : (.ref a :: argsL).toArray = as') (hW : 2 * g.monitorRoom + (rest.map fun v => v.category).sum ≤ W) (hd : decode c.code g.pc = .ok (.invokespecial index, 3)) (hf : rm.frames + 1 ≤ R.frames) (hl : W + (maxL + 11) + rm.locals ≤ R.locals) (hc : cells + rm.cells ≤ R.cells) (hs : slots + rm.slots ≤ R.slots)
    (k : ∀ v T' L, Stand p l e R s m args below meth c T' (locs ++ L) (cells + rm.cells) (slots + rm.slots) → Q v T'.heap L → Goes p e below E T' { g with pc := g.pc + 3, stack := v.toList ++ rest }) : Goes p e below E T g := by
  obtain ⟨v, vm₁, ⟨T', L', k', n'⟩, -, X', ⟨L, hQ, q1, q2, q3⟩, st⟩ := X.specialBack hx (y := y) hy1 hown (mvT hZ w1) (mvT hZ w2) (mvT hZ w4) hy (backOf (W := W) r hZ w4 w3 hf hl) hg hsize (Steps.refl _) (a := a) hlen hstack hW hd (fun _ _ => ⟨has, eT, hc, hs⟩)
  dsimp only [Pt.U, Pt.locs, Pt.cells, Pt.slots] at X' q1 q2 q3 st hQ
  subst q1 q2 q3
  exact Goes.of (fun _ => st.trans) (k v T' L X' hQ)
theorem goVirtual {own C : String} {index : Nat} {y z : MethodName} {bytes : ByteArray} {maxL : Nat} {ret : Option FieldType} {rm : Room} {as' : Array Value} {Q : Option Value → Heap → List Loc → Prop} (W : Nat)
    (X : Stand p l e R s m args below meth c T locs cells slots) (hx : p.tables.exec = Jvm.exec) (hZ : Z.Warmed39 s.vm) (hown : s.vm.findClass own = some m.cls) (w1 : (Jvm.Cond.methodLink own index y).before a0 Z = true) (w2 : (Jvm.Cond.declares y).before a0 Z = true) (hnf : NotFace s y) (w3 : (Jvm.Cond.selects C y z).before a0 Z = true) (w4 : (Jvm.Cond.instanceMethod z).before a0 Z = true) (w5 : (Jvm.Cond.initialized z.cls).before a0 Z = true) (w6 : (Jvm.Cond.code z bytes maxL ret).before a0 Z = true)
    (hy : y.cls ≠ "java/lang/invoke/MethodHandle" ∧ y.cls ≠ "java/lang/invoke/VarHandle") (r : Rm l z bytes maxL ret rm [] Z as' h Q) (eT : T.heap = h) {a : Addr} (F : Exa Z h a C) {g : JFrame} (hg : g.method = m) (hsize : g.locals.size = c.maxLocals) (argsL rest : List Value) (hlen : ∀ sig, parseMethodDescriptor y.desc = some sig → argsL.length = sig.parameters.length)
    (hstack : g.stack = argsL.reverse ++ .ref a :: rest) (has : (.ref a :: argsL).toArray = as') (hW : 2 * g.monitorRoom + (rest.map fun v => v.category).sum ≤ W) (hd : decode c.code g.pc = .ok (.invokevirtual index, 3)) (hf : rm.frames + 1 ≤ R.frames) (hl : W + (maxL + 11) + rm.locals ≤ R.locals) (hc : cells + rm.cells ≤ R.cells) (hs : slots + rm.slots ≤ R.slots)
    (k : ∀ v T' L, Stand p l e R s m args below meth c T' (locs ++ L) (cells + rm.cells) (slots + rm.slots) → Q v T'.heap L → Goes p e below E T' { g with pc := g.pc + 3, stack := v.toList ++ rest }) : Goes p e below E T g := by
  obtain ⟨cq, kq, qa, qb, qc⟩ := isOf hZ eT F
  obtain ⟨v, vm₁, ⟨T', L', k', n'⟩, -, X', ⟨L, hQ, q1, q2, q3⟩, st⟩ := X.virtualBack hx (y := y) (z := z) hown (mvT hZ w1) (mvT hZ w2) hnf (mvT hZ w3) (mvT hZ w4) hy (backOf (W := W) r hZ w6 w5 hf hl) qa qc hg hsize (Steps.refl _) hlen hstack hW hd (fun _ _ => ⟨has, eT, hc, hs⟩)
  dsimp only [Pt.U, Pt.locs, Pt.cells, Pt.slots] at X' q1 q2 q3 st hQ
  subst q1 q2 q3
  exact Goes.of (fun _ => st.trans) (k v T' L X' hQ)
theorem goNew {own C : String} {index n : Nat} (X : Stand p l e R s m args below meth c T locs cells slots) (hx : p.tables.exec = Jvm.exec) (hZ : Z.Warmed39 s.vm) (hown : s.vm.findClass own = some m.cls) (w : (Jvm.Cond.classLink own index C).before a0 Z = true) (wi : (Jvm.Cond.instantiable C n).before a0 Z = true) (wz : (Jvm.Cond.initialized C).before a0 Z = true) (eT : T.heap = h)
    {g : JFrame} (hg : g.method = m) (hd : decode c.code g.pc = .ok (.new index, 3)) (hc : cells + 1 ≤ R.cells) (hl : slots + n ≤ R.slots)
    (k : ∀ T' h' b, Stand p l e R s m args below meth c T' locs (cells + 1) (slots + n) → T'.heap = h' → Ext h h' → h.size ≤ b → Exa Z h' b C → (∀ {O nm d : String} {ty : FieldType}, Laid Z a0 C O nm d → parseFieldDescriptor d = some ty → Fld Z h' b O nm d (defaultValue ty)) → Goes p e below E T' { g with pc := g.pc + 3, stack := .ref b :: g.stack }) : Goes p e below E T g := by
  obtain ⟨T', h', X', e', E', A', D', -, st⟩ := newO X hx hZ hown w wi wz eT hg hd hc hl
  exact Goes.of st (k T' h' _ X' e' E' (Nat.le_refl _) A' D')
theorem goInitO {own : String} {idx : Nat} (W : Nat) (X : Stand p l e R s m args below meth c T locs cells slots) (hx : p.tables.exec = Jvm.exec) (hZ : Z.Warmed39 s.vm) (hown : s.vm.findClass own = some m.cls) (w1 : (Jvm.Cond.methodLink own idx Lib.objectInit).before a0 Z = true) (w2 : (Jvm.Cond.instanceMethod Lib.objectInit).before a0 Z = true)
    (w3 : (Jvm.Cond.code Lib.objectInit ⟨#[0xb1]⟩ 1 none).before a0 Z = true) (eT : T.heap = h) {g : JFrame} (hg : g.method = m) (hsize : g.locals.size = c.maxLocals) {a : Addr} {rest : List Value} (hs : g.stack = .ref a :: rest) (hd : decode c.code g.pc = .ok (.invokespecial idx, 3))
    (hf : 1 ≤ R.frames) (hW : 2 * g.monitorRoom + (rest.map fun v => v.category).sum ≤ W) (hl : W + 12 ≤ R.locals) (k : ∀ T', Stand p l e R s m args below meth c T' locs cells slots → T'.heap = h → Goes p e below E T' { g with pc := g.pc + 3, stack := rest }) : Goes p e below E T g := by
  obtain ⟨T', X', e', st⟩ := initO X hx hZ hown w1 w2 w3 eT hg hsize hs hd hf hW hl
  exact Goes.of st (k T' X' e')
theorem goGet {own R0 O n d host : String} {index : Nat} (X : Stand p l e R s m args below meth c T locs cells slots) (hx : p.tables.exec = Jvm.exec) (hZ : Z.Warmed39 s.vm) (hown : s.vm.findClass own = some m.cls) (w : (Jvm.Cond.fieldLink own index R0 n d).before a0 Z = true ∨ (Jvm.Cond.fieldLinkNest own index R0 n d host).before a0 Z = true) (via : Via Z R0 O n d)
    (eT : T.heap = h) {a : Addr} {v : Value} (F : Fld Z h a O n d v) {g : JFrame} (hg : g.method = m) {rest : List Value} (hs : g.stack = .ref a :: rest) (hd : decode c.code g.pc = .ok (.getfield index, 3))
    (k : ∀ T', Stand p l e R s m args below meth c T' locs cells slots → T'.heap = h → Goes p e below E T' { g with pc := g.pc + 3, stack := v :: rest }) : Goes p e below E T g := by
  obtain ⟨T', X', e', st⟩ := getF X hx hZ hown w via eT F hg hs hd
  exact Goes.of st (k T' X' e')
theorem goGetS {own R0 O n d host : String} {index : Nat} (X : Stand p l e R s m args below meth c T locs cells slots) (hx : p.tables.exec = Jvm.exec) (hZ : Z.Warmed39 s.vm) (hown : s.vm.findClass own = some m.cls) (w : (Jvm.Cond.fieldLink own index R0 n d).before a0 Z = true ∨ (Jvm.Cond.fieldLinkNest own index R0 n d host).before a0 Z = true) (via : Via Z R0 O n d)
    (eT : T.heap = h) {v : Value} (F : Sta Z h O n d v) {g : JFrame} (hg : g.method = m) (hd : decode c.code g.pc = .ok (.getstatic index, 3))
    (k : ∀ T', Stand p l e R s m args below meth c T' locs cells slots → T'.heap = h → Goes p e below E T' { g with pc := g.pc + 3, stack := v :: g.stack }) : Goes p e below E T g := by
  obtain ⟨T', X', e', st⟩ := getS2 X hx hZ hown w via eT F hg hd
  exact Goes.of st (k T' X' e')
theorem goPut {own R0 O n d host C : String} {index kk : Nat} {ty : FieldType} (X : Stand p l e R s m args below meth c T locs cells slots) (hx : p.tables.exec = Jvm.exec) (hZ : Z.Warmed39 s.vm) (hown : s.vm.findClass own = some m.cls) (w : (Jvm.Cond.fieldLink own index R0 n d).before a0 Z = true ∨ (Jvm.Cond.fieldLinkNest own index R0 n d host).before a0 Z = true) (via : Via Z R0 O n d)
    (eT : T.heap = h) {a : Addr} {v old : Value} (F : Fld Z h a O n d old) (Ex : Exa Z h a C) (L : (Jvm.Cond.lays C O n d).before a0 Z = true ∨ ((Jvm.Cond.laysFinal C O n d).before a0 Z = true ∧ own = O ∧ meth.name = "<init>")) (wi : (Jvm.Cond.instantiable C kk).before a0 Z = true)
    (hty : parseFieldDescriptor d = some ty) (hn : narrow ty v = v) (hf : fits ty v = true) {g : JFrame} (hg : g.method = m) {rest : List Value} (hs : g.stack = v :: .ref a :: rest) (hd : decode c.code g.pc = .ok (.putfield index, 3))
    (k : ∀ T' h', Stand p l e R s m args below meth c T' (locs ++ [⟨a, Jvm.RoadKit.slotOf Z O n d⟩]) cells slots → T'.heap = h' → Wr h h' a (Jvm.RoadKit.slotOf Z O n d) v → Goes p e below E T' { g with pc := g.pc + 3, stack := rest }) : Goes p e below E T g := by
  obtain ⟨T', h', X', e', W', st⟩ := putF X hx hZ hown w via eT F Ex L wi hty hn hf hg hs hd
  exact Goes.of st (k T' h' X' e' W')
theorem goCast {own K : String} {index : Nat} (X : Stand p l e R s m args below meth c T locs cells slots) (hx : p.tables.exec = Jvm.exec) (hZ : Z.Warmed39 s.vm) (hown : s.vm.findClass own = some m.cls) (w : (Jvm.Cond.classLink own index K).before a0 Z = true) (eT : T.heap = h) {a : Addr} (F : Ins Z h a K true)
    {g : JFrame} (hg : g.method = m) {rest : List Value} (hs : g.stack = .ref a :: rest) (hd : decode c.code g.pc = .ok (.checkcast index, 3))
    (k : ∀ T', Stand p l e R s m args below meth c T' locs cells slots → T'.heap = h → Goes p e below E T' { g with pc := g.pc + 3 }) : Goes p e below E T g := by
  obtain ⟨T', X', e', st⟩ := castY X hx hZ hown w eT F hg hs hd
  exact Goes.of st (k T' X' e')
theorem goInstY {own K : String} {index : Nat} (X : Stand p l e R s m args below meth c T locs cells slots) (hx : p.tables.exec = Jvm.exec) (hZ : Z.Warmed39 s.vm) (hown : s.vm.findClass own = some m.cls) (w : (Jvm.Cond.classLink own index K).before a0 Z = true) (eT : T.heap = h) {a : Addr} (F : Ins Z h a K true)
    {g : JFrame} (hg : g.method = m) {rest : List Value} (hs : g.stack = .ref a :: rest) (hd : decode c.code g.pc = .ok (.instanceof index, 3))
    (k : ∀ T', Stand p l e R s m args below meth c T' locs cells slots → T'.heap = h → Goes p e below E T' { g with pc := g.pc + 3, stack := .int 1 :: rest }) : Goes p e below E T g := by
  obtain ⟨T', X', e', st⟩ := instY X hx hZ hown w eT F hg hs hd
  exact Goes.of st (k T' X' e')
theorem goInstN {own K C : String} {index : Nat} (X : Stand p l e R s m args below meth c T locs cells slots) (hx : p.tables.exec = Jvm.exec) (hZ : Z.Warmed39 s.vm) (hown : s.vm.findClass own = some m.cls) (w : (Jvm.Cond.classLink own index K).before a0 Z = true) (eT : T.heap = h) {a : Addr} (Ex : Exa Z h a C) (F : ∃ c t, Z.vm.findClass C = some c ∧ Z.vm.findClass K = some t ∧ Z.vm.assignable c t = false)
    {g : JFrame} (hg : g.method = m) {rest : List Value} (hs : g.stack = .ref a :: rest) (hd : decode c.code g.pc = .ok (.instanceof index, 3))
    (k : ∀ T', Stand p l e R s m args below meth c T' locs cells slots → T'.heap = h → Goes p e below E T' { g with pc := g.pc + 3, stack := .int 0 :: rest }) : Goes p e below E T g := by
  obtain ⟨T', X', e', st⟩ := Jvm.RoadKit.instNo X hx hZ hown w eT Ex F hg hs hd
  exact Goes.of st (k T' X' e')
theorem goNewP {aty : ArrayType} (cap : Nat) (X : Stand p l e R s m args below meth c T locs cells slots) (hx : p.tables.exec = Jvm.exec) (hZ : Z.Warmed39 s.vm) (w : (Jvm.Cond.arrayClass (newarray.typeOf aty)).before a0 Z = true) (eT : T.heap = h) {g : JFrame} (hg : g.method = m) (hd : decode c.code g.pc = .ok (.newarray aty, 2)) {n : Int32} {rest : List Value} (hs : g.stack = .int n :: rest)
    (hn : ¬ n < 0) (hcap : n.toNatClampNeg ≤ cap) (hb : cap * 8 ≤ 536870912) (hc : cells + 1 ≤ R.cells) (hl : slots + cap ≤ R.slots) {ad : String} (had : "[" ++ (newarray.typeOf aty).toString = ad) 
    (k : ∀ T' h' b cA, Stand p l e R s m args below meth c T' locs (cells + 1) (slots + cap) → T'.heap = h' → Ext h h' → h.size ≤ b → Arv Z h' b cA (newarray.typeOf aty) n (List.replicate cap (defaultValue (newarray.typeOf aty))) (defaultValue (newarray.typeOf aty)) → Exa Z h' b ad → Goes p e below E T' { g with pc := g.pc + 2, stack := .ref b :: rest }) : Goes p e below E T g := by
  obtain ⟨T', h', cA, X', e', E', A', Ex', st⟩ := newPE X hx hZ w eT hg hd hs hn hcap hb hc hl had
  exact Goes.of st (k T' h' _ cA X' e' E' (Nat.le_refl _) ((Arv.new A' hn).pad (pad_rep [] _ cap)) Ex')
theorem goNewR {own C : String} {index : Nat} (cap : Nat) (X : Stand p l e R s m args below meth c T locs cells slots) (hx : p.tables.exec = Jvm.exec) (hZ : Z.Warmed39 s.vm) (hown : s.vm.findClass own = some m.cls) (w1 : (Jvm.Cond.classLink own index C).before a0 Z = true) (w2 : (Jvm.Cond.arrayOver (.object C)).before a0 Z = true) (eT : T.heap = h) {g : JFrame} (hg : g.method = m) (hd : decode c.code g.pc = .ok (.anewarray index, 3)) {n : Int32} {rest : List Value} (hs : g.stack = .int n :: rest)
    (hn : ¬ n < 0) (hcap : n.toNatClampNeg ≤ cap) (hb : cap * 8 ≤ 536870912) (hc : cells + 1 ≤ R.cells) (hl : slots + cap ≤ R.slots)
    (k : ∀ T' h' b cA, Stand p l e R s m args below meth c T' locs (cells + 1) (slots + cap) → T'.heap = h' → Ext h h' → h.size ≤ b → Arv Z h' b cA (.object C) n (List.replicate cap .null) .null → Ovr Z cA C → Goes p e below E T' { g with pc := g.pc + 3, stack := .ref b :: rest }) : Goes p e below E T g := by
  obtain ⟨T', h', cA, X', e', E', A', O', st⟩ := newR X hx hZ hown w1 w2 eT hg hd hs hn hcap hb hc hl
  exact Goes.of st (k T' h' _ cA X' e' E' (Nat.le_refl _) ((Arv.new A' hn).pad (pad_rep [] _ cap)) O')
theorem inbV {cl : Cell} {z j : Int32} (S : cl.slots.size = z.toNatClampNeg) (hj : ¬ j < 0) (hj' : j < z) : ¬ (j < 0 ∨ cl.slots.size ≤ j.toNatClampNeg) := inb_of S ⟨hj, hj'⟩
theorem goStI {a : Addr} {kc : ClassId} {z j x : Int32} {vs : List Value} {dv : Value} (i : Nat) (X : Stand p l e R s m args below meth c T locs cells slots) (hx : p.tables.exec = Jvm.exec) (hZ : Z.Warmed39 s.vm) (eT : T.heap = h) (V : Arv Z h a kc .int z vs dv) (hj : ¬ j < 0) (hj' : j < z) (hi : j.toNatClampNeg = i) (hl : i < vs.length)
    {g : JFrame} (hg : g.method = m) {rest : List Value} (hs : g.stack = .int x :: .int j :: .ref a :: rest) (hd : decode c.code g.pc = .ok (.iastore, 1))
    (k : ∀ T' h', Stand p l e R s m args below meth c T' (locs ++ [⟨a, j.toNatClampNeg⟩]) cells slots → T'.heap = h' → Wr h h' a j.toNatClampNeg (.int x) → Arv Z h' a kc .int z (vs.set i (.int x)) dv → Goes p e below E T' { g with pc := g.pc + 1, stack := rest }) : Goes p e below E T g := by
  obtain ⟨cl, A, q1, S, q3, H, G⟩ := V
  obtain ⟨T', h', X', e', W', st⟩ := stI X hx hZ eT A (inbV S hj hj') hg hs hd
  exact Goes.of st (k T' h' X' e' W' (Arv.set A q1 S q3 H G rfl W' i hi hl))
theorem goStJ {a : Addr} {kc : ClassId} {z j : Int32} {x : Int64} {vs : List Value} {dv : Value} (i : Nat) (X : Stand p l e R s m args below meth c T locs cells slots) (hx : p.tables.exec = Jvm.exec) (hZ : Z.Warmed39 s.vm) (eT : T.heap = h) (V : Arv Z h a kc .long z vs dv) (hj : ¬ j < 0) (hj' : j < z) (hi : j.toNatClampNeg = i) (hl : i < vs.length)
    {g : JFrame} (hg : g.method = m) {rest : List Value} (hs : g.stack = .long x :: .int j :: .ref a :: rest) (hd : decode c.code g.pc = .ok (.lastore, 1))
    (k : ∀ T' h', Stand p l e R s m args below meth c T' (locs ++ [⟨a, j.toNatClampNeg⟩]) cells slots → T'.heap = h' → Wr h h' a j.toNatClampNeg (.long x) → Arv Z h' a kc .long z (vs.set i (.long x)) dv → Goes p e below E T' { g with pc := g.pc + 1, stack := rest }) : Goes p e below E T g := by
  obtain ⟨cl, A, q1, S, q3, H, G⟩ := V
  obtain ⟨T', h', X', e', W', st⟩ := stJ X hx hZ eT A (inbV S hj hj') hg hs hd
  exact Goes.of st (k T' h' X' e' W' (Arv.set A q1 S q3 H G rfl W' i hi hl))
theorem goStC {a : Addr} {kc : ClassId} {z j x : Int32} {vs : List Value} {dv : Value} (i : Nat) (X : Stand p l e R s m args below meth c T locs cells slots) (hx : p.tables.exec = Jvm.exec) (hZ : Z.Warmed39 s.vm) (eT : T.heap = h) (V : Arv Z h a kc .char z vs dv) (hj : ¬ j < 0) (hj' : j < z) (hi : j.toNatClampNeg = i) (hl : i < vs.length)
    {g : JFrame} (hg : g.method = m) {rest : List Value} (hs : g.stack = .int x :: .int j :: .ref a :: rest) (hd : decode c.code g.pc = .ok (.castore, 1))
    (k : ∀ T' h', Stand p l e R s m args below meth c T' (locs ++ [⟨a, j.toNatClampNeg⟩]) cells slots → T'.heap = h' → Wr h h' a j.toNatClampNeg (.int (nar .char x)) → Arv Z h' a kc .char z (vs.set i (.int (nar .char x))) dv → Goes p e below E T' { g with pc := g.pc + 1, stack := rest }) : Goes p e below E T g := by
  obtain ⟨cl, A, q1, S, q3, H, G⟩ := V
  obtain ⟨T', h', X', e', W', st⟩ := stC X hx hZ eT A (inbV S hj hj') hg hs hd
  exact Goes.of st (k T' h' X' e' W' (Arv.set A q1 S q3 H G (fits_nar_char _) W' i hi hl))
theorem goStB {a : Addr} {kc : ClassId} {z j x : Int32} {vs : List Value} {dv : Value} (i : Nat) (X : Stand p l e R s m args below meth c T locs cells slots) (hx : p.tables.exec = Jvm.exec) (hZ : Z.Warmed39 s.vm) (eT : T.heap = h) (V : Arv Z h a kc .byte z vs dv) (hj : ¬ j < 0) (hj' : j < z) (hi : j.toNatClampNeg = i) (hl : i < vs.length)
    {g : JFrame} (hg : g.method = m) {rest : List Value} (hs : g.stack = .int x :: .int j :: .ref a :: rest) (hd : decode c.code g.pc = .ok (.bastore, 1))
    (k : ∀ T' h', Stand p l e R s m args below meth c T' (locs ++ [⟨a, j.toNatClampNeg⟩]) cells slots → T'.heap = h' → Wr h h' a j.toNatClampNeg (.int (nar .byte x)) → Arv Z h' a kc .byte z (vs.set i (.int (nar .byte x))) dv → Goes p e below E T' { g with pc := g.pc + 1, stack := rest }) : Goes p e below E T g := by
  obtain ⟨cl, A, q1, S, q3, H, G⟩ := V
  obtain ⟨T', h', X', e', W', st⟩ := stB X hx hZ eT A (inbV S hj hj') hg hs hd
  exact Goes.of st (k T' h' X' e' W' (Arv.set A q1 S q3 H G (fits_nar_byte _) W' i hi hl))
theorem goStZ {a : Addr} {kc : ClassId} {z j x : Int32} {vs : List Value} {dv : Value} (i : Nat) (X : Stand p l e R s m args below meth c T locs cells slots) (hx : p.tables.exec = Jvm.exec) (hZ : Z.Warmed39 s.vm) (eT : T.heap = h) (V : Arv Z h a kc .boolean z vs dv) (hj : ¬ j < 0) (hj' : j < z) (hi : j.toNatClampNeg = i) (hl : i < vs.length)
    {g : JFrame} (hg : g.method = m) {rest : List Value} (hs : g.stack = .int x :: .int j :: .ref a :: rest) (hd : decode c.code g.pc = .ok (.bastore, 1))
    (k : ∀ T' h', Stand p l e R s m args below meth c T' (locs ++ [⟨a, j.toNatClampNeg⟩]) cells slots → T'.heap = h' → Wr h h' a j.toNatClampNeg (.int (nar .boolean x)) → Arv Z h' a kc .boolean z (vs.set i (.int (nar .boolean x))) dv → Goes p e below E T' { g with pc := g.pc + 1, stack := rest }) : Goes p e below E T g := by
  obtain ⟨cl, A, q1, S, q3, H, G⟩ := V
  obtain ⟨T', h', X', e', W', st⟩ := stZ X hx hZ eT A (inbV S hj hj') hg hs hd
  exact Goes.of st (k T' h' X' e' W' (Arv.set A q1 S q3 H G (fits_nar_bool _) W' i hi hl))
theorem goStR {a y : Addr} {C : String} {kc : ClassId} {z j : Int32} {vs : List Value} {dv : Value} (i : Nat) (X : Stand p l e R s m args below meth c T locs cells slots) (hx : p.tables.exec = Jvm.exec) (hZ : Z.Warmed39 s.vm) (eT : T.heap = h) (V : Arv Z h a kc (.object C) z vs dv) (O : Ovr Z kc C) (I : Ins Z h y C true) (hj : ¬ j < 0) (hj' : j < z) (hi : j.toNatClampNeg = i) (hl : i < vs.length)
    {g : JFrame} (hg : g.method = m) {rest : List Value} (hs : g.stack = .ref y :: .int j :: .ref a :: rest) (hd : decode c.code g.pc = .ok (.aastore, 1))
    (k : ∀ T' h', Stand p l e R s m args below meth c T' (locs ++ [⟨a, j.toNatClampNeg⟩]) cells slots → T'.heap = h' → Wr h h' a j.toNatClampNeg (.ref y) → Arv Z h' a kc (.object C) z (vs.set i (.ref y)) dv → Goes p e below E T' { g with pc := g.pc + 1, stack := rest }) : Goes p e below E T g := by
  obtain ⟨cl, A, q1, S, q3, H, G⟩ := V
  obtain ⟨T', h', X', e', W', st⟩ := stR X hx hZ eT A (inbV S hj hj') rfl (Sto.ofV A q1 O I) hg hs hd
  exact Goes.of st (k T' h' X' e' W' (Arv.set A q1 S q3 H G rfl W' i hi hl))
theorem goLdI {a : Addr} {kc : ClassId} {z j : Int32} {vs : List Value} {dv : Value} (v : Value) (X : Stand p l e R s m args below meth c T locs cells slots) (hx : p.tables.exec = Jvm.exec) (hZ : Z.Warmed39 s.vm) (eT : T.heap = h) (V : Arv Z h a kc .int z vs dv) (hj : ¬ j < 0) (hj' : j < z) (hv : vs.getD j.toNatClampNeg dv = v)
    {g : JFrame} (hg : g.method = m) {rest : List Value} (hs : g.stack = .int j :: .ref a :: rest) (hd : decode c.code g.pc = .ok (.iaload, 1)) (k : Goes p e below E T { g with pc := g.pc + 1, stack := v :: rest }) : Goes p e below E T g := by
  obtain ⟨cl, A, q1, S, q3, H, G⟩ := V
  exact Goes.of (fun t q => X.iaload hx (by rw [eT]; exact A.1) (State.isArrayOf_alike hZ.alike A.2.1) A.2.2 (inbV S hj hj') (H.at (inbV S hj hj') hv) hg hs hd t q) k
theorem goLdJ {a : Addr} {kc : ClassId} {z j : Int32} {vs : List Value} {dv : Value} (v : Value) (X : Stand p l e R s m args below meth c T locs cells slots) (hx : p.tables.exec = Jvm.exec) (hZ : Z.Warmed39 s.vm) (eT : T.heap = h) (V : Arv Z h a kc .long z vs dv) (hj : ¬ j < 0) (hj' : j < z) (hv : vs.getD j.toNatClampNeg dv = v)
    {g : JFrame} (hg : g.method = m) {rest : List Value} (hs : g.stack = .int j :: .ref a :: rest) (hd : decode c.code g.pc = .ok (.laload, 1)) (k : Goes p e below E T { g with pc := g.pc + 1, stack := v :: rest }) : Goes p e below E T g := by
  obtain ⟨cl, A, q1, S, q3, H, G⟩ := V
  exact Goes.of (fun t q => X.laload hx (by rw [eT]; exact A.1) (State.isArrayOf_alike hZ.alike A.2.1) A.2.2 (inbV S hj hj') (H.at (inbV S hj hj') hv) hg hs hd t q) k
theorem goLdC {a : Addr} {kc : ClassId} {z j : Int32} {vs : List Value} {dv : Value} (v : Value) (X : Stand p l e R s m args below meth c T locs cells slots) (hx : p.tables.exec = Jvm.exec) (hZ : Z.Warmed39 s.vm) (eT : T.heap = h) (V : Arv Z h a kc .char z vs dv) (hj : ¬ j < 0) (hj' : j < z) (hv : vs.getD j.toNatClampNeg dv = v)
    {g : JFrame} (hg : g.method = m) {rest : List Value} (hs : g.stack = .int j :: .ref a :: rest) (hd : decode c.code g.pc = .ok (.caload, 1)) (k : Goes p e below E T { g with pc := g.pc + 1, stack := v :: rest }) : Goes p e below E T g := by
  obtain ⟨cl, A, q1, S, q3, H, G⟩ := V
  exact Goes.of (fun t q => X.caload hx (by rw [eT]; exact A.1) (State.isArrayOf_alike hZ.alike A.2.1) A.2.2 (inbV S hj hj') (H.at (inbV S hj hj') hv) hg hs hd t q) k
theorem goLdB {a : Addr} {kc : ClassId} {z j : Int32} {vs : List Value} {dv : Value} (v : Value) (X : Stand p l e R s m args below meth c T locs cells slots) (hx : p.tables.exec = Jvm.exec) (hZ : Z.Warmed39 s.vm) (eT : T.heap = h) (V : Arv Z h a kc .byte z vs dv) (hj : ¬ j < 0) (hj' : j < z) (hv : vs.getD j.toNatClampNeg dv = v)
    {g : JFrame} (hg : g.method = m) {rest : List Value} (hs : g.stack = .int j :: .ref a :: rest) (hd : decode c.code g.pc = .ok (.baload, 1)) (k : Goes p e below E T { g with pc := g.pc + 1, stack := v :: rest }) : Goes p e below E T g := by
  obtain ⟨cl, A, q1, S, q3, H, G⟩ := V
  exact Goes.of (fun t q => X.baloadBytes hx (by rw [eT]; exact A.1) (State.isArrayOf_alike hZ.alike A.2.1) A.2.2 (inbV S hj hj') (H.at (inbV S hj hj') hv) hg hs hd t q) k
theorem goLdZ {a : Addr} {kc : ClassId} {z j : Int32} {vs : List Value} {dv : Value} (v : Value) (X : Stand p l e R s m args below meth c T locs cells slots) (hx : p.tables.exec = Jvm.exec) (hZ : Z.Warmed39 s.vm) (eT : T.heap = h) (V : Arv Z h a kc .boolean z vs dv) (hj : ¬ j < 0) (hj' : j < z) (hv : vs.getD j.toNatClampNeg dv = v)
    {g : JFrame} (hg : g.method = m) {rest : List Value} (hs : g.stack = .int j :: .ref a :: rest) (hd : decode c.code g.pc = .ok (.baload, 1)) (k : Goes p e below E T { g with pc := g.pc + 1, stack := v :: rest }) : Goes p e below E T g := by
  obtain ⟨cl, A, q1, S, q3, H, G⟩ := V
  exact Goes.of (fun t q => X.baloadBooleans hx (by rw [eT]; exact A.1) (State.isArrayOf_alike hZ.alike A.2.1) A.2.2 (inbV S hj hj') (H.at (inbV S hj hj') hv) hg hs hd t q) k
theorem goLdR {a : Addr} {C : String} {kc : ClassId} {z j : Int32} {vs : List Value} {dv : Value} (v : Value) (X : Stand p l e R s m args below meth c T locs cells slots) (hx : p.tables.exec = Jvm.exec) (hZ : Z.Warmed39 s.vm) (eT : T.heap = h) (V : Arv Z h a kc (.object C) z vs dv) (hj : ¬ j < 0) (hj' : j < z) (hv : vs.getD j.toNatClampNeg dv = v)
    {g : JFrame} (hg : g.method = m) {rest : List Value} (hs : g.stack = .int j :: .ref a :: rest) (hd : decode c.code g.pc = .ok (.aaload, 1)) (k : Goes p e below E T { g with pc := g.pc + 1, stack := v :: rest }) : Goes p e below E T g := by
  obtain ⟨cl, A, q1, S, q3, H, G⟩ := V
  exact Goes.of (fun t q => X.aaload hx (by rw [eT]; exact A.1) (State.isArrayOf_alike hZ.alike A.2.1) rfl A.2.2 (inbV S hj hj') (H.at (inbV S hj hj') hv) hg hs hd t q) k
theorem goLen {a : Addr} {kc : ClassId} {ty : FieldType} {z : Int32} {vs : List Value} {dv : Value} (X : Stand p l e R s m args below meth c T locs cells slots) (hx : p.tables.exec = Jvm.exec) (hZ : Z.Warmed39 s.vm) (eT : T.heap = h) (V : Arv Z h a kc ty z vs dv)
    {g : JFrame} (hg : g.method = m) {rest : List Value} (hs : g.stack = .ref a :: rest) (hd : decode c.code g.pc = .ok (.arraylength, 1)) (k : Goes p e below E T { g with pc := g.pc + 1, stack := .int z :: rest }) : Goes p e below E T g := by
  obtain ⟨cl, A, q1, S, q3, H, G⟩ := V
  exact Goes.of (fun t q => X.arraylength hx (by rw [eT]; exact A.1) (State.isArrayOf_alike hZ.alike A.2.1) hg hs hd t (by rw [len_of S q3]; exact q)) k
/-- a start fact out of a case's word -/
theorem fld_of_eq {args : Array Value} {t u : Term} {C n d : String} {a : Addr} {v : Value} (ev : t.eval args s none [] s = some (.ref a)) (hu : u.eval args s none [] s = some v) (h : (Jvm.Cond.eq (.field t C n d) u).value args s none s [] = some true) : Fld s s.heap a C n d v := by
  refine Fld.start ?_
  simp only [Jvm.Cond.value, fld_at ev, hu] at h
  cases hf : s.fieldOf? a C n d with
  | none => simp [hf] at h
  | some x => cases x <;> cases v <;> simp [hf] at h ⊢ <;> exact h
theorem sta_at {args : Array Value} {C n d : String} {v : Value} (ev : (Term.static C n d).eval args s none [] s = some v) (w1 : (Jvm.Cond.initialized C).before args s = true) (w2 : (Jvm.Cond.laysStatic C n d).before args s = true) : Sta s s.heap C n d v := Sta.start ev (Or.inr ⟨w1, w2⟩)
/-- an enum constant: the static, the object's class, its ordinal -/
def Con (Z : State) (C f : String) (d : String) (k : Int32) (a : Addr) : Prop := Sta Z Z.heap C f d (.ref a) ∧ Exa Z Z.heap a C ∧ Fld Z Z.heap a "java/lang/Enum" "ordinal" "I" (.int k)
theorem con_of {args : Array Value} {C f d : String} {k : Int32} (h1 : (Jvm.Cond.exactly (.static C f d) C).value args s none s [] = some true) (h2 : (Jvm.Cond.eq (.field (.static C f d) "java/lang/Enum" "ordinal" "I") (.int k)).value args s none s [] = some true)
    (w1 : (Jvm.Cond.initialized C).before args s = true) (w2 : (Jvm.Cond.laysStatic C f d).before args s = true) : ∃ a, Con s C f d k a ∧ (Term.static C f d).eval args s none [] s = some (.ref a) := by
  obtain ⟨a, ev⟩ := exa_v h1
  exact ⟨a, ⟨sta_at ev w1 w2, Exa.start ev h1, fld_of_eq ev (Term.int_eval k) h2⟩, ev⟩
theorem Con.ne {C f d C' f' d' : String} {k k' : Int32} {a b : Addr} (F : Con Z C f d k a) (G : Con Z C' f' d' k' b) (q : k ≠ k') : a ≠ b := Fld.ne F.2.2 G.2.2 (fun h => q (Value.int.inj h))
theorem mask31 (x : Int32) : (x &&& (2147483647 : Int32)).toInt = x.toInt % 2147483648 := c_mask x _ 31 (by decide) (by decide)
theorem div_pos (x y : Int32) {k : Int} (hx : ¬ x < 0) (hy : y.toInt = k) (h1 : y ≠ -1) : (x / y).toInt = x.toInt / k := (c_idiv x y k hy h1).1 (by rw [Int32.lt_iff_toInt_lt] at hx; have : (0 : Int32).toInt = 0 := rfl; omega)
theorem rem_pos {x y : Int32} {k : Int} (h : 0 ≤ x.toInt) (hy : y.toInt = k) : (x - (x / y) * y).toInt = x.toInt % k := by
  rw [irem_eq_mod]; exact (c_irem x y k hy).1 h
theorem rem31 (x y : Int32) {k : Int} (hy : y.toInt = k) : ((x &&& (2147483647 : Int32)) - ((x &&& (2147483647 : Int32)) / y) * y).toInt = (x.toInt % 2147483648) % k := by
  have e := mask31 x
  rw [rem_pos (by omega) hy, e]
def Cst (Z : State) (C f : String) (d : String) (a : Addr) : Prop := Sta Z Z.heap C f d (.ref a) ∧ Exa Z Z.heap a C
theorem cst_of {args : Array Value} {C f d : String} (h1 : (Jvm.Cond.exactly (.static C f d) C).value args s none s [] = some true)
    (w1 : (Jvm.Cond.initialized C).before args s = true) (w2 : (Jvm.Cond.laysStatic C f d).before args s = true) : ∃ a, Cst s C f d a ∧ (Term.static C f d).eval args s none [] s = some (.ref a) := by
  obtain ⟨a, ev⟩ := exa_v h1
  exact ⟨a, ⟨sta_at ev w1 w2, Exa.start ev h1⟩, ev⟩
theorem goClone {own ad : String} {index : Nat} {ty : FieldType} {a : Addr} {kc : ClassId} {z : Int32} {vs : List Value} {dv : Value} (W cap : Nat) (X : Stand p l e R s m args below meth c T locs cells slots) (hx : p.tables.exec = Jvm.exec) (hZ : Z.Warmed39 s.vm) (hown : s.vm.findClass own = some m.cls)
    (w1 : (Jvm.Cond.methodLink own index ⟨ad, "clone", "()Ljava/lang/Object;"⟩).before a0 Z = true) (w2 : (Jvm.Cond.sameMethod ad "java/lang/Object" "clone" "()Ljava/lang/Object;").before a0 Z = true) (w3 : (Jvm.Cond.native ⟨"java/lang/Object", "clone", "()Ljava/lang/Object;"⟩).before a0 Z = true)
    (w4 : (Jvm.Cond.instanceMethod ⟨"java/lang/Object", "clone", "()Ljava/lang/Object;"⟩).before a0 Z = true) (w5 : (Jvm.Cond.selects ad ⟨ad, "clone", "()Ljava/lang/Object;"⟩ ⟨"java/lang/Object", "clone", "()Ljava/lang/Object;"⟩).before a0 Z = true) (w6 : (Jvm.Cond.castable ad "java/lang/Cloneable").before a0 Z = true)
    (eT : T.heap = h) (V : Arv Z h a kc ty z vs dv) (Ex : Exa Z h a ad) {g : JFrame} (hg : g.method = m) (hsize : g.locals.size = c.maxLocals) {rest : List Value} (hst : g.stack = .ref a :: rest) (hd : decode c.code g.pc = .ok (.invokevirtual index, 3))
    (hf : 1 ≤ R.frames) (hW : 2 * g.monitorRoom + (rest.map fun v => v.category).sum ≤ W) (hl : W + 14 ≤ R.locals) (hcap : z.toNatClampNeg ≤ cap) (hc : cells + 1 ≤ R.cells) (hsl : slots + cap ≤ R.slots)
    (k : ∀ T' h' b, Stand p l e R s m args below meth c T' locs (cells + 1) (slots + cap) → T'.heap = h' → Ext h h' → h.size ≤ b → Arv Z h' b kc ty z vs dv → Exa Z h' b ad → Goes p e below E T' { g with pc := g.pc + 3, stack := .ref b :: rest }) : Goes p e below E T g := by
  obtain ⟨T', h', X', e', E', A', Ex', st⟩ := cloneH X hx hZ hown w1 w2 w3 w4 w5 w6 eT V.arh Ex hg hsize hst hd hf hW hl hcap hc hsl
  exact Goes.of st (k T' h' _ X' e' E' (Nat.le_refl _) A' Ex')
theorem nsRoot {O K : String} {n : Nat} (w : (Jvm.Cond.noSuperclass O).before a0 Z = true) (wk : (Jvm.Cond.instantiable K n).before a0 Z = true) (hn : O ≠ K) : NS Z O K := by
  obtain ⟨c, k, h1, h2, h3, -, -⟩ := Cond.noSuperclass_spec w
  obtain ⟨t, kt, g1, -⟩ := Cond.instantiable_spec wk
  have ne := ids_ne h1 g1 hn
  refine ⟨c, t, h1, g1, fun fuel => ?_⟩
  cases fuel with
  | zero => rfl
  | succ f => simp [Vm.isSubclassAux, ne, h2, h3]
theorem nsNo {C S K : String} {n : Nat} (w : (Jvm.Cond.superclass C S).before a0 Z = true) (wk : (Jvm.Cond.instantiable K n).before a0 Z = true) (q : NS Z C K) (hn : C ≠ K) : ∃ c t, Z.vm.findClass C = some c ∧ Z.vm.findClass K = some t ∧ Z.vm.assignable c t = false := by
  obtain ⟨c, t, h0, g0, n3⟩ := q
  obtain ⟨p, k, kp, h1, h2, h3, h4, h5, -, h7⟩ := Cond.superclass_spec h0 w
  obtain ⟨t', kt, g1, g2, g5, g7, -⟩ := Cond.instantiable_spec wk
  cases g0.symm.trans g1
  have g8 : kt.isInterface = false := by simp only [Bool.or_eq_false_iff] at g7; exact g7.1
  have ne := ids_ne h0 g0 hn
  refine ⟨c, t, h0, g0, ?_⟩
  show Z.vm.assignableAux (255 + 1) c t = false
  simp [Vm.assignableAux, ne, h2, g2, h5, g5, g8, Vm.isSubclass, n3]
/-- what is known of Integer's cache at the start -/
def IntC (Z : State) (ca : Addr) (cl : Cell) : Prop := Sta Z Z.heap "java/lang/Integer$IntegerCache" "high" "I" (.int 127) ∧ Sta Z Z.heap "java/lang/Integer$IntegerCache" "cache" "[Ljava/lang/Integer;" (.ref ca) ∧ Arr Z Z.heap ca cl (.object "java/lang/Integer") ∧ cl.slots.size = 256 ∧ ∀ j, j < 256 → ∃ b, cl.slots[j]? = some (.ref b) ∧ Exa Z Z.heap b "java/lang/Integer"
theorem ne_of_not {args : Array Value} {t : Term} {x : Int32} (ev : t.eval args s none [] s = some (.int x)) (h : (Jvm.Cond.not (.eq t (.int 0))).before args s = true) : ¬ x = 0 := by
  intro q
  subst q
  have e := Cond.before_iff.mp h
  simp [Jvm.Cond.value, ev, Term.eval] at e
end Own1
end Jvm.Own
namespace Jvm.Own
open Jvm Sem ClassFile Op Lib Jvm.Stand Jvm.Free Jvm.LawKit Jvm.RoadKit
/-- the end of a walk that may have interned -/
def EndW (Z s : State) (EL : List (String × Nat)) (Q : Option Value → Heap → List Loc → Prop) (K N : Nat) (o : Outcome) (U : State) : Prop :=
  ∃ v L, o = .returned v ∧ Q v U.heap L ∧ CHr Z EL s.vm s.heap U.vm U.heap ∧ ReturnedEndW s o U L K N
/-- the contract of a body that may intern, the read constants held -/
def RmH (l : Launch) (y : MethodName) (bytes : ByteArray) (maxL : Nat) (ret : Option FieldType) (rm : Room) (ws : List Jvm.Cond) (Z : State) (EL : List (String × Nat)) (as' : Array Value) (h : Heap) (Q : Option Value → Heap → List Loc → Prop) : Prop :=
  MetFree l y (head1 (Jvm.Cond.code y bytes maxL ret :: ws) rm) (fun a U => a = as' ∧ Z.Warmed39 U.vm ∧ U.heap = h ∧ CHv Z EL U.vm h) (fun _ _ _ _ _ => True) (fun _ U o U' => ∃ v L, o = .returned v ∧ Q v U'.heap L ∧ CHr Z EL U.vm U.heap U'.vm U'.heap ∧ ReturnedEndW U o U' L rm.cells rm.slots)
section Own2
variable {p : Program} {l : Launch} {e : Env} {R : Room} {s : State} {m : MethodId} {args : Array Value} {below : List Frame} {meth : Method} {c : Code} {T : State} {locs : List Loc} {cells slots : Nat} {Z : State} {a0 : Array Value} {h : Heap} {E : Outcome → State → Prop} {vm0 : Vm} {k0 : Nat} {EL : List (String × Nat)} {v00 : Vm} {h00 : Heap}
theorem RmH.of {ws : List Jvm.Cond} {y : MethodName} {bytes : ByteArray} {maxL : Nat} {ret : Option FieldType} {rm : Room} {as' : Array Value} {h : Heap} {Q : Option Value → Heap → List Loc → Prop} (hp : plainFor y = true)
    (body : ∀ (p : Program) (e : Env) (s : State) (m : MethodId) (below : List Frame) (meth : Method) (c : Code) (T : State), Stand p l e rm (s.setVm s.vm) m as' below meth c T [] 0 0 → p.tables.exec = Jvm.exec → Z.Warmed39 s.vm → c.code = bytes → c.maxLocals = maxL → s.vm.findClass y.cls = some m.cls → meth.name = y.name → meth.sig.returnType = ret → meth.locks = false → T.heap = h → s.Since s.vm 0 → 0 ≤ h.size → CHr Z EL s.vm s.heap s.vm h →
      Goes p e below (EndW Z s EL Q rm.cells rm.slots) T (entryFrame m as' maxL)) : RmH l y bytes maxL ret rm ws Z EL as' h Q := by
  refine MetFree.of_bodySF hp hisR ?_
  intro p e s m args below meth c s₁ Bd hml0 hP hK
  obtain ⟨rfl, hZ, hh, hC⟩ := hP
  exact body p e s m below meth c s₁ (Stand.of_body Bd) Bd.exec hZ Bd.bytes hml0 (findClass_of_methodNamed Bd.named) (name_of_methodNamed Bd.named Bd.method).1 Bd.returns Bd.notSynchronized (by rw [← hh, Bd.state]; rfl) ((State.WarmedH.refl s).since 0) (Nat.zero_le _) (by rw [hh]; exact CHr.refl hC)
theorem goRetW {Q : Option Value → Heap → List Loc → Prop} {K N : Nat} {g : JFrame} {v : Option Value} (X : Stand p l e R (s.setVm vm0) m args below meth c T locs cells slots) (hS : s.Since vm0 k0) (hk : k0 ≤ h.size) (hZ : Z.Warmed39 vm0) (hEL : EW Z a0 EL) (H : CHr Z EL s.vm s.heap vm0 h) (hv : meth.sig.returnType = none → v = none) (hlocks : meth.locks = false) (eT : T.heap = h) (hQ : Q v h locs) (hK : cells ≤ K) (hN : slots ≤ N)
    (st : ∀ fs, (∀ (f : JFrame) (acts : List Action), f.method = m → f.locked = none → f.entered = [] → (doReturn e (T.setTop f) acts v).1 = T.setFrames fs) → Steps p.tables e below (T.setTop g) (T.setFrames fs)) : Goes p e below (EndW Z s EL Q K N) T g := by
  obtain ⟨fs, hr, hrun, hended, hW⟩ := X.leaveW hS (by rw [eT]; exact hk) (v := v) hv hlocks
  subst eT
  have hH := H.trans (CHv.at X hZ hEL H.1)
  exact ⟨_, _, st fs hr, hrun, hended, _, _, rfl, hQ, hH, hW.1, hW.2.1, hW.2.2.1, hW.2.2.2.mono hK hN⟩
theorem retZW {Q : Option Value → Heap → List Loc → Prop} {K N pc : Nat} {Ls : Array Slot} {z : Int32} {t : FieldType} {rest : List Value} (X : Stand p l e R (s.setVm vm0) m args below meth c T locs cells slots) (hS : s.Since vm0 k0) (hk : k0 ≤ h.size) (hZ : Z.Warmed39 vm0) (hEL : EW Z a0 EL) (H : CHr Z EL s.vm s.heap vm0 h) (hx : p.tables.exec = Jvm.exec) (hret : meth.sig.returnType = some t) (hlocks : meth.locks = false) (ht : t = .boolean ∨ t = .byte ∨ t = .char ∨ t = .short)
    (hd : decode c.code pc = .ok (.ireturn, 1)) (eT : T.heap = h) (hK : cells ≤ K) (hN : slots ≤ N) (hQ : Q (some (.int (nar t z))) h locs) : Goes p e below (EndW Z s EL Q K N) T (mkF m pc Ls (.int z :: rest)) :=
  goRetW X hS hk hZ hEL H (fun q => by rw [hret] at q; cases q) hlocks eT hQ hK hN fun fs hr => retN X hx hret ht hd hr
theorem retRefW {Q : Option Value → Heap → List Loc → Prop} {K N pc : Nat} {Ls : Array Slot} {z : Value} {t : FieldType} {rest : List Value} (X : Stand p l e R (s.setVm vm0) m args below meth c T locs cells slots) (hS : s.Since vm0 k0) (hk : k0 ≤ h.size) (hZ : Z.Warmed39 vm0) (hEL : EW Z a0 EL) (H : CHr Z EL s.vm s.heap vm0 h) (hx : p.tables.exec = Jvm.exec) (hret : meth.sig.returnType = some t) (hlocks : meth.locks = false) (ht : t.isReference = true) (hz : z.isRef = true)
    (hd : decode c.code pc = .ok (.areturn, 1)) (eT : T.heap = h) (hK : cells ≤ K) (hN : slots ≤ N) (hQ : Q (some z) h locs) : Goes p e below (EndW Z s EL Q K N) T (mkF m pc Ls (z :: rest)) :=
  goRetW X hS hk hZ hEL H (fun q => by rw [hret] at q; cases q) hlocks eT hQ hK hN fun fs hr => by
    have hm' : T.vm.method? m = some meth := X.method'
    show Steps p.tables e below (T.setTop { method := m, pc := pc, locals := Ls, stack := _ :: rest, locked := none }) _
    rcases ref_cases hz with rfl | ⟨_, rfl⟩
    all_goals
      jvm_step X.here [X.here.top, hx, hd, hm', hret, ht, Value.isRef]
      first | (intro acts; rw [hr _ acts rfl rfl rfl]) | rw [hr _ _ rfl rfl rfl]
      exact Steps.refl _
theorem retIntW {Q : Option Value → Heap → List Loc → Prop} {K N pc : Nat} {Ls : Array Slot} {z : Int32} {rest : List Value} (X : Stand p l e R (s.setVm vm0) m args below meth c T locs cells slots) (hS : s.Since vm0 k0) (hk : k0 ≤ h.size) (hZ : Z.Warmed39 vm0) (hEL : EW Z a0 EL) (H : CHr Z EL s.vm s.heap vm0 h) (hx : p.tables.exec = Jvm.exec) (hret : meth.sig.returnType = some .int) (hlocks : meth.locks = false)
    (hd : decode c.code pc = .ok (.ireturn, 1)) (eT : T.heap = h) (hK : cells ≤ K) (hN : slots ≤ N) (hQ : Q (some (.int z)) h locs) : Goes p e below (EndW Z s EL Q K N) T (mkF m pc Ls (.int z :: rest)) :=
  goRetW X hS hk hZ hEL H (fun q => by rw [hret] at q; cases q) hlocks eT hQ hK hN fun fs hr => by
    have hm' : T.vm.method? m = some meth := X.method'
    have hn : narrow .int (.int z) = .int z := rfl
    show Steps p.tables e below (T.setTop { method := m, pc := pc, locals := Ls, stack := _ :: rest, locked := none }) _
    jvm_step X.here [X.here.top, hx, hd, hm', hret, hn]
    first | (intro acts; rw [hr _ acts rfl rfl rfl]) | rw [hr _ _ rfl rfl rfl]
    exact Steps.refl _
theorem retVoidW {Q : Option Value → Heap → List Loc → Prop} {K N pc : Nat} {Ls : Array Slot} {rest : List Value} (X : Stand p l e R (s.setVm vm0) m args below meth c T locs cells slots) (hS : s.Since vm0 k0) (hk : k0 ≤ h.size) (hZ : Z.Warmed39 vm0) (hEL : EW Z a0 EL) (H : CHr Z EL s.vm s.heap vm0 h) (hx : p.tables.exec = Jvm.exec) (hret : meth.sig.returnType = none) (hlocks : meth.locks = false)
    (hd : decode c.code pc = .ok (.return_, 1)) (eT : T.heap = h) (hK : cells ≤ K) (hN : slots ≤ N) (hQ : Q none h locs) : Goes p e below (EndW Z s EL Q K N) T (mkF m pc Ls rest) :=
  goRetW X hS hk hZ hEL H (fun _ => rfl) hlocks eT hQ hK hN fun fs hr => by
    have hm' : T.vm.method? m = some meth := X.method'
    show Steps p.tables e below (T.setTop { method := m, pc := pc, locals := Ls, stack := rest, locked := none }) _
    jvm_step X.here [X.here.top, hx, hd, hm', hret]
    first | (intro acts; rw [hr _ acts rfl rfl rfl]) | rw [hr _ _ rfl rfl rfl]
    exact Steps.refl _
theorem goStaticW {own : String} {index : Nat} {y : MethodName} {bytes : ByteArray} {maxL : Nat} {ret : Option FieldType} {rm : Room} {as' : Array Value} {Q : Option Value → Heap → List Loc → Prop} (W : Nat)
    (X : Stand p l e R (s.setVm vm0) m args below meth c T locs cells slots) (hS : s.Since vm0 k0) (hk : k0 ≤ h.size) (hEL : EW Z a0 EL) (H : CHr Z EL v00 h00 vm0 h) (hx : p.tables.exec = Jvm.exec) (hZ : Z.Warmed39 vm0) (hown : vm0.findClass own = some m.cls) (w1 : (Jvm.Cond.methodLink own index y).before a0 Z = true) (w2 : (Jvm.Cond.static y).before a0 Z = true) (w3 : (Jvm.Cond.initialized y.cls).before a0 Z = true) (w4 : (Jvm.Cond.code y bytes maxL ret).before a0 Z = true)
    (hy : y.cls ≠ "java/lang/invoke/MethodHandle" ∧ y.cls ≠ "java/lang/invoke/VarHandle") (r : RmH l y bytes maxL ret rm [] Z EL as' h Q) (eT : T.heap = h) {g : JFrame} (hg : g.method = m) (hsize : g.locals.size = c.maxLocals) (argsL rest : List Value) (hlen : ∀ sig, parseMethodDescriptor y.desc = some sig → argsL.length = sig.parameters.length)
    (hstack : g.stack = argsL.reverse ++ rest) (has : argsL.toArray = as') (hW : 2 * g.monitorRoom + (rest.map fun v => v.category).sum ≤ W) (hd : decode c.code g.pc = .ok (.invokestatic index, 3)) (hf : rm.frames + 1 ≤ R.frames) (hl : W + (maxL + 11) + rm.locals ≤ R.locals) (hc : cells + rm.cells ≤ R.cells) (hs : slots + rm.slots ≤ R.slots)
    (k : ∀ v T' L k1, Stand p l e R (s.setVm T'.vm) m args below meth c T' (locs ++ L) (cells + rm.cells) (slots + rm.slots) → s.Since T'.vm k1 → k1 ≤ T'.heap.size → Z.Warmed39 T'.vm → T'.vm.findClass own = some m.cls → CHr Z EL v00 h00 T'.vm T'.heap → Q v T'.heap L → Goes p e below E T' { g with pc := g.pc + 3, stack := v.toList ++ rest }) : Goes p e below E T g := by
  obtain ⟨v, vm₁, ⟨T', L', k', n'⟩, -, X', hS', hgr, ⟨L, hQ, q1, q2, q3, hC⟩, st⟩ := callSS X hx (y := y) hown (mvT (s := s.setVm vm0) hZ w1) (mvT (s := s.setVm vm0) hZ w2) (mvT (s := s.setVm vm0) hZ w3) (mvT (s := s.setVm vm0) hZ w4) hy (backOfSH (W := W) r hZ w4 w3 hf hl hEL H.1) hg hsize hlen hstack hW hd (fun _ _ => ⟨has, eT, hc, hs⟩)
  dsimp only [Pt.U, Pt.locs, Pt.cells, Pt.slots] at X' q1 q2 q3 st hQ hS' hgr hC
  subst q1 q2 q3
  exact Goes.of (fun _ => st.trans) (k v T' L _ X' (hS.trans hS' (Nat.le_trans hk (eT ▸ hgr))) (Nat.le_refl _) (State.Warmed39.trans (t := s.setVm vm0) hZ hS'.1) (by rw [hS'.1.alike.findClass]; exact hown) (H.trans hC) hQ)
theorem goSpecialW {own : String} {index : Nat} {y : MethodName} {bytes : ByteArray} {maxL : Nat} {rm : Room} {as' : Array Value} {Q : Option Value → Heap → List Loc → Prop} (W : Nat)
    (X : Stand p l e R (s.setVm vm0) m args below meth c T locs cells slots) (hS : s.Since vm0 k0) (hk : k0 ≤ h.size) (hEL : EW Z a0 EL) (H : CHr Z EL v00 h00 vm0 h) (hx : p.tables.exec = Jvm.exec) (hZ : Z.Warmed39 vm0) (hy1 : y.name = "<init>") (hown : vm0.findClass own = some m.cls) (w1 : (Jvm.Cond.methodLink own index y).before a0 Z = true) (w2 : (Jvm.Cond.instanceMethod y).before a0 Z = true) (w3 : (Jvm.Cond.initialized y.cls).before a0 Z = true) (w4 : (Jvm.Cond.code y bytes maxL none).before a0 Z = true)
    (hy : y.cls ≠ "java/lang/invoke/MethodHandle" ∧ y.cls ≠ "java/lang/invoke/VarHandle") (r : RmH l y bytes maxL none rm [] Z EL as' h Q) (eT : T.heap = h) {g : JFrame} (hg : g.method = m) (hsize : g.locals.size = c.maxLocals) (a : Addr) (argsL rest : List Value) (hlen : ∀ sig, parseMethodDescriptor y.desc = some sig → argsL.length = sig.parameters.length)
    (hstack : g.stack = argsL.reverse ++ .ref a :: rest) (has : (.ref a :: argsL).toArray = as') (hW : 2 * g.monitorRoom + (rest.map fun v => v.category).sum ≤ W) (hd : decode c.code g.pc = .ok (.invokespecial index, 3)) (hf : rm.frames + 1 ≤ R.frames) (hl : W + (maxL + 11) + rm.locals ≤ R.locals) (hc : cells + rm.cells ≤ R.cells) (hs : slots + rm.slots ≤ R.slots)
    (k : ∀ v T' L k1, Stand p l e R (s.setVm T'.vm) m args below meth c T' (locs ++ L) (cells + rm.cells) (slots + rm.slots) → s.Since T'.vm k1 → k1 ≤ T'.heap.size → Z.Warmed39 T'.vm → T'.vm.findClass own = some m.cls → CHr Z EL v00 h00 T'.vm T'.heap → Q v T'.heap L → Goes p e below E T' { g with pc := g.pc + 3, stack := v.toList ++ rest }) : Goes p e below E T g := by
  obtain ⟨v, vm₁, ⟨T', L', k', n'⟩, -, X', hS', hgr, ⟨L, hQ, q1, q2, q3, hC⟩, st⟩ := X.specialBackS hx (y := y) hy1 hown (mvT (s := s.setVm vm0) hZ w1) (mvT (s := s.setVm vm0) hZ w2) (mvT (s := s.setVm vm0) hZ w4) hy (backOfSH (W := W) r hZ w4 w3 hf hl hEL H.1) hg hsize (Steps.refl _) (a := a) hlen hstack hW hd (fun _ _ => ⟨has, eT, hc, hs⟩)
  dsimp only [Pt.U, Pt.locs, Pt.cells, Pt.slots] at X' q1 q2 q3 st hQ hS' hgr hC
  subst q1 q2 q3
  exact Goes.of (fun _ => st.trans) (k v T' L _ X' (hS.trans hS' (Nat.le_trans hk (eT ▸ hgr))) (Nat.le_refl _) (State.Warmed39.trans (t := s.setVm vm0) hZ hS'.1) (by rw [hS'.1.alike.findClass]; exact hown) (H.trans hC) hQ)
theorem goVirtualW {own C : String} {index : Nat} {y z : MethodName} {bytes : ByteArray} {maxL : Nat} {ret : Option FieldType} {rm : Room} {as' : Array Value} {Q : Option Value → Heap → List Loc → Prop} (W : Nat)
    (X : Stand p l e R (s.setVm vm0) m args below meth c T locs cells slots) (hS : s.Since vm0 k0) (hk : k0 ≤ h.size) (hEL : EW Z a0 EL) (H : CHr Z EL v00 h00 vm0 h) (hx : p.tables.exec = Jvm.exec) (hZ : Z.Warmed39 vm0) (hown : vm0.findClass own = some m.cls) (w1 : (Jvm.Cond.methodLink own index y).before a0 Z = true) (w2 : (Jvm.Cond.declares y).before a0 Z = true) (hnf : NotFace (s.setVm vm0) y) (w3 : (Jvm.Cond.selects C y z).before a0 Z = true) (w4 : (Jvm.Cond.instanceMethod z).before a0 Z = true) (w5 : (Jvm.Cond.initialized z.cls).before a0 Z = true) (w6 : (Jvm.Cond.code z bytes maxL ret).before a0 Z = true)
    (hy : y.cls ≠ "java/lang/invoke/MethodHandle" ∧ y.cls ≠ "java/lang/invoke/VarHandle") (r : RmH l z bytes maxL ret rm [] Z EL as' h Q) (eT : T.heap = h) {a : Addr} (F : Exa Z h a C) {g : JFrame} (hg : g.method = m) (hsize : g.locals.size = c.maxLocals) (argsL rest : List Value) (hlen : ∀ sig, parseMethodDescriptor y.desc = some sig → argsL.length = sig.parameters.length)
    (hstack : g.stack = argsL.reverse ++ .ref a :: rest) (has : (.ref a :: argsL).toArray = as') (hW : 2 * g.monitorRoom + (rest.map fun v => v.category).sum ≤ W) (hd : decode c.code g.pc = .ok (.invokevirtual index, 3)) (hf : rm.frames + 1 ≤ R.frames) (hl : W + (maxL + 11) + rm.locals ≤ R.locals) (hc : cells + rm.cells ≤ R.cells) (hs : slots + rm.slots ≤ R.slots)
    (k : ∀ v T' L k1, Stand p l e R (s.setVm T'.vm) m args below meth c T' (locs ++ L) (cells + rm.cells) (slots + rm.slots) → s.Since T'.vm k1 → k1 ≤ T'.heap.size → Z.Warmed39 T'.vm → T'.vm.findClass own = some m.cls → CHr Z EL v00 h00 T'.vm T'.heap → Q v T'.heap L → Goes p e below E T' { g with pc := g.pc + 3, stack := v.toList ++ rest }) : Goes p e below E T g := by
  obtain ⟨cq, kq, qa, qb, qc⟩ := isOf (s := s.setVm vm0) hZ eT F
  obtain ⟨v, vm₁, ⟨T', L', k', n'⟩, -, X', hS', hgr, ⟨L, hQ, q1, q2, q3, hC⟩, st⟩ := X.virtualBackS hx (y := y) (z := z) hown (mvT (s := s.setVm vm0) hZ w1) (mvT (s := s.setVm vm0) hZ w2) hnf (mvT (s := s.setVm vm0) hZ w3) (mvT (s := s.setVm vm0) hZ w4) hy (backOfSH (W := W) r hZ w6 w5 hf hl hEL H.1) qa qc hg hsize (Steps.refl _) hlen hstack hW hd (fun _ _ => ⟨has, eT, hc, hs⟩)
  dsimp only [Pt.U, Pt.locs, Pt.cells, Pt.slots] at X' q1 q2 q3 st hQ hS' hgr hC
  subst q1 q2 q3
  exact Goes.of (fun _ => st.trans) (k v T' L _ X' (hS.trans hS' (Nat.le_trans hk (eT ▸ hgr))) (Nat.le_refl _) (State.Warmed39.trans (t := s.setVm vm0) hZ hS'.1) (by rw [hS'.1.alike.findClass]; exact hown) (H.trans hC) hQ)
/-- a literal, its text not read -/
theorem goLdcO {own text : String} {index : Nat} (n : Nat) (X : Stand p l e R (s.setVm vm0) m args below meth c T locs cells slots) (hS : s.Since vm0 k0) (hk : k0 ≤ h.size) (hEL : EW Z a0 EL) (H : CHr Z EL v00 h00 vm0 h) (hx : p.tables.exec = Jvm.exec) (hZ : Z.Warmed39 vm0) (hown : vm0.findClass own = some m.cls) (w : (Jvm.Cond.stringLink own index text).before a0 Z = true) (wS : ∀ a ∈ Bundle.stringAtoms, a.before a0 Z = true) (eT : T.heap = h)
    {g : JFrame} (hg : g.method = m) (hd : decode c.code g.pc = .ok (.ldc index, 2)) (hn : 4 * text.toList.length ≤ n) (hbig : n ≤ 536870912) (hc : cells + 2 ≤ R.cells) (hl : slots + (n + 4) ≤ R.slots)
    (k : ∀ a T' h' k1, Stand p l e R (s.setVm T'.vm) m args below meth c T' locs (cells + 2) (slots + (n + 4)) → T'.heap = h' → Ext h h' → s.Since T'.vm k1 → k1 ≤ h'.size → Z.Warmed39 T'.vm → T'.vm.findClass own = some m.cls → CHr Z EL v00 h00 T'.vm h' → Goes p e below E T' { g with pc := g.pc + 2, stack := .ref a :: g.stack }) : Goes p e below E T g := by
  obtain ⟨a, T', h', k1, X', e', E', hS', hk', hZ', hown', hC, -, st⟩ := ldcOH X hx hZ hown w wS eT hS hk hEL H.1 hg hd hn hbig hc hl
  exact Goes.of st (k a T' h' k1 X' e' E' hS' hk' hZ' hown' (H.trans hC))
/-- a literal whose text is read -/
theorem goLdcC {own text : String} {index : Nat} {vs : List Value} {z : Int32} (n : Nat) (X : Stand p l e R (s.setVm vm0) m args below meth c T locs cells slots) (hS : s.Since vm0 k0) (hk : k0 ≤ h.size) (hEL : EW Z a0 EL) (hmem : (own, index) ∈ EL) (H : CHr Z EL v00 h00 vm0 h) (hx : p.tables.exec = Jvm.exec) (hZ : Z.Warmed39 vm0) (hown : vm0.findClass own = some m.cls) (w : (Jvm.Cond.stringLink own index text).before a0 Z = true) (wS : ∀ a ∈ Bundle.stringAtoms, a.before a0 Z = true) (eT : T.heap = h)
    (ht : (∀ c ∈ text.toList, c.toNat < 256) ∧ text.toList.map (fun c => Value.int (Jvm.Lit.byteI c.toNat.toUInt16)) = vs) (hz : ¬ z < 0) (hzl : z.toNatClampNeg = vs.length)
    {g : JFrame} (hg : g.method = m) (hd : decode c.code g.pc = .ok (.ldc index, 2)) (hn : 4 * text.toList.length ≤ n) (hbig : n ≤ 536870912) (hc : cells + 2 ≤ R.cells) (hl : slots + (n + 4) ≤ R.slots)
    (k : ∀ a T' h' k1 b kb, Stand p l e R (s.setVm T'.vm) m args below meth c T' locs (cells + 2) (slots + (n + 4)) → T'.heap = h' → Ext h h' → s.Since T'.vm k1 → k1 ≤ h'.size → Z.Warmed39 T'.vm → T'.vm.findClass own = some m.cls → CHr Z EL v00 h00 T'.vm h' → CHr Z EL vm0 h T'.vm h' → Exa Z h' a "java/lang/String" → Fld Z h' a "java/lang/String" "coder" "B" (.int 0) → Fld Z h' a "java/lang/String" "value" "[B" (.ref b) → Arv Z h' b kb .byte z vs (.int 0) → (∀ x, Safe Z EL T'.vm h' x → x ≠ a ∧ x ≠ b) → Goes p e below E T' { g with pc := g.pc + 2, stack := .ref a :: g.stack }) : Goes p e below E T g := by
  obtain ⟨a, T', h', k1, b, kb, X', e', E', hS', hk', hZ', hown', F1, F2, F3, F4, -, -, hC, -, hs, st⟩ := ldcCH X hx hZ hown w wS eT hS hk hEL hmem H.1 ht hz hzl hg hd hn hbig hc hl
  exact Goes.of st (k a T' h' k1 b kb X' e' E' hS' hk' hZ' hown' (H.trans hC) hC F1 F2 F3 F4 hs)
/-- a String whose value is null is no constant's -/
theorem safeNull {vm : Vm} {x : Addr} (hal : Z.vm.Alike vm) (Ex : Exa Z h x "java/lang/String") (F : Fld Z h x "java/lang/String" "value" "[B" .null) : Safe Z EL vm h x := fun B => by
  obtain ⟨q0, -, u, b, -, q, -, G, rfl | rfl⟩ := B
  · obtain ⟨cell, cf, k, i, f, h1, h2, -, -, -, -, h7⟩ := F
    cases (show h[q.sa]? = some q.sC from G.ha).symm.trans h1
    obtain ⟨cS, ⟨⟨-, -, -, ⟨c1, k1, i1, f1, -⟩, -, -, -, v1, -⟩, -⟩, -⟩ := G
    obtain ⟨k3, e3, -⟩ := State.fieldFound?_setVm (s := ({ Z with heap := h } : State)) hal h2
    have e4 := e3.symm.trans f1
    simp only [Option.some.injEq, Prod.mk.injEq] at e4
    rw [e4.2.2.2, v1] at h7
    cases h7
  · obtain ⟨cell, k, e1, e2, e3, -, -⟩ := Ex
    cases (show h[q.sd]? = some q.SA from G.hd).symm.trans e1
    obtain ⟨cS, -, -, f, -⟩ := G
    rw [show (Wst Z vm h).vm.findClass "[B" = vm.findClass "[B" from rfl, hal.findClass] at f
    obtain ⟨k1, q1, q2⟩ := Vm.findClass_spec f
    obtain ⟨k2, q3, q4⟩ := Vm.findClass_spec e2
    cases q1.symm.trans q3
    exact absurd (q2.symm.trans q4) (by decide)
end Own2
end Jvm.Own
namespace Jvm.Pilot.@@N@@
open Jvm Jvm.ClassFile Sem Op Lib Jvm.Free Jvm.Stand Jvm.LawKit Jvm.RoadKit Jvm.Own Bundle Jvm.Pilot.@@N@@.Jvm.D
theorem ef_6 (m : MethodId) (x0 : Addr) : entryFrame m #[(.ref x0)] 1 = mkF m 0 #[.val (.ref x0)] [] := by first | (simp [entryFrame, mkF, argsToLocals, Value.category]; done) | rfl
theorem d6_0 : decode jdk_2316_method_22_code 0 = .ok (.aload_n 0, 1) := by decide +kernel
theorem d6_1 : decode jdk_2316_method_22_code 1 = .ok (.getfield 221, 3) := by decide +kernel
theorem d6_4 : decode jdk_2316_method_22_code 4 = .ok (.lconst 0, 1) := by decide +kernel
theorem d6_5 : decode jdk_2316_method_22_code 5 = .ok (.lcmp, 1) := by decide +kernel
theorem d6_6 : decode jdk_2316_method_22_code 6 = .ok (.ifCond .ge 7, 3) := by decide +kernel
theorem d6_13 : decode jdk_2316_method_22_code 13 = .ok (.iconst 0, 1) := by decide +kernel
theorem d6_14 : decode jdk_2316_method_22_code 14 = .ok (.ireturn, 1) := by decide +kernel
theorem pn_java_time_Duration : plainName "java/time/Duration" = true := by first | (simp [plainName, overriddenIn]; done) | decide +kernel
theorem ef_7 (m : MethodId) (x0 : Addr) : entryFrame m #[(.ref x0)] 1 = mkF m 0 #[.val (.ref x0)] [] := by first | (simp [entryFrame, mkF, argsToLocals, Value.category]; done) | rfl
theorem d7_0 : decode jdk_2316_method_21_code 0 = .ok (.aload_n 0, 1) := by decide +kernel
theorem d7_1 : decode jdk_2316_method_21_code 1 = .ok (.getfield 221, 3) := by decide +kernel
theorem d7_4 : decode jdk_2316_method_21_code 4 = .ok (.aload_n 0, 1) := by decide +kernel
theorem d7_5 : decode jdk_2316_method_21_code 5 = .ok (.getfield 224, 3) := by decide +kernel
theorem d7_8 : decode jdk_2316_method_21_code 8 = .ok (.i2l, 1) := by decide +kernel
theorem d7_9 : decode jdk_2316_method_21_code 9 = .ok (.lor, 1) := by decide +kernel
theorem d7_10 : decode jdk_2316_method_21_code 10 = .ok (.lconst 0, 1) := by decide +kernel
theorem d7_11 : decode jdk_2316_method_21_code 11 = .ok (.lcmp, 1) := by decide +kernel
theorem d7_12 : decode jdk_2316_method_21_code 12 = .ok (.ifCond .ne 7, 3) := by decide +kernel
theorem d7_15 : decode jdk_2316_method_21_code 15 = .ok (.iconst 1, 1) := by decide +kernel
theorem d7_16 : decode jdk_2316_method_21_code 16 = .ok (.goto 4, 3) := by decide +kernel
theorem d7_20 : decode jdk_2316_method_21_code 20 = .ok (.ireturn, 1) := by decide +kernel
theorem ef_5 (m : MethodId) (x0 : Addr) (x1 : Addr) : entryFrame m #[(.ref x0), (.ref x1)] 2 = mkF m 0 #[.val (.ref x0), .val (.ref x1)] [] := by first | (simp [entryFrame, mkF, argsToLocals, Value.category]; done) | rfl
theorem d5_0 : decode jdk_31_method_11_code 0 = .ok (.aload_n 0, 1) := by decide +kernel
theorem d5_1 : decode jdk_31_method_11_code 1 = .ok (.ifnonnull 12, 3) := by decide +kernel
theorem d5_13 : decode jdk_31_method_11_code 13 = .ok (.aload_n 0, 1) := by decide +kernel
theorem d5_14 : decode jdk_31_method_11_code 14 = .ok (.areturn, 1) := by decide +kernel
theorem pn_java_util_Objects : plainName "java/util/Objects" = true := by first | (simp [plainName, overriddenIn]; done) | decide +kernel
theorem ef_3 (m : MethodId) (x0 : Addr) : entryFrame m #[(.ref x0)] 1 = mkF m 0 #[.val (.ref x0)] [] := by first | (simp [entryFrame, mkF, argsToLocals, Value.category]; done) | rfl
theorem d3_0 : decode jdk_30_method_1_code 0 = .ok (.aload_n 0, 1) := by decide +kernel
theorem d3_1 : decode jdk_30_method_1_code 1 = .ok (.invokespecial 1, 3) := by decide +kernel
theorem d3_4 : decode jdk_30_method_1_code 4 = .ok (.return_, 1) := by decide +kernel
theorem pn_java_lang_Record : plainName "java/lang/Record" = true := by first | (simp [plainName, overriddenIn]; done) | decide +kernel
theorem ef_2 (m : MethodId) (x0 : Addr) (x1 : Int64) (x2 : Addr) : entryFrame m #[(.ref x0), (.long x1), (.ref x2)] 4 = mkF m 0 #[.val (.ref x0), .val (.long x1), .second, .val (.ref x2)] [] := by first | (simp [entryFrame, mkF, argsToLocals, Value.category]; done) | rfl
theorem d2_0 : decode prog_4_method_1_code 0 = .ok (.aload_n 0, 1) := by decide +kernel
theorem d2_1 : decode prog_4_method_1_code 1 = .ok (.invokespecial 1, 3) := by decide +kernel
theorem pd___V : parseMethodDescriptor "()V" = some ⟨[], none⟩ := by decide +kernel
theorem d2_4 : decode prog_4_method_1_code 4 = .ok (.aload_n 3, 1) := by decide +kernel
theorem d2_5 : decode prog_4_method_1_code 5 = .ok (.ldc 7, 2) := by decide +kernel
theorem d2_7 : decode prog_4_method_1_code 7 = .ok (.invokestatic 9, 3) := by decide +kernel
theorem pd__Ljava_lang_Object_Ljava_lang_String__Ljava_lang_Object_ : parseMethodDescriptor "(Ljava/lang/Object;Ljava/lang/String;)Ljava/lang/Object;" = some ⟨[(.object "java/lang/Object"), (.object "java/lang/String")], some (.object "java/lang/Object")⟩ := by decide +kernel
theorem d2_10 : decode prog_4_method_1_code 10 = .ok (.pop, 1) := by decide +kernel
theorem d2_11 : decode prog_4_method_1_code 11 = .ok (.lload_n 1, 1) := by decide +kernel
theorem d2_12 : decode prog_4_method_1_code 12 = .ok (.lconst 0, 1) := by decide +kernel
theorem d2_13 : decode prog_4_method_1_code 13 = .ok (.lcmp, 1) := by decide +kernel
theorem d2_14 : decode prog_4_method_1_code 14 = .ok (.ifCond .lt 10, 3) := by decide +kernel
theorem d2_17 : decode prog_4_method_1_code 17 = .ok (.aload_n 3, 1) := by decide +kernel
theorem d2_18 : decode prog_4_method_1_code 18 = .ok (.invokevirtual 15, 3) := by decide +kernel
theorem pd___Z : parseMethodDescriptor "()Z" = some ⟨[], some .boolean⟩ := by decide +kernel
theorem d2_21 : decode prog_4_method_1_code 21 = .ok (.ifCond .eq 13, 3) := by decide +kernel
theorem d2_34 : decode prog_4_method_1_code 34 = .ok (.lload_n 1, 1) := by decide +kernel
theorem d2_35 : decode prog_4_method_1_code 35 = .ok (.lconst 0, 1) := by decide +kernel
theorem d2_36 : decode prog_4_method_1_code 36 = .ok (.lcmp, 1) := by decide +kernel
theorem d2_37 : decode prog_4_method_1_code 37 = .ok (.ifCond .le 20, 3) := by decide +kernel
theorem d2_40 : decode prog_4_method_1_code 40 = .ok (.aload_n 3, 1) := by decide +kernel
theorem d2_41 : decode prog_4_method_1_code 41 = .ok (.invokevirtual 28, 3) := by decide +kernel
theorem d2_44 : decode prog_4_method_1_code 44 = .ok (.ifCond .ne 13, 3) := by decide +kernel
theorem d2_57 : decode prog_4_method_1_code 57 = .ok (.aload_n 0, 1) := by decide +kernel
theorem d2_58 : decode prog_4_method_1_code 58 = .ok (.lload_n 1, 1) := by decide +kernel
theorem d2_59 : decode prog_4_method_1_code 59 = .ok (.putfield 33, 3) := by decide +kernel
theorem d2_62 : decode prog_4_method_1_code 62 = .ok (.aload_n 0, 1) := by decide +kernel
theorem d2_63 : decode prog_4_method_1_code 63 = .ok (.aload_n 3, 1) := by decide +kernel
theorem d2_64 : decode prog_4_method_1_code 64 = .ok (.putfield 39, 3) := by decide +kernel
theorem d2_67 : decode prog_4_method_1_code 67 = .ok (.return_, 1) := by decide +kernel
theorem pn_com_example_latchwork_latchwork_core_Acquisition : plainName "com/example/latchwork/latchwork/core/Acquisition" = true := by first | (simp [plainName, overriddenIn]; done) | decide +kernel
theorem ef_1 (m : MethodId) (x0 : Int64) : entryFrame m #[(.long x0)] 2 = mkF m 0 #[.val (.long x0), .second] [] := by first | (simp [entryFrame, mkF, argsToLocals, Value.category]; done) | rfl
theorem d1_0 : decode prog_4_method_2_code 0 = .ok (.lload_n 0, 1) := by decide +kernel
theorem d1_1 : decode prog_4_method_2_code 1 = .ok (.lconst 0, 1) := by decide +kernel
theorem d1_2 : decode prog_4_method_2_code 2 = .ok (.lcmp, 1) := by decide +kernel
theorem d1_3 : decode prog_4_method_2_code 3 = .ok (.ifCond .ne 13, 3) := by decide +kernel
theorem d1_16 : decode prog_4_method_2_code 16 = .ok (.new 34, 3) := by decide +kernel
theorem d1_19 : decode prog_4_method_2_code 19 = .ok (.dup, 1) := by decide +kernel
theorem d1_20 : decode prog_4_method_2_code 20 = .ok (.lload_n 0, 1) := by decide +kernel
theorem d1_21 : decode prog_4_method_2_code 21 = .ok (.getstatic 44, 3) := by decide +kernel
theorem d1_24 : decode prog_4_method_2_code 24 = .ok (.invokespecial 47, 3) := by decide +kernel
theorem pd__JLjava_time_Duration__V : parseMethodDescriptor "(JLjava/time/Duration;)V" = some ⟨[.long, (.object "java/time/Duration")], none⟩ := by decide +kernel
theorem d1_27 : decode prog_4_method_2_code 27 = .ok (.areturn, 1) := by decide +kernel
theorem ef_8 (m : MethodId) (x0 : Addr) : entryFrame m #[(.ref x0)] 1 = mkF m 0 #[.val (.ref x0)] [] := by first | (simp [entryFrame, mkF, argsToLocals, Value.category]; done) | rfl
theorem d8_0 : decode prog_4_method_8_code 0 = .ok (.aload_n 0, 1) := by decide +kernel
theorem d8_1 : decode prog_4_method_8_code 1 = .ok (.getfield 33, 3) := by decide +kernel
theorem d8_4 : decode prog_4_method_8_code 4 = .ok (.lreturn, 1) := by decide +kernel
theorem ef_9 (m : MethodId) (x0 : Addr) : entryFrame m #[(.ref x0)] 1 = mkF m 0 #[.val (.ref x0)] [] := by first | (simp [entryFrame, mkF, argsToLocals, Value.category]; done) | rfl
theorem d9_0 : decode prog_4_method_4_code 0 = .ok (.aload_n 0, 1) := by decide +kernel
theorem d9_1 : decode prog_4_method_4_code 1 = .ok (.getfield 33, 3) := by decide +kernel
theorem d9_4 : decode prog_4_method_4_code 4 = .ok (.lconst 0, 1) := by decide +kernel
theorem d9_5 : decode prog_4_method_4_code 5 = .ok (.lcmp, 1) := by decide +kernel
theorem d9_6 : decode prog_4_method_4_code 6 = .ok (.ifCond .le 7, 3) := by decide +kernel
theorem d9_9 : decode prog_4_method_4_code 9 = .ok (.iconst 1, 1) := by decide +kernel
theorem d9_10 : decode prog_4_method_4_code 10 = .ok (.goto 4, 3) := by decide +kernel
theorem d9_14 : decode prog_4_method_4_code 14 = .ok (.ireturn, 1) := by decide +kernel
theorem ef_0 (m : MethodId) (x0 : Int64) : entryFrame m #[(.long x0)] maxLocals = mkF m 0 #[.val (.long x0), .second, .unset, .unset, .unset] [] := by first | (simp [entryFrame, mkF, argsToLocals, Value.category, maxLocals]; done) | rfl
theorem pd__J_Lcom_example_latchwork_latchwork_core_Acquisition_ : parseMethodDescriptor "(J)Lcom/example/latchwork/latchwork/core/Acquisition;" = some ⟨[.long], some (.object "com/example/latchwork/latchwork/core/Acquisition")⟩ := by decide +kernel
theorem pd___J : parseMethodDescriptor "()J" = some ⟨[], some .long⟩ := by decide +kernel
theorem pn_com_example_latchwork_latchwork_core_AcquisitionGrantedPinLaw : plainName "com/example/latchwork/latchwork/core/AcquisitionGrantedPinLaw" = true := by first | (simp [plainName, overriddenIn]; done) | decide +kernel
def EL : List (String × Nat) := []
theorem hELof {Z : State} {a0 : Array Value} (hw : ∀ d ∈ tables_1, d.before a0 Z = true) : EW Z a0 EL := EW.nil
theorem wSof {Z : State} {a0 : Array Value} (hw : ∀ d ∈ tables_1, d.before a0 Z = true) : ∀ a ∈ Bundle.stringAtoms, a.before a0 Z = true := by
  intro a ha
  simp only [Bundle.stringAtoms, Bundle.sN, List.mem_cons, List.not_mem_nil, or_false] at ha
  rcases ha with rfl | rfl | rfl | rfl | rfl | rfl | rfl
  · exact (hw _ (List.mem_of_getElem? (i := 21) rfl))
  · exact (hw _ (List.mem_of_getElem? (i := 22) rfl))
  · exact (hw _ (List.mem_of_getElem? (i := 23) rfl))
  · exact (hw _ (List.mem_of_getElem? (i := 24) rfl))
  · exact (hw _ (List.mem_of_getElem? (i := 25) rfl))
  · exact (hw _ (List.mem_of_getElem? (i := 26) rfl))
  · exact (hw _ (List.mem_of_getElem? (i := 27) rfl))
theorem t_nn (x : Int64) : ¬ (x &&& (9223372036854775807 : Int64)) < 0 := by
  have e := c_maskL x (9223372036854775807 : Int64) 63 (by decide) (by decide)
  have e0 : (0 : Int64).toInt = 0 := rfl
  rw [Int64.lt_iff_toInt_lt]
  omega
theorem t_pos {t : Int64} (h1 : ¬ t = 0) (h2 : ¬ t < 0) : 0 < t := by
  have e0 : (0 : Int64).toInt = 0 := rfl
  rw [← Int64.toInt_inj] at h1
  rw [Int64.lt_iff_toInt_lt] at h2 ⊢
  omega
set_option maxRecDepth 65536 in
set_option maxHeartbeats 40000000 in
theorem rm_neg (l : Launch) (Z : State) (a0 : Array Value) (hw : ∀ d ∈ tables_1, d.before a0 Z = true) (a : Addr) (h0 : Heap) (n0 : Nat) (O0 : Old Z n0 h0) (Fs : Fld Z Z.heap a "java/time/Duration" "seconds" "J" (.long (0 : Int64))) :
    Rm l (⟨"java/time/Duration", "isNegative", "()Z"⟩ : MethodName) jdk_2316_method_22_code 1 (some .boolean) ({ frames := 0, cells := 0, slots := 0, locals := 0 } : Room) [] Z #[(.ref a)] h0 (fun v h L => v = some (.int 0) ∧ Fr n0 L ∧ h = h0) := by
  refine Rm.of (plainFor_of_name pn_java_time_Duration) ?_
  intro p e s m below meth c T X hx hZ hby hml hown hnm hret hlk eT0
  have hown : s.vm.findClass "java/time/Duration" = some m.cls := hown
  have hnm : meth.name = "isNegative" := hnm
  have N0 := Fr.nil n0
  refine Goes.cast (ef_6 m a) ?_
  show Goes p e below _ T (mkF m 0 #[.val (.ref a)] [])
  refine Goes.of (fun _ => XS.aloadN X.here hx rfl (hb hby d6_0) rfl rfl) ?_
  show Goes p e below _ T (mkF m 1 #[.val (.ref a)] [(.ref a)])
  refine goGet X hx hZ hown (host := "") (Or.inl (hw _ (List.mem_of_getElem? (i := 37) rfl))) Via.refl eT0 (Fs.ext O0.2) (g := (mkF m 1 #[.val (.ref a)] [(.ref a)])) rfl rfl (hb hby d6_1) ?_
  intro T1 X1 eT1
  show Goes p e below _ T1 (mkF m 4 #[.val (.ref a)] [(.long (0 : Int64))])
  refine Goes.of (fun _ => XS.lconst X1.here hx rfl (hb hby d6_4)) ?_
  show Goes p e below _ T1 (mkF m 5 #[.val (.ref a)] [(.long (0 : Int64)), (.long (0 : Int64))])
  refine Goes.of (fun _ => XS.lcmp X1.here hx rfl (hb hby d6_5) rfl) ?_
  show Goes p e below _ T1 (mkF m 6 #[.val (.ref a)] [(.int (lcmpW (0 : Int64) (0 : Int64)))])
  refine Goes.of (fun _ => XS.ifYes X1.here hx rfl (pc0 := 6) (pc' := 13) rfl (hb hby d6_6) rfl ((if0 _ _).trans (flt (fun q => (by decide : ¬ (0 : Int64) < (0 : Int64)) ((lw_lt (0 : Int64) (0 : Int64)).mp q))).2.1) (by decide) (by decide)) ?_
  show Goes p e below _ T1 (mkF m 13 #[.val (.ref a)] [])
  refine Goes.of (fun _ => XS.iconst X1.here hx rfl (hb hby d6_13)) ?_
  show Goes p e below _ T1 (mkF m 14 #[.val (.ref a)] [(.int (0 : Int32))])
  exact retZ (t := .boolean) X1 hx hret hlk (by simp) (hb hby d6_14) eT1 (by decide) (by decide) ⟨rfl, N0, rfl⟩
set_option maxRecDepth 65536 in
set_option maxHeartbeats 40000000 in
theorem rm_zero (l : Launch) (Z : State) (a0 : Array Value) (hw : ∀ d ∈ tables_1, d.before a0 Z = true) (a : Addr) (h0 : Heap) (n0 : Nat) (O0 : Old Z n0 h0) (Fs : Fld Z Z.heap a "java/time/Duration" "seconds" "J" (.long (0 : Int64))) (Fn : Fld Z Z.heap a "java/time/Duration" "nanos" "I" (.int (0 : Int32))) :
    Rm l (⟨"java/time/Duration", "isZero", "()Z"⟩ : MethodName) jdk_2316_method_21_code 1 (some .boolean) ({ frames := 0, cells := 0, slots := 0, locals := 0 } : Room) [] Z #[(.ref a)] h0 (fun v h L => v = some (.int 1) ∧ Fr n0 L ∧ h = h0) := by
  refine Rm.of (plainFor_of_name pn_java_time_Duration) ?_
  intro p e s m below meth c T X hx hZ hby hml hown hnm hret hlk eT0
  have hown : s.vm.findClass "java/time/Duration" = some m.cls := hown
  have hnm : meth.name = "isZero" := hnm
  have N0 := Fr.nil n0
  refine Goes.cast (ef_7 m a) ?_
  show Goes p e below _ T (mkF m 0 #[.val (.ref a)] [])
  refine Goes.of (fun _ => XS.aloadN X.here hx rfl (hb hby d7_0) rfl rfl) ?_
  show Goes p e below _ T (mkF m 1 #[.val (.ref a)] [(.ref a)])
  refine goGet X hx hZ hown (host := "") (Or.inl (hw _ (List.mem_of_getElem? (i := 37) rfl))) Via.refl eT0 (Fs.ext O0.2) (g := (mkF m 1 #[.val (.ref a)] [(.ref a)])) rfl rfl (hb hby d7_1) ?_
  intro T1 X1 eT1
  show Goes p e below _ T1 (mkF m 4 #[.val (.ref a)] [(.long (0 : Int64))])
  refine Goes.of (fun _ => XS.aloadN X1.here hx rfl (hb hby d7_4) rfl rfl) ?_
  show Goes p e below _ T1 (mkF m 5 #[.val (.ref a)] [(.ref a), (.long (0 : Int64))])
  refine goGet X1 hx hZ hown (host := "") (Or.inl (hw _ (List.mem_of_getElem? (i := 44) rfl))) Via.refl eT1 (Fn.ext O0.2) (g := (mkF m 5 #[.val (.ref a)] [(.ref a), (.long (0 : Int64))])) rfl rfl (hb hby d7_5) ?_
  intro T2 X2 eT2
  show Goes p e below _ T2 (mkF m 8 #[.val (.ref a)] [(.int (0 : Int32)), (.long (0 : Int64))])
  refine Goes.of (fun _ => XS.i2l X2.here hx rfl (hb hby d7_8) rfl) ?_
  show Goes p e below _ T2 (mkF m 9 #[.val (.ref a)] [(.long ((0 : Int32).toInt64)), (.long (0 : Int64))])
  refine Goes.of (fun _ => XS.lor X2.here hx rfl (hb hby d7_9) rfl) ?_
  show Goes p e below _ T2 (mkF m 10 #[.val (.ref a)] [(.long ((0 : Int64) ||| ((0 : Int32).toInt64)))])
  refine Goes.of (fun _ => XS.lconst X2.here hx rfl (hb hby d7_10)) ?_
  show Goes p e below _ T2 (mkF m 11 #[.val (.ref a)] [(.long (0 : Int64)), (.long ((0 : Int64) ||| ((0 : Int32).toInt64)))])
  refine Goes.of (fun _ => XS.lcmp X2.here hx rfl (hb hby d7_11) rfl) ?_
  show Goes p e below _ T2 (mkF m 12 #[.val (.ref a)] [(.int (lcmpW ((0 : Int64) ||| ((0 : Int32).toInt64)) (0 : Int64)))])
  refine Goes.of (fun _ => XS.ifNo X2.here hx rfl (hb hby d7_12) rfl ((if0 _ _).trans (teq ((lw_eq ((0 : Int64) ||| ((0 : Int32).toInt64)) (0 : Int64)).mpr (by decide : ((0 : Int64) ||| ((0 : Int32).toInt64)) = (0 : Int64)))).2)) ?_
  show Goes p e below _ T2 (mkF m 15 #[.val (.ref a)] [])
  refine Goes.of (fun _ => XS.iconst X2.here hx rfl (hb hby d7_15)) ?_
  show Goes p e below _ T2 (mkF m 16 #[.val (.ref a)] [(.int (1 : Int32))])
  refine Goes.of (fun _ => XS.goto X2.here hx rfl (pc0 := 16) (pc' := 20) rfl (hb hby d7_16) (by decide) (by decide)) ?_
  show Goes p e below _ T2 (mkF m 20 #[.val (.ref a)] [(.int (1 : Int32))])
  exact retZ (t := .boolean) X2 hx hret hlk (by simp) (hb hby d7_20) eT2 (by decide) (by decide) ⟨rfl, N0, rfl⟩
set_option maxRecDepth 65536 in
set_option maxHeartbeats 40000000 in
theorem rm_reqnn (l : Launch) (Z : State) (a0 : Array Value) (hw : ∀ d ∈ tables_1, d.before a0 Z = true) (a b : Addr) (h0 : Heap) (n0 : Nat) (O0 : Old Z n0 h0)  :
    Rm l (⟨"java/util/Objects", "requireNonNull", "(Ljava/lang/Object;Ljava/lang/String;)Ljava/lang/Object;"⟩ : MethodName) jdk_31_method_11_code 2 (some (.object "java/lang/Object")) ({ frames := 0, cells := 0, slots := 0, locals := 0 } : Room) [] Z #[(.ref a), (.ref b)] h0 (fun v h L => v = some (.ref a) ∧ Fr n0 L ∧ h = h0) := by
  refine Rm.of (plainFor_of_name pn_java_util_Objects) ?_
  intro p e s m below meth c T X hx hZ hby hml hown hnm hret hlk eT0
  have hown : s.vm.findClass "java/util/Objects" = some m.cls := hown
  have hnm : meth.name = "requireNonNull" := hnm
  have N0 := Fr.nil n0
  refine Goes.cast (ef_5 m a b) ?_
  show Goes p e below _ T (mkF m 0 #[.val (.ref a), .val (.ref b)] [])
  refine Goes.of (fun _ => XS.aloadN X.here hx rfl (hb hby d5_0) rfl rfl) ?_
  show Goes p e below _ T (mkF m 1 #[.val (.ref a), .val (.ref b)] [(.ref a)])
  refine Goes.of (fun _ => XS.ifnonnullYes X.here hx rfl (pc0 := 1) (pc' := 13) rfl (hb hby d5_1) rfl (by decide) (by decide)) ?_
  show Goes p e below _ T (mkF m 13 #[.val (.ref a), .val (.ref b)] [])
  refine Goes.of (fun _ => XS.aloadN X.here hx rfl (hb hby d5_13) rfl rfl) ?_
  show Goes p e below _ T (mkF m 14 #[.val (.ref a), .val (.ref b)] [(.ref a)])
  exact retRef X hx hret hlk rfl rfl (hb hby d5_14) eT0 (by decide) (by decide) ⟨rfl, N0, rfl⟩
set_option maxRecDepth 65536 in
set_option maxHeartbeats 40000000 in
theorem rm_record (l : Launch) (Z : State) (a0 : Array Value) (hw : ∀ d ∈ tables_1, d.before a0 Z = true) (a : Addr) (h0 : Heap) (n0 : Nat) (O0 : Old Z n0 h0)  :
    Rm l (⟨"java/lang/Record", "<init>", "()V"⟩ : MethodName) jdk_30_method_1_code 1 none ({ frames := 1, cells := 0, slots := 0, locals := 12 } : Room) [] Z #[(.ref a)] h0 (fun v h L => v = none ∧ Fr n0 L ∧ h = h0) := by
  refine Rm.of (plainFor_of_name pn_java_lang_Record) ?_
  intro p e s m below meth c T X hx hZ hby hml hown hnm hret hlk eT0
  have hown : s.vm.findClass "java/lang/Record" = some m.cls := hown
  have hnm : meth.name = "<init>" := hnm
  have N0 := Fr.nil n0
  refine Goes.cast (ef_3 m a) ?_
  show Goes p e below _ T (mkF m 0 #[.val (.ref a)] [])
  refine Goes.of (fun _ => XS.aloadN X.here hx rfl (hb hby d3_0) rfl rfl) ?_
  show Goes p e below _ T (mkF m 1 #[.val (.ref a)] [(.ref a)])
  refine goInitO 0 X hx hZ hown (hw _ (List.mem_of_getElem? (i := 17) rfl)) (hw _ (List.mem_of_getElem? (i := 18) rfl)) (hw _ (List.mem_of_getElem? (i := 19) rfl)) eT0 (g := (mkF m 1 #[.val (.ref a)] [(.ref a)])) rfl (by rw [hml]; rfl) rfl (hb hby d3_1) (by decide) (by show 2 * 0 + _ ≤ _; exact Nat.le_of_eq rfl) (by decide) ?_
  intro T1 X1 eT1
  show Goes p e below _ T1 (mkF m 4 #[.val (.ref a)] [])
  exact retVoid X1 hx hret hlk (hb hby d3_4) eT1 (by decide) (by decide) ⟨rfl, N0, rfl⟩
set_option maxRecDepth 65536 in
set_option maxHeartbeats 40000000 in
theorem rm_init (l : Launch) (Z : State) (a0 : Array Value) (hw : ∀ d ∈ tables_1, d.before a0 Z = true) (a dz : Addr) (t : Int64) (h0 : Heap) (n0 : Nat) (O0 : Old Z n0 h0) (Sz : Sta Z Z.heap "java/time/Duration" "ZERO" "Ljava/time/Duration;" (.ref dz)) (Ez : Exa Z Z.heap dz "java/time/Duration") (Fs : Fld Z Z.heap dz "java/time/Duration" "seconds" "J" (.long (0 : Int64))) (Fn : Fld Z Z.heap dz "java/time/Duration" "nanos" "I" (.int (0 : Int32))) (hnn : ¬ t < (0 : Int64)) (hpos : (0 : Int64) < t) (g_a : n0 ≤ a) (Ex : Exa Z h0 a "com/example/latchwork/latchwork/core/Acquisition") (F0 : Fld Z h0 a "com/example/latchwork/latchwork/core/Acquisition" "token" "J" (.long (0 : Int64))) (F1 : Fld Z h0 a "com/example/latchwork/latchwork/core/Acquisition" "heldFor" "Ljava/time/Duration;" .null) :
    RmH l (⟨"com/example/latchwork/latchwork/core/Acquisition", "<init>", "(JLjava/time/Duration;)V"⟩ : MethodName) prog_4_method_1_code 4 none ({ frames := 2, cells := 2, slots := 32, locals := 24 } : Room) [] Z EL #[(.ref a), (.long t), (.ref dz)] h0 (fun v h L => v = none ∧ Fr n0 L ∧ Keep h0 h [a] ∧ Fld Z h a "com/example/latchwork/latchwork/core/Acquisition" "token" "J" (.long t)) := by
  refine RmH.of (plainFor_of_name pn_com_example_latchwork_latchwork_core_Acquisition) ?_
  intro p e s m below meth c T X hx hZ hby hml hown hnm hret hlk eT0 hS hk HC
  have hEL := hELof hw
  have wS := wSof hw
  have hown : s.vm.findClass "com/example/latchwork/latchwork/core/Acquisition" = some m.cls := hown
  have hnm : meth.name = "<init>" := hnm
  have N0 := Fr.nil n0
  have Kp := Keep.refl h0 [a]
  refine Goes.cast (ef_2 m a t dz) ?_
  show Goes p e below _ T (mkF m 0 #[.val (.ref a), .val (.long t), .second, .val (.ref dz)] [])
  refine Goes.of (fun _ => XS.aloadN X.here hx rfl (hb hby d2_0) rfl rfl) ?_
  show Goes p e below _ T (mkF m 1 #[.val (.ref a), .val (.long t), .second, .val (.ref dz)] [(.ref a)])
  refine goSpecial 0 X hx hZ rfl hown (hw _ (List.mem_of_getElem? (i := 12) rfl)) (hw _ (List.mem_of_getElem? (i := 13) rfl)) (hw _ (List.mem_of_getElem? (i := 15) rfl)) (hw _ (List.mem_of_getElem? (i := 16) rfl)) (by decide) (rm_record l Z a0 hw a h0 n0 O0) eT0 (g := (mkF m 1 #[.val (.ref a), .val (.long t), .second, .val (.ref dz)] [(.ref a)])) rfl (by rw [hml]; rfl) a [] [] (lenOf pd___V rfl) rfl rfl (by show 2 * 0 + _ ≤ _; exact Nat.le_of_eq rfl) (hb hby d2_1) (by decide) (by decide) (by decide) (by decide) ?_
  intro v1 T1 L1 X1 q1
  obtain ⟨rfl, Nq1, eT1⟩ := q1
  have N1 := Fr.app N0 Nq1
  show Goes p e below _ T1 (mkF m 4 #[.val (.ref a), .val (.long t), .second, .val (.ref dz)] [])
  refine Goes.of (fun _ => XS.aloadN X1.here hx rfl (hb hby d2_4) rfl rfl) ?_
  show Goes p e below _ T1 (mkF m 5 #[.val (.ref a), .val (.long t), .second, .val (.ref dz)] [(.ref dz)])
  refine goLdcO 28 X1 hS hk hEL HC hx hZ hown (hw _ (List.mem_of_getElem? (i := 20) rfl)) wS eT1 (g := (mkF m 5 #[.val (.ref a), .val (.long t), .second, .val (.ref dz)] [(.ref dz)])) rfl (hb hby d2_5) (by decide) (by decide) (by decide) (by decide) ?_
  intro s2 T2 h2 k2 X2 eT2 E2 hS hk hZ hown HC
  have Ex := Ex.ext E2
  have F0 := F0.ext E2
  have F1 := F1.ext E2
  have Kp := Kp.ext E2
  have O0 := O0.ext E2
  show Goes p e below _ T2 (mkF m 7 #[.val (.ref a), .val (.long t), .second, .val (.ref dz)] [(.ref s2), (.ref dz)])
  refine goStatic 0 X2 hx hZ hown (hw _ (List.mem_of_getElem? (i := 28) rfl)) (hw _ (List.mem_of_getElem? (i := 29) rfl)) (hw _ (List.mem_of_getElem? (i := 30) rfl)) (hw _ (List.mem_of_getElem? (i := 31) rfl)) (by decide) (rm_reqnn l Z a0 hw dz s2 h2 n0 O0) eT2 (g := (mkF m 7 #[.val (.ref a), .val (.long t), .second, .val (.ref dz)] [(.ref s2), (.ref dz)])) rfl (by rw [hml]; rfl) [(.ref dz), (.ref s2)] [] (lenOf pd__Ljava_lang_Object_Ljava_lang_String__Ljava_lang_Object_ rfl) rfl rfl (by show 2 * 0 + _ ≤ _; exact Nat.le_of_eq rfl) (hb hby d2_7) (by decide) (by decide) (by decide) (by decide) ?_
  intro v3 T3 L3 X3 q3
  obtain ⟨rfl, Nq3, eT3⟩ := q3
  have N3 := Fr.app N1 Nq3
  show Goes p e below _ T3 (mkF m 10 #[.val (.ref a), .val (.long t), .second, .val (.ref dz)] [(.ref dz)])
  refine Goes.of (fun _ => XS.pop X3.here hx rfl (hb hby d2_10) rfl rfl) ?_
  show Goes p e below _ T3 (mkF m 11 #[.val (.ref a), .val (.long t), .second, .val (.ref dz)] [])
  refine Goes.of (fun _ => XS.lloadN X3.here hx rfl (hb hby d2_11) rfl) ?_
  show Goes p e below _ T3 (mkF m 12 #[.val (.ref a), .val (.long t), .second, .val (.ref dz)] [(.long t)])
  refine Goes.of (fun _ => XS.lconst X3.here hx rfl (hb hby d2_12)) ?_
  show Goes p e below _ T3 (mkF m 13 #[.val (.ref a), .val (.long t), .second, .val (.ref dz)] [(.long (0 : Int64)), (.long t)])
  refine Goes.of (fun _ => XS.lcmp X3.here hx rfl (hb hby d2_13) rfl) ?_
  show Goes p e below _ T3 (mkF m 14 #[.val (.ref a), .val (.long t), .second, .val (.ref dz)] [(.int (lcmpW t (0 : Int64)))])
  refine Goes.of (fun _ => XS.ifNo X3.here hx rfl (hb hby d2_14) rfl ((if0 _ _).trans (flt (fun q => hnn ((lw_lt t (0 : Int64)).mp q))).1)) ?_
  show Goes p e below _ T3 (mkF m 17 #[.val (.ref a), .val (.long t), .second, .val (.ref dz)] [])
  refine Goes.of (fun _ => XS.aloadN X3.here hx rfl (hb hby d2_17) rfl rfl) ?_
  show Goes p e below _ T3 (mkF m 18 #[.val (.ref a), .val (.long t), .second, .val (.ref dz)] [(.ref dz)])
  refine goVirtual 0 X3 hx hZ hown (hw _ (List.mem_of_getElem? (i := 32) rfl)) (hw _ (List.mem_of_getElem? (i := 33) rfl)) (notFace_of_selects (args := #[]) (mvT hZ (hw _ (List.mem_of_getElem? (i := 35) rfl)))) (hw _ (List.mem_of_getElem? (i := 35) rfl)) (hw _ (List.mem_of_getElem? (i := 34) rfl)) (hw _ (List.mem_of_getElem? (i := 8) rfl)) (hw _ (List.mem_of_getElem? (i := 36) rfl)) (by decide) (rm_neg l Z a0 hw dz h2 n0 O0 Fs) eT3 (Ez.ext O0.2) (g := (mkF m 18 #[.val (.ref a), .val (.long t), .second, .val (.ref dz)] [(.ref dz)])) rfl (by rw [hml]; rfl) [] [] (lenOf pd___Z rfl) rfl rfl (by show 2 * 0 + _ ≤ _; exact Nat.le_of_eq rfl) (hb hby d2_18) (by decide) (by decide) (by decide) (by decide) ?_
  intro v4 T4 L4 X4 q4
  obtain ⟨rfl, Nq4, eT4⟩ := q4
  have N4 := Fr.app N3 Nq4
  show Goes p e below _ T4 (mkF m 21 #[.val (.ref a), .val (.long t), .second, .val (.ref dz)] [(.int (0 : Int32))])
  refine Goes.of (fun _ => XS.ifYes X4.here hx rfl (pc0 := 21) (pc' := 34) rfl (hb hby d2_21) rfl ((if0 _ _).trans (teq (by decide)).1) (by decide) (by decide)) ?_
  show Goes p e below _ T4 (mkF m 34 #[.val (.ref a), .val (.long t), .second, .val (.ref dz)] [])
  refine Goes.of (fun _ => XS.lloadN X4.here hx rfl (hb hby d2_34) rfl) ?_
  show Goes p e below _ T4 (mkF m 35 #[.val (.ref a), .val (.long t), .second, .val (.ref dz)] [(.long t)])
  refine Goes.of (fun _ => XS.lconst X4.here hx rfl (hb hby d2_35)) ?_
  show Goes p e below _ T4 (mkF m 36 #[.val (.ref a), .val (.long t), .second, .val (.ref dz)] [(.long (0 : Int64)), (.long t)])
  refine Goes.of (fun _ => XS.lcmp X4.here hx rfl (hb hby d2_36) rfl) ?_
  show Goes p e below _ T4 (mkF m 37 #[.val (.ref a), .val (.long t), .second, .val (.ref dz)] [(.int (lcmpW t (0 : Int64)))])
  refine Goes.of (fun _ => XS.ifNo X4.here hx rfl (hb hby d2_37) rfl ((if0 _ _).trans (tlt ((lw_gt t (0 : Int64)).mpr hpos)).2.2.2)) ?_
  show Goes p e below _ T4 (mkF m 40 #[.val (.ref a), .val (.long t), .second, .val (.ref dz)] [])
  refine Goes.of (fun _ => XS.aloadN X4.here hx rfl (hb hby d2_40) rfl rfl) ?_
  show Goes p e below _ T4 (mkF m 41 #[.val (.ref a), .val (.long t), .second, .val (.ref dz)] [(.ref dz)])
  refine goVirtual 0 X4 hx hZ hown (hw _ (List.mem_of_getElem? (i := 39) rfl)) (hw _ (List.mem_of_getElem? (i := 40) rfl)) (notFace_of_selects (args := #[]) (mvT hZ (hw _ (List.mem_of_getElem? (i := 42) rfl)))) (hw _ (List.mem_of_getElem? (i := 42) rfl)) (hw _ (List.mem_of_getElem? (i := 41) rfl)) (hw _ (List.mem_of_getElem? (i := 8) rfl)) (hw _ (List.mem_of_getElem? (i := 43) rfl)) (by decide) (rm_zero l Z a0 hw dz h2 n0 O0 Fs Fn) eT4 (Ez.ext O0.2) (g := (mkF m 41 #[.val (.ref a), .val (.long t), .second, .val (.ref dz)] [(.ref dz)])) rfl (by rw [hml]; rfl) [] [] (lenOf pd___Z rfl) rfl rfl (by show 2 * 0 + _ ≤ _; exact Nat.le_of_eq rfl) (hb hby d2_41) (by decide) (by decide) (by decide) (by decide) ?_
  intro v5 T5 L5 X5 q5
  obtain ⟨rfl, Nq5, eT5⟩ := q5
  have N5 := Fr.app N4 Nq5
  show Goes p e below _ T5 (mkF m 44 #[.val (.ref a), .val (.long t), .second, .val (.ref dz)] [(.int (1 : Int32))])
  refine Goes.of (fun _ => XS.ifYes X5.here hx rfl (pc0 := 44) (pc' := 57) rfl (hb hby d2_44) rfl ((if0 _ _).trans (feq (by decide)).2) (by decide) (by decide)) ?_
  show Goes p e below _ T5 (mkF m 57 #[.val (.ref a), .val (.long t), .second, .val (.ref dz)] [])
  refine Goes.of (fun _ => XS.aloadN X5.here hx rfl (hb hby d2_57) rfl rfl) ?_
  show Goes p e below _ T5 (mkF m 58 #[.val (.ref a), .val (.long t), .second, .val (.ref dz)] [(.ref a)])
  refine Goes.of (fun _ => XS.lloadN X5.here hx rfl (hb hby d2_58) rfl) ?_
  show Goes p e below _ T5 (mkF m 59 #[.val (.ref a), .val (.long t), .second, .val (.ref dz)] [(.long t), (.ref a)])
  have Sf_a : Safe Z EL _ h2 a := Safe.exa hZ.alike Ex (by decide) (by decide)
  refine goPut (ty := .long) X5 hx hZ hown (host := "") (Or.inl (hw _ (List.mem_of_getElem? (i := 46) rfl))) Via.refl eT5 F0 Ex (Or.inr ⟨(hw _ (List.mem_of_getElem? (i := 47) rfl)), rfl, hnm⟩) (hw _ (List.mem_of_getElem? (i := 6) rfl)) (by decide) rfl rfl (g := (mkF m 59 #[.val (.ref a), .val (.long t), .second, .val (.ref dz)] [(.long t), (.ref a)])) rfl rfl (hb hby d2_59) ?_
  intro T6 h6 X6 eT6 W6
  have F0 := Fld.same W6 F0
  have N6 := Fr.snoc X6 N5 g_a
  have Ex := Ex.wr W6
  have F1 := F1.other W6 (Or.inr (slot_ne (Or.inr (hw _ (List.mem_of_getElem? (i := 49) rfl))) (Or.inr (hw _ (List.mem_of_getElem? (i := 47) rfl))) (by decide) (t := (.object "java/time/Duration")) (t' := .long) (by decide) (by decide)))
  have Kp := Kp.wr W6 (Or.inl (List.mem_of_getElem? (i := 0) rfl))
  have HC := HC.trans (CHr.wr W6 Sf_a HC.1)
  have hk := Nat.le_trans hk (Nat.le_of_eq (Wr.size W6).symm)
  have O0 := O0.wr W6 g_a
  show Goes p e below _ T6 (mkF m 62 #[.val (.ref a), .val (.long t), .second, .val (.ref dz)] [])
  refine Goes.of (fun _ => XS.aloadN X6.here hx rfl (hb hby d2_62) rfl rfl) ?_
  show Goes p e below _ T6 (mkF m 63 #[.val (.ref a), .val (.long t), .second, .val (.ref dz)] [(.ref a)])
  refine Goes.of (fun _ => XS.aloadN X6.here hx rfl (hb hby d2_63) rfl rfl) ?_
  show Goes p e below _ T6 (mkF m 64 #[.val (.ref a), .val (.long t), .second, .val (.ref dz)] [(.ref dz), (.ref a)])
  have Sf_a : Safe Z EL _ h6 a := Safe.exa hZ.alike Ex (by decide) (by decide)
  refine goPut (ty := (.object "java/time/Duration")) X6 hx hZ hown (host := "") (Or.inl (hw _ (List.mem_of_getElem? (i := 48) rfl))) Via.refl eT6 F1 Ex (Or.inr ⟨(hw _ (List.mem_of_getElem? (i := 49) rfl)), rfl, hnm⟩) (hw _ (List.mem_of_getElem? (i := 6) rfl)) (by decide) rfl rfl (g := (mkF m 64 #[.val (.ref a), .val (.long t), .second, .val (.ref dz)] [(.ref dz), (.ref a)])) rfl rfl (hb hby d2_64) ?_
  intro T7 h7 X7 eT7 W7
  have F1 := Fld.same W7 F1
  have N7 := Fr.snoc X7 N6 g_a
  have Ex := Ex.wr W7
  have F0 := F0.other W7 (Or.inr (slot_ne (Or.inr (hw _ (List.mem_of_getElem? (i := 47) rfl))) (Or.inr (hw _ (List.mem_of_getElem? (i := 49) rfl))) (by decide) (t := .long) (t' := (.object "java/time/Duration")) (by decide) (by decide)))
  have Kp := Kp.wr W7 (Or.inl (List.mem_of_getElem? (i := 0) rfl))
  have HC := HC.trans (CHr.wr W7 Sf_a HC.1)
  have hk := Nat.le_trans hk (Nat.le_of_eq (Wr.size W7).symm)
  have O0 := O0.wr W7 g_a
  show Goes p e below _ T7 (mkF m 67 #[.val (.ref a), .val (.long t), .second, .val (.ref dz)] [])
  exact retVoidW X7 hS hk hZ hEL HC hx hret hlk (hb hby d2_67) eT7 (by decide) (by decide) ⟨rfl, N7, Kp, F0⟩
set_option maxRecDepth 65536 in
set_option maxHeartbeats 40000000 in
theorem rm_granted (l : Launch) (Z : State) (a0 : Array Value) (hw : ∀ d ∈ tables_1, d.before a0 Z = true) (dz : Addr) (t : Int64) (h0 : Heap) (n0 : Nat) (O0 : Old Z n0 h0) (Sz : Sta Z Z.heap "java/time/Duration" "ZERO" "Ljava/time/Duration;" (.ref dz)) (Ez : Exa Z Z.heap dz "java/time/Duration") (Fs : Fld Z Z.heap dz "java/time/Duration" "seconds" "J" (.long (0 : Int64))) (Fn : Fld Z Z.heap dz "java/time/Duration" "nanos" "I" (.int (0 : Int32))) (hne : ¬ t = (0 : Int64)) (hnn : ¬ t < (0 : Int64)) (hpos : (0 : Int64) < t) :
    RmH l (⟨"com/example/latchwork/latchwork/core/Acquisition", "granted", "(J)Lcom/example/latchwork/latchwork/core/Acquisition;"⟩ : MethodName) prog_4_method_2_code 2 (some (.object "com/example/latchwork/latchwork/core/Acquisition")) ({ frames := 3, cells := 3, slots := 34, locals := 40 } : Room) [] Z EL #[(.long t)] h0 (fun v h L => ∃ b, v = some (.ref b) ∧ Fr n0 L ∧ Keep h0 h [] ∧ n0 ≤ b ∧ Exa Z h b "com/example/latchwork/latchwork/core/Acquisition" ∧ Fld Z h b "com/example/latchwork/latchwork/core/Acquisition" "token" "J" (.long t)) := by
  refine RmH.of (plainFor_of_name pn_com_example_latchwork_latchwork_core_Acquisition) ?_
  intro p e s m below meth c T X hx hZ hby hml hown hnm hret hlk eT0 hS hk HC
  have hEL := hELof hw
  have wS := wSof hw
  have hown : s.vm.findClass "com/example/latchwork/latchwork/core/Acquisition" = some m.cls := hown
  have hnm : meth.name = "granted" := hnm
  have N0 := Fr.nil n0
  have Kp := Keep.refl h0 []
  refine Goes.cast (ef_1 m t) ?_
  show Goes p e below _ T (mkF m 0 #[.val (.long t), .second] [])
  refine Goes.of (fun _ => XS.lloadN X.here hx rfl (hb hby d1_0) rfl) ?_
  show Goes p e below _ T (mkF m 1 #[.val (.long t), .second] [(.long t)])
  refine Goes.of (fun _ => XS.lconst X.here hx rfl (hb hby d1_1)) ?_
  show Goes p e below _ T (mkF m 2 #[.val (.long t), .second] [(.long (0 : Int64)), (.long t)])
  refine Goes.of (fun _ => XS.lcmp X.here hx rfl (hb hby d1_2) rfl) ?_
  show Goes p e below _ T (mkF m 3 #[.val (.long t), .second] [(.int (lcmpW t (0 : Int64)))])
  refine Goes.of (fun _ => XS.ifYes X.here hx rfl (pc0 := 3) (pc' := 16) rfl (hb hby d1_3) rfl ((if0 _ _).trans (feq (fun q => hne ((lw_eq t (0 : Int64)).mp q))).2) (by decide) (by decide)) ?_
  show Goes p e below _ T (mkF m 16 #[.val (.long t), .second] [])
  refine goNew X hx hZ hown (hw _ (List.mem_of_getElem? (i := 5) rfl)) (hw _ (List.mem_of_getElem? (i := 6) rfl)) (hw _ (List.mem_of_getElem? (i := 3) rfl)) eT0 (g := (mkF m 16 #[.val (.long t), .second] [])) rfl (hb hby d1_16) (by decide) (by decide) ?_
  intro T1 h1 b1 X1 eT1 E1 hb1 A1 D1
  have g_b1 : n0 ≤ b1 := Nat.le_trans (oldLe O0) hb1
  have sz_b1 : h0.size ≤ b1 := Nat.le_trans Kp.1 hb1
  have Kp := Kp.ext E1
  have hk := Nat.le_trans hk E1.1
  have HC := HC.trans (CHr.ext E1 HC.1)
  have O0 := O0.ext E1
  have F1_token : Fld Z h1 b1 "com/example/latchwork/latchwork/core/Acquisition" "token" "J" (.long (0 : Int64)) := D1 (Or.inr (hw _ (List.mem_of_getElem? (i := 47) rfl))) (ty := .long) (by decide)
  have F1_heldFor : Fld Z h1 b1 "com/example/latchwork/latchwork/core/Acquisition" "heldFor" "Ljava/time/Duration;" .null := D1 (Or.inr (hw _ (List.mem_of_getElem? (i := 49) rfl))) (ty := (.object "java/time/Duration")) (by decide)
  show Goes p e below _ T1 (mkF m 19 #[.val (.long t), .second] [(.ref b1)])
  refine Goes.of (fun _ => XS.dup X1.here hx rfl (hb hby d1_19) rfl rfl) ?_
  show Goes p e below _ T1 (mkF m 20 #[.val (.long t), .second] [(.ref b1), (.ref b1)])
  refine Goes.of (fun _ => XS.lloadN X1.here hx rfl (hb hby d1_20) rfl) ?_
  show Goes p e below _ T1 (mkF m 21 #[.val (.long t), .second] [(.long t), (.ref b1), (.ref b1)])
  refine goGetS X1 hx hZ hown (host := "") (Or.inl (hw _ (List.mem_of_getElem? (i := 7) rfl))) Via.refl eT1 (Sz.ext O0.2) (g := (mkF m 21 #[.val (.long t), .second] [(.long t), (.ref b1), (.ref b1)])) rfl (hb hby d1_21) ?_
  intro T2 X2 eT2
  show Goes p e below _ T2 (mkF m 24 #[.val (.long t), .second] [(.ref dz), (.long t), (.ref b1), (.ref b1)])
  refine goSpecialW 1 X2 hS hk hEL HC hx hZ rfl hown (hw _ (List.mem_of_getElem? (i := 9) rfl)) (hw _ (List.mem_of_getElem? (i := 10) rfl)) (hw _ (List.mem_of_getElem? (i := 3) rfl)) (hw _ (List.mem_of_getElem? (i := 11) rfl)) (by decide) (rm_init l Z a0 hw b1 dz t h1 n0 O0 Sz Ez Fs Fn hnn hpos g_b1 A1 F1_token F1_heldFor) eT2 (g := (mkF m 24 #[.val (.long t), .second] [(.ref dz), (.long t), (.ref b1), (.ref b1)])) rfl (by rw [hml]; rfl) b1 [(.long t), (.ref dz)] [(.ref b1)] (lenOf pd__JLjava_time_Duration__V rfl) rfl rfl (by show 2 * 0 + _ ≤ _; exact Nat.le_of_eq rfl) (hb hby d1_24) (by decide) (by decide) (by decide) (by decide) ?_
  intro v3 T3 L3 k3 X3 hS hk hZ hown HC q3
  obtain ⟨rfl, Nq3, Kq3, Ft3⟩ := q3
  have N3 := Fr.app N0 Nq3
  have A1 := A1.keep Kq3
  have Kp := Kp.trans Kq3 (allS (Or.inr sz_b1) all0)
  have O0 := O0.keep Kq3 (allS g_b1 all0)
  show Goes p e below _ T3 (mkF m 27 #[.val (.long t), .second] [(.ref b1)])
  exact retRefW X3 hS hk hZ hEL HC hx hret hlk rfl rfl (hb hby d1_27) (rfl : T3.heap = _) (by decide) (by decide) ⟨b1, rfl, N3, Kp, g_b1, A1, Ft3⟩
set_option maxRecDepth 65536 in
set_option maxHeartbeats 40000000 in
theorem rm_token (l : Launch) (Z : State) (a0 : Array Value) (hw : ∀ d ∈ tables_1, d.before a0 Z = true) (a : Addr) (t : Int64) (h0 : Heap) (n0 : Nat) (O0 : Old Z n0 h0) (Ft : Fld Z h0 a "com/example/latchwork/latchwork/core/Acquisition" "token" "J" (.long t)) :
    Rm l (⟨"com/example/latchwork/latchwork/core/Acquisition", "token", "()J"⟩ : MethodName) prog_4_method_8_code 1 (some .long) ({ frames := 0, cells := 0, slots := 0, locals := 0 } : Room) [] Z #[(.ref a)] h0 (fun v h L => v = some (.long t) ∧ Fr n0 L ∧ h = h0) := by
  refine Rm.of (plainFor_of_name pn_com_example_latchwork_latchwork_core_Acquisition) ?_
  intro p e s m below meth c T X hx hZ hby hml hown hnm hret hlk eT0
  have hown : s.vm.findClass "com/example/latchwork/latchwork/core/Acquisition" = some m.cls := hown
  have hnm : meth.name = "token" := hnm
  have N0 := Fr.nil n0
  refine Goes.cast (ef_8 m a) ?_
  show Goes p e below _ T (mkF m 0 #[.val (.ref a)] [])
  refine Goes.of (fun _ => XS.aloadN X.here hx rfl (hb hby d8_0) rfl rfl) ?_
  show Goes p e below _ T (mkF m 1 #[.val (.ref a)] [(.ref a)])
  refine goGet X hx hZ hown (host := "") (Or.inl (hw _ (List.mem_of_getElem? (i := 46) rfl))) Via.refl eT0 Ft (g := (mkF m 1 #[.val (.ref a)] [(.ref a)])) rfl rfl (hb hby d8_1) ?_
  intro T1 X1 eT1
  show Goes p e below _ T1 (mkF m 4 #[.val (.ref a)] [(.long t)])
  exact retLong X1 hx hret hlk (hb hby d8_4) eT1 (by decide) (by decide) ⟨rfl, N0, rfl⟩
set_option maxRecDepth 65536 in
set_option maxHeartbeats 40000000 in
theorem rm_isgr (l : Launch) (Z : State) (a0 : Array Value) (hw : ∀ d ∈ tables_1, d.before a0 Z = true) (a : Addr) (t : Int64) (h0 : Heap) (n0 : Nat) (O0 : Old Z n0 h0) (Ft : Fld Z h0 a "com/example/latchwork/latchwork/core/Acquisition" "token" "J" (.long t)) (hpos : (0 : Int64) < t) :
    Rm l (⟨"com/example/latchwork/latchwork/core/Acquisition", "isGranted", "()Z"⟩ : MethodName) prog_4_method_4_code 1 (some .boolean) ({ frames := 0, cells := 0, slots := 0, locals := 0 } : Room) [] Z #[(.ref a)] h0 (fun v h L => v = some (.int 1) ∧ Fr n0 L ∧ h = h0) := by
  refine Rm.of (plainFor_of_name pn_com_example_latchwork_latchwork_core_Acquisition) ?_
  intro p e s m below meth c T X hx hZ hby hml hown hnm hret hlk eT0
  have hown : s.vm.findClass "com/example/latchwork/latchwork/core/Acquisition" = some m.cls := hown
  have hnm : meth.name = "isGranted" := hnm
  have N0 := Fr.nil n0
  refine Goes.cast (ef_9 m a) ?_
  show Goes p e below _ T (mkF m 0 #[.val (.ref a)] [])
  refine Goes.of (fun _ => XS.aloadN X.here hx rfl (hb hby d9_0) rfl rfl) ?_
  show Goes p e below _ T (mkF m 1 #[.val (.ref a)] [(.ref a)])
  refine goGet X hx hZ hown (host := "") (Or.inl (hw _ (List.mem_of_getElem? (i := 46) rfl))) Via.refl eT0 Ft (g := (mkF m 1 #[.val (.ref a)] [(.ref a)])) rfl rfl (hb hby d9_1) ?_
  intro T1 X1 eT1
  show Goes p e below _ T1 (mkF m 4 #[.val (.ref a)] [(.long t)])
  refine Goes.of (fun _ => XS.lconst X1.here hx rfl (hb hby d9_4)) ?_
  show Goes p e below _ T1 (mkF m 5 #[.val (.ref a)] [(.long (0 : Int64)), (.long t)])
  refine Goes.of (fun _ => XS.lcmp X1.here hx rfl (hb hby d9_5) rfl) ?_
  show Goes p e below _ T1 (mkF m 6 #[.val (.ref a)] [(.int (lcmpW t (0 : Int64)))])
  refine Goes.of (fun _ => XS.ifNo X1.here hx rfl (hb hby d9_6) rfl ((if0 _ _).trans (tlt ((lw_gt t (0 : Int64)).mpr hpos)).2.2.2)) ?_
  show Goes p e below _ T1 (mkF m 9 #[.val (.ref a)] [])
  refine Goes.of (fun _ => XS.iconst X1.here hx rfl (hb hby d9_9)) ?_
  show Goes p e below _ T1 (mkF m 10 #[.val (.ref a)] [(.int (1 : Int32))])
  refine Goes.of (fun _ => XS.goto X1.here hx rfl (pc0 := 10) (pc' := 14) rfl (hb hby d9_10) (by decide) (by decide)) ?_
  show Goes p e below _ T1 (mkF m 14 #[.val (.ref a)] [(.int (1 : Int32))])
  exact retZ (t := .boolean) X1 hx hret hlk (by simp) (hb hby d9_14) eT1 (by decide) (by decide) ⟨rfl, N0, rfl⟩
set_option maxRecDepth 65536 in
set_option maxHeartbeats 40000000 in
theorem rm_law (l : Launch) (Z : State) (a0 : Array Value) (hw : ∀ d ∈ tables_1, d.before a0 Z = true) (ws : List Jvm.Cond) (q1 : Int64) (dz : Addr) (h0 : Heap) (n0 : Nat) (O0 : Old Z n0 h0) (Sz : Sta Z Z.heap "java/time/Duration" "ZERO" "Ljava/time/Duration;" (.ref dz)) (Ez : Exa Z Z.heap dz "java/time/Duration") (Fs : Fld Z Z.heap dz "java/time/Duration" "seconds" "J" (.long (0 : Int64))) (Fn : Fld Z Z.heap dz "java/time/Duration" "nanos" "I" (.int (0 : Int32))) :
    RmH l x code maxLocals ret room_1 ws Z EL #[(.long q1)] h0 (fun v h L => v = some (.int 1) ∧ Fr n0 L) := by
  refine RmH.of (plainFor_of_name pn_com_example_latchwork_latchwork_core_AcquisitionGrantedPinLaw) ?_
  intro p e s m below meth c T X hx hZ hby hml hown hnm hret hlk eT0 hS hk HC
  have hEL := hELof hw
  have wS := wSof hw
  have hown : s.vm.findClass "com/example/latchwork/latchwork/core/AcquisitionGrantedPinLaw" = some m.cls := hown
  have hnm : meth.name = "law" := hnm
  have N0 := Fr.nil n0
  refine Goes.cast (ef_0 m q1) ?_
  show Goes p e below _ T (mkF m 0 #[.val (.long q1), .second, .unset, .unset, .unset] [])
  refine Goes.of (fun _ => XS.lloadN X.here hx rfl (hb hby at_0) rfl) ?_
  show Goes p e below _ T (mkF m 1 #[.val (.long q1), .second, .unset, .unset, .unset] [(.long q1)])
  refine Goes.of (fun _ => X.ldc2Long hx hown (mvT hZ (hw _ (List.mem_of_getElem? (i := 0) rfl))) (g := (mkF m 1 #[.val (.long q1), .second, .unset, .unset, .unset] [(.long q1)])) rfl (hb hby at_1) _) ?_
  show Goes p e below _ T (mkF m 4 #[.val (.long q1), .second, .unset, .unset, .unset] [(.long (9223372036854775807 : Int64)), (.long q1)])
  refine Goes.of (fun _ => XS.land X.here hx rfl (hb hby at_4) rfl) ?_
  show Goes p e below _ T (mkF m 5 #[.val (.long q1), .second, .unset, .unset, .unset] [(.long (q1 &&& (9223372036854775807 : Int64)))])
  refine Goes.of (fun _ => XS.lstoreN X.here hx rfl (hb hby at_5) rfl (l' := #[.val (.long q1), .second, .val (.long (q1 &&& (9223372036854775807 : Int64))), .second, .unset]) rfl) ?_
  show Goes p e below _ T (mkF m 6 #[.val (.long q1), .second, .val (.long (q1 &&& (9223372036854775807 : Int64))), .second, .unset] [])
  generalize ht : (q1 &&& (9223372036854775807 : Int64)) = t
  show Goes p e below _ T (mkF m 6 #[.val (.long q1), .second, .val (.long t), .second, .unset] [])
  refine Goes.of (fun _ => XS.lloadN X.here hx rfl (hb hby at_6) rfl) ?_
  show Goes p e below _ T (mkF m 7 #[.val (.long q1), .second, .val (.long t), .second, .unset] [(.long t)])
  refine Goes.of (fun _ => XS.lconst X.here hx rfl (hb hby at_7)) ?_
  show Goes p e below _ T (mkF m 8 #[.val (.long q1), .second, .val (.long t), .second, .unset] [(.long (0 : Int64)), (.long t)])
  refine Goes.of (fun _ => XS.lcmp X.here hx rfl (hb hby at_8) rfl) ?_
  show Goes p e below _ T (mkF m 9 #[.val (.long q1), .second, .val (.long t), .second, .unset] [(.int (lcmpW t (0 : Int64)))])
  by_cases hc9 : t = (0 : Int64)
  · refine Goes.of (fun _ => XS.ifNo X.here hx rfl (hb hby at_9) rfl ((if0 _ _).trans (teq ((lw_eq t (0 : Int64)).mpr hc9)).2)) ?_
    show Goes p e below _ T (mkF m 12 #[.val (.long q1), .second, .val (.long t), .second, .unset] [])
    refine Goes.of (fun _ => XS.iconst X.here hx rfl (hb hby at_12)) ?_
    show Goes p e below _ T (mkF m 13 #[.val (.long q1), .second, .val (.long t), .second, .unset] [(.int (1 : Int32))])
    exact retZW (t := .boolean) X hS hk hZ hEL HC hx hret hlk (by simp) (hb hby at_13) eT0 (by decide) (by decide) ⟨rfl, N0⟩
  · refine Goes.of (fun _ => XS.ifYes X.here hx rfl (pc0 := 9) (pc' := 14) rfl (hb hby at_9) rfl ((if0 _ _).trans (feq (fun q => hc9 ((lw_eq t (0 : Int64)).mp q))).2) (by decide) (by decide)) ?_
    show Goes p e below _ T (mkF m 14 #[.val (.long q1), .second, .val (.long t), .second, .unset] [])
    have hnn : ¬ t < (0 : Int64) := ht ▸ t_nn q1
    have hpos : (0 : Int64) < t := t_pos hc9 hnn
    show Goes p e below _ T (mkF m 14 #[.val (.long q1), .second, .val (.long t), .second, .unset] [])
    refine Goes.of (fun _ => XS.lloadN X.here hx rfl (hb hby at_14) rfl) ?_
    show Goes p e below _ T (mkF m 15 #[.val (.long q1), .second, .val (.long t), .second, .unset] [(.long t)])
    refine goStaticW 0 X hS hk hEL HC hx hZ hown (hw _ (List.mem_of_getElem? (i := 1) rfl)) (hw _ (List.mem_of_getElem? (i := 2) rfl)) (hw _ (List.mem_of_getElem? (i := 3) rfl)) (hw _ (List.mem_of_getElem? (i := 4) rfl)) (by decide) (rm_granted l Z a0 hw dz t h0 n0 O0 Sz Ez Fs Fn hc9 hnn hpos) eT0 (g := (mkF m 15 #[.val (.long q1), .second, .val (.long t), .second, .unset] [(.long t)])) rfl (by rw [hml]; rfl) [(.long t)] [] (lenOf pd__J_Lcom_example_latchwork_latchwork_core_Acquisition_ rfl) rfl rfl (by show 2 * 0 + _ ≤ _; exact Nat.le_of_eq rfl) (hb hby at_15) (by decide) (by decide) (by decide) (by decide) ?_
    intro v1 T1 L1 k1 X1 hS hk hZ hown HC q1
    obtain ⟨bb1, rfl, Nq1, Kq1, g_bb1, Eb1, Ft1⟩ := q1
    have N1 := Fr.app N0 Nq1
    have O0 := O0.keep Kq1 all0
    show Goes p e below _ T1 (mkF m 18 #[.val (.long q1), .second, .val (.long t), .second, .unset] [(.ref bb1)])
    refine Goes.of (fun _ => XS.astore X1.here hx rfl (hb hby at_18) rfl rfl (l' := #[.val (.long q1), .second, .val (.long t), .second, .val (.ref bb1)]) rfl) ?_
    show Goes p e below _ T1 (mkF m 20 #[.val (.long q1), .second, .val (.long t), .second, .val (.ref bb1)] [])
    refine Goes.of (fun _ => XS.aload X1.here hx rfl (hb hby at_20) rfl rfl) ?_
    show Goes p e below _ T1 (mkF m 22 #[.val (.long q1), .second, .val (.long t), .second, .val (.ref bb1)] [(.ref bb1)])
    refine goVirtual 0 X1 hx hZ hown (hw _ (List.mem_of_getElem? (i := 50) rfl)) (hw _ (List.mem_of_getElem? (i := 51) rfl)) (notFace_of_selects (args := #[]) (mvT hZ (hw _ (List.mem_of_getElem? (i := 53) rfl)))) (hw _ (List.mem_of_getElem? (i := 53) rfl)) (hw _ (List.mem_of_getElem? (i := 52) rfl)) (hw _ (List.mem_of_getElem? (i := 3) rfl)) (hw _ (List.mem_of_getElem? (i := 54) rfl)) (by decide) (rm_token l Z a0 hw bb1 t T1.heap n0 O0 Ft1) (rfl : T1.heap = _) Eb1 (g := (mkF m 22 #[.val (.long q1), .second, .val (.long t), .second, .val (.ref bb1)] [(.ref bb1)])) rfl (by rw [hml]; rfl) [] [] (lenOf pd___J rfl) rfl rfl (by show 2 * 0 + _ ≤ _; exact Nat.le_of_eq rfl) (hb hby at_22) (by decide) (by decide) (by decide) (by decide) ?_
    intro v2 T2 L2 X2 q2
    obtain ⟨rfl, Nq2, eT2⟩ := q2
    have N2 := Fr.app N1 Nq2
    show Goes p e below _ T2 (mkF m 25 #[.val (.long q1), .second, .val (.long t), .second, .val (.ref bb1)] [(.long t)])
    refine Goes.of (fun _ => XS.lloadN X2.here hx rfl (hb hby at_25) rfl) ?_
    show Goes p e below _ T2 (mkF m 26 #[.val (.long q1), .second, .val (.long t), .second, .val (.ref bb1)] [(.long t), (.long t)])
    refine Goes.of (fun _ => XS.lcmp X2.here hx rfl (hb hby at_26) rfl) ?_
    show Goes p e below _ T2 (mkF m 27 #[.val (.long q1), .second, .val (.long t), .second, .val (.ref bb1)] [(.int (lcmpW t t))])
    refine Goes.of (fun _ => XS.ifNo X2.here hx rfl (hb hby at_27) rfl ((if0 _ _).trans (teq ((lw_eq t t).mpr rfl)).2)) ?_
    show Goes p e below _ T2 (mkF m 30 #[.val (.long q1), .second, .val (.long t), .second, .val (.ref bb1)] [])
    refine Goes.of (fun _ => XS.aload X2.here hx rfl (hb hby at_30) rfl rfl) ?_
    show Goes p e below _ T2 (mkF m 32 #[.val (.long q1), .second, .val (.long t), .second, .val (.ref bb1)] [(.ref bb1)])
    refine goVirtual 0 X2 hx hZ hown (hw _ (List.mem_of_getElem? (i := 55) rfl)) (hw _ (List.mem_of_getElem? (i := 56) rfl)) (notFace_of_selects (args := #[]) (mvT hZ (hw _ (List.mem_of_getElem? (i := 58) rfl)))) (hw _ (List.mem_of_getElem? (i := 58) rfl)) (hw _ (List.mem_of_getElem? (i := 57) rfl)) (hw _ (List.mem_of_getElem? (i := 3) rfl)) (hw _ (List.mem_of_getElem? (i := 59) rfl)) (by decide) (rm_isgr l Z a0 hw bb1 t T1.heap n0 O0 Ft1 hpos) eT2 Eb1 (g := (mkF m 32 #[.val (.long q1), .second, .val (.long t), .second, .val (.ref bb1)] [(.ref bb1)])) rfl (by rw [hml]; rfl) [] [] (lenOf pd___Z rfl) rfl rfl (by show 2 * 0 + _ ≤ _; exact Nat.le_of_eq rfl) (hb hby at_32) (by decide) (by decide) (by decide) (by decide) ?_
    intro v3 T3 L3 X3 q3
    obtain ⟨rfl, Nq3, eT3⟩ := q3
    have N3 := Fr.app N2 Nq3
    show Goes p e below _ T3 (mkF m 35 #[.val (.long q1), .second, .val (.long t), .second, .val (.ref bb1)] [(.int (1 : Int32))])
    refine Goes.of (fun _ => XS.ifNo X3.here hx rfl (hb hby at_35) rfl ((if0 _ _).trans (feq (by decide)).1)) ?_
    show Goes p e below _ T3 (mkF m 38 #[.val (.long q1), .second, .val (.long t), .second, .val (.ref bb1)] [])
    refine Goes.of (fun _ => XS.iconst X3.here hx rfl (hb hby at_38)) ?_
    show Goes p e below _ T3 (mkF m 39 #[.val (.long q1), .second, .val (.long t), .second, .val (.ref bb1)] [(.int (1 : Int32))])
    refine Goes.of (fun _ => XS.goto X3.here hx rfl (pc0 := 39) (pc' := 43) rfl (hb hby at_39) (by decide) (by decide)) ?_
    show Goes p e below _ T3 (mkF m 43 #[.val (.long q1), .second, .val (.long t), .second, .val (.ref bb1)] [(.int (1 : Int32))])
    exact retZW (t := .boolean) X3 hS hk hZ hEL HC hx hret hlk (by simp) (hb hby at_43) eT3 (by decide) (by decide) ⟨rfl, N3⟩
set_option maxRecDepth 65536 in
set_option maxHeartbeats 40000000 in
theorem comes_1 {Post : Tables → Env → Array Value → State → Outcome → State → Prop} (hpost : ∀ tb e args s v u, (limb_1_1.after args s (.returned v) u = true ∧ limb_1_2.after args s (.returned v) u = true ∧ True) → ReturnedEndW s (.returned v) u (Jvm.fieldLocs frame_1_writes args s ++ Jvm.arrayLocs frame_1_arrays args s ++ Jvm.staticLocs frame_1_statics s) 16 1152 → Post tb e args s (.returned v) u) :
    ArmFor flags0 classFile x code maxLocals ret World_1 tables_1 room_1 Calls_1 rest_1 Pre_1 Post := by
  intro l hfl _ _ p e ha hc hk s m args below hf hA hF happ hP
  obtain ⟨hcalls, hrest, hpre⟩ := hP
  obtain ⟨-, -, -, hnamed, -, -, -, hat⟩ := (Spec.applies_iff hf).mp happ
  obtain ⟨hg, hn⟩ := and_e (Cond.before_iff.mp (show (Jvm.Cond.and given_1 narrow_1).before args s = true from hpre))
  obtain ⟨hcount, hg0⟩ := and_e hg
  have hv0 := hg0
  obtain ⟨w0, rfl⟩ : ∃ w0 : Value, args = #[w0] := by
    have hs : args.size = 1 := by simpa [Cond.value, given_1] using hcount
    obtain ⟨L⟩ := args
    match L, hs with
    | [w0], _ => exact ⟨w0, rfl⟩
  have hw := fun d (hd : d ∈ tables_1) => atoms_spec (ws := Jvm.Cond.code x code maxLocals ret :: tables_1) hat d (List.mem_cons_of_mem _ hd)
  have hfit : Fit s := fun {y c} hc i hi => by
    obtain ⟨ha, rfl⟩ := Array.getElem?_eq_some_iff.mp hc
    have q := List.all_eq_true.mp ((Array.all_eq_true_iff_forall_mem.mp hF) _ (Array.getElem_mem ha)) i (List.mem_range.mpr hi)
    simpa [Array.getElem?_eq_getElem hi] using q
  obtain ⟨hsets, hown0⟩ := atoms_of _ (rest_1_c_eq ▸ (show rest_1_c.before _ s = true from hrest))
  obtain ⟨i0, ei0⟩ := isL_v hv0
  obtain rfl : w0 = (.long i0) := Option.some.inj ei0
  have hx2 := Cond.before_iff.mp (hsets _ (List.mem_of_getElem? (i := 2) rfl))
  obtain ⟨dz, evz⟩ := exa_v hx2
  have Sz := Sta.start evz (Or.inl (hsets _ (List.mem_of_getElem? (i := 1) rfl)))
  have Ez := Exa.start evz hx2
  have Fs := fld_of_eq evz (v := .long 0) rfl (Cond.before_iff.mp (hsets _ (List.mem_of_getElem? (i := 3) rfl)))
  have Fn := fld_of_eq evz (v := .int 0) rfl (Cond.before_iff.mp (hsets _ (List.mem_of_getElem? (i := 4) rfl)))
  have hCH : CHv s EL s.vm s.heap := fun _ hp => by simp [EL] at hp
  obtain ⟨n, o, h1, h2, h3, _, L, rfl, ⟨rfl, N⟩, -, hq⟩ := rm_law l s _ hw tables_1 i0 dz s.heap s.heap.size (Old.start s) Sz Ez Fs Fn p e ha hc hk s m _ below hf ((Spec.applies_iff_loose hf).mp happ).1 ⟨rfl, State.Warmed39.refl s, rfl, hCH⟩ trivial
  refine ⟨n, _, h1, h2, h3, hpost _ _ _ _ _ _ ⟨Cond.after_iff.mpr rfl, Cond.after_iff.mpr (eq_i res_at (Term.int_eval (1)) rfl), trivial⟩ ⟨hq.1, hq.2.1, hq.2.2.1, (hq.2.2.2.sift fun y hy => Or.inr (N y hy)).mono (by decide) (by decide)⟩⟩
theorem main_1_1 : Claimed_1_1 := comes_1 fun _ _ _ _ _ _ h hF => ⟨h.1, hF⟩
theorem main_1_2 : Claimed_1_2 := comes_1 fun _ _ _ _ _ _ h hF => ⟨h.2.1, hF⟩
end Jvm.Pilot.@@N@@
namespace Jvm.Pilot.@@N@@
open Jvm Jvm.ClassFile Sem Op Lib Jvm.Free Jvm.Stand Jvm.Pilot.@@N@@.Jvm.D
/-! MADE BY PROGRAM (witnessworld.py) out of the Statement's table words and the real class files: 18 classes; the members and pool entries that the words name. The judged class is class 1, her method 1. -/
namespace start1
open Jvm.ClassFile
def u (s : String) : CpInfo := .utf8 (stringToUtf16 s)
/-- a pool by its gaps: so many unusable entries, then the entry; so many at the end -/
def gap : Nat → List CpInfo → List CpInfo
  | 0, r => r
  | n + 1, r => .unusable :: gap n r
def poolList (es : List (Nat × CpInfo)) (last : Nat) : List CpInfo := es.foldr (fun e r => gap e.1 (e.2 :: r)) (gap last [])
def pool (es : List (Nat × CpInfo)) (last : Nat) : Array CpInfo := ⟨poolList es last⟩
def fileOf (pool : Array CpInfo) (this : Nat) (attrs : Array Attribute := #[]) (ms : Array MethodInfo := #[]) (fl : Nat := 33) (sup : Nat := 0) (ifs : Array Nat := #[]) (fds : Array FieldInfo := #[]) : ClassFile where
  minorVersion := 0
  majorVersion := 65
  constantPool := pool
  accessFlags := fl
  thisClass := this
  superClass := sup
  interfaces := ifs
  fields := fds
  methods := ms
  attributes := attrs
def plain (name : String) (sup : Option ClassId) : Class where
  name := name
  kind := .ordinary
  loader := none
  accessFlags := 33
  super := sup
  interfaces := #[]
  cf := none
  fields := #[]
  methods := #[]
  instanceTypes := #[]
  staticTypes := #[]
  resolved := #[]
  callSites := []
  init := .initialized
  statics := none
  mirror := none

def pool0 : Array CpInfo := pool [(5, u "<init>"), (0, u "()V"), (1, .class_ 10), (1, u "java/lang/Object")] 113

def k0c0 : Code := { maxStack := 0, maxLocals := 1, code := object_method_1_code, exceptionTable := #[], attributes := #[] }
def k0m0 : Method := { name := "<init>", desc := "()V", sig := { parameters := [], returnType := none }, accessFlags := 1, code := some k0c0 }
/-- java/lang/Object -/
def k0 : Class := { plain "java/lang/Object" none with
  accessFlags := 33
  interfaces := #[]
  cf := some (fileOf pool0 8 #[] #[{ accessFlags := 1, nameIndex := 5, descriptorIndex := 6, attributes := #[] }] 33 0 #[] #[])
  fields := #[]
  methods := #[k0m0]
  instanceTypes := #[]
  staticTypes := #[]
  resolved := Array.replicate 124 none
  statics := none }

def pool1 : Array CpInfo := pool [(2, .class_ 4), (1, u "java/lang/Object"), (0, u "<init>"), (0, u "()V"), (2, .long 9223372036854775807), (1, .methodref 12 13), (0, .class_ 14), (0, .nameAndType 15 16), (0, u "com/example/latchwork/latchwork/core/Acquisition"), (0, u "granted"), (0, u "(J)Lcom/example/latchwork/latchwork/core/Acquisition;"), (0, .methodref 12 18), (0, .nameAndType 19 20), (0, u "token"), (0, u "()J"), (0, .methodref 12 22), (0, .nameAndType 23 24), (0, u "isGranted"), (0, u "()Z"), (0, .class_ 26), (0, u "com/example/latchwork/latchwork/core/AcquisitionGrantedPinLaw"), (2, u "law"), (0, u "(J)Z")] 3

def k1m0 : Method := { name := "<init>", desc := "()V", sig := { parameters := [], returnType := none }, accessFlags := 1, code := none }
def k1c1 : Code := { maxStack := 4, maxLocals := 5, code := code, exceptionTable := #[], attributes := #[] }
def k1m1 : Method := { name := "law", desc := "(J)Z", sig := { parameters := [.long], returnType := some .boolean }, accessFlags := 9, code := some k1c1 }
/-- com/example/latchwork/latchwork/core/AcquisitionGrantedPinLaw -/
def k1 : Class := { plain "com/example/latchwork/latchwork/core/AcquisitionGrantedPinLaw" (some 0) with
  accessFlags := 49
  interfaces := #[]
  cf := some (fileOf pool1 25 #[] #[{ accessFlags := 1, nameIndex := 5, descriptorIndex := 6, attributes := #[] }, { accessFlags := 9, nameIndex := 29, descriptorIndex := 30, attributes := #[] }] 49 2 #[] #[])
  fields := #[]
  methods := #[k1m0, k1m1]
  instanceTypes := #[]
  staticTypes := #[]
  resolved := Array.replicate 34 none
  statics := none }

def pool2 : Array CpInfo := pool [(1, .methodref 2 3), (0, .class_ 4), (0, .nameAndType 5 6), (0, u "java/lang/Object"), (0, u "<init>"), (0, u "()V"), (0, .class_ 8), (0, u "java/lang/Record")] 13

def k2c0 : Code := { maxStack := 1, maxLocals := 1, code := jdk_30_method_1_code, exceptionTable := #[], attributes := #[] }
def k2m0 : Method := { name := "<init>", desc := "()V", sig := { parameters := [], returnType := none }, accessFlags := 4, code := some k2c0 }
/-- java/lang/Record -/
def k2 : Class := { plain "java/lang/Record" (some 0) with
  accessFlags := 1057
  interfaces := #[]
  cf := some (fileOf pool2 7 #[] #[{ accessFlags := 4, nameIndex := 5, descriptorIndex := 6, attributes := #[] }] 1057 2 #[] #[])
  fields := #[]
  methods := #[k2m0]
  instanceTypes := #[]
  staticTypes := #[]
  resolved := Array.replicate 22 none
  statics := none }

def pool3 : Array CpInfo := pool [(1, .methodref 2 3), (0, .class_ 4), (0, .nameAndType 5 6), (0, u "java/lang/Record"), (0, u "<init>"), (0, u "()V"), (0, .string 8), (0, u "heldFor"), (0, .methodref 10 11), (0, .class_ 12), (0, .nameAndType 13 14), (0, u "java/util/Objects"), (0, u "requireNonNull"), (0, u "(Ljava/lang/Object;Ljava/lang/String;)Ljava/lang/Object;"), (0, .methodref 16 17), (0, .class_ 18), (0, .nameAndType 19 20), (0, u "java/time/Duration"), (0, u "isNegative"), (0, u "()Z"), (7, .methodref 16 29), (0, .nameAndType 30 20), (0, u "isZero"), (2, .fieldref 34 35), (0, .class_ 36), (0, .nameAndType 37 38), (0, u "com/example/latchwork/latchwork/core/Acquisition"), (0, u "token"), (0, u "J"), (0, .fieldref 34 40), (0, .nameAndType 8 41), (0, u "Ljava/time/Duration;"), (2, .fieldref 16 45), (0, .nameAndType 46 41), (0, u "ZERO"), (0, .methodref 34 48), (0, .nameAndType 5 49), (0, u "(JLjava/time/Duration;)V"), (16, u "granted"), (0, u "(J)Lcom/example/latchwork/latchwork/core/Acquisition;"), (2, u "isGranted"), (3, u "()J")] 22

def k3c0 : Code := { maxStack := 4, maxLocals := 4, code := prog_4_method_1_code, exceptionTable := #[], attributes := #[] }
def k3m0 : Method := { name := "<init>", desc := "(JLjava/time/Duration;)V", sig := { parameters := [.long, (.object "java/time/Duration")], returnType := none }, accessFlags := 1, code := some k3c0 }
def k3c1 : Code := { maxStack := 5, maxLocals := 2, code := prog_4_method_2_code, exceptionTable := #[], attributes := #[] }
def k3m1 : Method := { name := "granted", desc := "(J)Lcom/example/latchwork/latchwork/core/Acquisition;", sig := { parameters := [.long], returnType := some (.object "com/example/latchwork/latchwork/core/Acquisition") }, accessFlags := 9, code := some k3c1 }
def k3c2 : Code := { maxStack := 4, maxLocals := 1, code := prog_4_method_4_code, exceptionTable := #[], attributes := #[] }
def k3m2 : Method := { name := "isGranted", desc := "()Z", sig := { parameters := [], returnType := some .boolean }, accessFlags := 1, code := some k3c2 }
def k3c3 : Code := { maxStack := 2, maxLocals := 1, code := prog_4_method_8_code, exceptionTable := #[], attributes := #[] }
def k3m3 : Method := { name := "token", desc := "()J", sig := { parameters := [], returnType := some .long }, accessFlags := 1, code := some k3c3 }
/-- com/example/latchwork/latchwork/core/Acquisition -/
def k3 : Class := { plain "com/example/latchwork/latchwork/core/Acquisition" (some 2) with
  accessFlags := 49
  interfaces := #[]
  cf := some (fileOf pool3 34 #[] #[{ accessFlags := 1, nameIndex := 5, descriptorIndex := 49, attributes := #[] }, { accessFlags := 9, nameIndex := 66, descriptorIndex := 67, attributes := #[] }, { accessFlags := 1, nameIndex := 70, descriptorIndex := 20, attributes := #[] }, { accessFlags := 1, nameIndex := 37, descriptorIndex := 74, attributes := #[] }] 49 2 #[] #[{ accessFlags := 18, nameIndex := 37, descriptorIndex := 38, attributes := #[] }, { accessFlags := 18, nameIndex := 8, descriptorIndex := 41, attributes := #[] }])
  fields := #[{ name := "token", type := .long, accessFlags := 18, slot := 0, constantValue := 0 }, { name := "heldFor", type := (.object "java/time/Duration"), accessFlags := 18, slot := 1, constantValue := 0 }]
  methods := #[k3m0, k3m1, k3m2, k3m3]
  instanceTypes := #[.long, (.object "java/time/Duration")]
  staticTypes := #[]
  resolved := Array.replicate 97 none
  statics := none }

def pool4 : Array CpInfo := pool [(1, .class_ 2), (0, u "java/time/temporal/TemporalAmount"), (0, .class_ 4), (0, u "java/lang/Object")] 11

/-- java/time/temporal/TemporalAmount -/
def k4 : Class := { plain "java/time/temporal/TemporalAmount" (some 0) with
  accessFlags := 1537
  interfaces := #[]
  cf := some (fileOf pool4 1 #[] #[] 1537 3 #[] #[])
  fields := #[]
  methods := #[]
  instanceTypes := #[]
  staticTypes := #[]
  resolved := Array.replicate 16 none
  statics := none }

def pool5 : Array CpInfo := pool [(1, .class_ 2), (0, u "java/lang/Comparable"), (0, .class_ 4), (0, u "java/lang/Object")] 7

/-- java/lang/Comparable -/
def k5 : Class := { plain "java/lang/Comparable" (some 0) with
  accessFlags := 1537
  interfaces := #[]
  cf := some (fileOf pool5 1 #[] #[] 1537 3 #[] #[])
  fields := #[]
  methods := #[]
  instanceTypes := #[]
  staticTypes := #[]
  resolved := Array.replicate 12 none
  statics := none }

def pool6 : Array CpInfo := pool [(1, .class_ 2), (0, u "java/io/Serializable"), (0, .class_ 4), (0, u "java/lang/Object")] 2

/-- java/io/Serializable -/
def k6 : Class := { plain "java/io/Serializable" (some 0) with
  accessFlags := 1537
  interfaces := #[]
  cf := some (fileOf pool6 1 #[] #[] 1537 3 #[] #[])
  fields := #[]
  methods := #[]
  instanceTypes := #[]
  staticTypes := #[]
  resolved := Array.replicate 7 none
  statics := none }

def pool7 : Array CpInfo := pool [(11, .class_ 13), (1, u "java/time/Duration"), (20, u "ZERO"), (0, u "Ljava/time/Duration;"), (13, .class_ 51), (1, u "java/time/temporal/TemporalAmount"), (13, u "()Z"), (13, .class_ 81), (1, u "java/time/Duration$Lazy"), (35, u "seconds"), (101, .class_ 220), (0, u "java/lang/Object"), (0, .fieldref 11 222), (0, .nameAndType 117 223), (0, u "J"), (0, .fieldref 11 225), (0, .nameAndType 226 227), (0, u "nanos"), (0, u "I"), (11, .class_ 241), (1, u "java/time/Duration$DurationUnits"), (27, .class_ 271), (1, u "java/time/Duration$1"), (91, u "BI_NANOS_PER_SECOND"), (0, u "Ljava/math/BigInteger;"), (21, u "isNegative"), (98, .class_ 486), (0, u "java/lang/Comparable"), (0, .class_ 488), (0, u "java/io/Serializable"), (0, u "serialVersionUID"), (66, u "isZero")] 99

def k7c0 : Code := { maxStack := 4, maxLocals := 1, code := jdk_2316_method_21_code, exceptionTable := #[], attributes := #[] }
def k7m0 : Method := { name := "isZero", desc := "()Z", sig := { parameters := [], returnType := some .boolean }, accessFlags := 1, code := some k7c0 }
def k7c1 : Code := { maxStack := 4, maxLocals := 1, code := jdk_2316_method_22_code, exceptionTable := #[], attributes := #[] }
def k7m1 : Method := { name := "isNegative", desc := "()Z", sig := { parameters := [], returnType := some .boolean }, accessFlags := 1, code := some k7c1 }
/-- java/time/Duration -/
def k7 : Class := { plain "java/time/Duration" (some 0) with
  accessFlags := 49
  interfaces := #[4, 5, 6]
  cf := some (fileOf pool7 11 #[.nestMembers #[269, 239, 79]] #[{ accessFlags := 1, nameIndex := 556, descriptorIndex := 65, attributes := #[] }, { accessFlags := 1, nameIndex := 386, descriptorIndex := 65, attributes := #[] }] 49 219 #[49, 485, 487] #[{ accessFlags := 25, nameIndex := 34, descriptorIndex := 35, attributes := #[] }, { accessFlags := 26, nameIndex := 489, descriptorIndex := 223, attributes := #[] }, { accessFlags := 26, nameIndex := 363, descriptorIndex := 364, attributes := #[] }, { accessFlags := 18, nameIndex := 117, descriptorIndex := 223, attributes := #[] }, { accessFlags := 18, nameIndex := 226, descriptorIndex := 227, attributes := #[] }])
  fields := #[{ name := "ZERO", type := (.object "java/time/Duration"), accessFlags := 25, slot := 0, constantValue := 0 }, { name := "serialVersionUID", type := .long, accessFlags := 26, slot := 1, constantValue := 0 }, { name := "BI_NANOS_PER_SECOND", type := (.object "java/math/BigInteger"), accessFlags := 26, slot := 2, constantValue := 0 }, { name := "seconds", type := .long, accessFlags := 18, slot := 0, constantValue := 0 }, { name := "nanos", type := .int, accessFlags := 18, slot := 1, constantValue := 0 }]
  methods := #[k7m0, k7m1]
  instanceTypes := #[.long, .int]
  staticTypes := #[(.object "java/time/Duration"), .long, (.object "java/math/BigInteger")]
  resolved := Array.replicate 656 none
  statics := some 0 }

def pool8 : Array CpInfo := pool [(2, .class_ 4), (1, u "java/lang/CharSequence"), (42, .class_ 48), (0, u "java/lang/CharSequence$1CodePointIterator"), (10, .class_ 60), (0, u "java/lang/CharSequence$1CharIterator"), (5, .class_ 67), (0, u "java/lang/Object")] 63

/-- java/lang/CharSequence -/
def k8 : Class := { plain "java/lang/CharSequence" (some 0) with
  accessFlags := 1537
  interfaces := #[]
  cf := some (fileOf pool8 2 #[.nestMembers #[47, 59]] #[] 1537 66 #[] #[])
  fields := #[]
  methods := #[]
  instanceTypes := #[]
  staticTypes := #[]
  resolved := Array.replicate 131 none
  statics := none }

def pool9 : Array CpInfo := pool [(1, .class_ 2), (0, u "java/lang/constant/Constable"), (0, .class_ 4), (0, u "java/lang/Object")] 6

/-- java/lang/constant/Constable -/
def k9 : Class := { plain "java/lang/constant/Constable" (some 0) with
  accessFlags := 1537
  interfaces := #[]
  cf := some (fileOf pool9 1 #[] #[] 1537 3 #[] #[])
  fields := #[]
  methods := #[]
  instanceTypes := #[]
  staticTypes := #[]
  resolved := Array.replicate 11 none
  statics := none }

def pool10 : Array CpInfo := pool [(1, .class_ 2), (0, u "java/lang/constant/ConstantDesc"), (0, .class_ 4), (0, u "java/lang/Object")] 32

/-- java/lang/constant/ConstantDesc -/
def k10 : Class := { plain "java/lang/constant/ConstantDesc" (some 0) with
  accessFlags := 1537
  interfaces := #[]
  cf := some (fileOf pool10 1 #[] #[] 1537 3 #[] #[])
  fields := #[]
  methods := #[]
  instanceTypes := #[]
  staticTypes := #[]
  resolved := Array.replicate 37 none
  statics := none }

def pool11 : Array CpInfo := pool [(2, .class_ 4), (1, u "java/lang/Object"), (0, u "<init>"), (0, u "()V"), (3, .class_ 12), (1, u "java/lang/String"), (0, u "value"), (0, u "[B"), (2, u "coder"), (0, u "B"), (2, u "hash"), (0, u "I"), (2, u "hashIsZero"), (0, u "Z"), (13, u "COMPACT_STRINGS"), (534, .class_ 576), (0, u "java/lang/CharSequence"), (22, u "CASE_INSENSITIVE_ORDER"), (0, u "Ljava/util/Comparator;"), (500, u "serialPersistentFields"), (0, u "[Ljava/io/ObjectStreamField;"), (0, .class_ 1104), (0, u "java/lang/String$CaseInsensitiveComparator"), (1, .class_ 1107), (0, u "java/io/Serializable"), (0, .class_ 1109), (0, u "java/lang/Comparable"), (0, .class_ 1111), (0, u "java/lang/constant/Constable"), (0, .class_ 1113), (0, u "java/lang/constant/ConstantDesc"), (2, u "serialVersionUID"), (0, u "J"), (3, u "REPL"), (0, u "C"), (2, u "LATIN1"), (1, u "UTF16")] 323

def k11m0 : Method := { name := "<init>", desc := "()V", sig := { parameters := [], returnType := none }, accessFlags := 1, code := none }
/-- java/lang/String -/
def k11 : Class := { plain "java/lang/String" (some 0) with
  accessFlags := 49
  interfaces := #[6, 5, 8, 9, 10]
  cf := some (fileOf pool11 10 #[.nestMembers #[1103]] #[{ accessFlags := 1, nameIndex := 5, descriptorIndex := 6, attributes := #[] }] 49 2 #[1106, 1108, 575, 1110, 1112] #[{ accessFlags := 18, nameIndex := 13, descriptorIndex := 14, attributes := #[] }, { accessFlags := 18, nameIndex := 17, descriptorIndex := 18, attributes := #[] }, { accessFlags := 2, nameIndex := 21, descriptorIndex := 22, attributes := #[] }, { accessFlags := 2, nameIndex := 25, descriptorIndex := 26, attributes := #[] }, { accessFlags := 26, nameIndex := 1116, descriptorIndex := 1117, attributes := #[] }, { accessFlags := 24, nameIndex := 40, descriptorIndex := 26, attributes := #[] }, { accessFlags := 26, nameIndex := 1101, descriptorIndex := 1102, attributes := #[] }, { accessFlags := 26, nameIndex := 1121, descriptorIndex := 1122, attributes := #[] }, { accessFlags := 25, nameIndex := 599, descriptorIndex := 600, attributes := #[] }, { accessFlags := 24, nameIndex := 1125, descriptorIndex := 18, attributes := #[] }, { accessFlags := 24, nameIndex := 1127, descriptorIndex := 18, attributes := #[] }])
  fields := #[{ name := "value", type := (.array .byte), accessFlags := 18, slot := 0, constantValue := 0 }, { name := "coder", type := .byte, accessFlags := 18, slot := 1, constantValue := 0 }, { name := "hash", type := .int, accessFlags := 2, slot := 2, constantValue := 0 }, { name := "hashIsZero", type := .boolean, accessFlags := 2, slot := 3, constantValue := 0 }, { name := "serialVersionUID", type := .long, accessFlags := 26, slot := 0, constantValue := 0 }, { name := "COMPACT_STRINGS", type := .boolean, accessFlags := 24, slot := 1, constantValue := 0 }, { name := "serialPersistentFields", type := (.array (.object "java/io/ObjectStreamField")), accessFlags := 26, slot := 2, constantValue := 0 }, { name := "REPL", type := .char, accessFlags := 26, slot := 3, constantValue := 0 }, { name := "CASE_INSENSITIVE_ORDER", type := (.object "java/util/Comparator"), accessFlags := 25, slot := 4, constantValue := 0 }, { name := "LATIN1", type := .byte, accessFlags := 24, slot := 5, constantValue := 0 }, { name := "UTF16", type := .byte, accessFlags := 24, slot := 6, constantValue := 0 }]
  methods := #[k11m0]
  instanceTypes := #[(.array .byte), .byte, .int, .boolean]
  staticTypes := #[.long, .boolean, (.array (.object "java/io/ObjectStreamField")), .char, (.object "java/util/Comparator"), .byte, .byte]
  resolved := Array.replicate 1451 none
  statics := none }

def pool12 : Array CpInfo := pool [(2, .class_ 4), (1, u "java/lang/Object"), (0, u "<init>"), (0, u "()V"), (35, .class_ 44), (1, u "java/util/Objects"), (0, u "requireNonNull"), (48, u "(Ljava/lang/Object;Ljava/lang/String;)Ljava/lang/Object;")] 89

def k12m0 : Method := { name := "<init>", desc := "()V", sig := { parameters := [], returnType := none }, accessFlags := 2, code := none }
def k12c1 : Code := { maxStack := 3, maxLocals := 2, code := jdk_31_method_11_code, exceptionTable := #[], attributes := #[] }
def k12m1 : Method := { name := "requireNonNull", desc := "(Ljava/lang/Object;Ljava/lang/String;)Ljava/lang/Object;", sig := { parameters := [(.object "java/lang/Object"), (.object "java/lang/String")], returnType := some (.object "java/lang/Object") }, accessFlags := 9, code := some k12c1 }
/-- java/util/Objects -/
def k12 : Class := { plain "java/util/Objects" (some 0) with
  accessFlags := 49
  interfaces := #[]
  cf := some (fileOf pool12 42 #[] #[{ accessFlags := 2, nameIndex := 5, descriptorIndex := 6, attributes := #[] }, { accessFlags := 9, nameIndex := 45, descriptorIndex := 94, attributes := #[] }] 49 2 #[] #[])
  fields := #[]
  methods := #[k12m0, k12m1]
  instanceTypes := #[]
  staticTypes := #[]
  resolved := Array.replicate 184 none
  statics := none }

def pool13 : Array CpInfo := pool [(1, u "java/lang/Cloneable"), (0, .class_ 1), (0, u "java/lang/Object"), (0, .class_ 3)] 3

/-- java/lang/Cloneable -/
def k13 : Class := { plain "java/lang/Cloneable" (some 0) with
  accessFlags := 1537
  interfaces := #[]
  cf := some (fileOf pool13 2 #[] #[] 1537 4 #[] #[])
  fields := #[]
  methods := #[]
  instanceTypes := #[]
  staticTypes := #[]
  resolved := Array.replicate 8 none
  statics := none }

/-- the primitive byte -/
def k14 : Class := { plain "byte" none with kind := .primitive 'B', accessFlags := 0x411 }
/-- [B -/
def k15 : Class := { plain "[B" (some 0) with kind := .array 14 .byte, interfaces := #[13, 6], accessFlags := 1041 }

/-- the primitive int -/
def k16 : Class := { plain "int" none with kind := .primitive 'I', accessFlags := 0x411 }
/-- [I -/
def k17 : Class := { plain "[I" (some 0) with kind := .array 16 .int, interfaces := #[13, 6], accessFlags := 1041 }

def heap : Heap := #[{ cls := 7, slots := #[.ref 1, .long 0, .null], vm := .statics 7 },
  { cls := 7, slots := #[.long 0, .int 0], vm := .none }]
def classes : Array Class := #[k0, k1, k2, k3, k4, k5, k6, k7, k8, k9, k10, k11, k12, k13, k14, k15, k16, k17]
def interned : List (Array UInt16 × Addr) := []
def slotsUsed : Nat := 5
def theMethod : MethodId := ⟨1, 1⟩
def args0 : Array Value := #[.long 5]
def aboutOver (below : List Frame) : State where
  vm := { classes := classes, interned := interned.toArray }
  heap := heap
  slotsUsed := slotsUsed
  threads := #[{ frames := .invoking theMethod args0 :: below }]
def below0 : List Frame := [.native { method := ⟨0, 0⟩, args := #[] }]
def about1 : State := aboutOver below0
def p0 : Program := .bare "" "" ""
def e0 : Env := launch0.env 0 0 0
theorem w_frames : about1.frames = Frame.invoking theMethod args0 :: below0 := rfl
set_option maxRecDepth 65536 in
theorem w_args : argsFit about1.vm theMethod args0 = true := by decide +kernel
set_option maxRecDepth 65536 in
theorem w_heap : heapFits about1 = true := by decide +kernel
set_option maxRecDepth 65536 in
theorem w_runnable : about1.curStatus? = some .runnable := by decide +kernel
set_option maxRecDepth 65536 in
theorem w_alone : about1.alone = true := by decide +kernel
set_option maxRecDepth 65536 in
theorem w_named : about1.methodNamed? x = some theMethod := by decide +kernel
set_option maxRecDepth 65536 in
theorem w_hears : about1.hears theMethod below0 = true := by decide +kernel
set_option maxRecDepth 65536 in
theorem w_ripe : about1.ripe theMethod args0 below0 = true := by decide +kernel
theorem w_running : about1.status = .running := rfl
set_option maxRecDepth 65536 in
theorem w_room : about1.hasRoom e0.platform room_1 = true :=
  launch0.hasRoom_least _ room_1 (by decide +kernel) (by decide +kernel) (by decide +kernel) (by decide +kernel) (by decide +kernel) (by decide +kernel)
theorem allAtoms_all (ts : List Jvm.Cond) (a : Array Jvm.Value) (st : Jvm.State) : (allAtoms ts).before a st = ts.all (fun c => c.before a st) := by
  induction ts with
  | nil => rfl
  | cons c t ih =>
    show (Jvm.Cond.and c (allAtoms t)).before a st = _
    rw [Jvm.Cond.before_and, ih, List.all_cons]
def words1 : List Jvm.Cond := Jvm.Cond.code x code maxLocals ret :: tables_1
/-- a 'code' word, met by the world's own term for the bytes: nothing is compared byte by byte -/
theorem code_word {y : MethodName} {bytes : ByteArray} {mx : Nat} {rt : Option FieldType} {a : Array Value} {s : State} {m : MethodId} {meth : Method} {c : Code} (h1 : s.methodNamed? y = some m) (h2 : s.vm.method? m = some meth) (h3 : meth.code = some c) (h4 : c.code = bytes)
    (h5 : (c.maxLocals == mx && c.exceptionTable.isEmpty && decide (c.maxStack ≤ mostOperands) && decide (meth.sig.returnType = rt) && !meth.locks && decide (parseMethodDescriptor y.desc = some meth.sig)) = true) : (Jvm.Cond.code y bytes mx rt).before a s = true := by
  simp only [Bool.and_eq_true, beq_iff_eq, Bool.not_eq_true', decide_eq_true_eq] at h5
  obtain ⟨⟨⟨⟨⟨g1, g2⟩, g3⟩, g4⟩, g5⟩, g6⟩ := h5
  simp [Cond.before, Cond.holds, Cond.value, h1, h2, h3, h4, g1, g2, g3, g4, g5, g6]
def isCode : Jvm.Cond → Bool
  | .code _ _ _ _ => true
  | _ => false
theorem all_split {L : List Jvm.Cond} {P : Jvm.Cond → Bool} (h1 : L.all (fun c => isCode c || P c) = true) (h2 : ∀ c ∈ L.filter isCode, P c = true) : L.all P = true := by
  refine List.all_eq_true.mpr fun c hc => ?_
  have h := List.all_eq_true.mp h1 c hc
  rcases Bool.eq_false_or_eq_true (isCode c) with hi | hi
  · exact h2 c (List.mem_filter.mpr ⟨hc, hi⟩)
  · simpa [hi] using h
set_option maxRecDepth 65536 in
theorem w_c0 : (Jvm.Cond.code x code maxLocals ret).before args0 about1 = true := code_word (m := ⟨1, 1⟩) (meth := k1m1) (c := k1c1) (by decide +kernel) rfl rfl rfl (by decide +kernel)
set_option maxRecDepth 65536 in
theorem w_c1 : (Jvm.Cond.code ({ cls := "com/example/latchwork/latchwork/core/Acquisition", name := "granted", desc := "(J)Lcom/example/latchwork/latchwork/core/Acquisition;" } : Jvm.MethodName) prog_4_method_2_code (2 : Nat) (Option.some (Jvm.ClassFile.FieldType.object "com/example/latchwork/latchwork/core/Acquisition"))).before args0 about1 = true := code_word (m := ⟨3, 1⟩) (meth := k3m1) (c := k3c1) (by decide +kernel) rfl rfl rfl (by decide +kernel)
set_option maxRecDepth 65536 in
theorem w_c2 : (Jvm.Cond.code ({ cls := "com/example/latchwork/latchwork/core/Acquisition", name := "<init>", desc := "(JLjava/time/Duration;)V" } : Jvm.MethodName) prog_4_method_1_code (4 : Nat) (Option.none : Option Jvm.ClassFile.FieldType)).before args0 about1 = true := code_word (m := ⟨3, 0⟩) (meth := k3m0) (c := k3c0) (by decide +kernel) rfl rfl rfl (by decide +kernel)
set_option maxRecDepth 65536 in
theorem w_c3 : (Jvm.Cond.code ({ cls := "java/lang/Record", name := "<init>", desc := "()V" } : Jvm.MethodName) jdk_30_method_1_code (1 : Nat) (Option.none : Option Jvm.ClassFile.FieldType)).before args0 about1 = true := code_word (m := ⟨2, 0⟩) (meth := k2m0) (c := k2c0) (by decide +kernel) rfl rfl rfl (by decide +kernel)
set_option maxRecDepth 65536 in
theorem w_c4 : (Jvm.Cond.code ({ cls := "java/lang/Object", name := "<init>", desc := "()V" } : Jvm.MethodName) object_method_1_code (1 : Nat) (Option.none : Option Jvm.ClassFile.FieldType)).before args0 about1 = true := code_word (m := ⟨0, 0⟩) (meth := k0m0) (c := k0c0) (by decide +kernel) rfl rfl rfl (by decide +kernel)
set_option maxRecDepth 65536 in
theorem w_c5 : (Jvm.Cond.code ({ cls := "java/util/Objects", name := "requireNonNull", desc := "(Ljava/lang/Object;Ljava/lang/String;)Ljava/lang/Object;" } : Jvm.MethodName) jdk_31_method_11_code (2 : Nat) (Option.some (Jvm.ClassFile.FieldType.object "java/lang/Object"))).before args0 about1 = true := code_word (m := ⟨12, 1⟩) (meth := k12m1) (c := k12c1) (by decide +kernel) rfl rfl rfl (by decide +kernel)
set_option maxRecDepth 65536 in
theorem w_c6 : (Jvm.Cond.code ({ cls := "java/time/Duration", name := "isNegative", desc := "()Z" } : Jvm.MethodName) jdk_2316_method_22_code (1 : Nat) (Option.some Jvm.ClassFile.FieldType.boolean)).before args0 about1 = true := code_word (m := ⟨7, 1⟩) (meth := k7m1) (c := k7c1) (by decide +kernel) rfl rfl rfl (by decide +kernel)
set_option maxRecDepth 65536 in
theorem w_c7 : (Jvm.Cond.code ({ cls := "java/time/Duration", name := "isZero", desc := "()Z" } : Jvm.MethodName) jdk_2316_method_21_code (1 : Nat) (Option.some Jvm.ClassFile.FieldType.boolean)).before args0 about1 = true := code_word (m := ⟨7, 0⟩) (meth := k7m0) (c := k7c0) (by decide +kernel) rfl rfl rfl (by decide +kernel)
set_option maxRecDepth 65536 in
theorem w_c8 : (Jvm.Cond.code ({ cls := "com/example/latchwork/latchwork/core/Acquisition", name := "token", desc := "()J" } : Jvm.MethodName) prog_4_method_8_code (1 : Nat) (Option.some Jvm.ClassFile.FieldType.long)).before args0 about1 = true := code_word (m := ⟨3, 3⟩) (meth := k3m3) (c := k3c3) (by decide +kernel) rfl rfl rfl (by decide +kernel)
set_option maxRecDepth 65536 in
theorem w_c9 : (Jvm.Cond.code ({ cls := "com/example/latchwork/latchwork/core/Acquisition", name := "isGranted", desc := "()Z" } : Jvm.MethodName) prog_4_method_4_code (1 : Nat) (Option.some Jvm.ClassFile.FieldType.boolean)).before args0 about1 = true := code_word (m := ⟨3, 2⟩) (meth := k3m2) (c := k3c2) (by decide +kernel) rfl rfl rfl (by decide +kernel)
def codes1 : List Jvm.Cond := [Jvm.Cond.code x code maxLocals ret, Jvm.Cond.code ({ cls := "com/example/latchwork/latchwork/core/Acquisition", name := "granted", desc := "(J)Lcom/example/latchwork/latchwork/core/Acquisition;" } : Jvm.MethodName) prog_4_method_2_code (2 : Nat) (Option.some (Jvm.ClassFile.FieldType.object "com/example/latchwork/latchwork/core/Acquisition")), Jvm.Cond.code ({ cls := "com/example/latchwork/latchwork/core/Acquisition", name := "<init>", desc := "(JLjava/time/Duration;)V" } : Jvm.MethodName) prog_4_method_1_code (4 : Nat) (Option.none : Option Jvm.ClassFile.FieldType), Jvm.Cond.code ({ cls := "java/lang/Record", name := "<init>", desc := "()V" } : Jvm.MethodName) jdk_30_method_1_code (1 : Nat) (Option.none : Option Jvm.ClassFile.FieldType), Jvm.Cond.code ({ cls := "java/lang/Object", name := "<init>", desc := "()V" } : Jvm.MethodName) object_method_1_code (1 : Nat) (Option.none : Option Jvm.ClassFile.FieldType), Jvm.Cond.code ({ cls := "java/util/Objects", name := "requireNonNull", desc := "(Ljava/lang/Object;Ljava/lang/String;)Ljava/lang/Object;" } : Jvm.MethodName) jdk_31_method_11_code (2 : Nat) (Option.some (Jvm.ClassFile.FieldType.object "java/lang/Object")), Jvm.Cond.code ({ cls := "java/time/Duration", name := "isNegative", desc := "()Z" } : Jvm.MethodName) jdk_2316_method_22_code (1 : Nat) (Option.some Jvm.ClassFile.FieldType.boolean), Jvm.Cond.code ({ cls := "java/time/Duration", name := "isZero", desc := "()Z" } : Jvm.MethodName) jdk_2316_method_21_code (1 : Nat) (Option.some Jvm.ClassFile.FieldType.boolean), Jvm.Cond.code ({ cls := "com/example/latchwork/latchwork/core/Acquisition", name := "token", desc := "()J" } : Jvm.MethodName) prog_4_method_8_code (1 : Nat) (Option.some Jvm.ClassFile.FieldType.long), Jvm.Cond.code ({ cls := "com/example/latchwork/latchwork/core/Acquisition", name := "isGranted", desc := "()Z" } : Jvm.MethodName) prog_4_method_4_code (1 : Nat) (Option.some Jvm.ClassFile.FieldType.boolean)]
set_option maxRecDepth 65536 in
theorem codes_eq : words1.filter isCode = codes1 := rfl
theorem w_codes : ∀ c ∈ words1.filter isCode, c.before args0 about1 = true := by
  rw [codes_eq]
  intro c hc
  simp only [codes1, List.mem_cons, List.not_mem_nil, or_false] at hc
  rcases hc with rfl | rfl | rfl | rfl | rfl | rfl | rfl | rfl | rfl | rfl
  · exact w_c0
  · exact w_c1
  · exact w_c2
  · exact w_c3
  · exact w_c4
  · exact w_c5
  · exact w_c6
  · exact w_c7
  · exact w_c8
  · exact w_c9
set_option maxRecDepth 65536 in
theorem w_t1 : (words1.take 24).all (fun c => isCode c || c.before args0 about1) = true := by decide +kernel
set_option maxRecDepth 65536 in
theorem w_t2 : ((words1.drop 24).take 24).all (fun c => isCode c || c.before args0 about1) = true := by decide +kernel
set_option maxRecDepth 65536 in
theorem w_t3 : ((words1.drop 24).drop 24).all (fun c => isCode c || c.before args0 about1) = true := by decide +kernel
theorem w_tables : (allAtoms (Jvm.Cond.code x code maxLocals ret :: tables_1)).before args0 about1 = true := by
  rw [allAtoms_all]
  show words1.all (fun c => c.before args0 about1) = true
  refine all_split ?_ w_codes
  rw [← List.take_append_drop 24 words1, List.all_append, w_t1, ← List.take_append_drop 24 (words1.drop 24), List.all_append, w_t2, w_t3]
  rfl
set_option maxRecDepth 65536 in
theorem w_rest : rest_1_c.before args0 about1 = true := by decide +kernel
set_option maxRecDepth 65536 in
theorem w_case : (Jvm.Cond.and given_1 narrow_1).before args0 about1 = true := by decide +kernel
theorem w_applies : (headSpec (Jvm.Cond.code x code maxLocals ret :: tables_1) room_1).applies x e0.platform about1 = true :=
  (Spec.applies_iff w_frames).mpr ⟨w_running, w_runnable, w_alone, w_named, w_hears, w_ripe, w_room, w_tables⟩
theorem atStart : AtStart classFile x code maxLocals ret World_1 tables_1 room_1 Calls_1 rest_1 Pre_1 launch0 p0 e0 about1 theMethod args0 below0 :=
  ⟨lists_1, trivial, launch0.admits_env _ _ _, launch0.least_env, fairChoices_fair.cas, fairChoices_fair.clock, w_frames, w_args, w_heap, w_applies, trivial, w_rest, w_case⟩
end start1
theorem witness_1 : WitnessClaimed_1 := ⟨start1.p0, start1.e0, start1.about1, start1.theMethod, start1.args0, start1.below0, start1.atStart⟩
end Jvm.Pilot.@@N@@
