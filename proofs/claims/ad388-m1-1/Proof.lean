import JvmDerived
import JvmDerived.Pilot.@@N@@Statement
import JvmDerived.Pilot.@@N@@Code
set_option linter.unusedVariables false
set_option linter.unusedSimpArgs false
namespace Jvm.RoadKit
open Sem ClassFile Op Lib Jvm.Stand Jvm.Free Jvm.LawKit
section New
variable {p : Program} {l : Launch} {e : Env} {R : Room} {s : State} {m : MethodId} {args : Array Value} {below : List Frame} {meth : Method} {c : Code} {T : State} {locs : List Loc} {cells slots : Nat}
theorem retI (X : Stand p l e R s m args below meth c T locs cells slots) (hx : p.tables.exec = Jvm.exec) {pc : Nat} {Ls : Array Slot} {z : Int32} {rest : List Value} (hret : meth.sig.returnType = some .int) (hd : decode c.code pc = .ok (.ireturn, 1)) {fs : List Frame}
    (hl : ∀ (f : JFrame) (acts : List Action), f.method = m → f.locked = none → f.entered = [] → (doReturn e (T.setTop f) acts (some (.int z))).1 = T.setFrames fs) : Steps p.tables e below (T.setTop (mkF m pc Ls (.int z :: rest))) (T.setFrames fs) := by
  have hm' : T.vm.method? m = some meth := X.method'
  have hn : narrow .int (.int z) = .int z := rfl
  show Steps p.tables e below (T.setTop { method := m, pc := pc, locals := Ls, stack := _ :: rest, locked := none }) _
  jvm_step X.here [X.here.top, hx, hd, hm', hret, hn]
  first | (intro acts; rw [hl _ acts rfl rfl rfl]) | rw [hl _ _ rfl rfl rfl]
  exact Steps.refl _
end New
end Jvm.RoadKit
namespace Jvm.RoadKit
open Sem ClassFile Op Lib Jvm.Stand Jvm.Free Jvm.LawKit
section Own
variable {p : Program} {l : Launch} {e : Env} {R : Room} {s : State} {m : MethodId} {args : Array Value} {below : List Frame} {meth : Method} {c : Code} {T T' : State} {locs : List Loc} {cells slots : Nat} {Q : Option Value → Heap → List Loc → Prop} {F : Option Value → State → Prop} {kc ks : Nat} {g g' : JFrame} {Z : State} {a0 : Array Value} {h : Heap}
/-- the body that stands at T with the frame g comes to its end, and leaves what F says -/
def Goes (p : Program) (e : Env) (below : List Frame) (F : Option Value → State → Prop) (T : State) (g : JFrame) : Prop :=
  ∃ s₂ o, Steps p.tables e below (T.setTop g) s₂ ∧ s₂.status = .running ∧ Ended s₂ below o ∧ ∃ v, o = .returned v ∧ F v s₂
def EndQ (s : State) (Q : Option Value → Heap → List Loc → Prop) (kc ks : Nat) (v : Option Value) (t : State) : Prop := ∃ L, Q v t.heap L ∧ FrameEnd s (.returned v) t L kc ks
theorem Goes.give (h : Goes p e below (EndQ s Q kc ks) T g) : ∃ s₂ o, Steps p.tables e below (T.setTop g) s₂ ∧ s₂.status = .running ∧ Ended s₂ below o ∧ ∃ v L, o = .returned v ∧ Q v s₂.heap L ∧ FrameEnd s o s₂ L kc ks := by
  obtain ⟨s2, o, h1, h2, h3, v, rfl, L, h4, h5⟩ := h
  exact ⟨s2, _, h1, h2, h3, v, L, rfl, h4, h5⟩
theorem Goes.step (k : ∀ t, Steps p.tables e below (T'.setTop g') t → Steps p.tables e below (T.setTop g) t) (h : Goes p e below F T' g') : Goes p e below F T g := by
  obtain ⟨s2, o, h1, r⟩ := h
  exact ⟨s2, o, k _ h1, r⟩
theorem Goes.out {v : Option Value} (X : Stand p l e R s m args below meth c T locs cells slots) (hlk : meth.locks = false) (hv : meth.sig.returnType = none → v = none) (hq : Q v T.heap locs) (hc : cells ≤ kc) (hs : slots ≤ ks)
    (k : ∀ fs, (∀ (f : JFrame) (acts : List Action), f.method = m → f.locked = none → f.entered = [] → (doReturn e (T.setTop f) acts v).1 = T.setFrames fs) → Steps p.tables e below (T.setTop g) (T.setFrames fs)) : Goes p e below (EndQ s Q kc ks) T g := by
  obtain ⟨fs, hr, hrun, hended, hW, hsame⟩ := X.leave (v := v) hv hlk
  exact ⟨_, _, k fs hr, hrun, hended, _, rfl, _, hq, ⟨_, rfl⟩, hW, hsame.mono hc hs⟩
theorem Goes.retI (X : Stand p l e R s m args below meth c T locs cells slots) (hx : p.tables.exec = Jvm.exec) (hlk : meth.locks = false) {pc : Nat} {Ls : Array Slot} {z : Int32} {rest : List Value} (hret : meth.sig.returnType = some .int) (hd : decode c.code pc = .ok (.ireturn, 1))
    (hc : cells ≤ kc) (hs : slots ≤ ks) (hq : Q (some (.int z)) T.heap locs) : Goes p e below (EndQ s Q kc ks) T (mkF m pc Ls (.int z :: rest)) :=
  Goes.out X hlk (fun h => by rw [hret] at h; cases h) hq hc hs fun fs hr => RoadKit.retI X hx hret hd hr
theorem Goes.retN (X : Stand p l e R s m args below meth c T locs cells slots) (hx : p.tables.exec = Jvm.exec) (hlk : meth.locks = false) {pc : Nat} {Ls : Array Slot} {z : Int32} {t : FieldType} {rest : List Value} (hret : meth.sig.returnType = some t) (ht : t = .boolean ∨ t = .byte ∨ t = .char ∨ t = .short) (hd : decode c.code pc = .ok (.ireturn, 1))
    (hc : cells ≤ kc) (hs : slots ≤ ks) (hq : Q (some (.int (nar t z))) T.heap locs) : Goes p e below (EndQ s Q kc ks) T (mkF m pc Ls (.int z :: rest)) :=
  Goes.out X hlk (fun h => by rw [hret] at h; cases h) hq hc hs fun fs hr => RoadKit.retN X hx hret ht hd hr
theorem Goes.retA (X : Stand p l e R s m args below meth c T locs cells slots) (hx : p.tables.exec = Jvm.exec) (hlk : meth.locks = false) {pc : Nat} {Ls : Array Slot} {w : Value} {t : FieldType} {rest : List Value} (hret : meth.sig.returnType = some t) (ht : t.isReference = true) (hw : w.isRef = true) (hd : decode c.code pc = .ok (.areturn, 1))
    (hc : cells ≤ kc) (hs : slots ≤ ks) (hq : Q (some w) T.heap locs) : Goes p e below (EndQ s Q kc ks) T (mkF m pc Ls (w :: rest)) :=
  Goes.out X hlk (fun h => by rw [hret] at h; cases h) hq hc hs fun fs hr => RoadKit.retOut X hx hret (by cases w <;> cases t <;> first | rfl | (simp [FieldType.isReference] at ht) | (simp [Value.isRef] at hw)) (Or.inr (Or.inr (Or.inr (Or.inr ⟨rfl, ht, hw⟩)))) hd hr
theorem Goes.retJ (X : Stand p l e R s m args below meth c T locs cells slots) (hx : p.tables.exec = Jvm.exec) (hlk : meth.locks = false) {pc : Nat} {Ls : Array Slot} {z : Int64} {rest : List Value} (hret : meth.sig.returnType = some .long) (hd : decode c.code pc = .ok (.lreturn, 1))
    (hc : cells ≤ kc) (hs : slots ≤ ks) (hq : Q (some (.long z)) T.heap locs) : Goes p e below (EndQ s Q kc ks) T (mkF m pc Ls (.long z :: rest)) :=
  Goes.out X hlk (fun h => by rw [hret] at h; cases h) hq hc hs fun fs hr => RoadKit.retOut X hx hret rfl (Or.inr (Or.inl ⟨rfl, rfl, _, rfl⟩)) hd hr
theorem Goes.retV (X : Stand p l e R s m args below meth c T locs cells slots) (hx : p.tables.exec = Jvm.exec) (hlk : meth.locks = false) {pc : Nat} {Ls : Array Slot} (hret : meth.sig.returnType = none) (hd : decode c.code pc = .ok (.return_, 1))
    (hc : cells ≤ kc) (hs : slots ≤ ks) (hq : Q none T.heap locs) : Goes p e below (EndQ s Q kc ks) T (mkF m pc Ls []) :=
  Goes.out X hlk (fun _ => rfl) hq hc hs fun fs hr => X.returnOut hx hret hd hr
/-- a static call, by its callee's contract -/
theorem Goes.callS (X : Stand p l e R s m args below meth c T locs cells slots) (hx : p.tables.exec = Jvm.exec) {own : String} {index : Nat} {y : MethodName} {bytes : ByteArray} {maxL : Nat} {ret : Option FieldType}
    (hown : s.vm.findClass own = some m.cls) (hlink : (Cond.methodLink own index y).before args s = true) (hstat : (Cond.static y).before args s = true) (hinit : (Cond.initialized y.cls).before args s = true)
    (hcode : (Cond.code y bytes maxL ret).before args s = true) (hy : y.cls ≠ "java/lang/invoke/MethodHandle" ∧ y.cls ≠ "java/lang/invoke/VarHandle")
    {W : Nat} {as' : Array Value} {Qc : Option Value → Heap → List Loc → Prop} {kc' ks' : Nat}
    (hK : Back l R p e below s args y 3 W (fun A a => a = as' ∧ A.U.heap = h ∧ A.cells + kc' ≤ R.cells ∧ A.slots + ks' ≤ R.slots) (fun A _ v B => ∃ L, Qc v B.U.heap L ∧ B.locs = A.locs ++ L ∧ B.cells = A.cells + kc' ∧ B.slots = A.slots + ks'))
    (hg : g.method = m) (hsize : g.locals.size = c.maxLocals) {argsL rest : List Value} (hlen : ∀ sig, parseMethodDescriptor y.desc = some sig → argsL.length = sig.parameters.length)
    (hstack : g.stack = argsL.reverse ++ rest) (hW : 2 * g.monitorRoom + (rest.map fun v => v.category).sum ≤ W) (hdg : decode c.code g.pc = .ok (.invokestatic index, 3)) (ha : argsL.toArray = as') (eT : T.heap = h) (hc : cells + kc' ≤ R.cells) (hs : slots + ks' ≤ R.slots)
    (k : ∀ (v : Option Value) (T' : State) (L : List Loc), Qc v T'.heap L → Stand p l e R s m args below meth c T' (locs ++ L) (cells + kc') (slots + ks') → Goes p e below F T' { g with pc := g.pc + 3, stack := v.toList ++ rest }) : Goes p e below F T g := by
  obtain ⟨v, vm₁, ⟨T', L', k', n'⟩, -, X', ⟨L, hQ, h1, h2, h3⟩, st⟩ := Jvm.LawKit.callS X hx hown hlink hstat hinit hcode hy hK hg hsize hlen hstack hW hdg (fun _ _ => ⟨ha, eT, hc, hs⟩)
  dsimp only [Pt.U, Pt.locs, Pt.cells, Pt.slots] at X' h1 h2 h3 st hQ
  subst h1 h2 h3
  exact Goes.step st (k v T' L hQ X')
/-- a constructor, by its contract -/
theorem Goes.callC (X : Stand p l e R s m args below meth c T locs cells slots) (hx : p.tables.exec = Jvm.exec) {own : String} {index : Nat} {y : MethodName} {bytes : ByteArray} {maxL : Nat} (hy1 : y.name = "<init>")
    (hown : s.vm.findClass own = some m.cls) (hlink : (Cond.methodLink own index y).before args s = true) (hinst : (Cond.instanceMethod y).before args s = true) (hcode : (Cond.code y bytes maxL none).before args s = true)
    (hy : y.cls ≠ "java/lang/invoke/MethodHandle" ∧ y.cls ≠ "java/lang/invoke/VarHandle")
    {W : Nat} {as' : Array Value} {Qc : Option Value → Heap → List Loc → Prop} {kc' ks' : Nat}
    (hK : Back l R p e below s args y 3 W (fun A a => a = as' ∧ A.U.heap = h ∧ A.cells + kc' ≤ R.cells ∧ A.slots + ks' ≤ R.slots) (fun A _ v B => ∃ L, Qc v B.U.heap L ∧ B.locs = A.locs ++ L ∧ B.cells = A.cells + kc' ∧ B.slots = A.slots + ks'))
    (hg : g.method = m) (hsize : g.locals.size = c.maxLocals) {a : Addr} {argsL rest : List Value} (hlen : ∀ sig, parseMethodDescriptor y.desc = some sig → argsL.length = sig.parameters.length)
    (hstack : g.stack = argsL.reverse ++ .ref a :: rest) (hW : 2 * g.monitorRoom + (rest.map fun v => v.category).sum ≤ W) (hdg : decode c.code g.pc = .ok (.invokespecial index, 3)) (ha : (.ref a :: argsL).toArray = as') (eT : T.heap = h) (hc : cells + kc' ≤ R.cells) (hs : slots + ks' ≤ R.slots)
    (k : ∀ (v : Option Value) (T' : State) (L : List Loc), Qc v T'.heap L → Stand p l e R s m args below meth c T' (locs ++ L) (cells + kc') (slots + ks') → Goes p e below F T' { g with pc := g.pc + 3, stack := v.toList ++ rest }) : Goes p e below F T g := by
  obtain ⟨v, vm₁, ⟨T', L', k', n'⟩, -, X', ⟨L, hQ, h1, h2, h3⟩, st⟩ := X.specialBack hx hy1 hown hlink hinst hcode hy hK hg hsize (Steps.refl _) hlen hstack hW hdg (fun _ _ => ⟨ha, eT, hc, hs⟩)
  dsimp only [Pt.U, Pt.locs, Pt.cells, Pt.slots] at X' h1 h2 h3 st hQ
  subst h1 h2 h3
  exact Goes.step (fun t q => st.trans q) (k v T' L hQ X')
/-- an instance method, by the contract of the body that is selected -/
theorem Goes.callV (X : Stand p l e R s m args below meth c T locs cells slots) (hx : p.tables.exec = Jvm.exec) (hZ : Z.Warmed39 s.vm) {own C : String} {index : Nat} {y z : MethodName}
    (hown : s.vm.findClass own = some m.cls) (hlink : (Cond.methodLink own index y).before args s = true) (hdecl : (Cond.declares y).before args s = true) (hnf : NotFace s y)
    (hsel : (Cond.selects C y z).before args s = true) (hinst : (Cond.instanceMethod z).before args s = true)
    (hy : y.cls ≠ "java/lang/invoke/MethodHandle" ∧ y.cls ≠ "java/lang/invoke/VarHandle")
    {W : Nat} {as' : Array Value} {Qc : Option Value → Heap → List Loc → Prop} {kc' ks' : Nat}
    (hK : Back l R p e below s args z 3 W (fun A a => a = as' ∧ A.U.heap = h ∧ A.cells + kc' ≤ R.cells ∧ A.slots + ks' ≤ R.slots) (fun A _ v B => ∃ L, Qc v B.U.heap L ∧ B.locs = A.locs ++ L ∧ B.cells = A.cells + kc' ∧ B.slots = A.slots + ks'))
    {b : Addr} (eT : T.heap = h) (E : Exa Z h b C)
    (hg : g.method = m) (hsize : g.locals.size = c.maxLocals) {argsL rest : List Value} (hlen : ∀ sig, parseMethodDescriptor y.desc = some sig → argsL.length = sig.parameters.length)
    (hstack : g.stack = argsL.reverse ++ .ref b :: rest) (hW : 2 * g.monitorRoom + (rest.map fun v => v.category).sum ≤ W) (hdg : decode c.code g.pc = .ok (.invokevirtual index, 3)) (ha : (.ref b :: argsL).toArray = as') (hc : cells + kc' ≤ R.cells) (hs : slots + ks' ≤ R.slots)
    (k : ∀ (v : Option Value) (T' : State) (L : List Loc), Qc v T'.heap L → Stand p l e R s m args below meth c T' (locs ++ L) (cells + kc') (slots + ks') → Goes p e below F T' { g with pc := g.pc + 3, stack := v.toList ++ rest }) : Goes p e below F T g := by
  obtain ⟨cq, kq, qa, qb, qc⟩ := isOf hZ eT E
  obtain ⟨v, vm₁, ⟨T', L', k', n'⟩, -, X', ⟨L, hQ, h1, h2, h3⟩, st⟩ := X.virtualBack hx hown hlink hdecl hnf hsel hinst hy hK qa qc hg hsize (Steps.refl _) hlen hstack hW hdg (fun _ _ => ⟨ha, eT, hc, hs⟩)
  dsimp only [Pt.U, Pt.locs, Pt.cells, Pt.slots] at X' h1 h2 h3 st hQ
  subst h1 h2 h3
  exact Goes.step (fun t q => st.trans q) (k v T' L hQ X')
/-- a private method called by invokevirtual -/
theorem Goes.callP (X : Stand p l e R s m args below meth c T locs cells slots) (hx : p.tables.exec = Jvm.exec) {own C : String} {index : Nat} {y : MethodName} {bytes : ByteArray} {maxL : Nat} {ret : Option FieldType}
    (hown : s.vm.findClass own = some m.cls) (hlink : (Cond.methodLink own index y).before args s = true) (hinst : (Cond.instanceMethod y).before args s = true) (hsel : (Cond.selects y.cls y y).before args s = true)
    (hpriv : s.PrivateAt y) (hcode : (Cond.code y bytes maxL ret).before args s = true)
    (hy : y.cls ≠ "java/lang/invoke/MethodHandle" ∧ y.cls ≠ "java/lang/invoke/VarHandle")
    {W : Nat} {as' : Array Value} {Qc : Option Value → Heap → List Loc → Prop} {kc' ks' : Nat}
    (hK : Back l R p e below s args y 3 W (fun A a => a = as' ∧ A.U.heap = h ∧ A.cells + kc' ≤ R.cells ∧ A.slots + ks' ≤ R.slots) (fun A _ v B => ∃ L, Qc v B.U.heap L ∧ B.locs = A.locs ++ L ∧ B.cells = A.cells + kc' ∧ B.slots = A.slots + ks'))
    {b : Addr} (eT : T.heap = h) (E : Exa Z h b C)
    (hg : g.method = m) (hsize : g.locals.size = c.maxLocals) {argsL rest : List Value} (hlen : ∀ sig, parseMethodDescriptor y.desc = some sig → argsL.length = sig.parameters.length)
    (hstack : g.stack = argsL.reverse ++ .ref b :: rest) (hW : 2 * g.monitorRoom + (rest.map fun v => v.category).sum ≤ W) (hdg : decode c.code g.pc = .ok (.invokevirtual index, 3)) (ha : (.ref b :: argsL).toArray = as') (hc : cells + kc' ≤ R.cells) (hs : slots + ks' ≤ R.slots)
    (k : ∀ (v : Option Value) (T' : State) (L : List Loc), Qc v T'.heap L → Stand p l e R s m args below meth c T' (locs ++ L) (cells + kc') (slots + ks') → Goes p e below F T' { g with pc := g.pc + 3, stack := v.toList ++ rest }) : Goes p e below F T g := by
  obtain ⟨cq, q1, q2⟩ := E.cell
  obtain ⟨v, vm₁, ⟨T', L', k', n'⟩, -, X', ⟨L, hQ, h1, h2, h3⟩, st⟩ := X.privateBack hx hown hlink hinst hsel hpriv hcode hy hK hg hsize (Steps.refl _) (by rw [eT]; exact q1) q2 hlen hstack hW hdg (fun _ _ => ⟨ha, eT, hc, hs⟩)
  dsimp only [Pt.U, Pt.locs, Pt.cells, Pt.slots] at X' h1 h2 h3 st hQ
  subst h1 h2 h3
  exact Goes.step (fun t q => st.trans q) (k v T' L hQ X')
/-- clone() of an array whose elements are known -/
theorem cloneV {a : Addr} {ty : FieldType} (X : Stand p l e R s m args below meth c T locs cells slots) (hx : p.tables.exec = Jvm.exec) (hZ : Z.Warmed39 s.vm) {own ad : String} {index : Nat} (hown : s.vm.findClass own = some m.cls)
    (w1 : (Cond.methodLink own index ⟨ad, "clone", "()Ljava/lang/Object;"⟩).before a0 Z = true) (w2 : (Cond.sameMethod ad "java/lang/Object" "clone" "()Ljava/lang/Object;").before a0 Z = true) (w3 : (Cond.native ⟨"java/lang/Object", "clone", "()Ljava/lang/Object;"⟩).before a0 Z = true)
    (w4 : (Cond.instanceMethod ⟨"java/lang/Object", "clone", "()Ljava/lang/Object;"⟩).before a0 Z = true) (w5 : (Cond.selects ad ⟨ad, "clone", "()Ljava/lang/Object;"⟩ ⟨"java/lang/Object", "clone", "()Ljava/lang/Object;"⟩).before a0 Z = true) (w6 : (Cond.castable ad "java/lang/Cloneable").before a0 Z = true)
    (eT : T.heap = h) {k : ClassId} {z : Int32} {vs : List Value} {dv : Value} (FA : Arv Z h a k ty z vs dv) (E : Exa Z h a ad) {g : JFrame} (hg : g.method = m) (hsize : g.locals.size = c.maxLocals) {rest : List Value} (hst : g.stack = .ref a :: rest) (hd : decode c.code g.pc = .ok (.invokevirtual index, 3))
    (hf : 1 ≤ R.frames) {W cap : Nat} (hW : 2 * g.monitorRoom + (rest.map fun v => v.category).sum ≤ W) (hl : W + 14 ≤ R.locals) (hcap : z.toNatClampNeg ≤ cap) (hc : cells + 1 ≤ R.cells) (hsl : slots + cap ≤ R.slots) :
    ∃ T' h', Stand p l e R s m args below meth c T' locs (cells + 1) (slots + cap) ∧ T'.heap = h' ∧ Ext h h' ∧ Arv Z h' h.size k ty z vs dv ∧ Exa Z h' h.size ad ∧
      ∀ target, Steps p.tables e below (T'.setTop { g with pc := g.pc + 3, stack := .ref h.size :: rest }) target → Steps p.tables e below (T.setTop g) target := by
  obtain ⟨cl, A, q1, S, q3, H, G⟩ := FA
  have FC : FitC Z cl := fitC_of A fun i hi v hv => by rw [H i hi] at hv; cases hv; exact G i hi
  obtain ⟨T', h', X', e', ex, A', E', st⟩ := cloneA X hx hZ hown w1 w2 w3 w4 w5 w6 eT A E FC hg hsize hst hd hf hW hl (by rw [S]; exact hcap) hc hsl
  exact ⟨T', h', X', e', ex, ⟨cloneOf cl, A', q1, S, q3, H, G⟩, E', st⟩
end Own
end Jvm.RoadKit
namespace Jvm.RoadKit
open Sem ClassFile Op Lib Jvm.Stand Jvm.Free Jvm.LawKit
namespace P1
section P1
variable {p : Program} {e : Env} {below : List Frame} {F : Option Value → State → Prop} {T : State} {m : MethodId} {c : Code} {pc : Nat} {Ls : Array Slot} {S : List Value}
theorem aloadN (h : At T m c below) (hx : p.tables.exec = Jvm.exec) {k : Fin 4} {v : Value} (hd : decode c.code pc = .ok (.aload_n k, 1)) (hl : Ls[k.val]? = some (.val v)) (hv : v.isRef = true) (hr : Goes p e below F T (mkF m (pc + 1) Ls (v :: S))) : Goes p e below F T (mkF m pc Ls (S)) := Goes.step (fun t k => XS.aloadN h hx rfl hd hl hv k) hr
theorem aload (h : At T m c below) (hx : p.tables.exec = Jvm.exec) {k : Nat} {v : Value} (hd : decode c.code pc = .ok (.aload k, 2)) (hl : Ls[k]? = some (.val v)) (hv : v.isRef = true) (hr : Goes p e below F T (mkF m (pc + 2) Ls (v :: S))) : Goes p e below F T (mkF m pc Ls (S)) := Goes.step (fun t k => XS.aload h hx rfl hd hl hv k) hr
theorem iloadN (h : At T m c below) (hx : p.tables.exec = Jvm.exec) {k : Fin 4} {v : Int32} (hd : decode c.code pc = .ok (.iload_n k, 1)) (hl : Ls[k.val]? = some (.val (.int v))) (hr : Goes p e below F T (mkF m (pc + 1) Ls ((.int v) :: S))) : Goes p e below F T (mkF m pc Ls (S)) := Goes.step (fun t k => XS.iloadN h hx rfl hd hl k) hr
theorem iload (h : At T m c below) (hx : p.tables.exec = Jvm.exec) {k : Nat} {v : Int32} (hd : decode c.code pc = .ok (.iload k, 2)) (hl : Ls[k]? = some (.val (.int v))) (hr : Goes p e below F T (mkF m (pc + 2) Ls ((.int v) :: S))) : Goes p e below F T (mkF m pc Ls (S)) := Goes.step (fun t k => XS.iload h hx rfl hd hl k) hr
theorem lloadN (h : At T m c below) (hx : p.tables.exec = Jvm.exec) {k : Fin 4} {v : Int64} (hd : decode c.code pc = .ok (.lload_n k, 1)) (hl : Ls[k.val]? = some (.val (.long v))) (hr : Goes p e below F T (mkF m (pc + 1) Ls ((.long v) :: S))) : Goes p e below F T (mkF m pc Ls (S)) := Goes.step (fun t k => XS.lloadN h hx rfl hd hl k) hr
theorem lload (h : At T m c below) (hx : p.tables.exec = Jvm.exec) {k : Nat} {v : Int64} (hd : decode c.code pc = .ok (.lload k, 2)) (hl : Ls[k]? = some (.val (.long v))) (hr : Goes p e below F T (mkF m (pc + 2) Ls ((.long v) :: S))) : Goes p e below F T (mkF m pc Ls (S)) := Goes.step (fun t k => XS.lload h hx rfl hd hl k) hr
theorem astoreN (h : At T m c below) (hx : p.tables.exec = Jvm.exec) {k : Fin 4} {x : Value} (l' : Array Slot) (hd : decode c.code pc = .ok (.astore_n k, 1)) (hv : x.isRef = true) (hl : storeLocals Ls k.val x = some l') (hr : Goes p e below F T (mkF m (pc + 1) l' (S))) : Goes p e below F T (mkF m pc Ls (x :: S)) := Goes.step (fun t k => XS.astoreN h hx rfl hd rfl hv hl k) hr
theorem astore (h : At T m c below) (hx : p.tables.exec = Jvm.exec) {k : Nat} {x : Value} (l' : Array Slot) (hd : decode c.code pc = .ok (.astore k, 2)) (hv : x.isRef = true) (hl : storeLocals Ls k x = some l') (hr : Goes p e below F T (mkF m (pc + 2) l' (S))) : Goes p e below F T (mkF m pc Ls (x :: S)) := Goes.step (fun t k => XS.astore h hx rfl hd rfl hv hl k) hr
theorem istoreN (h : At T m c below) (hx : p.tables.exec = Jvm.exec) {k : Fin 4} {x : Int32} (l' : Array Slot) (hd : decode c.code pc = .ok (.istore_n k, 1)) (hl : storeLocals Ls k.val (.int x) = some l') (hr : Goes p e below F T (mkF m (pc + 1) l' (S))) : Goes p e below F T (mkF m pc Ls ((.int x) :: S)) := Goes.step (fun t k => XS.istoreN h hx rfl hd rfl hl k) hr
theorem istore (h : At T m c below) (hx : p.tables.exec = Jvm.exec) {k : Nat} {x : Int32} (l' : Array Slot) (hd : decode c.code pc = .ok (.istore k, 2)) (hl : storeLocals Ls k (.int x) = some l') (hr : Goes p e below F T (mkF m (pc + 2) l' (S))) : Goes p e below F T (mkF m pc Ls ((.int x) :: S)) := Goes.step (fun t k => XS.istore h hx rfl hd rfl hl k) hr
theorem lstoreN (h : At T m c below) (hx : p.tables.exec = Jvm.exec) {k : Fin 4} {x : Int64} (l' : Array Slot) (hd : decode c.code pc = .ok (.lstore_n k, 1)) (hl : storeLocals Ls k.val (.long x) = some l') (hr : Goes p e below F T (mkF m (pc + 1) l' (S))) : Goes p e below F T (mkF m pc Ls ((.long x) :: S)) := Goes.step (fun t k => XS.lstoreN h hx rfl hd rfl hl k) hr
theorem lstore (h : At T m c below) (hx : p.tables.exec = Jvm.exec) {k : Nat} {x : Int64} (l' : Array Slot) (hd : decode c.code pc = .ok (.lstore k, 2)) (hl : storeLocals Ls k (.long x) = some l') (hr : Goes p e below F T (mkF m (pc + 2) l' (S))) : Goes p e below F T (mkF m pc Ls ((.long x) :: S)) := Goes.step (fun t k => XS.lstore h hx rfl hd rfl hl k) hr
theorem iconst (h : At T m c below) (hx : p.tables.exec = Jvm.exec) (z : Int32) {i : Int} (hd : decode c.code pc = .ok (.iconst i, 1)) (hz : Int32.ofInt i = z) (hr : Goes p e below F T (mkF m (pc + 1) Ls (.int z :: S))) : Goes p e below F T (mkF m pc Ls S) := by subst hz; exact Goes.step (fun t k => XS.iconst h hx rfl hd k) hr
theorem bipush (h : At T m c below) (hx : p.tables.exec = Jvm.exec) (z : Int32) {i : Int} (hd : decode c.code pc = .ok (.bipush i, 2)) (hz : (Int8.ofInt i).toInt32 = z) (hr : Goes p e below F T (mkF m (pc + 2) Ls (.int z :: S))) : Goes p e below F T (mkF m pc Ls S) := by subst hz; exact Goes.step (fun t k => XS.bipush h hx rfl hd k) hr
theorem sipush (h : At T m c below) (hx : p.tables.exec = Jvm.exec) (z : Int32) {i : Int} (hd : decode c.code pc = .ok (.sipush i, 3)) (hz : (Int16.ofInt i).toInt32 = z) (hr : Goes p e below F T (mkF m (pc + 3) Ls (.int z :: S))) : Goes p e below F T (mkF m pc Ls S) := by subst hz; exact Goes.step (fun t k => XS.sipush h hx rfl hd k) hr
theorem aconstNull (h : At T m c below) (hx : p.tables.exec = Jvm.exec)  (hd : decode c.code pc = .ok (.aconst_null, 1)) (hr : Goes p e below F T (mkF m (pc + 1) Ls (.null :: S))) : Goes p e below F T (mkF m pc Ls (S)) := Goes.step (fun t k => XS.aconstNull h hx rfl hd k) hr
theorem dup (h : At T m c below) (hx : p.tables.exec = Jvm.exec) {x : Value} (hd : decode c.code pc = .ok (.dup, 1)) (hc : x.category = 1) (hr : Goes p e below F T (mkF m (pc + 1) Ls (x :: x :: S))) : Goes p e below F T (mkF m pc Ls (x :: S)) := Goes.step (fun t k => XS.dup h hx rfl hd rfl hc k) hr
theorem pop (h : At T m c below) (hx : p.tables.exec = Jvm.exec) {x : Value} (hd : decode c.code pc = .ok (.pop, 1)) (hc : x.category = 1) (hr : Goes p e below F T (mkF m (pc + 1) Ls (S))) : Goes p e below F T (mkF m pc Ls (x :: S)) := Goes.step (fun t k => XS.pop h hx rfl hd rfl hc k) hr
theorem goto (h : At T m c below) (hx : p.tables.exec = Jvm.exec) {o : Int} (pc' : Nat) (hd : decode c.code pc = .ok (.goto o, 3)) (ho : 0 ≤ (pc : Int) + o) (hp : ((pc : Int) + o).toNat = pc') (hr : Goes p e below F T (mkF m pc' Ls (S))) : Goes p e below F T (mkF m pc Ls (S)) := Goes.step (fun t k => XS.goto h hx rfl (pc0 := pc) rfl hd ho hp k) hr
theorem iadd (h : At T m c below) (hx : p.tables.exec = Jvm.exec) {x y : Int32} (hd : decode c.code pc = .ok (.iadd, 1)) (hr : Goes p e below F T (mkF m (pc + 1) Ls (.int (x + y) :: S))) : Goes p e below F T (mkF m pc Ls (.int y :: .int x :: S)) := Goes.step (fun t k => XS.iadd h hx rfl hd rfl k) hr
theorem isub (h : At T m c below) (hx : p.tables.exec = Jvm.exec) {x y : Int32} (hd : decode c.code pc = .ok (.isub, 1)) (hr : Goes p e below F T (mkF m (pc + 1) Ls (.int (x - y) :: S))) : Goes p e below F T (mkF m pc Ls (.int y :: .int x :: S)) := Goes.step (fun t k => XS.isub h hx rfl hd rfl k) hr
theorem imul (h : At T m c below) (hx : p.tables.exec = Jvm.exec) {x y : Int32} (hd : decode c.code pc = .ok (.imul, 1)) (hr : Goes p e below F T (mkF m (pc + 1) Ls (.int (x * y) :: S))) : Goes p e below F T (mkF m pc Ls (.int y :: .int x :: S)) := Goes.step (fun t k => XS.imul h hx rfl hd rfl k) hr
theorem iand (h : At T m c below) (hx : p.tables.exec = Jvm.exec) {x y : Int32} (hd : decode c.code pc = .ok (.iand, 1)) (hr : Goes p e below F T (mkF m (pc + 1) Ls (.int (x &&& y) :: S))) : Goes p e below F T (mkF m pc Ls (.int y :: .int x :: S)) := Goes.step (fun t k => XS.iand h hx rfl hd rfl k) hr
theorem ior (h : At T m c below) (hx : p.tables.exec = Jvm.exec) {x y : Int32} (hd : decode c.code pc = .ok (.ior, 1)) (hr : Goes p e below F T (mkF m (pc + 1) Ls (.int (x ||| y) :: S))) : Goes p e below F T (mkF m pc Ls (.int y :: .int x :: S)) := Goes.step (fun t k => XS.ior h hx rfl hd rfl k) hr
theorem ixor (h : At T m c below) (hx : p.tables.exec = Jvm.exec) {x y : Int32} (hd : decode c.code pc = .ok (.ixor, 1)) (hr : Goes p e below F T (mkF m (pc + 1) Ls (.int (x ^^^ y) :: S))) : Goes p e below F T (mkF m pc Ls (.int y :: .int x :: S)) := Goes.step (fun t k => XS.ixor h hx rfl hd rfl k) hr
end P1
end P1
end Jvm.RoadKit
namespace Jvm.RoadKit
open Sem ClassFile Op Lib Jvm.Stand Jvm.Free Jvm.LawKit
section OwnStart
variable {Z : State} {args : Array Value} {t u : Term} {a : Addr} {cl : Cell} {ty : FieldType} {v : Value}
theorem own_eqV (h : (Cond.eq t u).value args Z none Z [] = some true) (hu : u.eval args Z none [] Z = some v) (hv : (∃ z, v = .int z) ∨ v.isRef = true) : t.eval args Z none [] Z = some v := by
  cases ht : t.eval args Z none [] Z with
  | none => simp [Cond.value, ht] at h
  | some x =>
    rcases hv with ⟨z, rfl⟩ | hv
    · cases x <;> simp_all [Cond.value, Value.isRef]
    · cases x <;> cases v <;> simp_all [Cond.value, Value.isRef]
theorem own_len {n : Int32} (A : Arr Z Z.heap a cl ty) (ev : t.eval args Z none [] Z = some (.ref a)) (h : (Cond.eq (.length t) (.int n)).value args Z none Z [] = some true) : cl.slots.size < 2 ^ 31 ∧ cl.slots.size.toInt32 = n := by
  have q := own_eqV h (Term.int_eval n) (Or.inl ⟨_, rfl⟩)
  have harr := Arr.fin (U := Z) (Vm.Alike.refl _) A
  by_cases hl : cl.slots.size < 2 ^ 31
  · rw [len_f ev harr hl] at q
    exact ⟨hl, Value.int.inj (Option.some.inj q)⟩
  · simp [Term.eval, ev, harr, hl] at q
theorem own_elem {j : Int32} (A : Arr Z Z.heap a cl ty) (ev : t.eval args Z none [] Z = some (.ref a)) (h : (Term.elem t (.int j)).eval args Z none [] Z = some v) : cl.slots[j.toNatClampNeg]? = some v := (elem_in h ev (Term.int_eval j) A.1).2
theorem own_fld {C n d : String} (ev : t.eval args Z none [] Z = some (.ref a)) (h : (Term.field t C n d).eval args Z none [] Z = some v) : Fld Z Z.heap a C n d v := Fld.start ((fld_at ev).symm.trans h)
end OwnStart
end Jvm.RoadKit
/- laws to paste: Road.backV, Road.eqW, Road.codOf (cut by pick.py; bodies as the Statement names them) -/
namespace Jvm.Pilot.@@N@@
namespace StrChars
open Jvm Sem ClassFile Op Lib Jvm.Stand Jvm.Free.XT Jvm.Free.ALB Jvm.Free.JM Jvm.Free
open Jvm.Lib.Cold (StaticIs)
/-- a char array whose places are chars -/
def Ch (a : Addr) (A : Cell) (U : State) : Prop := Arr .char a A U ∧ Typed .char A
theorem Ch.mv {a : Addr} {A : Cell} {U U' : State} (h : Ch a A U) (hal : U.vm.Alike U'.vm) (hh : U'.heap = U.heap) : Ch a A U' := ⟨h.1.mv hal hh, h.2⟩
theorem Ch.keep {a : Addr} {A : Cell} {U U' : State} (h : Ch a A U) (hal : U.vm.Alike U'.vm) (hk : U'.heap[a]? = some A) : Ch a A U' := ⟨h.1.keep hal hk, h.2⟩
/-- what place i of a char[]'s cell holds -/
def cv (A : Cell) (i : Nat) : Int32 := match A.slots[i]? with | some (.int x) => x | _ => 0
theorem Ch.get {a : Addr} {A : Cell} {U : State} (h : Ch a A U) {i : Nat} (hi : i < A.slots.size) : A.slots[i]? = some (.int (cv A i)) := by
  have e := Array.getElem?_eq_getElem hi
  have f := h.2 i _ e
  unfold cv; rw [e]
  generalize A.slots[i] = v at f
  cases v <;> simp [fits] at f ⊢
/-- the byte that i2b leaves of a char -/
def lo8 (x : Int32) : Int32 := x.toInt8.toInt32
theorem fits_lo8 (y : Int32) : fits .byte (.int (lo8 y)) = true := by
  have h1 := y.toInt8.le_toInt
  have h2 := y.toInt8.toInt_lt
  simp only [lo8, fits, Bool.and_eq_true, decide_eq_true_eq, Int32.le_iff_toInt_le, Int8.toInt_toInt32, show (-128 : Int32).toInt = -128 from by decide, show (127 : Int32).toInt = 127 from by decide]
  omega
/-- A' is A but that each place j of lo .. hi - 1 holds f j -/
def Laid (A A' : Cell) (lo hi : Nat) (f : Nat → Value) : Prop := A'.cls = A.cls ∧ A'.vm = A.vm ∧ A'.slots.size = A.slots.size ∧ ∀ i, A'.slots[i]? = if lo ≤ i ∧ i < hi then some (f i) else A.slots[i]?
theorem Laid.zero (A : Cell) (lo : Nat) (f : Nat → Value) : Laid A A lo (lo + 0) f := ⟨rfl, rfl, rfl, fun i => by rw [if_neg (by omega)]⟩
theorem Laid.step {A Ak : Cell} {lo k : Nat} {f : Nat → Value} {v : Value} (h : Laid A Ak lo k f) (hlo : lo ≤ k) (hk : k < Ak.slots.size) (hv : v = f k) : Laid A (Ak.setSlot k v) lo (k + 1) f := by
  refine ⟨h.1, h.2.1, by simpa [Cell.setSlot] using h.2.2.1, fun i => ?_⟩
  by_cases e : k = i
  · subst e; rw [Cell.slots_setSlot_self v hk, if_pos (by omega), hv]
  · rw [Cell.slots_setSlot_ne v e, h.2.2.2 i]
    by_cases q : lo ≤ i ∧ i < k
    · rw [if_pos q, if_pos (by omega)]
    · rw [if_neg q, if_neg (by omega)]
def U16 : String := "java/lang/StringUTF16"
namespace Cmp5
def yN : MethodName := ⟨"java/lang/StringUTF16", "compress", "([CI[BII)I"⟩
abbrev yB : ByteArray := jdk_52_method_21_code
theorem d0 : decode yB 0 = .ok (.iconst 0, 1) := by decide +kernel
theorem d1 : decode yB 1 = .ok (.istore 5, 2) := by decide +kernel
theorem d3 : decode yB 3 = .ok (.iload 5, 2) := by decide +kernel
theorem d5 : decode yB 5 = .ok (.iload 4, 2) := by decide +kernel
theorem d7 : decode yB 7 = .ok (.if_icmp (.ge) 37, 3) := by decide +kernel
theorem d10 : decode yB 10 = .ok (.aload_n 0, 1) := by decide +kernel
theorem d11 : decode yB 11 = .ok (.iload_n 1, 1) := by decide +kernel
theorem d12 : decode yB 12 = .ok (.caload, 1) := by decide +kernel
theorem d13 : decode yB 13 = .ok (.istore 6, 2) := by decide +kernel
theorem d15 : decode yB 15 = .ok (.iload 6, 2) := by decide +kernel
theorem d17 : decode yB 17 = .ok (.sipush 255, 3) := by decide +kernel
theorem d20 : decode yB 20 = .ok (.if_icmp (.le) 6, 3) := by decide +kernel
theorem d26 : decode yB 26 = .ok (.aload_n 2, 1) := by decide +kernel
theorem d27 : decode yB 27 = .ok (.iload_n 3, 1) := by decide +kernel
theorem d28 : decode yB 28 = .ok (.iload 6, 2) := by decide +kernel
theorem d30 : decode yB 30 = .ok (.i2b, 1) := by decide +kernel
theorem d31 : decode yB 31 = .ok (.bastore, 1) := by decide +kernel
theorem d32 : decode yB 32 = .ok (.iinc 1 1, 3) := by decide +kernel
theorem d35 : decode yB 35 = .ok (.iinc 3 1, 3) := by decide +kernel
theorem d38 : decode yB 38 = .ok (.iinc 5 1, 3) := by decide +kernel
theorem d41 : decode yB 41 = .ok (.goto (-38), 3) := by decide +kernel
theorem d44 : decode yB 44 = .ok (.iload 4, 2) := by decide +kernel
theorem d46 : decode yB 46 = .ok (.ireturn, 1) := by decide +kernel
def site : List Cond := []
def tab : Cond := tabOf yN yB 7 (some .int) site
def P (b : Addr) (A : Cell) (d : Addr) (B : Cell) (o q len : Nat) (args : Array Value) (s : State) : Prop := args = #[.ref b, .int (Int32.ofNat o), .ref d, .int (Int32.ofNat q), .int (Int32.ofNat len)] ∧ Ch b A s ∧ Arr .byte d B s ∧ b ≠ d ∧ o + len ≤ A.slots.size ∧ q + len ≤ B.slots.size ∧ ∀ i, i < len → ¬ 255 < cv A (o + i)
def E (b : Addr) (A : Cell) (d : Addr) (B : Cell) (o q len : Nat) (r : Option Value) (s u : State) : Prop := r = some (.int (Int32.ofNat len)) ∧ ∃ B', Put d B' s u ∧ Laid B B' q (q + len) (fun j => Value.int (lo8 (cv A (o + (j - q)))))
/-- no char of the range above 255: len; the places written hold each char's low byte -/
theorem law (l : Launch) (b : Addr) (A : Cell) (d : Addr) (B : Cell) (o q len : Nat) : Law l yN 5 5 0 0 yB 7 (some .int) site (P b A d B o q len) (E b A d B o q len) (copyLocs d q len) 0 0 := by
  refine Law.of_walk (plainFor_of_name (by decide +kernel)) (by decide +kernel) (by decide +kernel) (by decide) (fun _ _ h => by rw [h.1]; rfl) (fun _ U U' hal hh h => ⟨h.1, h.2.1.mv hal hh, h.2.2.1.mv hal hh, h.2.2.2⟩) (fun r U U' V V' h1 hal h2 h => ⟨h.1, h.2.elim fun B' q => ⟨B', q.1.mv h1 h2, q.2⟩⟩) ?_
  intro p e s m args below meth c s₁ X0 hexec hbytes hml hret hlk hnm hown hh0 W hP
  obtain ⟨rfl, hA, hB, hne, l1, l2, hp⟩ := hP
  have c1 : Steps p.tables e below (s₁.setTop (entryFrame m #[.ref b, .int (Int32.ofNat o), .ref d, .int (Int32.ofNat q), .int (Int32.ofNat len)] 7)) (s₁.setTop (mkF m 0 #[.val (.ref b), .val (.int (Int32.ofNat o)), .val (.ref d), .val (.int (Int32.ofNat q)), .val (.int (Int32.ofNat len)), .unset, .unset] [])) := entry rfl
  have hA0 := hA.1.mv X0.warmed.alike hh0
  have hB0 := hB.mv X0.warmed.alike hh0
  have a31 := hA.1.2.2.2
  have c2 : Steps p.tables e below (s₁.setTop (entryFrame m #[.ref b, .int (Int32.ofNat o), .ref d, .int (Int32.ofNat q), .int (Int32.ofNat len)] 7)) (s₁.setTop (mkF m 3 #[.val (.ref b), .val (.int (Int32.ofNat o)), .val (.ref d), .val (.int (Int32.ofNat q)), .val (.int (Int32.ofNat len)), .val (.int 0), .unset] [])) := c1.trans (by
    refine iconstV X0.here hexec rfl 0 (hb hbytes d0) (by decide) ?_
    refine XS.istore X0.here hexec rfl (hb hbytes d1) rfl rfl ?_
    exact Steps.refl _)
  have loop : ∀ (r i : Nat), i + r = len → ∀ (z : Slot), (z = .unset ∨ ∃ w, z = .val w ∧ w.category = 1) → ∀ (Tl : State) (Bk : Cell), Stand p l e { frames := 0, locals := 0, cells := 0, slots := 0 } s m #[.ref b, .int (Int32.ofNat o), .ref d, .int (Int32.ofNat q), .int (Int32.ofNat len)] below meth c Tl ([] ++ copyLocs d q i) 0 0 → Put d Bk s₁ Tl → Laid B Bk q (q + i) (fun j => Value.int (lo8 (cv A (o + (j - q))))) →
      Steps p.tables e below (s₁.setTop (entryFrame m #[.ref b, .int (Int32.ofNat o), .ref d, .int (Int32.ofNat q), .int (Int32.ofNat len)] 7)) (Tl.setTop (mkF m 3 #[.val (.ref b), .val (.int (Int32.ofNat (o + i))), .val (.ref d), .val (.int (Int32.ofNat (q + i))), .val (.int (Int32.ofNat len)), .val (.int (Int32.ofNat i)), z] [])) → ∃ (T' : State) (B' : Cell) (z' : Slot), Stand p l e { frames := 0, locals := 0, cells := 0, slots := 0 } s m #[.ref b, .int (Int32.ofNat o), .ref d, .int (Int32.ofNat q), .int (Int32.ofNat len)] below meth c T' ([] ++ copyLocs d q len) 0 0 ∧ Put d B' s₁ T' ∧ Laid B B' q (q + len) (fun j => Value.int (lo8 (cv A (o + (j - q))))) ∧
      Steps p.tables e below (s₁.setTop (entryFrame m #[.ref b, .int (Int32.ofNat o), .ref d, .int (Int32.ofNat q), .int (Int32.ofNat len)] 7)) (T'.setTop (mkF m 3 #[.val (.ref b), .val (.int (Int32.ofNat (o + len))), .val (.ref d), .val (.int (Int32.ofNat (q + len))), .val (.int (Int32.ofNat len)), .val (.int (Int32.ofNat len)), z'] [])) := by
    intro r
    induction r with
    | zero =>
      intro i hi z hz Tl Bk Xl pl fl cl
      have hil : i = len := by omega
      rw [hil] at Xl fl cl
      exact ⟨Tl, Bk, z, Xl, pl, fl, cl⟩
    | succ r ih =>
      intro i hi z hz Tl Bk Xl pl fl cl
      have all := X0.warmed.alike.symm.trans Xl.warmed.alike
      have hAl := hA0.keep all (pl.other hne hA0.1)
      have hBk := hB0.like all pl.1 fl.1 fl.2.1 fl.2.2.1
      have hlt : q + i < Bk.slots.size := by rw [fl.2.2.1]; omega
      have c3 : Steps p.tables e below (s₁.setTop (entryFrame m #[.ref b, .int (Int32.ofNat o), .ref d, .int (Int32.ofNat q), .int (Int32.ofNat len)] 7)) (Tl.setTop (mkF m 12 #[.val (.ref b), .val (.int (Int32.ofNat (o + i))), .val (.ref d), .val (.int (Int32.ofNat (q + i))), .val (.int (Int32.ofNat len)), .val (.int (Int32.ofNat i)), z] [.int (Int32.ofNat (o + i)), .ref b])) := cl.trans (by
        refine XS.iload Xl.here hexec rfl (hb hbytes d3) rfl ?_
        refine XS.iload Xl.here hexec rfl (hb hbytes d5) rfl ?_
        refine XS.icmpNo Xl.here hexec rfl (hb hbytes d7) rfl (ii_ge_f (lt32 (by omega) (by omega))) ?_
        refine XS.aloadN Xl.here hexec rfl (hb hbytes d10) rfl rfl ?_
        refine XS.iloadN Xl.here hexec rfl (hb hbytes d11) rfl ?_
        exact Steps.refl _)
      have c4 : Steps p.tables e below (s₁.setTop (entryFrame m #[.ref b, .int (Int32.ofNat o), .ref d, .int (Int32.ofNat q), .int (Int32.ofNat len)] 7)) (Tl.setTop (mkF m 13 #[.val (.ref b), .val (.int (Int32.ofNat (o + i))), .val (.ref d), .val (.int (Int32.ofNat (q + i))), .val (.int (Int32.ofNat len)), .val (.int (Int32.ofNat i)), z] [.int (cv A (o + i))])) := c3.trans (by
        refine Xl.aget hexec hAl rfl (hA.get (i := o + i) (by omega)) rfl rfl (hb hbytes d12) ?_
        exact Steps.refl _)
      have c5 : Steps p.tables e below (s₁.setTop (entryFrame m #[.ref b, .int (Int32.ofNat o), .ref d, .int (Int32.ofNat q), .int (Int32.ofNat len)] 7)) (Tl.setTop (mkF m 15 #[.val (.ref b), .val (.int (Int32.ofNat (o + i))), .val (.ref d), .val (.int (Int32.ofNat (q + i))), .val (.int (Int32.ofNat len)), .val (.int (Int32.ofNat i)), .val (.int (cv A (o + i)))] [])) := c4.trans (by
        refine XS.istoreS Xl.here hexec rfl (hb hbytes d13) rfl rfl hz ?_
        exact Steps.refl _)
      have c6 : Steps p.tables e below (s₁.setTop (entryFrame m #[.ref b, .int (Int32.ofNat o), .ref d, .int (Int32.ofNat q), .int (Int32.ofNat len)] 7)) (Tl.setTop (mkF m 31 #[.val (.ref b), .val (.int (Int32.ofNat (o + i))), .val (.ref d), .val (.int (Int32.ofNat (q + i))), .val (.int (Int32.ofNat len)), .val (.int (Int32.ofNat i)), .val (.int (cv A (o + i)))] [.int (lo8 (cv A (o + i))), .int (Int32.ofNat (q + i)), .ref d])) := c5.trans (by
        refine XS.iload Xl.here hexec rfl (hb hbytes d15) rfl ?_
        refine sipushV Xl.here hexec rfl 255 (hb hbytes d17) (by decide) ?_
        refine XS.icmpYes Xl.here hexec rfl (pc0 := 20) rfl (hb hbytes d20) rfl (ii_le_t (hp i (by omega))) (by decide) rfl ?_
        refine XS.aloadN Xl.here hexec rfl (hb hbytes d26) rfl rfl ?_
        refine XS.iloadN Xl.here hexec rfl (hb hbytes d27) rfl ?_
        refine XS.iload Xl.here hexec rfl (hb hbytes d28) rfl ?_
        refine i2b Xl.here hexec rfl (hb hbytes d30) rfl ?_
        exact Steps.refl _)
      obtain ⟨T7, X7, p7, st7⟩ := Xl.aput hexec hBk rfl hlt rfl (fits_lo8 (cv A (o + i))) (g := (mkF m 31 #[.val (.ref b), .val (.int (Int32.ofNat (o + i))), .val (.ref d), .val (.int (Int32.ofNat (q + i))), .val (.int (Int32.ofNat len)), .val (.int (Int32.ofNat i)), .val (.int (cv A (o + i)))] [.int (lo8 (cv A (o + i))), .int (Int32.ofNat (q + i)), .ref d])) rfl (rest := []) rfl (hb hbytes d31)
      have c8 : Steps p.tables e below (s₁.setTop (entryFrame m #[.ref b, .int (Int32.ofNat o), .ref d, .int (Int32.ofNat q), .int (Int32.ofNat len)] 7)) (T7.setTop (mkF m 32 #[.val (.ref b), .val (.int (Int32.ofNat (o + i))), .val (.ref d), .val (.int (Int32.ofNat (q + i))), .val (.int (Int32.ofNat len)), .val (.int (Int32.ofNat i)), .val (.int (cv A (o + i)))] [])) := c6.trans (st7 _ (Steps.refl _))
      have c9 : Steps p.tables e below (s₁.setTop (entryFrame m #[.ref b, .int (Int32.ofNat o), .ref d, .int (Int32.ofNat q), .int (Int32.ofNat len)] 7)) (T7.setTop (mkF m 3 #[.val (.ref b), .val (.int (Int32.ofNat (o + i) + 1)), .val (.ref d), .val (.int (Int32.ofNat (q + i) + 1)), .val (.int (Int32.ofNat len)), .val (.int (Int32.ofNat i + 1)), .val (.int (cv A (o + i)))] [])) := c8.trans (by
        refine iincV X7.here hexec rfl 1 (hb hbytes d32) (by decide) rfl rfl ?_
        refine iincV X7.here hexec rfl 1 (hb hbytes d35) (by decide) rfl rfl ?_
        refine iincV X7.here hexec rfl 1 (hb hbytes d38) (by decide) rfl rfl ?_
        refine XS.goto X7.here hexec rfl (pc0 := 41) rfl (hb hbytes d41) (by decide) rfl ?_
        exact Steps.refl _)
      have c10 : Steps p.tables e below (s₁.setTop (entryFrame m #[.ref b, .int (Int32.ofNat o), .ref d, .int (Int32.ofNat q), .int (Int32.ofNat len)] 7)) (T7.setTop (mkF m 3 #[.val (.ref b), .val (.int (Int32.ofNat (o + (i + 1)))), .val (.ref d), .val (.int (Int32.ofNat (q + (i + 1)))), .val (.int (Int32.ofNat len)), .val (.int (Int32.ofNat (i + 1))), .val (.int (cv A (o + i)))] [])) := by
        have := c9
        rw [succ32, succ32, succ32] at this
        exact this
      exact ih (i + 1) (by omega) _ (Or.inr ⟨_, rfl, rfl⟩) T7 _ (by rw [copyLocs_step, ← List.append_assoc]; exact X7) (pl.trans p7) (fl.step (by omega) hlt (by simp)) c10
  obtain ⟨T9, B9, z9, X9, p9, f9, g9⟩ := loop len 0 (by omega) .unset (Or.inl rfl) s₁ B (by simpa [copyLocs] using X0) ⟨hB0.1, fun _ _ => rfl, rfl⟩ (Laid.zero _ _ _) c2
  have c11 : Steps p.tables e below (s₁.setTop (entryFrame m #[.ref b, .int (Int32.ofNat o), .ref d, .int (Int32.ofNat q), .int (Int32.ofNat len)] 7)) (T9.setTop (mkF m 46 #[.val (.ref b), .val (.int (Int32.ofNat (o + len))), .val (.ref d), .val (.int (Int32.ofNat (q + len))), .val (.int (Int32.ofNat len)), .val (.int (Int32.ofNat len)), z9] [.int (Int32.ofNat len)])) := g9.trans (by
    refine XS.iload X9.here hexec rfl (hb hbytes d3) rfl ?_
    refine XS.iload X9.here hexec rfl (hb hbytes d5) rfl ?_
    refine XS.icmpYes X9.here hexec rfl (pc0 := 7) rfl (hb hbytes d7) rfl (ii_ge_t (nlt32 (by omega) (Nat.le_refl _))) (by decide) rfl ?_
    refine XS.iload X9.here hexec rfl (hb hbytes d44) rfl ?_
    exact Steps.refl _)
  exact ⟨T9, some (.int (Int32.ofNat len)), _, _, _, X9, by simp, rfl, rfl, (fun h => by cases h), ⟨rfl, B9, p9.from hh0, f9⟩, fun fs hl => c11.trans (X9.ireturnOut hexec hret rfl (Or.inl rfl) (hb hbytes d46) hl)⟩
end Cmp5
namespace Cmp3
def yN : MethodName := ⟨"java/lang/StringUTF16", "compress", "([CII)[B"⟩
abbrev yB : ByteArray := jdk_52_method_16_code
theorem d0 : decode yB 0 = .ok (.iload_n 2, 1) := by decide +kernel
theorem d1 : decode yB 1 = .ok (.newarray .byte, 2) := by decide +kernel
theorem d3 : decode yB 3 = .ok (.astore_n 3, 1) := by decide +kernel
theorem d4 : decode yB 4 = .ok (.aload_n 0, 1) := by decide +kernel
theorem d5 : decode yB 5 = .ok (.iload_n 1, 1) := by decide +kernel
theorem d6 : decode yB 6 = .ok (.aload_n 3, 1) := by decide +kernel
theorem d7 : decode yB 7 = .ok (.iconst 0, 1) := by decide +kernel
theorem d8 : decode yB 8 = .ok (.iload_n 2, 1) := by decide +kernel
theorem d9 : decode yB 9 = .ok (.invokestatic 115, 3) := by decide +kernel
theorem d12 : decode yB 12 = .ok (.istore 4, 2) := by decide +kernel
theorem d14 : decode yB 14 = .ok (.iload 4, 2) := by decide +kernel
theorem d16 : decode yB 16 = .ok (.iload_n 2, 1) := by decide +kernel
theorem d17 : decode yB 17 = .ok (.if_icmp (.eq) 40, 3) := by decide +kernel
theorem d57 : decode yB 57 = .ok (.aload_n 3, 1) := by decide +kernel
theorem d58 : decode yB 58 = .ok (.areturn, 1) := by decide +kernel
def site : List Cond := [.arrayClass .byte, Cmp5.tab] ++ staticW U16 115 Cmp5.yN
def tab : Cond := tabOf yN yB 6 (some (.array .byte)) site
def P (b : Addr) (A : Cell) (o len : Nat) (args : Array Value) (s : State) : Prop := args = #[.ref b, .int (Int32.ofNat o), .int (Int32.ofNat len)] ∧ Ch b A s ∧ o + len ≤ A.slots.size ∧ len ≤ 536870912 ∧ ∀ i, i < len → ¬ 255 < cv A (o + i)
def E (b : Addr) (A : Cell) (o len : Nat) (r : Option Value) (s u : State) : Prop := NewArr .byte "[B" len (fun j => .int (lo8 (cv A (o + j)))) r s u ∧ u.heap.size = s.heap.size + 1
/-- no char of the range above 255: a new byte[] of their low bytes -/
theorem law (l : Launch) (b : Addr) (A : Cell) (o len : Nat) : Law l yN 3 3 1 18 yB 6 (some (.array .byte)) site (P b A o len) (E b A o len) [] 1 len := by
  refine Law.of_walk (plainFor_of_name (by decide +kernel)) (by decide +kernel) (by decide +kernel) (by decide) (fun _ _ h => by rw [h.1]; rfl) (fun _ U U' hal hh h => ⟨h.1, h.2.1.mv hal hh, h.2.2⟩) (fun r U U' V V' h1 hal h2 h => ⟨NewArr.mv r U U' V V' h1 hal h2 h.1, by rw [h1, h2]; exact h.2⟩) ?_
  intro p e s m args below meth c s₁ X0 hexec hbytes hml hret hlk hnm hown hh0 W hP
  obtain ⟨rfl, hA, l1, l2, hp⟩ := hP
  have a31 := hA.1.2.2.2
  have c1 : Steps p.tables e below (s₁.setTop (entryFrame m #[.ref b, .int (Int32.ofNat o), .int (Int32.ofNat len)] 6)) (s₁.setTop (mkF m 0 #[.val (.ref b), .val (.int (Int32.ofNat o)), .val (.int (Int32.ofNat len)), .unset, .unset, .unset] [])) := entry rfl
  have c2 : Steps p.tables e below (s₁.setTop (entryFrame m #[.ref b, .int (Int32.ofNat o), .int (Int32.ofNat len)] 6)) (s₁.setTop (mkF m 1 #[.val (.ref b), .val (.int (Int32.ofNat o)), .val (.int (Int32.ofNat len)), .unset, .unset, .unset] [.int (Int32.ofNat len)])) := c1.trans (by
    refine XS.iloadN X0.here hexec rfl (hb hbytes d0) rfl ?_
    exact Steps.refl _)
  obtain ⟨T3, B3, X3, ba3, bs3, bv3, bh3, bf3, st3⟩ := X0.anew hexec (atype := .byte) (wk W (.arrayClass .byte)) rfl (by show len * 1 ≤ _; omega) (by omega) (g := (mkF m 1 #[.val (.ref b), .val (.int (Int32.ofNat o)), .val (.int (Int32.ofNat len)), .unset, .unset, .unset] [.int (Int32.ofNat len)])) rfl (hb hbytes d1) (rest := []) rfl (Nat.le_refl _) (by show 0 + len ≤ len; omega)
  rw [hh0] at ba3 st3
  have kp3 : XT.Kept s T3 := (XT.Kept.of_eq hh0).push bh3
  have hA3 := hA.keep X3.warmed.alike (kp3 _ _ hA.1.1)
  have hne : b ≠ s.heap.size := hA.1.ne
  have c4 : Steps p.tables e below (s₁.setTop (entryFrame m #[.ref b, .int (Int32.ofNat o), .int (Int32.ofNat len)] 6)) (T3.setTop (mkF m 3 #[.val (.ref b), .val (.int (Int32.ofNat o)), .val (.int (Int32.ofNat len)), .unset, .unset, .unset] [.ref s.heap.size])) := c2.trans (st3 _ (Steps.refl _))
  have c5 : Steps p.tables e below (s₁.setTop (entryFrame m #[.ref b, .int (Int32.ofNat o), .int (Int32.ofNat len)] 6)) (T3.setTop (mkF m 9 #[.val (.ref b), .val (.int (Int32.ofNat o)), .val (.int (Int32.ofNat len)), .val (.ref s.heap.size), .unset, .unset] [.int (Int32.ofNat len), .int 0, .ref s.heap.size, .int (Int32.ofNat o), .ref b])) := c4.trans (by
    refine XS.astoreN X3.here hexec rfl (hb hbytes d3) rfl rfl rfl ?_
    refine XS.aloadN X3.here hexec rfl (hb hbytes d4) rfl rfl ?_
    refine XS.iloadN X3.here hexec rfl (hb hbytes d5) rfl ?_
    refine XS.aloadN X3.here hexec rfl (hb hbytes d6) rfl rfl ?_
    refine iconstV X3.here hexec rfl 0 (hb hbytes d7) (by decide) ?_
    refine XS.iloadN X3.here hexec rfl (hb hbytes d8) rfl ?_
    exact Steps.refl _)
  obtain ⟨v6, T6, X6, E6, g6⟩ := X3.callS hexec (Cmp5.law l b A s.heap.size B3 o 0 len) hown (wks W (staticW U16 115 Cmp5.yN)) (wk W Cmp5.tab) (W := 0) (Nat.le_of_ble_eq_true rfl) (Nat.le_of_ble_eq_true rfl) (Nat.le_refl _) (by show 0 + len + 0 ≤ len; omega) (g := (mkF m 9 #[.val (.ref b), .val (.int (Int32.ofNat o)), .val (.int (Int32.ofNat len)), .val (.ref s.heap.size), .unset, .unset] [.int (Int32.ofNat len), .int (Int32.ofNat 0), .ref s.heap.size, .int (Int32.ofNat o), .ref b])) rfl (by rw [hml]; rfl) c5 (argsL := [.ref b, .int (Int32.ofNat o), .ref s.heap.size, .int (Int32.ofNat 0), .int (Int32.ofNat len)]) (rest := []) rfl rfl (by show 2 * 0 + 0 ≤ _; decide) (hb hbytes d9) (⟨rfl, hA3, ba3, hne, l1, by rw [bs3]; simp, hp⟩)
  obtain ⟨rfl, B6, p6, f6⟩ := E6
  have c7 : Steps p.tables e below (s₁.setTop (entryFrame m #[.ref b, .int (Int32.ofNat o), .int (Int32.ofNat len)] 6)) (T6.setTop (mkF m 12 #[.val (.ref b), .val (.int (Int32.ofNat o)), .val (.int (Int32.ofNat len)), .val (.ref s.heap.size), .unset, .unset] [.int (Int32.ofNat len)])) := g6
  have c8 : Steps p.tables e below (s₁.setTop (entryFrame m #[.ref b, .int (Int32.ofNat o), .int (Int32.ofNat len)] 6)) (T6.setTop (mkF m 58 #[.val (.ref b), .val (.int (Int32.ofNat o)), .val (.int (Int32.ofNat len)), .val (.ref s.heap.size), .val (.int (Int32.ofNat len)), .unset] [.ref s.heap.size])) := c7.trans (by
    refine XS.istore X6.here hexec rfl (hb hbytes d12) rfl rfl ?_
    refine XS.iload X6.here hexec rfl (hb hbytes d14) rfl ?_
    refine XS.iloadN X6.here hexec rfl (hb hbytes d16) rfl ?_
    refine XS.icmpYes X6.here hexec rfl (pc0 := 17) rfl (hb hbytes d17) rfl (ii_eq_t rfl) (by decide) rfl ?_
    refine XS.aloadN X6.here hexec rfl (hb hbytes d57) rfl rfl ?_
    exact Steps.refl _)
  have X8 := X6.wide (L' := []) (cells' := 1) (slots' := len) (fun x hx hlt => by
    simp only [List.nil_append, copyLocs, List.mem_map, List.mem_range] at hx
    obtain ⟨i, -, rfl⟩ := hx
    exact absurd hlt (Nat.lt_irrefl _)) (Nat.le_refl _) (by omega)
  exact ⟨T6, some (.ref s.heap.size), _, _, _, X8, rfl, rfl, rfl, (fun h => by cases h), ⟨⟨rfl, B6, ba3.like (X3.warmed.alike.symm.trans X6.warmed.alike) p6.1 f6.1 f6.2.1 f6.2.2.1, f6.2.1.trans bv3, by rw [X6.warmed.alike.findClass, f6.1]; exact bf3, by rw [f6.2.2.1, bs3]; simp, fun j hj => by rw [f6.2.2.2 j, if_pos (by omega)]; rfl, kp3.put p6 (Nat.le_refl _)⟩, by rw [p6.2.2, bh3, hh0]; simp⟩, fun fs hl => c8.trans (X8.areturnOut hexec rfl hret rfl (hb hbytes d58) hl)⟩
end Cmp3
namespace CodL
def yN : MethodName := ⟨"java/lang/StringUTF16", "coderFromArrayLen", "([BI)B"⟩
abbrev yB : ByteArray := jdk_52_method_15_code
theorem d0 : decode yB 0 = .ok (.iload_n 1, 1) := by decide +kernel
theorem d1 : decode yB 1 = .ok (.aload_n 0, 1) := by decide +kernel
theorem d2 : decode yB 2 = .ok (.arraylength, 1) := by decide +kernel
theorem d3 : decode yB 3 = .ok (.isub, 1) := by decide +kernel
theorem d4 : decode yB 4 = .ok (.bipush 31, 2) := by decide +kernel
theorem d6 : decode yB 6 = .ok (.iushr, 1) := by decide +kernel
theorem d7 : decode yB 7 = .ok (.i2b, 1) := by decide +kernel
theorem d8 : decode yB 8 = .ok (.ireturn, 1) := by decide +kernel
def site : List Cond := []
def tab : Cond := tabOf yN yB 2 (some .byte) site
def P (d : Addr) (B : Cell) (args : Array Value) (s : State) : Prop := args = #[.ref d, .int (Int32.ofNat B.slots.size)] ∧ Arr .byte d B s
def E (r : Option Value) (s u : State) : Prop := XT.PureE (some (.int 0)) r s u
/-- an array as long as the number of chars: LATIN1 -/
theorem law (l : Launch) (d : Addr) (B : Cell) : Law l yN 2 2 0 0 yB 2 (some .byte) site (P d B) E [] 0 0 := by
  refine Law.of_walk (plainFor_of_name (by decide +kernel)) (by decide +kernel) (by decide +kernel) (by decide) (fun _ _ h => by rw [h.1]; rfl) (fun _ U U' hal hh h => ⟨h.1, h.2.mv hal hh⟩) (fun r U U' V V' h1 hal h2 h => XT.PureE.mv r U U' V V' h1 hal h2 h) ?_
  intro p e s m args below meth c s₁ X0 hexec hbytes hml hret hlk hnm hown hh0 W hP
  obtain ⟨rfl, hB⟩ := hP
  have hB0 := hB.mv X0.warmed.alike hh0
  have c1 : Steps p.tables e below (s₁.setTop (entryFrame m #[.ref d, .int (Int32.ofNat B.slots.size)] 2)) (s₁.setTop (mkF m 0 #[.val (.ref d), .val (.int (Int32.ofNat B.slots.size))] [])) := entry rfl
  have c2 : Steps p.tables e below (s₁.setTop (entryFrame m #[.ref d, .int (Int32.ofNat B.slots.size)] 2)) (s₁.setTop (mkF m 2 #[.val (.ref d), .val (.int (Int32.ofNat B.slots.size))] [.ref d, .int (Int32.ofNat B.slots.size)])) := c1.trans (by
    refine XS.iloadN X0.here hexec rfl (hb hbytes d0) rfl ?_
    refine XS.aloadN X0.here hexec rfl (hb hbytes d1) rfl rfl ?_
    exact Steps.refl _)
  have c3 : Steps p.tables e below (s₁.setTop (entryFrame m #[.ref d, .int (Int32.ofNat B.slots.size)] 2)) (s₁.setTop (mkF m 8 #[.val (.ref d), .val (.int (Int32.ofNat B.slots.size))] [.int (lo8 (ushr (Int32.ofNat B.slots.size - Int32.ofNat B.slots.size) 31))])) := c2.trans (by
    refine X0.alen hexec hB0 rfl rfl (hb hbytes d2) ?_
    refine XS.isub X0.here hexec rfl (hb hbytes d3) rfl ?_
    refine bipushV X0.here hexec rfl 31 (hb hbytes d4) (by decide) ?_
    refine iushr X0.here hexec rfl (hb hbytes d6) rfl ?_
    refine i2b X0.here hexec rfl (hb hbytes d7) rfl ?_
    exact Steps.refl _)
  have e0 : lo8 (ushr (Int32.ofNat B.slots.size - Int32.ofNat B.slots.size) 31) = 0 := by rw [Int32.sub_self]; decide
  rw [e0] at c3
  exact ⟨s₁, some (.int 0), _, _, _, X0, rfl, rfl, rfl, (fun h => by cases h), ⟨rfl, hh0⟩, fun fs hl => c3.trans (X0.ireturnOut hexec hret rfl (Or.inr (Or.inr (Or.inl rfl))) (hb hbytes d8) hl)⟩
end CodL
/-- the String at a is Latin-1 over a new byte[] (the heap's one new cell): the low bytes of the len chars of A from o on; every cell but a is kept -/
def Got (a : Addr) (D : Cell) (fV fC : Field) (A : Cell) (o len : Nat) (r : Option Value) (s u : State) : Prop := r = none ∧ ∃ D' V : Cell, Blank "java/lang/String" a D' u ∧ Same D D' [fV.slot, fC.slot] ∧ D'.slots[fV.slot]? = some (.ref s.heap.size) ∧ D'.slots[fC.slot]? = some (.int 0) ∧ Arr .byte s.heap.size V u ∧ V.vm = .none ∧ u.vm.findClass "[B" = some V.cls ∧ V.slots.size = len ∧ (∀ j, j < len → V.slots[j]? = some (.int (lo8 (cv A (o + j))))) ∧ (∀ (y : Addr) (c : Cell), y ≠ a → s.heap[y]? = some c → u.heap[y]? = some c) ∧ u.heap.size = s.heap.size + 1
theorem Got.mv {a : Addr} {D A : Cell} {fV fC : Field} {o len : Nat} : ∀ r (U U' V V' : State), U'.heap = U.heap → V.vm.Alike V'.vm → V'.heap = V.heap → Got a D fV fC A o len r U V → Got a D fV fC A o len r U' V' :=
  fun r U U' V V' h1 hal h2 ⟨e0, D', X, a1, a2, a3, a4, a5, a6, a7, a8, a9, a10, a11⟩ => ⟨e0, D', X, a1.mv hal h2, a2, by rw [h1]; exact a3, a4, by rw [h1]; exact a5.mv hal h2, a6, by rw [hal.findClass]; exact a7, a8, a9, by rw [h1, h2]; exact a10, by rw [h1, h2]; exact a11⟩
namespace New4
def yN : MethodName := ⟨"java/lang/String", "<init>", "([CIILjava/lang/Void;)V"⟩
abbrev yB : ByteArray := jdk_42_method_149_code
theorem d0 : decode yB 0 = .ok (.aload_n 0, 1) := by decide +kernel
theorem d1 : decode yB 1 = .ok (.invokespecial 1, 3) := by decide +kernel
theorem d4 : decode yB 4 = .ok (.iload_n 3, 1) := by decide +kernel
theorem d5 : decode yB 5 = .ok (.ifCond (.ne) 22, 3) := by decide +kernel
theorem d27 : decode yB 27 = .ok (.getstatic 38, 3) := by decide +kernel
theorem d30 : decode yB 30 = .ok (.ifCond (.eq) 28, 3) := by decide +kernel
theorem d33 : decode yB 33 = .ok (.aload_n 1, 1) := by decide +kernel
theorem d34 : decode yB 34 = .ok (.iload_n 2, 1) := by decide +kernel
theorem d35 : decode yB 35 = .ok (.iload_n 3, 1) := by decide +kernel
theorem d36 : decode yB 36 = .ok (.invokestatic 177, 3) := by decide +kernel
theorem d39 : decode yB 39 = .ok (.astore 5, 2) := by decide +kernel
theorem d41 : decode yB 41 = .ok (.aload_n 0, 1) := by decide +kernel
theorem d42 : decode yB 42 = .ok (.aload 5, 2) := by decide +kernel
theorem d44 : decode yB 44 = .ok (.iload_n 3, 1) := by decide +kernel
theorem d45 : decode yB 45 = .ok (.invokestatic 47, 3) := by decide +kernel
theorem d48 : decode yB 48 = .ok (.putfield 15, 3) := by decide +kernel
theorem d51 : decode yB 51 = .ok (.aload_n 0, 1) := by decide +kernel
theorem d52 : decode yB 52 = .ok (.aload 5, 2) := by decide +kernel
theorem d54 : decode yB 54 = .ok (.putfield 9, 3) := by decide +kernel
theorem d57 : decode yB 57 = .ok (.return_, 1) := by decide +kernel
def site : List Cond := [.fieldLink "java/lang/String" 38 "java/lang/String" "COMPACT_STRINGS" "Z", Cmp3.tab, CodL.tab, .laysFinal "java/lang/String" "java/lang/String" "value" "[B", .fieldLink "java/lang/String" 9 "java/lang/String" "value" "[B", .laysFinal "java/lang/String" "java/lang/String" "coder" "B", .fieldLink "java/lang/String" 15 "java/lang/String" "coder" "B"] ++ objW "java/lang/String" 1 ++ staticW "java/lang/String" 177 Cmp3.yN ++ staticW "java/lang/String" 47 CodL.yN
def tab : Cond := tabOf yN yB 6 none site
def P (a : Addr) (D : Cell) (fV fC : Field) (b : Addr) (A : Cell) (z : Int32) (o len : Nat) (args : Array Value) (s : State) : Prop := args = #[.ref a, .ref b, .int (Int32.ofNat o), .int (Int32.ofNat len), .null] ∧ Blank "java/lang/String" a D s ∧ Found "java/lang/String" "value" "[B" fV s ∧ Found "java/lang/String" "coder" "B" fC s ∧ Ch b A s ∧ StaticIs s "java/lang/String" "COMPACT_STRINGS" "Z" (.int z) ∧ ¬ z = 0 ∧ 0 < len ∧ o + len ≤ A.slots.size ∧ len ≤ 536870912 ∧ ∀ i, i < len → ¬ 255 < cv A (o + i)
def E (a : Addr) (D : Cell) (fV fC : Field) (A : Cell) (o len : Nat) (r : Option Value) (s u : State) : Prop := Got a D fV fC A o len r s u
/-- len > 0, no char of the range above 255: a Latin-1 String of their low bytes -/
theorem law (l : Launch) (a : Addr) (D : Cell) (fV fC : Field) (b : Addr) (A : Cell) (z : Int32) (o len : Nat) : Law l yN 5 4 2 35 yB 6 none site (P a D fV fC b A z o len) (E a D fV fC A o len) [⟨a, fC.slot⟩, ⟨a, fV.slot⟩] 1 len := by
  refine Law.of_walk (plainFor_of_name (by decide +kernel)) (by decide +kernel) (by decide +kernel) (by decide) (fun _ _ h => by rw [h.1]; rfl) (fun _ U U' hal hh h => ⟨h.1, h.2.1.mv hal hh, h.2.2.1.al hal, h.2.2.2.1.al hal, h.2.2.2.2.1.mv hal hh, h.2.2.2.2.2.1.there hal hh, h.2.2.2.2.2.2⟩) (fun r U U' V V' h1 hal h2 h => Got.mv r U U' V V' h1 hal h2 h) ?_
  intro p e s m args below meth c s₁ X0 hexec hbytes hml hret hlk hnm hown hh0 W hP
  obtain ⟨rfl, hB, f1, f2, hA, s1, hz, l0, l1, l2, hp⟩ := hP
  have a31 := hA.1.2.2.2
  have c1 : Steps p.tables e below (s₁.setTop (entryFrame m #[.ref a, .ref b, .int (Int32.ofNat o), .int (Int32.ofNat len), .null] 6)) (s₁.setTop (mkF m 0 #[.val (.ref a), .val (.ref b), .val (.int (Int32.ofNat o)), .val (.int (Int32.ofNat len)), .val .null, .unset] [])) := entry rfl
  have c2 : Steps p.tables e below (s₁.setTop (entryFrame m #[.ref a, .ref b, .int (Int32.ofNat o), .int (Int32.ofNat len), .null] 6)) (s₁.setTop (mkF m 1 #[.val (.ref a), .val (.ref b), .val (.int (Int32.ofNat o)), .val (.int (Int32.ofNat len)), .val .null, .unset] [.ref a])) := c1.trans (by
    refine XS.aloadN X0.here hexec rfl (hb hbytes d0) rfl rfl ?_
    exact Steps.refl _)
  obtain ⟨T3, X3, q3, st3⟩ := X0.oinit hexec hown (wks W (objW "java/lang/String" 1)) (g := (mkF m 1 #[.val (.ref a), .val (.ref b), .val (.int (Int32.ofNat o)), .val (.int (Int32.ofNat len)), .val .null, .unset] [.ref a])) rfl (by rw [hml]; rfl) (rest := []) rfl (hb hbytes d1) (W := 0) (by show 2 * 0 + 0 ≤ _; decide) (Nat.le_of_ble_eq_true rfl) (Nat.le_of_ble_eq_true rfl)
  have hh3 := q3.trans hh0
  have c4 : Steps p.tables e below (s₁.setTop (entryFrame m #[.ref a, .ref b, .int (Int32.ofNat o), .int (Int32.ofNat len), .null] 6)) (T3.setTop (mkF m 27 #[.val (.ref a), .val (.ref b), .val (.int (Int32.ofNat o)), .val (.int (Int32.ofNat len)), .val .null, .unset] [])) := (c2.trans (st3 _ (Steps.refl _))).trans (by
    refine XS.iloadN X3.here hexec rfl (hb hbytes d4) rfl ?_
    refine XS.ifYes X3.here hexec rfl (pc0 := 5) rfl (hb hbytes d5) rfl (i0_ne_t (nz32 (by omega) l0)) (by decide) rfl ?_
    exact Steps.refl _)
  obtain ⟨T5, X5, q5, st5⟩ := X3.sget hexec hown (wk W (.fieldLink "java/lang/String" 38 "java/lang/String" "COMPACT_STRINGS" "Z")) s1 (fun _ _ h => by rw [hh3]; exact h) (g := (mkF m 27 #[.val (.ref a), .val (.ref b), .val (.int (Int32.ofNat o)), .val (.int (Int32.ofNat len)), .val .null, .unset] [])) rfl (hb hbytes d27)
  have hh5 := q5.trans hh3
  have c6 : Steps p.tables e below (s₁.setTop (entryFrame m #[.ref a, .ref b, .int (Int32.ofNat o), .int (Int32.ofNat len), .null] 6)) (T5.setTop (mkF m 30 #[.val (.ref a), .val (.ref b), .val (.int (Int32.ofNat o)), .val (.int (Int32.ofNat len)), .val .null, .unset] [.int z])) := c4.trans (st5 _ (Steps.refl _))
  have c7 : Steps p.tables e below (s₁.setTop (entryFrame m #[.ref a, .ref b, .int (Int32.ofNat o), .int (Int32.ofNat len), .null] 6)) (T5.setTop (mkF m 36 #[.val (.ref a), .val (.ref b), .val (.int (Int32.ofNat o)), .val (.int (Int32.ofNat len)), .val .null, .unset] [.int (Int32.ofNat len), .int (Int32.ofNat o), .ref b])) := c6.trans (by
    refine XS.ifNo X5.here hexec rfl (hb hbytes d30) rfl (i0_eq_f hz) ?_
    refine XS.aloadN X5.here hexec rfl (hb hbytes d33) rfl rfl ?_
    refine XS.iloadN X5.here hexec rfl (hb hbytes d34) rfl ?_
    refine XS.iloadN X5.here hexec rfl (hb hbytes d35) rfl ?_
    exact Steps.refl _)
  obtain ⟨v8, T8, X8, E8, g8⟩ := X5.callS hexec (Cmp3.law l b A o len) hown (wks W (staticW "java/lang/String" 177 Cmp3.yN)) (wk W Cmp3.tab) (W := 0) (Nat.le_of_ble_eq_true rfl) (Nat.le_of_ble_eq_true rfl) (Nat.le_refl _) (by show 0 + len ≤ len; omega) (g := (mkF m 36 #[.val (.ref a), .val (.ref b), .val (.int (Int32.ofNat o)), .val (.int (Int32.ofNat len)), .val .null, .unset] [.int (Int32.ofNat len), .int (Int32.ofNat o), .ref b])) rfl (by rw [hml]; rfl) c7 (argsL := [.ref b, .int (Int32.ofNat o), .int (Int32.ofNat len)]) (rest := []) rfl rfl (by show 2 * 0 + 0 ≤ _; decide) (hb hbytes d36) (⟨rfl, hA.mv X5.warmed.alike hh5, l1, l2, hp⟩)
  obtain ⟨e8, z8⟩ := E8
  obtain ⟨rfl, N, n1, n2, n3, n4, n5, n6⟩ := NewArr.mv _ T5 s _ _ hh5.symm (Vm.Alike.refl _) rfl e8
  rw [hh5] at z8
  have hB1 := hB.keep X8.warmed.alike (n6 _ _ hB.1)
  have hne : s.heap.size ≠ a := (Nat.ne_of_lt (Array.getElem?_eq_some_iff.mp hB.1).1).symm
  have c9 : Steps p.tables e below (s₁.setTop (entryFrame m #[.ref a, .ref b, .int (Int32.ofNat o), .int (Int32.ofNat len), .null] 6)) (T8.setTop (mkF m 39 #[.val (.ref a), .val (.ref b), .val (.int (Int32.ofNat o)), .val (.int (Int32.ofNat len)), .val .null, .unset] [.ref s.heap.size])) := g8
  have c10 : Steps p.tables e below (s₁.setTop (entryFrame m #[.ref a, .ref b, .int (Int32.ofNat o), .int (Int32.ofNat len), .null] 6)) (T8.setTop (mkF m 45 #[.val (.ref a), .val (.ref b), .val (.int (Int32.ofNat o)), .val (.int (Int32.ofNat len)), .val .null, .val (.ref s.heap.size)] [.int (Int32.ofNat N.slots.size), .ref s.heap.size, .ref a])) := by
    have hc : Steps p.tables e below (s₁.setTop (entryFrame m #[.ref a, .ref b, .int (Int32.ofNat o), .int (Int32.ofNat len), .null] 6)) (T8.setTop (mkF m 45 #[.val (.ref a), .val (.ref b), .val (.int (Int32.ofNat o)), .val (.int (Int32.ofNat len)), .val .null, .val (.ref s.heap.size)] [.int (Int32.ofNat len), .ref s.heap.size, .ref a])) := c9.trans (by
      refine XS.astore X8.here hexec rfl (hb hbytes d39) rfl rfl rfl ?_
      refine XS.aloadN X8.here hexec rfl (hb hbytes d41) rfl rfl ?_
      refine XS.aload X8.here hexec rfl (hb hbytes d42) rfl rfl ?_
      refine XS.iloadN X8.here hexec rfl (hb hbytes d44) rfl ?_
      exact Steps.refl _)
    rw [n4]; exact hc
  obtain ⟨v11, T11, X11, E11, g11⟩ := X8.callS hexec (CodL.law l s.heap.size N) hown (wks W (staticW "java/lang/String" 47 CodL.yN)) (wk W CodL.tab) (W := 1) (Nat.le_of_ble_eq_true rfl) (Nat.le_of_ble_eq_true rfl) (Nat.le_refl _) (by show 0 + len + 0 ≤ len; omega) (g := (mkF m 45 #[.val (.ref a), .val (.ref b), .val (.int (Int32.ofNat o)), .val (.int (Int32.ofNat len)), .val .null, .val (.ref s.heap.size)] [.int (Int32.ofNat N.slots.size), .ref s.heap.size, .ref a])) rfl (by rw [hml]; rfl) c10 (argsL := [.ref s.heap.size, .int (Int32.ofNat N.slots.size)]) (rest := [.ref a]) rfl rfl (by show 2 * 0 + (1 + 0) ≤ _; decide) (hb hbytes d45) (⟨rfl, n1⟩)
  obtain ⟨rfl, q11⟩ := E11
  have hB11 := hB1.mv (X8.warmed.alike.symm.trans X11.warmed.alike) q11
  have c12 : Steps p.tables e below (s₁.setTop (entryFrame m #[.ref a, .ref b, .int (Int32.ofNat o), .int (Int32.ofNat len), .null] 6)) (T11.setTop (mkF m 48 #[.val (.ref a), .val (.ref b), .val (.int (Int32.ofNat o)), .val (.int (Int32.ofNat len)), .val .null, .val (.ref s.heap.size)] [.int 0, .ref a])) := g11
  obtain ⟨T13, X13, p13, bl13, sl13, st13⟩ := X11.finit hexec hown (wk W (.fieldLink "java/lang/String" 15 "java/lang/String" "coder" "B")) (Or.inr ⟨_, (wk W (.laysFinal "java/lang/String" "java/lang/String" "coder" "B"))⟩) (Or.inl ⟨rfl, hnm⟩) f2 (Or.inl rfl) hB11 (t := .byte) (by decide +kernel) rfl (g := (mkF m 48 #[.val (.ref a), .val (.ref b), .val (.int (Int32.ofNat o)), .val (.int (Int32.ofNat len)), .val .null, .val (.ref s.heap.size)] [.int 0, .ref a])) rfl (rest := []) rfl (hb hbytes d48)
  have c14 : Steps p.tables e below (s₁.setTop (entryFrame m #[.ref a, .ref b, .int (Int32.ofNat o), .int (Int32.ofNat len), .null] 6)) (T13.setTop (mkF m 54 #[.val (.ref a), .val (.ref b), .val (.int (Int32.ofNat o)), .val (.int (Int32.ofNat len)), .val .null, .val (.ref s.heap.size)] [.ref s.heap.size, .ref a])) := (c12.trans (st13 _ (Steps.refl _))).trans (by
    refine XS.aloadN X13.here hexec rfl (hb hbytes d51) rfl rfl ?_
    refine XS.aload X13.here hexec rfl (hb hbytes d52) rfl rfl ?_
    exact Steps.refl _)
  obtain ⟨T15, X15, p15, bl15, sl15, st15⟩ := X13.finit hexec hown (wk W (.fieldLink "java/lang/String" 9 "java/lang/String" "value" "[B")) (Or.inr ⟨_, (wk W (.laysFinal "java/lang/String" "java/lang/String" "value" "[B"))⟩) (Or.inl ⟨rfl, hnm⟩) f1 (Or.inl rfl) bl13 (t := (.array .byte)) (by decide +kernel) rfl (g := (mkF m 54 #[.val (.ref a), .val (.ref b), .val (.int (Int32.ofNat o)), .val (.int (Int32.ofNat len)), .val .null, .val (.ref s.heap.size)] [.ref s.heap.size, .ref a])) rfl (rest := []) rfl (hb hbytes d54)
  have c16 : Steps p.tables e below (s₁.setTop (entryFrame m #[.ref a, .ref b, .int (Int32.ofNat o), .int (Int32.ofNat len), .null] 6)) (T15.setTop (mkF m 57 #[.val (.ref a), .val (.ref b), .val (.int (Int32.ofNat o)), .val (.int (Int32.ofNat len)), .val .null, .val (.ref s.heap.size)] [])) := c14.trans (st15 _ (Steps.refl _))
  have ap := apart (Or.inr ⟨_, (wk W (.laysFinal "java/lang/String" "java/lang/String" "value" "[B"))⟩) (Or.inr ⟨_, (wk W (.laysFinal "java/lang/String" "java/lang/String" "coder" "B"))⟩) f1 f2 (t₁ := .array .byte) (t₂ := .byte) (by decide +kernel) (by decide +kernel) (by decide)
  have al := X8.warmed.alike.symm.trans X15.warmed.alike
  have n7 : T11.heap[s.heap.size]? = some N := by rw [q11]; exact n1.1
  exact ⟨T15, none, _, _, _, X15, by simp, rfl, by omega, (fun _ => rfl), ⟨rfl, _, N, bl15, ((Same.refl D _).set _ (by simp)).set _ (by simp), sl15, (Cell.slots_setSlot_ne _ ap).trans sl13, n1.keep al (p15.other hne (p13.other hne n7)), n2, by rw [al.findClass]; exact n3, n4, n5, fun y c h1 h2 => p15.other h1 (p13.other h1 (by rw [q11]; exact n6 y c h2)), by rw [p15.2.2, p13.2.2, q11]; exact z8⟩, fun fs hl => c16.trans (X15.returnOut hexec hret (hb hbytes d57) hl)⟩
end New4
namespace New1
def yN : MethodName := ⟨"java/lang/String", "<init>", "([C)V"⟩
abbrev yB : ByteArray := jdk_42_method_3_code
theorem d0 : decode yB 0 = .ok (.aload_n 0, 1) := by decide +kernel
theorem d1 : decode yB 1 = .ok (.aload_n 1, 1) := by decide +kernel
theorem d2 : decode yB 2 = .ok (.iconst 0, 1) := by decide +kernel
theorem d3 : decode yB 3 = .ok (.aload_n 1, 1) := by decide +kernel
theorem d4 : decode yB 4 = .ok (.arraylength, 1) := by decide +kernel
theorem d5 : decode yB 5 = .ok (.aconst_null, 1) := by decide +kernel
theorem d6 : decode yB 6 = .ok (.invokespecial 27, 3) := by decide +kernel
theorem d9 : decode yB 9 = .ok (.return_, 1) := by decide +kernel
def site : List Cond := [New4.tab] ++ initW "java/lang/String" 27 New4.yN
def tab : Cond := tabOf yN yB 2 none site
def P (a : Addr) (D : Cell) (fV fC : Field) (b : Addr) (A : Cell) (z : Int32) (args : Array Value) (s : State) : Prop := args = #[.ref a, .ref b] ∧ Blank "java/lang/String" a D s ∧ Found "java/lang/String" "value" "[B" fV s ∧ Found "java/lang/String" "coder" "B" fC s ∧ Ch b A s ∧ StaticIs s "java/lang/String" "COMPACT_STRINGS" "Z" (.int z) ∧ ¬ z = 0 ∧ 0 < A.slots.size ∧ A.slots.size ≤ 536870912 ∧ ∀ i, i < A.slots.size → ¬ 255 < cv A i
def E (a : Addr) (D : Cell) (fV fC : Field) (A : Cell) (r : Option Value) (s u : State) : Prop := Got a D fV fC A 0 A.slots.size r s u
/-- new String(chars), not empty, no char above 255: a Latin-1 String of their low bytes -/
theorem law (l : Launch) (a : Addr) (D : Cell) (fV fC : Field) (b : Addr) (A : Cell) (z : Int32) : Law l yN 2 1 3 52 yB 2 none site (P a D fV fC b A z) (E a D fV fC A) [⟨a, fC.slot⟩, ⟨a, fV.slot⟩] 1 A.slots.size := by
  refine Law.of_walk (plainFor_of_name (by decide +kernel)) (by decide +kernel) (by decide +kernel) (by decide) (fun _ _ h => by rw [h.1]; rfl) (fun _ U U' hal hh h => ⟨h.1, h.2.1.mv hal hh, h.2.2.1.al hal, h.2.2.2.1.al hal, h.2.2.2.2.1.mv hal hh, h.2.2.2.2.2.1.there hal hh, h.2.2.2.2.2.2⟩) (fun r U U' V V' h1 hal h2 h => Got.mv r U U' V V' h1 hal h2 h) ?_
  intro p e s m args below meth c s₁ X0 hexec hbytes hml hret hlk hnm hown hh0 W hP
  obtain ⟨rfl, hB, f1, f2, hA, s1, hz, l0, l2, hp⟩ := hP
  have c1 : Steps p.tables e below (s₁.setTop (entryFrame m #[.ref a, .ref b] 2)) (s₁.setTop (mkF m 0 #[.val (.ref a), .val (.ref b)] [])) := entry rfl
  have c2 : Steps p.tables e below (s₁.setTop (entryFrame m #[.ref a, .ref b] 2)) (s₁.setTop (mkF m 6 #[.val (.ref a), .val (.ref b)] [.null, .int (Int32.ofNat A.slots.size), .int 0, .ref b, .ref a])) := c1.trans (by
    refine XS.aloadN X0.here hexec rfl (hb hbytes d0) rfl rfl ?_
    refine XS.aloadN X0.here hexec rfl (hb hbytes d1) rfl rfl ?_
    refine iconstV X0.here hexec rfl 0 (hb hbytes d2) (by decide) ?_
    refine XS.aloadN X0.here hexec rfl (hb hbytes d3) rfl rfl ?_
    refine X0.alen hexec (hA.1.mv X0.warmed.alike hh0) rfl rfl (hb hbytes d4) ?_
    refine XS.aconstNull X0.here hexec rfl (hb hbytes d5) ?_
    exact Steps.refl _)
  obtain ⟨v3, T3, X3, E3, g3⟩ := X0.callN hexec (New4.law l a D fV fC b A z 0 A.slots.size) rfl hown (wks W (initW "java/lang/String" 27 New4.yN)) (W New4.tab (by simp only [site, List.mem_cons, List.mem_append, true_or, or_true])) (W := 0) (Nat.le_of_ble_eq_true rfl) (Nat.le_of_ble_eq_true rfl) (Nat.le_refl _) (by show 0 + A.slots.size ≤ A.slots.size; omega) (g := (mkF m 6 #[.val (.ref a), .val (.ref b)] [.null, .int (Int32.ofNat A.slots.size), .int (Int32.ofNat 0), .ref b, .ref a])) rfl (by rw [hml]; rfl) c2 (argsL := [.ref b, .int (Int32.ofNat 0), .int (Int32.ofNat A.slots.size), .null]) (rest := []) rfl rfl (by show 2 * 0 + 0 ≤ _; decide) (hb hbytes d6) (⟨rfl, hB.mv X0.warmed.alike hh0, f1.al X0.warmed.alike, f2.al X0.warmed.alike, hA.mv X0.warmed.alike hh0, s1.there X0.warmed.alike hh0, hz, l0, by omega, l2, fun i hi => by rw [Nat.zero_add]; exact hp i hi⟩)
  have e0 := Got.mv _ s₁ s _ _ hh0.symm (Vm.Alike.refl _) rfl E3
  obtain rfl := e0.1
  have c4 : Steps p.tables e below (s₁.setTop (entryFrame m #[.ref a, .ref b] 2)) (T3.setTop (mkF m 9 #[.val (.ref a), .val (.ref b)] [])) := g3
  exact ⟨T3, none, _, _, _, X3, by simp, rfl, by omega, (fun _ => rfl), e0, fun fs hl => c4.trans (X3.returnOut hexec hret (hb hbytes d9) hl)⟩
theorem pays {l : Launch} {R : Room} {p : Program} {e : Env} {below : List Frame} {s : State} {sargs : Array Value} {len W : Nat} (a : Addr) (D : Cell) (fV fC : Field) (b : Addr) (A : Cell) (z : Int32) (htab : tab.before sargs s = true) (hfr : 4 ≤ R.frames) (hlo : W + 65 ≤ R.locals) :
    Back l R p e below s sargs yN len W (fun A₁ a₁ => A₁.cells + 1 ≤ R.cells ∧ A₁.slots + A.slots.size ≤ R.slots ∧ P a D fV fC b A z a₁ A₁.U) (fun A₁ _ v₁ B₁ => E a D fV fC A v₁ A₁.U B₁.U ∧ B₁.locs = A₁.locs ++ [⟨a, fC.slot⟩, ⟨a, fV.slot⟩] ∧ B₁.cells = A₁.cells + 1 ∧ B₁.slots = A₁.slots + A.slots.size) :=
  (law l a D fV fC b A z).pays htab hfr (by omega)
end New1
/-- the byte, read back as charAt reads it, is the char -/
theorem lo8_mask {x : Int32} (h0 : ¬ x < 0) (h1 : ¬ 255 < x) : lo8 x &&& 255 = x := by
  have t : ∀ k : Fin 256, lo8 (Int32.ofNat k.val) &&& 255 = Int32.ofNat k.val := by decide +kernel
  rw [Int32.lt_iff_toInt_lt] at h0 h1
  have e0 : (0 : Int32).toInt = 0 := rfl
  have e1 : (255 : Int32).toInt = 255 := rfl
  obtain ⟨k, hk⟩ : ∃ k : Nat, x.toInt = k := ⟨x.toInt.toNat, by omega⟩
  have hx : x = Int32.ofNat k := Int32.toInt_inj.mp (by rw [hk, Int32.toInt_ofNat_small (by omega)])
  rw [hx]
  exact t ⟨k, by omega⟩
end StrChars
namespace StrChars.Road
open Jvm Sem ClassFile Op Lib Jvm.Stand Jvm.Free Jvm.Free.XT
open Jvm.Lib.Cold (StaticIs)
abbrev ST : String := "java/lang/String"
/-- every table word that New1's law asks, flat -/
abbrev words : List Jvm.Cond := [.code New1.yN New1.yB 2 none, .initialized ST, .methodLink ST 27 New4.yN, .instanceMethod New4.yN,
  .code New4.yN New4.yB 6 none, .fieldLink ST 38 ST "COMPACT_STRINGS" "Z", .laysFinal ST ST "value" "[B", .fieldLink ST 9 ST "value" "[B", .laysFinal ST ST "coder" "B", .fieldLink ST 15 ST "coder" "B",
  .methodLink ST 1 Lib.objectInit, .instanceMethod Lib.objectInit, .code Lib.objectInit ⟨#[0xb1]⟩ 1 none, .methodLink ST 177 Cmp3.yN, .static Cmp3.yN, .methodLink ST 47 CodL.yN, .static CodL.yN,
  .code Cmp3.yN Cmp3.yB 6 (some (.array .byte)), .initialized U16, .arrayClass .byte, .methodLink U16 115 Cmp5.yN, .static Cmp5.yN, .code Cmp5.yN Cmp5.yB 7 (some .int), .code CodL.yN CodL.yB 2 (some .byte)]
theorem tab_of {a : Array Value} {s : State} (h : ∀ w ∈ words, w.before a s = true) : New1.tab.before a s = true := by
  have h5 : Cmp5.tab.before a s = true := unparts (wk h (.code Cmp5.yN Cmp5.yB 7 (some .int))) (wks h (.initialized Cmp5.yN.cls :: Cmp5.site))
  have hc : CodL.tab.before a s = true := unparts (wk h (.code CodL.yN CodL.yB 2 (some .byte))) (wks h (.initialized CodL.yN.cls :: CodL.site))
  have q5 : ∀ w ∈ Cmp5.tab :: words, w.before a s = true := fun w hw => (List.mem_cons.mp hw).elim (fun e => e ▸ h5) (h w)
  have h3 : Cmp3.tab.before a s = true := unparts (wk q5 (.code Cmp3.yN Cmp3.yB 6 (some (.array .byte)))) (wks q5 (.initialized Cmp3.yN.cls :: Cmp3.site))
  have q3 : ∀ w ∈ Cmp3.tab :: CodL.tab :: words, w.before a s = true := fun w hw => (List.mem_cons.mp hw).elim (fun e => e ▸ h3) fun hw => (List.mem_cons.mp hw).elim (fun e => e ▸ hc) (h w)
  have h4 : New4.tab.before a s = true := unparts (wk q3 (.code New4.yN New4.yB 6 none)) (wks q3 (.initialized New4.yN.cls :: New4.site))
  have q4 : ∀ w ∈ New4.tab :: words, w.before a s = true := fun w hw => (List.mem_cons.mp hw).elim (fun e => e ▸ h4) (h w)
  exact unparts (wk q4 (.code New1.yN New1.yB 2 none)) (wks q4 (.initialized New1.yN.cls :: New1.site))
/-- the words ride from the start Z to the walk's own state -/
theorem moved {Z s : State} {a0 args : Array Value} (hZ : Z.Warmed39 s.vm) (hw : ∀ d ∈ words, d.before a0 Z = true) : ∀ d ∈ words, d.before args s = true := fun d hd => by
  have q := hw d hd
  have t : ∀ d ∈ words, d = .arrayClass .byte ∨ (d.onTables && d.keepsFace) = true := by decide +kernel
  rcases t d hd with rfl | t
  · exact RoadKit.mvA hZ q
  · exact RoadKit.mv hZ q t
/-- WHAT COMES BACK, over the tables of the start Z: h the heap at the call, h' behind it -/
def Q (Z : State) (x : Addr) (A : Cell) (h : Heap) (v : Option Value) (h' : Heap) (L : List Loc) : Prop := v = none ∧ (∀ y ∈ L, y.base = x) ∧ RoadKit.Keep h h' [x] ∧ h'.size = h.size + 1 ∧ RoadKit.Exa Z h' x ST ∧ RoadKit.Fld Z h' x ST "value" "[B" (.ref h.size) ∧ RoadKit.Fld Z h' x ST "coder" "B" (.int 0) ∧
  (∃ V : Cell, RoadKit.Arr Z h' h.size V .byte ∧ V.vm = .none ∧ Z.vm.findClass "[B" = some V.cls ∧ V.slots.size = A.slots.size ∧ ∀ j, j < A.slots.size → V.slots[j]? = some (.int (lo8 (cv A j)))) ∧
  ∀ (O n d : String) (w : Value), RoadKit.Fld Z h x O n d w → RoadKit.slotOf Z O n d ≠ RoadKit.slotOf Z ST "value" "[B" → RoadKit.slotOf Z O n d ≠ RoadKit.slotOf Z ST "coder" "B" → RoadKit.Fld Z h' x O n d w
/-- **new String(chars) AT A CALL, IN THE ROAD'S FORM**: for specialBack behind newO: x the fresh String, b the char[] with the cell A -/
theorem back {p : Program} {l : Launch} {e : Env} {R : Room} {s : State} {args : Array Value} {below : List Frame} {len W : Nat} {Z : State} {a0 : Array Value} {h : Heap} (hZ : Z.Warmed39 s.vm) (hw : ∀ d ∈ words, d.before a0 Z = true) {kI : Nat} (wi : (Jvm.Cond.instantiable ST kI).before a0 Z = true)
    {x b : Addr} {A : Cell} {z : Int32} {v0 c0 : Value} (E : RoadKit.Exa Z h x ST) (V : RoadKit.Fld Z h x ST "value" "[B" v0) (C : RoadKit.Fld Z h x ST "coder" "B" c0) (K : RoadKit.Arr Z h b A .char) (hty : Typed .char A) (S : RoadKit.Sta Z h ST "COMPACT_STRINGS" "Z" (.int z)) (hz : ¬ z = 0)
    (l0 : 0 < A.slots.size) (l2 : A.slots.size ≤ 536870912) (hp : ∀ i, i < A.slots.size → ¬ 255 < cv A i) (hfr : 4 ≤ R.frames) (hlo : W + 65 ≤ R.locals) :
    Back l R p e below s args New1.yN len W (fun P a => a = #[.ref x, .ref b] ∧ P.U.heap = h ∧ P.cells + 1 ≤ R.cells ∧ P.slots + A.slots.size ≤ R.slots)
      (fun P _ v B => ∃ L, Q Z x A h v B.U.heap L ∧ B.locs = P.locs ++ L ∧ B.cells = P.cells + 1 ∧ B.slots = P.slots + A.slots.size) := by
  intro m meth c P g ig mk a X hg hsize hdg hW hn hp'
  obtain ⟨rfl, rfl, r1, r2⟩ := hp'
  have al : Z.vm.Alike P.U.vm := hZ.alike.trans X.warmed.alike
  obtain ⟨D, cfV, kV, iV, fV, hD, gV, stV, knV, obV, asV, slV⟩ := id V
  obtain ⟨D', cfC, kC, iC, fC, hD', gC, stC, -, -, asC, slC⟩ := id C
  cases hD.symm.trans hD'
  obtain ⟨D2, kD, e1, e2, e3, e4, e5⟩ := id E
  cases hD.symm.trans e1
  obtain ⟨c2, k2, i1, i2, i3, -⟩ := Cond.instantiable_spec wi
  cases e2.symm.trans i1
  cases e3.symm.trans i2
  obtain ⟨kU, u1, u2⟩ := al.2.2 _ _ e3
  have hB : Blank ST x D P.U := ⟨hD, ⟨knV, fun q hq => by rw [hq] at obV; cases obV⟩, by rw [al.findClass]; exact e2, kU, u1, by rw [u2]; exact i3, by rw [u2]; exact e5 i3⟩
  have F1 : Found ST "value" "[B" fV P.U := ⟨SBG.found_only al ⟨cfV, kV, iV, gV⟩, stV⟩
  have F2 : Found ST "coder" "B" fC P.U := ⟨SBG.found_only al ⟨cfC, kC, iC, gC⟩, stC⟩
  have hA : Ch b A P.U := ⟨⟨K.1, State.isArrayOf_alike al K.2.1, K.2.2, by omega⟩, hty⟩
  have hS : StaticIs P.U ST "COMPACT_STRINGS" "Z" (.int z) := by
    obtain ⟨cfS, iS, kS, fS, st, cS, t1, t2, t3, t4, t5, t6, t7⟩ := S
    exact StaticIs.there (s := { Z with heap := P.U.heap }) ⟨cfS, iS, kS, fS, st, cS, t1, t2, t3, t4, t5, (fun q => by rw [q] at t6; cases t6), t7⟩ al rfl
  obtain ⟨v, B, X', ⟨⟨hv, E', V', q1, q2, q3, q4, q5, q6, q7, q8, q9, q10, q11⟩, hl, hc, hs⟩, st⟩ := New1.pays x D fV fC b A z (tab_of (moved hZ hw)) hfr hlo m meth c P g ig mk _ X hg hsize hdg hW hn ⟨r1, r2, rfl, hB, F1, F2, hA, hS, hz, l0, l2, hp⟩
  have al' : Z.vm.Alike B.U.vm := hZ.alike.trans X'.warmed.alike
  have hsz : E'.slots.size = D.slots.size := by
    obtain ⟨-, -, -, kB, w1, w2, w3⟩ := q1
    obtain ⟨kB', y1, y2⟩ := al'.2.2 _ _ e3
    rw [q2.2.1] at w1
    cases w1.symm.trans y1
    rw [w3, e5 i3, y2]
  refine ⟨v, B, X', ⟨_, ⟨hv, ?_, ⟨by omega, fun y cy hy hn' => q10 y cy (by simpa using hn') hy, fun y cy hy => ?_⟩, q11, ⟨E', _, q1.1, by rw [q2.2.1]; exact e2, by rw [q2.2.1]; exact e3, by rw [q2.1]; exact obV, fun _ => by rw [hsz]; exact e5 i3⟩,
    ⟨E', cfV, kV, iV, fV, q1.1, gV, stV, by rw [q2.1]; exact knV, by rw [q2.1]; exact obV, by rw [q2.2.1]; exact asV, q3⟩, ⟨E', cfC, kC, iC, fC, q1.1, gC, stC, by rw [q2.1]; exact knV, by rw [q2.1]; exact obV, by rw [q2.2.1]; exact asC, q4⟩,
    ⟨V', ⟨q5.1, State.isArrayOf_alike al'.symm q5.2.1, q5.2.2.1⟩, q6, by rw [← al'.findClass]; exact q7, q8, fun j hj => by have := q9 j hj; rwa [Nat.zero_add] at this⟩, fun O n d w F n1 n2 => ?_⟩, hl, hc, hs⟩, st⟩
  · intro y hy
    simp only [List.mem_cons, List.not_mem_nil, or_false] at hy
    rcases hy with rfl | rfl <;> rfl
  · by_cases q : y = x
    · subst q
      cases hD.symm.trans hy
      exact ⟨E', q1.1, q2.2.1, q2.1, hsz⟩
    · exact ⟨cy, q10 y cy q hy, rfl, rfl, rfl⟩
  · obtain ⟨D3, cf, k, i, f, g1, g2, g3, g4, g5, g6, g7⟩ := F
    cases hD.symm.trans g1
    simp only [RoadKit.slotOf, g2, gV, gC, Option.map_some, Option.getD_some] at n1 n2
    exact ⟨E', cf, k, i, f, q1.1, g2, g3, by rw [q2.1]; exact g4, by rw [q2.1]; exact g5, by rw [q2.2.1]; exact g6, by rw [q2.2.2 f.slot (by simp [n1, n2])]; exact g7⟩
end StrChars.Road
namespace StrChars.Road
open Jvm Sem ClassFile Op Lib Jvm.Stand Jvm.Free Jvm.Free.XT
/-- WHAT COMES BACK, the byte[] as a list of values -/
def QA (Z : State) (x : Addr) (zn : Int32) (cs : List Int32) (h : Heap) (v : Option Value) (h' : Heap) (L : List Loc) : Prop := v = none ∧ (∀ y ∈ L, y.base = x) ∧ RoadKit.Keep h h' [x] ∧ h'.size = h.size + 1 ∧ RoadKit.Exa Z h' x ST ∧ RoadKit.Fld Z h' x ST "value" "[B" (.ref h.size) ∧ RoadKit.Fld Z h' x ST "coder" "B" (.int 0) ∧
  (∃ kb, Z.vm.findClass "[B" = some kb ∧ RoadKit.Arv Z h' h.size kb .byte zn (cs.map fun c => .int (lo8 c)) (.int 0)) ∧
  ∀ (O n d : String) (w : Value), RoadKit.Fld Z h x O n d w → RoadKit.slotOf Z O n d ≠ RoadKit.slotOf Z ST "value" "[B" → RoadKit.slotOf Z O n d ≠ RoadKit.slotOf Z ST "coder" "B" → RoadKit.Fld Z h' x O n d w
/-- **new String(chars) AT A CALL, THE ARRAYS AS LISTS**: the char[] at b holds cs, not empty, no char above 255 -/
theorem backArv {p : Program} {l : Launch} {e : Env} {R : Room} {s : State} {args : Array Value} {below : List Frame} {len W : Nat} {Z : State} {a0 : Array Value} {h : Heap} (hZ : Z.Warmed39 s.vm) (hw : ∀ d ∈ words, d.before a0 Z = true) {kI : Nat} (wi : (Jvm.Cond.instantiable ST kI).before a0 Z = true)
    {x b : Addr} {k : ClassId} {zn z : Int32} {cs : List Int32} {dv v0 c0 : Value} (E : RoadKit.Exa Z h x ST) (V : RoadKit.Fld Z h x ST "value" "[B" v0) (C : RoadKit.Fld Z h x ST "coder" "B" c0) (K : RoadKit.Arv Z h b k .char zn (cs.map Value.int) dv) (S : RoadKit.Sta Z h ST "COMPACT_STRINGS" "Z" (.int z)) (hz : ¬ z = 0)
    (hlen : zn.toNatClampNeg = cs.length) (h0 : 0 < cs.length) (hbig : cs.length ≤ 536870912) (hall : ∀ c ∈ cs, ¬ 255 < c) (hfr : 4 ≤ R.frames) (hlo : W + 65 ≤ R.locals) :
    Back l R p e below s args New1.yN len W (fun P a => a = #[.ref x, .ref b] ∧ P.U.heap = h ∧ P.cells + 1 ≤ R.cells ∧ P.slots + cs.length ≤ R.slots)
      (fun P _ v B => ∃ L, QA Z x zn cs h v B.U.heap L ∧ B.locs = P.locs ++ L ∧ B.cells = P.cells + 1 ∧ B.slots = P.slots + cs.length) := by
  obtain ⟨A, K1, K2, K3, K4, K5, K6⟩ := K
  have e : A.slots.size = cs.length := K3.trans hlen
  have hat : ∀ (i : Nat) (hi : i < cs.length), A.slots[i]? = some (.int cs[i]) := fun i hi => by rw [K5 i (by omega)]; simp [List.getD_eq_getElem?_getD, hi]
  have hcv : ∀ (i : Nat) (hi : i < cs.length), cv A i = cs[i] := fun i hi => by unfold cv; rw [hat i hi]
  have hty : Typed .char A := fun i v hv => by
    have hi : i < A.slots.size := (Array.getElem?_eq_some_iff.mp hv).1
    have q := K5 i hi
    rw [hv] at q
    rw [Option.some.inj q]
    exact K6 i hi
  refine Back.mono (back hZ hw wi E V C K1 hty S hz (by omega) (by omega) (fun i hi => by rw [hcv i (by omega)]; exact hall _ (List.getElem_mem _)) hfr hlo) (fun P a hp => ⟨hp.1, hp.2.1, hp.2.2.1, by rw [e]; exact hp.2.2.2⟩) (fun P a v B hp hq => ?_)
  obtain ⟨L, ⟨q1, q2, q3, q4, q5, q6, q7, ⟨V', v1, v2, v3, v4, v5⟩, q9⟩, hl, hc, hs⟩ := hq
  refine ⟨L, ⟨q1, q2, q3, q4, q5, q6, q7, ⟨V'.cls, v3, V', v1, rfl, by rw [v4, e, hlen], K4, fun i hi => ?_, fun i hi => ?_⟩, q9⟩, hl, hc, by rw [hs, e]⟩
  · have hi' : i < cs.length := by omega
    rw [v5 i (by omega), hcv i hi']; simp [List.getD_eq_getElem?_getD, hi']
  · have hi' : i < cs.length := by omega
    simp only [List.getD_eq_getElem?_getD, List.getElem?_map, List.getElem?_eq_getElem hi', Option.map_some, Option.getD_some]
    exact fits_lo8 _
end StrChars.Road
namespace StrChars.Road
open Jvm Sem ClassFile Op Lib Jvm.Stand Jvm.Free Jvm.Free.XT
/-- WHAT COMES BACK, in the writer's own shape -/
def QV (Z : State) (x : Addr) (N : Int32) (bs : List Int32) (h : Heap) (n0 : Nat) (v : Option Value) (h' : Heap) (L : List Loc) : Prop := v = none ∧ RoadKit.Fr n0 L ∧ RoadKit.Keep h h' [x] ∧ RoadKit.Exa Z h' x ST ∧ RoadKit.Fld Z h' x ST "coder" "B" (.int 0) ∧
  ∃ (t : Addr) (kb : ClassId), n0 ≤ t ∧ h.size ≤ t ∧ ¬ t = x ∧ RoadKit.Fld Z h' x ST "value" "[B" (.ref t) ∧ RoadKit.Arv Z h' t kb .byte N (bs.map Value.int) (.int 0)
/-- **new String(chars) AT A CALL, FOR THE WRITER**: a char[] of n known ints, each 0 to 255 -/
theorem backV {p : Program} {l : Launch} {e : Env} {R : Room} {s : State} {args : Array Value} {below : List Frame} {len W : Nat} {Z : State} {a0 : Array Value} {h : Heap} (hZ : Z.Warmed39 s.vm) (hw : ∀ d ∈ words, d.before a0 Z = true) {kI : Nat} (wi : (Jvm.Cond.instantiable ST kI).before a0 Z = true)
    {x b : Addr} {kC : ClassId} {cs bs : List Int32} {d v0 c0 : Value} {z N : Int32} {n n0 : Nat} (hx0 : n0 ≤ x) (hh0 : n0 ≤ h.size) (E : RoadKit.Exa Z h x ST) (V : RoadKit.Fld Z h x ST "value" "[B" v0) (C : RoadKit.Fld Z h x ST "coder" "B" c0) (K : RoadKit.Arv Z h b kC .char N (cs.map Value.int) d) (S : RoadKit.Sta Z h ST "COMPACT_STRINGS" "Z" (.int z)) (hz : ¬ z = 0)
    (hn : cs.length = n) (hN : N = Int32.ofNat n) (l0 : 0 < n) (l2 : n ≤ 4000) (hp : ∀ c ∈ cs, ¬ c < 0 ∧ ¬ (255 : Int32) < c) (hb : bs = cs.map (fun c => c.toInt8.toInt32)) (hfr : 4 ≤ R.frames) (hlo : W + 65 ≤ R.locals) :
    Back l R p e below s args (⟨"java/lang/String", "<init>", "([C)V"⟩ : MethodName) len W (fun P a => a = #[.ref x, .ref b] ∧ P.U.heap = h ∧ P.cells + 1 ≤ R.cells ∧ P.slots + n ≤ R.slots)
      (fun P _ v B => ∃ L, QV Z x N bs h n0 v B.U.heap L ∧ B.locs = P.locs ++ L ∧ B.cells = P.cells + 1 ∧ B.slots = P.slots + n) := by
  subst hn hN hb
  refine Back.mono (backArv hZ hw wi E V C K S hz (n32 (by omega)) l0 (by omega) (fun c hc => (hp c hc).2) hfr hlo) (fun P a hp => hp) (fun P a v B hp hq => ?_)
  obtain ⟨L, ⟨q1, q2, q3, q4, q5, q6, q7, ⟨kb, v1, v2⟩, q9⟩, hl, hc, hs⟩ := hq
  exact ⟨L, ⟨q1, fun y hy => by rw [q2 y hy]; exact hx0, q3, q5, q7, h.size, kb, hh0, Nat.le_refl _, Nat.ne_of_gt E.lt, q6, by rw [List.map_map]; exact v2⟩, hl, hc, hs⟩
end StrChars.Road
namespace StrChars
open Jvm Sem ClassFile Op Lib Jvm.Stand Jvm.Free.XT Jvm.Free.ALB Jvm.Free.JM Jvm.Free
open Jvm.Lib.Cold (StaticIs)
def hi8 (x : Int32) : Int32 := lo8 (x >>> ((8 : Int32) &&& 31))
/-- what StringUTF16.getChar makes of two bytes -/
def pairCh (u v : Int32) : Int32 := (((u &&& 255) <<< ((0 : Int32) &&& 31)) ||| ((v &&& 255) <<< ((8 : Int32) &&& 31))).toUInt32.toUInt16.toUInt32.toInt32
theorem lo8_and (x : Int32) : (lo8 x &&& 255).toBitVec.toNat = x.toBitVec.toNat % 256 := by
  have h : (lo8 x).toBitVec = (x.toBitVec.signExtend 8).signExtend 32 := by rw [lo8, Int8.toBitVec_toInt32, Int32.toBitVec_toInt8]
  rw [Int32.toBitVec_and, BitVec.toNat_and, h]
  have e : ((x.toBitVec.signExtend 8).signExtend 32).toNat % 256 = x.toBitVec.toNat % 256 := by
    rw [BitVec.toNat_signExtend]
    have hlt := x.toBitVec.isLt
    simp only [BitVec.toNat_setWidth, BitVec.toNat_signExtend]
    split <;> split <;> omega
  rw [← e]
  exact Nat.and_two_pow_sub_one_eq_mod _ 8
theorem pair_says {c : Int32} (h0 : ¬ c < 0) (h1 : ¬ 65535 < c) : pairCh (lo8 c) (hi8 c) = c := by
  rw [Int32.lt_iff_toInt_lt] at h0 h1
  have e0 : (0 : Int32).toInt = 0 := rfl
  have e1 : (65535 : Int32).toInt = 65535 := rfl
  have hc : c.toInt = c.toBitVec.toNat := by
    have := c.toBitVec.isLt
    have e : c.toInt = c.toBitVec.toInt := rfl
    rw [e] at h0 h1
    rw [e]
    rw [BitVec.toInt_eq_toNat_cond] at h0 h1 ⊢
    split at h0 <;> split <;> omega
  have hn : c.toBitVec.toNat < 65536 := by omega
  have a1 := lo8_and c
  have a2 : (hi8 c &&& 255).toBitVec.toNat = c.toBitVec.toNat / 256 := by
    rw [hi8, lo8_and]
    have e : ((8 : Int32) &&& 31) = 8 := by decide
    rw [e, Int32.toBitVec_shiftRight]
    have e2 : ((8 : Int32).toBitVec.smod 32) = 8#32 := by decide
    rw [e2, BitVec.sshiftRight_eq', BitVec.toNat_sshiftRight_of_msb_false (by rw [BitVec.msb_eq_false_iff_two_mul_lt]; omega)]
    show c.toBitVec.toNat >>> 8 % 256 = _
    rw [Nat.shiftRight_eq_div_pow]
    omega
  unfold pairCh
  apply Int32.toBitVec_inj.mp
  apply BitVec.eq_of_toNat_eq
  have f0 : ((0 : Int32) &&& 31) = 0 := by decide
  have f8 : ((8 : Int32) &&& 31) = 8 := by decide
  rw [f0, f8]
  have g : (((lo8 c &&& 255) <<< (0 : Int32)) ||| ((hi8 c &&& 255) <<< (8 : Int32))).toBitVec.toNat = c.toBitVec.toNat := by
    rw [Int32.toBitVec_or, Int32.toBitVec_shiftLeft, Int32.toBitVec_shiftLeft]
    have s0 : ((0 : Int32).toBitVec.smod 32) = 0#32 := by decide
    have s8 : ((8 : Int32).toBitVec.smod 32) = 8#32 := by decide
    rw [s0, s8, BitVec.toNat_or]
    simp only [BitVec.shiftLeft_eq', BitVec.toNat_shiftLeft, a1, a2]
    show (c.toBitVec.toNat % 256) <<< 0 % 2 ^ 32 ||| (c.toBitVec.toNat / 256) <<< 8 % 2 ^ 32 = _
    rw [Nat.shiftLeft_zero, Nat.mod_eq_of_lt (show c.toBitVec.toNat % 256 < 2 ^ 32 by omega), Nat.mod_eq_of_lt (show (c.toBitVec.toNat / 256) <<< 8 < 2 ^ 32 by rw [Nat.shiftLeft_eq]; omega), Nat.or_comm, ← Nat.shiftLeft_add_eq_or_of_lt (by omega), Nat.shiftLeft_eq]
    omega
  show BitVec.toNat (((((lo8 c &&& 255) <<< (0 : Int32)) ||| ((hi8 c &&& 255) <<< (8 : Int32))).toBitVec.setWidth 16).setWidth 32) = _
  rw [BitVec.toNat_setWidth, BitVec.toNat_setWidth, g]
  omega
end StrChars
namespace StrChars
open Jvm Sem ClassFile Op Lib Jvm.Stand Jvm.Free.XT Jvm.Free.ALB Jvm.Free.JM Jvm.Free
open Jvm.Lib.Cold (StaticIs)
/-- the array's cell V codes the n chars f 0 .. f (n - 1) by the coder cd, as the JDK does: coder 1 just where some char is above 255 -/
def Cod (cd : Int32) (n : Nat) (f : Nat → Int32) (V : Cell) : Prop := (cd = 0 ∧ V.slots.size = n ∧ ∀ j, j < n → V.slots[j]? = some (.int (lo8 (f j))) ∧ ¬ 255 < f j) ∨ (cd = 1 ∧ V.slots.size = 2 * n ∧ (∀ j, j < n → V.slots[2 * j]? = some (.int (lo8 (f j))) ∧ V.slots[2 * j + 1]? = some (.int (hi8 (f j)))) ∧ ∃ j, j < n ∧ 255 < f j)
/-- **x is a String of the n chars f 0 .. f (n - 1)**, Latin-1 or UTF-16; its array at t has the cell V -/
def Txt (x t : Addr) (V : Cell) (cd : Int32) (n : Nat) (f : Nat → Int32) (U : State) : Prop := Exact "java/lang/String" x U ∧ Has x "java/lang/String" "value" "[B" (.ref t) U ∧ Has x "java/lang/String" "coder" "B" (.int cd) U ∧ XT.Arr .byte t V U ∧ Cod cd n f V ∧ ∀ j, j < n → ¬ f j < 0 ∧ ¬ 65535 < f j
theorem Txt.mv {x t : Addr} {V : Cell} {cd : Int32} {n : Nat} {f : Nat → Int32} {U U' : State} (h : Txt x t V cd n f U) (hal : U.vm.Alike U'.vm) (hh : U'.heap = U.heap) : Txt x t V cd n f U' := ⟨h.1.mv hal hh, h.2.1.mv hal hh, h.2.2.1.mv hal hh, h.2.2.2.1.mv hal hh, h.2.2.2.2⟩
end StrChars
namespace StrChars.Road
open Jvm Sem ClassFile Op Lib Jvm.Stand Jvm.Free Jvm.Free.XT
open Jvm.Lib.Cold (StaticIs)
theorem consq {a : Array Value} {s : State} {c : Jvm.Cond} {L : List Jvm.Cond} (h0 : c.before a s = true) (h : ∀ w ∈ L, w.before a s = true) : ∀ w ∈ c :: L, w.before a s = true := fun w hw => (List.mem_cons.mp hw).elim (fun e => e ▸ h0) (h w)
/-- the bytes of the chars cs, low before high -/
def wideBytes : List Int32 → List Value
  | [] => []
  | c :: cs => .int (lo8 c) :: .int (hi8 c) :: wideBytes cs
theorem wide_lo (d : Value) : ∀ (cs : List Int32) (j : Nat), j < cs.length → (wideBytes cs).getD (2 * j) d = .int (lo8 (cs.getD j 0))
  | [], j, h => absurd h (Nat.not_lt_zero j)
  | c :: cs, 0, _ => rfl
  | c :: cs, j + 1, h => by
    have q := wide_lo d cs j (by simpa using h)
    rw [show 2 * (j + 1) = 2 * j + 1 + 1 from by omega]
    simpa [wideBytes] using q
theorem wide_hi (d : Value) : ∀ (cs : List Int32) (j : Nat), j < cs.length → (wideBytes cs).getD (2 * j + 1) d = .int (hi8 (cs.getD j 0))
  | [], j, h => absurd h (Nat.not_lt_zero j)
  | c :: cs, 0, _ => rfl
  | c :: cs, j + 1, h => by
    have q := wide_hi d cs j (by simpa using h)
    rw [show 2 * (j + 1) + 1 = 2 * j + 1 + 1 + 1 from by omega]
    simpa [wideBytes] using q
theorem low_at (d : Value) (cs : List Int32) (j : Nat) (h : j < cs.length) : (cs.map fun c => Value.int (lo8 c)).getD j d = .int (lo8 (cs.getD j 0)) := by
  simp [List.getD_eq_getElem?_getD, h]
/-- an array of N2 bytes vs codes the chars cs by the coder cd -/
def CodA (cs : List Int32) (cd N2 : Int32) (vs : List Value) : Prop := (cd = 0 ∧ N2 = Int32.ofNat cs.length ∧ vs = (cs.map fun c => Value.int (lo8 c)) ∧ ∀ c ∈ cs, ¬ 255 < c) ∨ (cd = 1 ∧ N2 = Int32.ofNat (2 * cs.length) ∧ vs = wideBytes cs ∧ ∃ c ∈ cs, 255 < c)
theorem CodA.cod {cs : List Int32} {cd N2 : Int32} {vs : List Value} {V : Cell} (h : CodA cs cd N2 vs) (hn : 2 * cs.length < 2 ^ 31) (hs : V.slots.size = N2.toNatClampNeg) (hv : RoadKit.Has V vs (.int 0)) : Cod cd cs.length (fun j => cs.getD j 0) V := by
  rcases h with ⟨rfl, rfl, rfl, h⟩ | ⟨rfl, rfl, rfl, c, hc, hw⟩
  · rw [n32 (by omega)] at hs
    exact Or.inl ⟨rfl, hs, fun j hj => ⟨by rw [hv j (by omega), low_at _ _ _ hj], by
      have e : cs.getD j 0 = cs[j] := by simp [List.getD_eq_getElem?_getD, hj]
      show ¬ 255 < cs.getD j 0
      rw [e]; exact h _ (List.getElem_mem _)⟩⟩
  · rw [n32 (by omega)] at hs
    obtain ⟨j, hj, rfl⟩ := List.getElem_of_mem hc
    exact Or.inr ⟨rfl, hs, fun j hj => ⟨by rw [hv _ (by omega), wide_lo _ _ _ hj], by rw [hv _ (by omega), wide_hi _ _ _ hj]⟩, j, hj, by
      have e : cs.getD j 0 = cs[j] := by simp [List.getD_eq_getElem?_getD, hj]
      show 255 < cs.getD j 0
      rw [e]; exact hw⟩
/-- an object of exactly java/lang/String, its two fields found: as the laws ask it -/
theorem strObj {Z U : State} {a0 : Array Value} {kI : Nat} (wi : (Jvm.Cond.instantiable ST kI).before a0 Z = true) (al : Z.vm.Alike U.vm) {x : Addr} {v0 c0 : Value} (E : RoadKit.Exa Z U.heap x ST) (V : RoadKit.Fld Z U.heap x ST "value" "[B" v0) (C : RoadKit.Fld Z U.heap x ST "coder" "B" c0) :
    ∃ (D : Cell) (fV fC : Field), Blank ST x D U ∧ Found ST "value" "[B" fV U ∧ Found ST "coder" "B" fC U ∧ D.slots[fV.slot]? = some v0 ∧ D.slots[fC.slot]? = some c0 ∧ RoadKit.slotOf Z ST "value" "[B" = fV.slot ∧ RoadKit.slotOf Z ST "coder" "B" = fC.slot := by
  obtain ⟨D, cfV, kV, iV, fV, hD, gV, stV, knV, obV, asV, slV⟩ := V
  obtain ⟨D', cfC, kC, iC, fC, hD', gC, stC, -, -, asC, slC⟩ := C
  cases hD.symm.trans hD'
  obtain ⟨D2, kD, e1, e2, e3, e4, e5⟩ := E
  cases hD.symm.trans e1
  obtain ⟨c2, k2, i1, i2, i3, -⟩ := Cond.instantiable_spec wi
  cases e2.symm.trans i1
  cases e3.symm.trans i2
  obtain ⟨kU, u1, u2⟩ := al.2.2 _ _ e3
  exact ⟨D, fV, fC, ⟨hD, ⟨knV, fun q hq => by rw [hq] at obV; cases obV⟩, by rw [al.findClass]; exact e2, kU, u1, by rw [u2]; exact i3, by rw [u2]; exact e5 i3⟩, ⟨SBG.found_only al ⟨cfV, kV, iV, gV⟩, stV⟩, ⟨SBG.found_only al ⟨cfC, kC, iC, gC⟩, stC⟩, slV, slC, by simp [RoadKit.slotOf, gV], by simp [RoadKit.slotOf, gC]⟩
theorem sta_is {Z U : State} (al : Z.vm.Alike U.vm) {C n d : String} {v : Value} (S : RoadKit.Sta Z U.heap C n d v) : StaticIs U C n d v := by
  obtain ⟨cfS, iS, kS, fS, st, cS, t1, t2, t3, t4, t5, t6, t7⟩ := S
  exact StaticIs.there (s := { Z with heap := U.heap }) ⟨cfS, iS, kS, fS, st, cS, t1, t2, t3, t4, t5, (fun q => by rw [q] at t6; cases t6), t7⟩ al rfl
end StrChars.Road
namespace StrChars
open Jvm Sem ClassFile Op Lib Jvm.Stand Jvm.Free.XT Jvm.Free.ALB Jvm.Free.JM Jvm.Free
open Jvm.Lib.Cold (StaticIs)
/-- what place i of a byte[]'s cell holds -/
def yv (A : Cell) (i : Nat) : Int32 := match A.slots[i]? with | some (.int x) => x | _ => 0
theorem yv_get {a : Addr} {A : Cell} {U : State} (h : XT.Arr .byte a A U) (ht : Typed .byte A) {i : Nat} (hi : i < A.slots.size) : A.slots[i]? = some (.int (yv A i)) := by
  have e := Array.getElem?_eq_getElem hi
  have f := ht i _ e
  unfold yv; rw [e]
  generalize A.slots[i] = v at f
  cases v <;> simp [fits] at f ⊢
/-- the two arrays are equal, place for place -/
def EqC (A B : Cell) : Prop := A.slots.size = B.slots.size ∧ ∀ i, i < A.slots.size → yv A i = yv B i
/-- a boolean that says whether p -/
def Says01 (q : Prop) (r : Option Value) (s u : State) : Prop := ∃ v : Int32, r = some (.int v) ∧ u.heap = s.heap ∧ ((v = 1 ∧ q) ∨ (v = 0 ∧ ¬ q))
theorem Says01.mv {q : Prop} : ∀ r (U U' V V' : State), U'.heap = U.heap → V.vm.Alike V'.vm → V'.heap = V.heap → Says01 q r U V → Says01 q r U' V' :=
  fun r U U' V V' h1 _ h2 ⟨v, a, b, c⟩ => ⟨v, a, by rw [h1, h2]; exact b, c⟩
namespace LEq
def yN : MethodName := ⟨"java/lang/StringLatin1", "equals", "([B[B)Z"⟩
abbrev yB : ByteArray := jdk_43_method_13_code
theorem d0 : decode yB 0 = .ok (.aload_n 0, 1) := by decide +kernel
theorem d1 : decode yB 1 = .ok (.arraylength, 1) := by decide +kernel
theorem d2 : decode yB 2 = .ok (.aload_n 1, 1) := by decide +kernel
theorem d3 : decode yB 3 = .ok (.arraylength, 1) := by decide +kernel
theorem d4 : decode yB 4 = .ok (.if_icmp (.ne) 30, 3) := by decide +kernel
theorem d7 : decode yB 7 = .ok (.iconst 0, 1) := by decide +kernel
theorem d8 : decode yB 8 = .ok (.istore_n 2, 1) := by decide +kernel
theorem d9 : decode yB 9 = .ok (.iload_n 2, 1) := by decide +kernel
theorem d10 : decode yB 10 = .ok (.aload_n 0, 1) := by decide +kernel
theorem d11 : decode yB 11 = .ok (.arraylength, 1) := by decide +kernel
theorem d12 : decode yB 12 = .ok (.if_icmp (.ge) 20, 3) := by decide +kernel
theorem d15 : decode yB 15 = .ok (.aload_n 0, 1) := by decide +kernel
theorem d16 : decode yB 16 = .ok (.iload_n 2, 1) := by decide +kernel
theorem d17 : decode yB 17 = .ok (.baload, 1) := by decide +kernel
theorem d18 : decode yB 18 = .ok (.aload_n 1, 1) := by decide +kernel
theorem d19 : decode yB 19 = .ok (.iload_n 2, 1) := by decide +kernel
theorem d20 : decode yB 20 = .ok (.baload, 1) := by decide +kernel
theorem d21 : decode yB 21 = .ok (.if_icmp (.eq) 5, 3) := by decide +kernel
theorem d24 : decode yB 24 = .ok (.iconst 0, 1) := by decide +kernel
theorem d25 : decode yB 25 = .ok (.ireturn, 1) := by decide +kernel
theorem d26 : decode yB 26 = .ok (.iinc 2 1, 3) := by decide +kernel
theorem d29 : decode yB 29 = .ok (.goto (-20), 3) := by decide +kernel
theorem d32 : decode yB 32 = .ok (.iconst 1, 1) := by decide +kernel
theorem d33 : decode yB 33 = .ok (.ireturn, 1) := by decide +kernel
theorem d34 : decode yB 34 = .ok (.iconst 0, 1) := by decide +kernel
theorem d35 : decode yB 35 = .ok (.ireturn, 1) := by decide +kernel
def site : List Cond := []
def tab : Cond := tabOf yN yB 3 (some .boolean) site
def P (a : Addr) (A : Cell) (b : Addr) (B : Cell) (args : Array Value) (s : State) : Prop := args = #[.ref a, .ref b] ∧ XT.Arr .byte a A s ∧ Typed .byte A ∧ XT.Arr .byte b B s ∧ Typed .byte B
/-- whether two byte[] are equal, place for place -/
theorem law (l : Launch) (a : Addr) (A : Cell) (b : Addr) (B : Cell) : Law l yN 2 2 0 0 yB 3 (some .boolean) site (P a A b B) (Says01 (EqC A B)) [] 0 0 := by
  refine Law.of_walk (plainFor_of_name (by decide +kernel)) (by decide +kernel) (by decide +kernel) (by decide) (fun _ _ h => by rw [h.1]; rfl) (fun _ U U' hal hh h => ⟨h.1, h.2.1.mv hal hh, h.2.2.1, h.2.2.2.1.mv hal hh, h.2.2.2.2⟩) (fun r U U' V V' h1 hal h2 h => Says01.mv r U U' V V' h1 hal h2 h) ?_
  intro p e s m args below meth c s₁ X0 hexec hbytes hml hret hlk hnm hown hh0 W hP
  obtain ⟨rfl, hA, tA, hB, tB⟩ := hP
  have a31 := hA.2.2.2
  have b31 := hB.2.2.2
  have hA0 := hA.mv X0.warmed.alike hh0
  have hB0 := hB.mv X0.warmed.alike hh0
  have c1 : Steps p.tables e below (s₁.setTop (entryFrame m #[.ref a, .ref b] 3)) (s₁.setTop (mkF m 0 #[.val (.ref a), .val (.ref b), .unset] [])) := entry rfl
  have c2 : Steps p.tables e below (s₁.setTop (entryFrame m #[.ref a, .ref b] 3)) (s₁.setTop (mkF m 4 #[.val (.ref a), .val (.ref b), .unset] [.int (Int32.ofNat B.slots.size), .int (Int32.ofNat A.slots.size)])) := c1.trans (by
    refine XS.aloadN X0.here hexec rfl (hb hbytes d0) rfl rfl ?_
    refine X0.alen hexec hA0 rfl rfl (hb hbytes d1) ?_
    refine XS.aloadN X0.here hexec rfl (hb hbytes d2) rfl rfl ?_
    refine X0.alen hexec hB0 rfl rfl (hb hbytes d3) ?_
    exact Steps.refl _)
  by_cases hs : A.slots.size = B.slots.size
  · have c3 : Steps p.tables e below (s₁.setTop (entryFrame m #[.ref a, .ref b] 3)) (s₁.setTop (mkF m 9 #[.val (.ref a), .val (.ref b), .val (.int 0)] [])) := c2.trans (by
      refine XS.icmpNo X0.here hexec rfl (hb hbytes d4) rfl (ii_ne_f (by rw [hs])) ?_
      refine iconstV X0.here hexec rfl 0 (hb hbytes d7) (by decide) ?_
      refine XS.istoreN X0.here hexec rfl (hb hbytes d8) rfl rfl ?_
      exact Steps.refl _)
    have loop : ∀ (r i : Nat), i + r = A.slots.size → (∀ j, j < i → yv A j = yv B j) → Steps p.tables e below (s₁.setTop (entryFrame m #[.ref a, .ref b] 3)) (s₁.setTop (mkF m 9 #[.val (.ref a), .val (.ref b), .val (.int (Int32.ofNat i))] [])) → ∃ (pc : Nat) (Ls : Array Slot) (v : Int32), (pc = 25 ∨ pc = 33) ∧ ((v = 1 ∧ EqC A B) ∨ (v = 0 ∧ ¬ EqC A B)) ∧ Steps p.tables e below (s₁.setTop (entryFrame m #[.ref a, .ref b] 3)) (s₁.setTop (mkF m pc Ls [.int v])) := by
      intro r
      induction r with
      | zero =>
        intro i hi he cl
        exact ⟨33, _, 1, Or.inr rfl, Or.inl ⟨rfl, hs, fun j hj => he j (by omega)⟩, cl.trans (by
          refine XS.iloadN X0.here hexec rfl (hb hbytes d9) rfl ?_
          refine XS.aloadN X0.here hexec rfl (hb hbytes d10) rfl rfl ?_
          refine X0.alen hexec hA0 rfl rfl (hb hbytes d11) ?_
          refine XS.icmpYes X0.here hexec rfl (pc0 := 12) rfl (hb hbytes d12) rfl (ii_ge_t (nlt32 (by omega) (by omega))) (by decide) rfl ?_
          refine iconstV X0.here hexec rfl 1 (hb hbytes d32) (by decide) ?_
          exact Steps.refl _)⟩
      | succ r ih =>
        intro i hi he cl
        have c4 : Steps p.tables e below (s₁.setTop (entryFrame m #[.ref a, .ref b] 3)) (s₁.setTop (mkF m 21 #[.val (.ref a), .val (.ref b), .val (.int (Int32.ofNat i))] [.int (yv B i), .int (yv A i)])) := cl.trans (by
          refine XS.iloadN X0.here hexec rfl (hb hbytes d9) rfl ?_
          refine XS.aloadN X0.here hexec rfl (hb hbytes d10) rfl rfl ?_
          refine X0.alen hexec hA0 rfl rfl (hb hbytes d11) ?_
          refine XS.icmpNo X0.here hexec rfl (hb hbytes d12) rfl (ii_ge_f (lt32 (by omega) (by omega))) ?_
          refine XS.aloadN X0.here hexec rfl (hb hbytes d15) rfl rfl ?_
          refine XS.iloadN X0.here hexec rfl (hb hbytes d16) rfl ?_
          refine X0.aget hexec hA0 rfl (yv_get hA tA (i := i) (by omega)) rfl rfl (hb hbytes d17) ?_
          refine XS.aloadN X0.here hexec rfl (hb hbytes d18) rfl rfl ?_
          refine XS.iloadN X0.here hexec rfl (hb hbytes d19) rfl ?_
          refine X0.aget hexec hB0 rfl (yv_get hB tB (i := i) (by omega)) rfl rfl (hb hbytes d20) ?_
          exact Steps.refl _)
        by_cases hv : yv A i = yv B i
        · have c5 : Steps p.tables e below (s₁.setTop (entryFrame m #[.ref a, .ref b] 3)) (s₁.setTop (mkF m 9 #[.val (.ref a), .val (.ref b), .val (.int (Int32.ofNat i + 1))] [])) := c4.trans (by
            refine XS.icmpYes X0.here hexec rfl (pc0 := 21) rfl (hb hbytes d21) rfl (ii_eq_t hv) (by decide) rfl ?_
            refine iincV X0.here hexec rfl 1 (hb hbytes d26) (by decide) rfl rfl ?_
            refine XS.goto X0.here hexec rfl (pc0 := 29) rfl (hb hbytes d29) (by decide) rfl ?_
            exact Steps.refl _)
          rw [succ32] at c5
          exact ih (i + 1) (by omega) (fun j hj => by
            by_cases e : j = i
            · rw [e]; exact hv
            · exact he j (by omega)) c5
        · exact ⟨25, _, 0, Or.inl rfl, Or.inr ⟨rfl, fun q => hv (q.2 i (by omega))⟩, c4.trans (by
            refine XS.icmpNo X0.here hexec rfl (hb hbytes d21) rfl (ii_eq_f hv) ?_
            refine iconstV X0.here hexec rfl 0 (hb hbytes d24) (by decide) ?_
            exact Steps.refl _)⟩
    obtain ⟨pc, Ls, v, hpc, hv, cz⟩ := loop A.slots.size 0 (by omega) (fun j hj => absurd hj (Nat.not_lt_zero j)) c3
    have nv : narrow .boolean (.int v) = .int v := by rcases hv with ⟨rfl, -⟩ | ⟨rfl, -⟩ <;> rfl
    rcases hpc with rfl | rfl
    · exact ⟨s₁, some (.int v), _, _, _, X0, rfl, rfl, rfl, (fun h => by cases h), ⟨v, rfl, hh0, hv⟩, fun fs hl => cz.trans (X0.ireturnOut hexec hret nv (Or.inr (Or.inl rfl)) (hb hbytes d25) hl)⟩
    · exact ⟨s₁, some (.int v), _, _, _, X0, rfl, rfl, rfl, (fun h => by cases h), ⟨v, rfl, hh0, hv⟩, fun fs hl => cz.trans (X0.ireturnOut hexec hret nv (Or.inr (Or.inl rfl)) (hb hbytes d33) hl)⟩
  · have c3 : Steps p.tables e below (s₁.setTop (entryFrame m #[.ref a, .ref b] 3)) (s₁.setTop (mkF m 35 #[.val (.ref a), .val (.ref b), .unset] [.int 0])) := c2.trans (by
      refine XS.icmpYes X0.here hexec rfl (pc0 := 4) rfl (hb hbytes d4) rfl (ii_ne_t (ne32 a31 b31 hs)) (by decide) rfl ?_
      refine iconstV X0.here hexec rfl 0 (hb hbytes d34) (by decide) ?_
      exact Steps.refl _)
    exact ⟨s₁, some (.int 0), _, _, _, X0, rfl, rfl, rfl, (fun h => by cases h), ⟨0, rfl, hh0, Or.inr ⟨rfl, fun q => hs q.1⟩⟩, fun fs hl => c3.trans (X0.ireturnOut hexec hret rfl (Or.inr (Or.inl rfl)) (hb hbytes d35) hl)⟩
end LEq
theorem Cod.ty {cd : Int32} {n : Nat} {f : Nat → Int32} {V : Cell} (h : Cod cd n f V) : Typed .byte V := fun i v hv => by
  have hi : i < V.slots.size := (Array.getElem?_eq_some_iff.mp hv).1
  rcases h with ⟨-, k1, k2⟩ | ⟨-, k1, k2, -⟩
  · rw [(k2 i (by omega)).1] at hv; cases hv; exact fits_lo8 _
  · rcases Nat.mod_two_eq_zero_or_one i with e | e
    · obtain ⟨j, rfl⟩ : ∃ j, i = 2 * j := ⟨i / 2, by omega⟩
      rw [(k2 j (by omega)).1] at hv; cases hv; exact fits_lo8 _
    · obtain ⟨j, rfl⟩ : ∃ j, i = 2 * j + 1 := ⟨i / 2, by omega⟩
      rw [(k2 j (by omega)).2] at hv; cases hv; exact fits_lo8 _
/-- the same text -/
def SameT (n : Nat) (f : Nat → Int32) (k : Nat) (g : Nat → Int32) : Prop := n = k ∧ ∀ j, j < n → f j = g j
theorem lo8_inj {x y : Int32} (h0 : ¬ x < 0) (h1 : ¬ 255 < x) (k0 : ¬ y < 0) (k1 : ¬ 255 < y) (h : lo8 x = lo8 y) : x = y := by
  rw [← lo8_mask h0 h1, ← lo8_mask k0 k1, h]
/-- arrays coded by one coder are equal just where the texts are -/
theorem Cod.eqv {cd : Int32} {n k : Nat} {f g : Nat → Int32} {V V' : Cell} (h : Cod cd n f V) (h' : Cod cd k g V') (hf : ∀ j, j < n → ¬ f j < 0 ∧ ¬ 65535 < f j) (hg : ∀ j, j < k → ¬ g j < 0 ∧ ¬ 65535 < g j) : EqC V V' ↔ SameT n f k g := by
  have yvv : ∀ {W : Cell} {i : Nat} {x : Int32}, W.slots[i]? = some (.int x) → yv W i = x := fun q => by unfold yv; rw [q]
  rcases h with ⟨rfl, k1, k2⟩ | ⟨rfl, k1, k2, -⟩
  · rcases h' with ⟨-, m1, m2⟩ | ⟨e, -⟩
    · constructor
      · rintro ⟨e1, e2⟩
        refine ⟨by omega, fun j hj => ?_⟩
        have q := e2 j (by omega)
        rw [yvv (k2 j hj).1, yvv (m2 j (by omega)).1] at q
        exact lo8_inj (hf j hj).1 (k2 j hj).2 (hg j (by omega)).1 (m2 j (by omega)).2 q
      · rintro ⟨rfl, e2⟩
        refine ⟨by omega, fun j hj => ?_⟩
        rw [yvv (k2 j (by omega)).1, yvv (m2 j (by omega)).1, e2 j (by omega)]
    · exact absurd e (by decide)
  · rcases h' with ⟨e, -⟩ | ⟨-, m1, m2, -⟩
    · exact absurd e (by decide)
    · constructor
      · rintro ⟨e1, e2⟩
        refine ⟨by omega, fun j hj => ?_⟩
        have q1 := e2 (2 * j) (by omega)
        have q2 := e2 (2 * j + 1) (by omega)
        rw [yvv (k2 j hj).1, yvv (m2 j (by omega)).1] at q1
        rw [yvv (k2 j hj).2, yvv (m2 j (by omega)).2] at q2
        rw [← pair_says (hf j hj).1 (hf j hj).2, ← pair_says (hg j (by omega)).1 (hg j (by omega)).2, q1, q2]
      · rintro ⟨rfl, e2⟩
        refine ⟨by omega, fun i hi => ?_⟩
        rcases Nat.mod_two_eq_zero_or_one i with e | e
        · obtain ⟨j, rfl⟩ : ∃ j, i = 2 * j := ⟨i / 2, by omega⟩
          rw [yvv (k2 j (by omega)).1, yvv (m2 j (by omega)).1, e2 j (by omega)]
        · obtain ⟨j, rfl⟩ : ∃ j, i = 2 * j + 1 := ⟨i / 2, by omega⟩
          rw [yvv (k2 j (by omega)).2, yvv (m2 j (by omega)).2, e2 j (by omega)]
/-- two codings differ: so do the texts -/
theorem Cod.dif {cd cd' : Int32} {n k : Nat} {f g : Nat → Int32} {V V' : Cell} (h : Cod cd n f V) (h' : Cod cd' k g V') (hne : ¬ cd = cd') : ¬ SameT n f k g := by
  rintro ⟨rfl, e⟩
  rcases h with ⟨rfl, -, k2⟩ | ⟨rfl, -, -, j, hj, hw⟩
  · rcases h' with ⟨rfl, -⟩ | ⟨-, -, -, j, hj, hw⟩
    · exact hne rfl
    · exact (k2 j hj).2 (by rw [e j hj]; exact hw)
  · rcases h' with ⟨-, -, m2⟩ | ⟨rfl, -⟩
    · exact (m2 j hj).2 (by rw [← e j hj]; exact hw)
    · exact hne rfl
/-- an object of exactly C is an instance of C -/
theorem cinst {p : Program} {l : Launch} {e : Env} {R : Room} {s : State} {m : MethodId} {args : Array Value} {below : List Frame} {meth : Method} {c : Code} {T : State} {locs : List Loc} {cells slots : Nat} (X : Stand p l e R s m args below meth c T locs cells slots) (hexec : p.tables.exec = Jvm.exec) {own C : String} {index : Nat} (hown : s.vm.findClass own = some m.cls) (hlink : (Cond.classLink own index C).before args s = true) {a : Addr} (hE : Exact C a T)
    {g : JFrame} (hg : g.method = m) {rest : List Value} (hstack : g.stack = .ref a :: rest) (hdg : decode c.code g.pc = .ok (.instanceof index, 3)) :
    ∃ T', Stand p l e R s m args below meth c T' locs cells slots ∧ T'.heap = T.heap ∧ ∀ target, Steps p.tables e below (T'.setTop { g with pc := g.pc + 3, stack := .int 1 :: rest }) target → Steps p.tables e below (T.setTop g) target := by
  obtain ⟨cB, h1, D, h2, h3, h4⟩ := hE
  have h1' : s.vm.findClass C = some cB := by rw [← X.warmed.alike.findClass]; exact h1
  obtain ⟨vm', X', st⟩ := X.instanceofYes hexec hown hlink h2 h4 h1' (by rw [h3]; exact Jvm.Free.SB.assignable_self _ _) hg hstack hdg
  exact ⟨_, X', rfl, st⟩
theorem cself {p : Program} {l : Launch} {e : Env} {R : Room} {s : State} {m : MethodId} {args : Array Value} {below : List Frame} {meth : Method} {c : Code} {T : State} {locs : List Loc} {cells slots : Nat} (X : Stand p l e R s m args below meth c T locs cells slots) (hexec : p.tables.exec = Jvm.exec) {own C : String} {index : Nat} (hown : s.vm.findClass own = some m.cls) (hlink : (Cond.classLink own index C).before args s = true) {a : Addr} (hE : Exact C a T)
    {g : JFrame} (hg : g.method = m) {rest : List Value} (hstack : g.stack = .ref a :: rest) (hdg : decode c.code g.pc = .ok (.checkcast index, 3)) :
    ∃ T', Stand p l e R s m args below meth c T' locs cells slots ∧ T'.heap = T.heap ∧ ∀ target, Steps p.tables e below (T'.setTop { g with pc := g.pc + 3, stack := .ref a :: rest }) target → Steps p.tables e below (T.setTop g) target := by
  obtain ⟨cB, h1, D, h2, h3, h4⟩ := hE
  have h1' : s.vm.findClass C = some cB := by rw [← X.warmed.alike.findClass]; exact h1
  obtain ⟨vm', X', st⟩ := X.checkcastYes hexec hown hlink h2 h4 h1' (by rw [h3]; exact Jvm.Free.SB.assignable_self _ _) hg hstack hdg
  exact ⟨_, X', rfl, fun t h => st t (by rw [← hstack] at h; exact h)⟩
namespace SEq
def yN : MethodName := ⟨"java/lang/String", "equals", "(Ljava/lang/Object;)Z"⟩
abbrev yB : ByteArray := jdk_42_method_66_code
theorem d0 : decode yB 0 = .ok (.aload_n 0, 1) := by decide +kernel
theorem d1 : decode yB 1 = .ok (.aload_n 1, 1) := by decide +kernel
theorem d2 : decode yB 2 = .ok (.if_acmp (.ne) 5, 3) := by decide +kernel
theorem d5 : decode yB 5 = .ok (.iconst 1, 1) := by decide +kernel
theorem d6 : decode yB 6 = .ok (.ireturn, 1) := by decide +kernel
theorem d7 : decode yB 7 = .ok (.aload_n 1, 1) := by decide +kernel
theorem d8 : decode yB 8 = .ok (.instanceof 10, 3) := by decide +kernel
theorem d11 : decode yB 11 = .ok (.ifCond (.eq) 43, 3) := by decide +kernel
theorem d14 : decode yB 14 = .ok (.aload_n 1, 1) := by decide +kernel
theorem d15 : decode yB 15 = .ok (.checkcast 10, 3) := by decide +kernel
theorem d18 : decode yB 18 = .ok (.astore_n 2, 1) := by decide +kernel
theorem d19 : decode yB 19 = .ok (.getstatic 38, 3) := by decide +kernel
theorem d22 : decode yB 22 = .ok (.ifCond (.eq) 14, 3) := by decide +kernel
theorem d25 : decode yB 25 = .ok (.aload_n 0, 1) := by decide +kernel
theorem d26 : decode yB 26 = .ok (.getfield 15, 3) := by decide +kernel
theorem d29 : decode yB 29 = .ok (.aload_n 2, 1) := by decide +kernel
theorem d30 : decode yB 30 = .ok (.getfield 15, 3) := by decide +kernel
theorem d33 : decode yB 33 = .ok (.if_icmp (.ne) 21, 3) := by decide +kernel
theorem d36 : decode yB 36 = .ok (.aload_n 0, 1) := by decide +kernel
theorem d37 : decode yB 37 = .ok (.getfield 9, 3) := by decide +kernel
theorem d40 : decode yB 40 = .ok (.aload_n 2, 1) := by decide +kernel
theorem d41 : decode yB 41 = .ok (.getfield 9, 3) := by decide +kernel
theorem d44 : decode yB 44 = .ok (.invokestatic 541, 3) := by decide +kernel
theorem d47 : decode yB 47 = .ok (.ifCond (.eq) 7, 3) := by decide +kernel
theorem d50 : decode yB 50 = .ok (.iconst 1, 1) := by decide +kernel
theorem d51 : decode yB 51 = .ok (.goto 4, 3) := by decide +kernel
theorem d54 : decode yB 54 = .ok (.iconst 0, 1) := by decide +kernel
theorem d55 : decode yB 55 = .ok (.ireturn, 1) := by decide +kernel
def site : List Cond := [.classLink "java/lang/String" 10 "java/lang/String", .fieldLink "java/lang/String" 38 "java/lang/String" "COMPACT_STRINGS" "Z", .fieldLink "java/lang/String" 15 "java/lang/String" "coder" "B", .fieldLink "java/lang/String" 9 "java/lang/String" "value" "[B", LEq.tab] ++ staticW "java/lang/String" 541 LEq.yN
def tab : Cond := tabOf yN yB 3 (some .boolean) site
def P (x t : Addr) (V : Cell) (cd : Int32) (n : Nat) (f : Nat → Int32) (y t' : Addr) (V' : Cell) (cd' : Int32) (k : Nat) (g : Nat → Int32) (z : Int32) (args : Array Value) (s : State) : Prop := args = #[.ref x, .ref y] ∧ Txt x t V cd n f s ∧ Txt y t' V' cd' k g s ∧ StaticIs s "java/lang/String" "COMPACT_STRINGS" "Z" (.int z) ∧ ¬ z = 0
/-- equals(Object) of two Strings: whether the texts are the same -/
theorem law (l : Launch) (x t : Addr) (V : Cell) (cd : Int32) (n : Nat) (f : Nat → Int32) (y t' : Addr) (V' : Cell) (cd' : Int32) (k : Nat) (g : Nat → Int32) (z : Int32) : Law l yN 2 1 1 14 yB 3 (some .boolean) site (P x t V cd n f y t' V' cd' k g z) (Says01 (SameT n f k g)) [] 0 0 := by
  refine Law.of_walk (plainFor_of_name (by decide +kernel)) (by decide +kernel) (by decide +kernel) (by decide) (fun _ _ h => by rw [h.1]; rfl) (fun _ U U' hal hh h => ⟨h.1, h.2.1.mv hal hh, h.2.2.1.mv hal hh, h.2.2.2.1.there hal hh, h.2.2.2.2⟩) (fun r U U' V V' h1 hal h2 h => Says01.mv r U U' V V' h1 hal h2 h) ?_
  intro p e s m args below meth c s₁ X0 hexec hbytes hml hret hlk hnm hown hh0 W hP
  obtain ⟨rfl, hx, hy, s1, hz⟩ := hP
  have c1 : Steps p.tables e below (s₁.setTop (entryFrame m #[.ref x, .ref y] 3)) (s₁.setTop (mkF m 2 #[.val (.ref x), .val (.ref y), .unset] [.ref y, .ref x])) := Steps.trans (entry rfl) (by
    show Steps p.tables e below (s₁.setTop (mkF m 0 #[.val (.ref x), .val (.ref y), .unset] [])) _
    refine XS.aloadN X0.here hexec rfl (hb hbytes d0) rfl rfl ?_
    refine XS.aloadN X0.here hexec rfl (hb hbytes d1) rfl rfl ?_
    exact Steps.refl _)
  by_cases hxy : x = y
  · have c2 : Steps p.tables e below (s₁.setTop (entryFrame m #[.ref x, .ref y] 3)) (s₁.setTop (mkF m 6 #[.val (.ref x), .val (.ref y), .unset] [.int 1])) := c1.trans (by
      refine acmpNo X0.here hexec rfl (hb hbytes d2) rfl rfl rfl (by simp [acmp, hxy]) ?_
      refine iconstV X0.here hexec rfl 1 (hb hbytes d5) (by decide) ?_
      exact Steps.refl _)
    subst hxy
    have ec : cd = cd' := by
      obtain ⟨D, fd, a1, a2, a3⟩ := hx.2.2.1
      obtain ⟨D', fd', b1, b2, b3⟩ := hy.2.2.1
      cases a1.symm.trans b1
      obtain ⟨q1, q2, q3, q4⟩ := a2.1
      obtain ⟨r1, r2, r3, r4⟩ := b2.1
      cases q4.symm.trans r4
      cases a3.symm.trans b3; rfl
    have et : t = t' := by
      obtain ⟨D, fd, a1, a2, a3⟩ := hx.2.1
      obtain ⟨D', fd', b1, b2, b3⟩ := hy.2.1
      cases a1.symm.trans b1
      obtain ⟨q1, q2, q3, q4⟩ := a2.1
      obtain ⟨r1, r2, r3, r4⟩ := b2.1
      cases q4.symm.trans r4
      cases a3.symm.trans b3; rfl
    subst ec et
    have ev : V = V' := by cases hx.2.2.2.1.1.symm.trans hy.2.2.2.1.1; rfl
    subst ev
    have hs : SameT n f k g := (Cod.eqv hx.2.2.2.2.1 hy.2.2.2.2.1 hx.2.2.2.2.2 hy.2.2.2.2.2).mp ⟨rfl, fun _ _ => rfl⟩
    exact ⟨s₁, some (.int 1), _, _, _, X0, rfl, rfl, rfl, (fun h => by cases h), ⟨1, rfl, hh0, Or.inl ⟨rfl, hs⟩⟩, fun fs hl => c2.trans (X0.ireturnOut hexec hret rfl (Or.inr (Or.inl rfl)) (hb hbytes d6) hl)⟩
  · have c2 : Steps p.tables e below (s₁.setTop (entryFrame m #[.ref x, .ref y] 3)) (s₁.setTop (mkF m 8 #[.val (.ref x), .val (.ref y), .unset] [.ref y])) := c1.trans (by
      refine acmpYes X0.here hexec rfl (pc0 := 2) rfl (hb hbytes d2) rfl rfl rfl (by simp [acmp, hxy]) (by decide) rfl ?_
      refine XS.aloadN X0.here hexec rfl (hb hbytes d7) rfl rfl ?_
      exact Steps.refl _)
    obtain ⟨T3, X3, q3, st3⟩ := cinst X0 hexec hown (wk W (.classLink "java/lang/String" 10 "java/lang/String")) (hy.mv X0.warmed.alike hh0).1 (g := (mkF m 8 #[.val (.ref x), .val (.ref y), .unset] [.ref y])) rfl (rest := []) rfl (hb hbytes d8)
    have hh3 := q3.trans hh0
    have c4 : Steps p.tables e below (s₁.setTop (entryFrame m #[.ref x, .ref y] 3)) (T3.setTop (mkF m 15 #[.val (.ref x), .val (.ref y), .unset] [.ref y])) := (c2.trans (st3 _ (Steps.refl _))).trans (by
      refine XS.ifNo X3.here hexec rfl (hb hbytes d11) rfl (i0_eq_f (by decide)) ?_
      refine XS.aloadN X3.here hexec rfl (hb hbytes d14) rfl rfl ?_
      exact Steps.refl _)
    obtain ⟨T5, X5, q5, st5⟩ := cself X3 hexec hown (wk W (.classLink "java/lang/String" 10 "java/lang/String")) (hy.mv X3.warmed.alike hh3).1 (g := (mkF m 15 #[.val (.ref x), .val (.ref y), .unset] [.ref y])) rfl (rest := []) rfl (hb hbytes d15)
    have hh5 := q5.trans hh3
    have c6 : Steps p.tables e below (s₁.setTop (entryFrame m #[.ref x, .ref y] 3)) (T5.setTop (mkF m 19 #[.val (.ref x), .val (.ref y), .val (.ref y)] [])) := (c4.trans (st5 _ (Steps.refl _))).trans (by
      refine XS.astoreN X5.here hexec rfl (hb hbytes d18) rfl rfl rfl ?_
      exact Steps.refl _)
    obtain ⟨T7, X7, q7, st7⟩ := X5.sget hexec hown (wk W (.fieldLink "java/lang/String" 38 "java/lang/String" "COMPACT_STRINGS" "Z")) s1 (fun _ _ h => by rw [hh5]; exact h) (g := (mkF m 19 #[.val (.ref x), .val (.ref y), .val (.ref y)] [])) rfl (hb hbytes d19)
    have hh7 := q7.trans hh5
    have c8 : Steps p.tables e below (s₁.setTop (entryFrame m #[.ref x, .ref y] 3)) (T7.setTop (mkF m 26 #[.val (.ref x), .val (.ref y), .val (.ref y)] [.ref x])) := (c6.trans (st7 _ (Steps.refl _))).trans (by
      refine XS.ifNo X7.here hexec rfl (hb hbytes d22) rfl (i0_eq_f hz) ?_
      refine XS.aloadN X7.here hexec rfl (hb hbytes d25) rfl rfl ?_
      exact Steps.refl _)
    obtain ⟨T9, X9, q9, st9⟩ := X7.hget hexec hown (wk W (.fieldLink "java/lang/String" 15 "java/lang/String" "coder" "B")) (hx.mv X7.warmed.alike hh7).2.2.1 (g := (mkF m 26 #[.val (.ref x), .val (.ref y), .val (.ref y)] [.ref x])) rfl (rest := []) rfl (hb hbytes d26)
    have hh9 := q9.trans hh7
    have c10 : Steps p.tables e below (s₁.setTop (entryFrame m #[.ref x, .ref y] 3)) (T9.setTop (mkF m 30 #[.val (.ref x), .val (.ref y), .val (.ref y)] [.ref y, .int cd])) := (c8.trans (st9 _ (Steps.refl _))).trans (by
      refine XS.aloadN X9.here hexec rfl (hb hbytes d29) rfl rfl ?_
      exact Steps.refl _)
    obtain ⟨T11, X11, q11, st11⟩ := X9.hget hexec hown (wk W (.fieldLink "java/lang/String" 15 "java/lang/String" "coder" "B")) (hy.mv X9.warmed.alike hh9).2.2.1 (g := (mkF m 30 #[.val (.ref x), .val (.ref y), .val (.ref y)] [.ref y, .int cd])) rfl (rest := [.int cd]) rfl (hb hbytes d30)
    have hh11 := q11.trans hh9
    have c12 : Steps p.tables e below (s₁.setTop (entryFrame m #[.ref x, .ref y] 3)) (T11.setTop (mkF m 33 #[.val (.ref x), .val (.ref y), .val (.ref y)] [.int cd', .int cd])) := c10.trans (st11 _ (Steps.refl _))
    by_cases hcd : cd = cd'
    · subst hcd
      have c13 : Steps p.tables e below (s₁.setTop (entryFrame m #[.ref x, .ref y] 3)) (T11.setTop (mkF m 37 #[.val (.ref x), .val (.ref y), .val (.ref y)] [.ref x])) := c12.trans (by
        refine XS.icmpNo X11.here hexec rfl (hb hbytes d33) rfl (ii_ne_f rfl) ?_
        refine XS.aloadN X11.here hexec rfl (hb hbytes d36) rfl rfl ?_
        exact Steps.refl _)
      obtain ⟨T14, X14, q14, st14⟩ := X11.hget hexec hown (wk W (.fieldLink "java/lang/String" 9 "java/lang/String" "value" "[B")) (hx.mv X11.warmed.alike hh11).2.1 (g := (mkF m 37 #[.val (.ref x), .val (.ref y), .val (.ref y)] [.ref x])) rfl (rest := []) rfl (hb hbytes d37)
      have hh14 := q14.trans hh11
      have c15 : Steps p.tables e below (s₁.setTop (entryFrame m #[.ref x, .ref y] 3)) (T14.setTop (mkF m 41 #[.val (.ref x), .val (.ref y), .val (.ref y)] [.ref y, .ref t])) := (c13.trans (st14 _ (Steps.refl _))).trans (by
        refine XS.aloadN X14.here hexec rfl (hb hbytes d40) rfl rfl ?_
        exact Steps.refl _)
      obtain ⟨T16, X16, q16, st16⟩ := X14.hget hexec hown (wk W (.fieldLink "java/lang/String" 9 "java/lang/String" "value" "[B")) (hy.mv X14.warmed.alike hh14).2.1 (g := (mkF m 41 #[.val (.ref x), .val (.ref y), .val (.ref y)] [.ref y, .ref t])) rfl (rest := [.ref t]) rfl (hb hbytes d41)
      have hh16 := q16.trans hh14
      have c17 : Steps p.tables e below (s₁.setTop (entryFrame m #[.ref x, .ref y] 3)) (T16.setTop (mkF m 44 #[.val (.ref x), .val (.ref y), .val (.ref y)] [.ref t', .ref t])) := c15.trans (st16 _ (Steps.refl _))
      obtain ⟨v18, T18, X18, E18, g18⟩ := X16.callS hexec (LEq.law l t V t' V') hown (wks W (staticW "java/lang/String" 541 LEq.yN)) (wk W LEq.tab) (W := 0) (Nat.le_of_ble_eq_true rfl) (Nat.le_of_ble_eq_true rfl) (Nat.le_refl _) (Nat.le_refl _) (g := (mkF m 44 #[.val (.ref x), .val (.ref y), .val (.ref y)] [.ref t', .ref t])) rfl (by rw [hml]; rfl) c17 (argsL := [.ref t, .ref t']) (rest := []) rfl rfl (by show 2 * 0 + 0 ≤ _; decide) (hb hbytes d44) (⟨rfl, hx.2.2.2.1.mv X16.warmed.alike hh16, hx.2.2.2.2.1.ty, hy.2.2.2.1.mv X16.warmed.alike hh16, hy.2.2.2.2.1.ty⟩)
      obtain ⟨v, rfl, q18, hv⟩ := E18
      have iff := Cod.eqv hx.2.2.2.2.1 hy.2.2.2.2.1 hx.2.2.2.2.2 hy.2.2.2.2.2
      rcases hv with ⟨rfl, he⟩ | ⟨rfl, he⟩
      · have c19 : Steps p.tables e below (s₁.setTop (entryFrame m #[.ref x, .ref y] 3)) (T18.setTop (mkF m 55 #[.val (.ref x), .val (.ref y), .val (.ref y)] [.int 1])) := Steps.trans g18 (by
          refine XS.ifNo X18.here hexec rfl (hb hbytes d47) rfl (i0_eq_f (by decide)) ?_
          refine iconstV X18.here hexec rfl 1 (hb hbytes d50) (by decide) ?_
          refine XS.goto X18.here hexec rfl (pc0 := 51) rfl (hb hbytes d51) (by decide) rfl ?_
          exact Steps.refl _)
        exact ⟨T18, some (.int 1), _, _, _, X18, rfl, rfl, rfl, (fun h => by cases h), ⟨1, rfl, q18.trans hh16, Or.inl ⟨rfl, iff.mp he⟩⟩, fun fs hl => c19.trans (X18.ireturnOut hexec hret rfl (Or.inr (Or.inl rfl)) (hb hbytes d55) hl)⟩
      · have c19 : Steps p.tables e below (s₁.setTop (entryFrame m #[.ref x, .ref y] 3)) (T18.setTop (mkF m 55 #[.val (.ref x), .val (.ref y), .val (.ref y)] [.int 0])) := Steps.trans g18 (by
          refine XS.ifYes X18.here hexec rfl (pc0 := 47) rfl (hb hbytes d47) rfl (i0_eq_t rfl) (by decide) rfl ?_
          refine iconstV X18.here hexec rfl 0 (hb hbytes d54) (by decide) ?_
          exact Steps.refl _)
        exact ⟨T18, some (.int 0), _, _, _, X18, rfl, rfl, rfl, (fun h => by cases h), ⟨0, rfl, q18.trans hh16, Or.inr ⟨rfl, fun q => he (iff.mpr q)⟩⟩, fun fs hl => c19.trans (X18.ireturnOut hexec hret rfl (Or.inr (Or.inl rfl)) (hb hbytes d55) hl)⟩
    · have c13 : Steps p.tables e below (s₁.setTop (entryFrame m #[.ref x, .ref y] 3)) (T11.setTop (mkF m 55 #[.val (.ref x), .val (.ref y), .val (.ref y)] [.int 0])) := c12.trans (by
        refine XS.icmpYes X11.here hexec rfl (pc0 := 33) rfl (hb hbytes d33) rfl (ii_ne_t hcd) (by decide) rfl ?_
        refine iconstV X11.here hexec rfl 0 (hb hbytes d54) (by decide) ?_
        exact Steps.refl _)
      exact ⟨T11, some (.int 0), _, _, _, X11, rfl, rfl, rfl, (fun h => by cases h), ⟨0, rfl, hh11, Or.inr ⟨rfl, Cod.dif hx.2.2.2.2.1 hy.2.2.2.2.1 hcd⟩⟩, fun fs hl => c13.trans (X11.ireturnOut hexec hret rfl (Or.inr (Or.inl rfl)) (hb hbytes d55) hl)⟩
theorem pays {l : Launch} {R : Room} {p : Program} {e : Env} {below : List Frame} {s : State} {sargs : Array Value} {len W : Nat} (x t : Addr) (V : Cell) (cd : Int32) (n : Nat) (f : Nat → Int32) (y t' : Addr) (V' : Cell) (cd' : Int32) (k : Nat) (g : Nat → Int32) (z : Int32) (htab : tab.before sargs s = true) (hfr : 2 ≤ R.frames) (hlo : W + 28 ≤ R.locals) :
    Back l R p e below s sargs yN len W (fun A₁ a₁ => A₁.cells + 0 ≤ R.cells ∧ A₁.slots + 0 ≤ R.slots ∧ P x t V cd n f y t' V' cd' k g z a₁ A₁.U) (fun A₁ _ v₁ B₁ => Says01 (SameT n f k g) v₁ A₁.U B₁.U ∧ B₁.locs = A₁.locs ++ [] ∧ B₁.cells = A₁.cells + 0 ∧ B₁.slots = A₁.slots + 0) :=
  (law l x t V cd n f y t' V' cd' k g z).pays htab hfr (by omega)
end SEq
end StrChars
namespace StrChars.Road
open Jvm Sem ClassFile Op Lib Jvm.Stand Jvm.Free Jvm.Free.XT
open Jvm.Lib.Cold (StaticIs)
/-- the words of String.equals(Object) -/
abbrev wordsEq : List Jvm.Cond := [.code SEq.yN SEq.yB 3 (some .boolean), .initialized ST, .classLink ST 10 ST, .fieldLink ST 38 ST "COMPACT_STRINGS" "Z", .fieldLink ST 15 ST "coder" "B", .fieldLink ST 9 ST "value" "[B", .methodLink ST 541 LEq.yN, .static LEq.yN, .code LEq.yN LEq.yB 3 (some .boolean), .initialized "java/lang/StringLatin1"]
theorem tabEq_of {a : Array Value} {s : State} (h : ∀ w ∈ wordsEq, w.before a s = true) : SEq.tab.before a s = true := by
  have hl : LEq.tab.before a s = true := unparts (wk h (.code LEq.yN LEq.yB 3 (some .boolean))) (wks h (.initialized LEq.yN.cls :: LEq.site))
  have q := consq hl h
  exact unparts (wk q (.code SEq.yN SEq.yB 3 (some .boolean))) (wks q (.initialized SEq.yN.cls :: SEq.site))
theorem movedEq {Z s : State} {a0 args : Array Value} (hZ : Z.Warmed39 s.vm) (hw : ∀ d ∈ wordsEq, d.before a0 Z = true) : ∀ d ∈ wordsEq, d.before args s = true := fun d hd => by
  have t : ∀ d ∈ wordsEq, (d.onTables && d.keepsFace) = true := by decide +kernel
  exact RoadKit.mv hZ (hw d hd) (t d hd)
/-- the road's facts of a String, as the laws ask it -/
theorem txt_of {Z U : State} {a0 : Array Value} {kI : Nat} (wi : (Jvm.Cond.instantiable ST kI).before a0 Z = true) (al : Z.vm.Alike U.vm) {x t : Addr} {kb : ClassId} {cs : List Int32} {cd N2 : Int32} {vs : List Value} (E : RoadKit.Exa Z U.heap x ST) (V : RoadKit.Fld Z U.heap x ST "value" "[B" (.ref t)) (C : RoadKit.Fld Z U.heap x ST "coder" "B" (.int cd)) (K : RoadKit.Arv Z U.heap t kb .byte N2 vs (.int 0)) (hc : CodA cs cd N2 vs) (hb : ∀ c ∈ cs, ¬ c < 0 ∧ ¬ (65535 : Int32) < c) (l2 : cs.length ≤ 4000) :
    ∃ A, Txt x t A cd cs.length (fun j => cs.getD j 0) U := by
  obtain ⟨A, K1, K2, K3, K4, K5, K6⟩ := K
  have hcod := hc.cod (by omega) K3 K5
  obtain ⟨D, fV, fC, hB, F1, F2, g1, g2, -, -⟩ := strObj wi al E V C
  exact ⟨A, ⟨_, hB.2.2.1, D, hB.1, rfl, by cases q : D.vm <;> first | rfl | exact absurd q (hB.2.1.2 _)⟩, Has.of hB F1 g1, Has.of hB F2 g2, ⟨K1.1, State.isArrayOf_alike al K1.2.1, K1.2.2, by rcases hcod with ⟨-, q, -⟩ | ⟨-, q, -⟩ <;> omega⟩, hcod, fun j hj => by
    have e : cs.getD j 0 = cs[j] := by simp [List.getD_eq_getElem?_getD, hj]
    show ¬ cs.getD j 0 < 0 ∧ ¬ 65535 < cs.getD j 0
    rw [e]; exact hb _ (List.getElem_mem _)⟩
theorem same_list (cs ds : List Int32) : SameT cs.length (fun j => cs.getD j 0) ds.length (fun j => ds.getD j 0) ↔ cs = ds := by
  constructor
  · rintro ⟨e, q⟩
    refine List.ext_getElem e fun j h1 h2 => ?_
    have := q j h1
    simpa [List.getD_eq_getElem?_getD, h1, h2] using this
  · rintro rfl
    exact ⟨rfl, fun _ _ => rfl⟩
/-- **equals(Object) OF TWO SUCH STRINGS**: 1 just where the chars are the same -/
theorem eqW {p : Program} {l : Launch} {e : Env} {R : Room} {s : State} {args : Array Value} {below : List Frame} {len W : Nat} {Z : State} {a0 : Array Value} {h : Heap} (hZ : Z.Warmed39 s.vm) (hw : ∀ d ∈ wordsEq, d.before a0 Z = true) {kI : Nat} (wi : (Jvm.Cond.instantiable ST kI).before a0 Z = true)
    {x t : Addr} {kb : ClassId} {cs : List Int32} {cd N2 : Int32} {vs : List Value} (E : RoadKit.Exa Z h x ST) (V : RoadKit.Fld Z h x ST "value" "[B" (.ref t)) (C : RoadKit.Fld Z h x ST "coder" "B" (.int cd)) (K : RoadKit.Arv Z h t kb .byte N2 vs (.int 0)) (hc : CodA cs cd N2 vs) (hb : ∀ c ∈ cs, ¬ c < 0 ∧ ¬ (65535 : Int32) < c) (l2 : cs.length ≤ 4000)
    {y t' : Addr} {kb' : ClassId} {ds : List Int32} {cd' N2' : Int32} {vs' : List Value} (E' : RoadKit.Exa Z h y ST) (V' : RoadKit.Fld Z h y ST "value" "[B" (.ref t')) (C' : RoadKit.Fld Z h y ST "coder" "B" (.int cd')) (K' : RoadKit.Arv Z h t' kb' .byte N2' vs' (.int 0)) (hc' : CodA ds cd' N2' vs') (hb' : ∀ c ∈ ds, ¬ c < 0 ∧ ¬ (65535 : Int32) < c) (l2' : ds.length ≤ 4000)
    {z : Int32} (S : RoadKit.Sta Z h ST "COMPACT_STRINGS" "Z" (.int z)) (hz : ¬ z = 0) (hfr : 2 ≤ R.frames) (hlo : W + 28 ≤ R.locals) :
    Back l R p e below s args (⟨"java/lang/String", "equals", "(Ljava/lang/Object;)Z"⟩ : MethodName) len W (fun P a => a = #[.ref x, .ref y] ∧ P.U.heap = h ∧ P.cells + 0 ≤ R.cells ∧ P.slots + 0 ≤ R.slots)
      (fun P _ v B => ∃ L, (((v = some (.int 1) ∧ cs = ds) ∨ (v = some (.int 0) ∧ ¬ cs = ds)) ∧ L = [] ∧ B.U.heap = h) ∧ B.locs = P.locs ++ L ∧ B.cells = P.cells + 0 ∧ B.slots = P.slots + 0) := by
  intro m meth c P g ig mk a X hg hsize hdg hW hn hp'
  obtain ⟨rfl, rfl, r1, r2⟩ := hp'
  have al : Z.vm.Alike P.U.vm := hZ.alike.trans X.warmed.alike
  obtain ⟨A, hx⟩ := txt_of wi al E V C K hc hb l2
  obtain ⟨A', hy⟩ := txt_of wi al E' V' C' K' hc' hb' l2'
  obtain ⟨v, B, X', ⟨⟨w, hv, hh, hq⟩, hl, hk, hs⟩, st⟩ := SEq.pays x t A cd cs.length (fun j => cs.getD j 0) y t' A' cd' ds.length (fun j => ds.getD j 0) z (tabEq_of (movedEq hZ hw)) hfr hlo m meth c P g ig mk _ X hg hsize hdg hW hn ⟨r1, r2, rfl, hx, hy, sta_is al S, hz⟩
  refine ⟨v, B, X', ⟨[], ⟨?_, rfl, hh⟩, hl, hk, hs⟩, st⟩
  rcases hq with ⟨rfl, q⟩ | ⟨rfl, q⟩
  · exact Or.inl ⟨hv, (same_list cs ds).mp q⟩
  · exact Or.inr ⟨hv, fun e => q ((same_list cs ds).mpr e)⟩
end StrChars.Road
namespace StrChars.Road
open Jvm Sem ClassFile Op Lib Jvm.Stand Jvm.Free Jvm.Free.XT
open Jvm.Lib.Cold (StaticIs)
/-- what backV says of its String, as the contracts of this text ask it: cs's low bytes, coder 0 -/
theorem codOf {cs : List Int32} {n : Nat} (hn : cs.length = n) (hb : ∀ c ∈ cs, ¬ 255 < c) : CodA cs 0 (Int32.ofNat n) ((cs.map lo8).map Value.int) := Or.inl ⟨rfl, by rw [hn], by simp [List.map_map, Function.comp_def], hb⟩
end StrChars.Road
end Jvm.Pilot.@@N@@

namespace Jvm.Pilot.@@N@@
open Jvm Jvm.ClassFile Sem Op Lib Jvm.Free Jvm.Stand Jvm.LawKit Jvm.RoadKit Bundle Jvm.Pilot.@@N@@.Jvm.D
theorem own_w {Z : State} {a0 : Array Value} (hw : ∀ d ∈ tables_1, d.before a0 Z = true) (i : Nat) {d : Jvm.Cond} (h : tables_1[i]? = some d) : d.before a0 Z = true := hw d (List.mem_of_getElem? h)
theorem ok {a b : Nat} (h : Nat.ble a b = true) : a ≤ b := Nat.le_of_ble_eq_true h
abbrev y0_ : MethodName := ⟨"com/example/thing_access_ledger/thingaccessledger/PolicyState", "of", "(Ljava/lang/String;)Lcom/example/thing_access_ledger/thingaccessledger/PolicyState;"⟩
abbrev y1_ : MethodName := ⟨"com/example/thing_access_ledger/thingaccessledger/PolicyState", "values", "()[Lcom/example/thing_access_ledger/thingaccessledger/PolicyState;"⟩
abbrev y2_ : MethodName := ⟨"java/lang/String", "<init>", "([C)V"⟩
abbrev y3_ : MethodName := ⟨"java/lang/String", "equals", "(Ljava/lang/Object;)Z"⟩
theorem own_up {cs : List Int32} (h : ∀ c ∈ cs, ¬ c < 0 ∧ ¬ (255 : Int32) < c) : ∀ c ∈ cs, ¬ c < 0 ∧ ¬ (65535 : Int32) < c := fun c hc => ⟨(h c hc).1, fun q => (h c hc).2 (by rw [Int32.lt_iff_toInt_lt] at q ⊢; have e1 : (65535 : Int32).toInt = 65535 := rfl; have e2 : (255 : Int32).toInt = 255 := rfl; omega)⟩
theorem d8_0 : decode prog_19_method_1_code 0 = .ok (.getstatic 16, 3) := by decide +kernel
theorem d8_3 : decode prog_19_method_1_code 3 = .ok (.invokevirtual 20, 3) := by decide +kernel
theorem d8_6 : decode prog_19_method_1_code 6 = .ok (.checkcast 21, 3) := by decide +kernel
theorem d8_9 : decode prog_19_method_1_code 9 = .ok (.areturn, 1) := by decide +kernel
theorem pn_com_example_thing_access_ledger_thingaccessledger_PolicyState : plainName "com/example/thing_access_ledger/thingaccessledger/PolicyState" = true := by first | (simp [plainName, overriddenIn]; done) | decide +kernel
theorem efVal (m : MethodId)  : entryFrame m #[] 0 = mkF m 0 #[] [] := by first | (simp [entryFrame, mkF, argsToLocals, Value.category]; done) | rfl
def QVal (Z : State) (ocr : Addr) (va : Addr) (oen : Addr) (odi : Addr) (ore : Addr) (scr : Addr) (tcr : Addr) (sen : Addr) (ten : Addr) (sdi : Addr) (tdi : Addr) (sre : Addr) (tre : Addr) (k_va : ClassId) (k_tcr : ClassId) (k_ten : ClassId) (k_tdi : ClassId) (k_tre : ClassId) (zc : Int32) (fm : Value) (h0 : Heap) (n0 : Nat) (v : Option Value) (h : Heap) (L : List Loc) : Prop := ∃ b, v = some (.ref b) ∧ Fr n0 L ∧ Arv Z h b k_va (.object "com/example/thing_access_ledger/thingaccessledger/PolicyState") (4 : Int32) [(.ref ocr), (.ref oen), (.ref odi), (.ref ore)] .null ∧ Ext h0 h ∧ b = h0.size
set_option maxRecDepth 65536 in
set_option maxHeartbeats 40000000 in
theorem rmVal (l : Launch) (Z : State) (a0 : Array Value) (hw : ∀ d ∈ tables_1, d.before a0 Z = true) (ws : List Jvm.Cond) (ocr : Addr) (va : Addr) (oen : Addr) (odi : Addr) (ore : Addr) (scr : Addr) (tcr : Addr) (sen : Addr) (ten : Addr) (sdi : Addr) (tdi : Addr) (sre : Addr) (tre : Addr) (k_va : ClassId) (k_tcr : ClassId) (k_ten : ClassId) (k_tdi : ClassId) (k_tre : ClassId) (zc : Int32) (fm : Value) (h0 : Heap) (n0 : Nat) (Z0 : n0 ≤ h0.size) (O0 : Old Z n0 h0) (S_CREATED : Sta Z Z.heap "com/example/thing_access_ledger/thingaccessledger/PolicyState" "CREATED" "Lcom/example/thing_access_ledger/thingaccessledger/PolicyState;" (.ref ocr)) (E_ocr : Exa Z Z.heap ocr "com/example/thing_access_ledger/thingaccessledger/PolicyState") (S__VALUES : Sta Z Z.heap "com/example/thing_access_ledger/thingaccessledger/PolicyState" "$VALUES" "[Lcom/example/thing_access_ledger/thingaccessledger/PolicyState;" (.ref va)) (E_va : Exa Z Z.heap va "[Lcom/example/thing_access_ledger/thingaccessledger/PolicyState;") (S_ENABLED : Sta Z Z.heap "com/example/thing_access_ledger/thingaccessledger/PolicyState" "ENABLED" "Lcom/example/thing_access_ledger/thingaccessledger/PolicyState;" (.ref oen)) (E_oen : Exa Z Z.heap oen "com/example/thing_access_ledger/thingaccessledger/PolicyState") (S_DISABLED : Sta Z Z.heap "com/example/thing_access_ledger/thingaccessledger/PolicyState" "DISABLED" "Lcom/example/thing_access_ledger/thingaccessledger/PolicyState;" (.ref odi)) (E_odi : Exa Z Z.heap odi "com/example/thing_access_ledger/thingaccessledger/PolicyState") (S_REVOKED : Sta Z Z.heap "com/example/thing_access_ledger/thingaccessledger/PolicyState" "REVOKED" "Lcom/example/thing_access_ledger/thingaccessledger/PolicyState;" (.ref ore)) (E_ore : Exa Z Z.heap ore "com/example/thing_access_ledger/thingaccessledger/PolicyState") (F_ocr_name : Fld Z Z.heap ocr "com/example/thing_access_ledger/thingaccessledger/PolicyState" "name" "Ljava/lang/String;" (.ref scr)) (E_scr : Exa Z Z.heap scr "java/lang/String") (F_scr_coder : Fld Z Z.heap scr "java/lang/String" "coder" "B" (.int (0 : Int32))) (F_scr_value : Fld Z Z.heap scr "java/lang/String" "value" "[B" (.ref tcr)) (F_oen_name : Fld Z Z.heap oen "com/example/thing_access_ledger/thingaccessledger/PolicyState" "name" "Ljava/lang/String;" (.ref sen)) (E_sen : Exa Z Z.heap sen "java/lang/String") (F_sen_coder : Fld Z Z.heap sen "java/lang/String" "coder" "B" (.int (0 : Int32))) (F_sen_value : Fld Z Z.heap sen "java/lang/String" "value" "[B" (.ref ten)) (F_odi_name : Fld Z Z.heap odi "com/example/thing_access_ledger/thingaccessledger/PolicyState" "name" "Ljava/lang/String;" (.ref sdi)) (E_sdi : Exa Z Z.heap sdi "java/lang/String") (F_sdi_coder : Fld Z Z.heap sdi "java/lang/String" "coder" "B" (.int (0 : Int32))) (F_sdi_value : Fld Z Z.heap sdi "java/lang/String" "value" "[B" (.ref tdi)) (F_ore_name : Fld Z Z.heap ore "com/example/thing_access_ledger/thingaccessledger/PolicyState" "name" "Ljava/lang/String;" (.ref sre)) (E_sre : Exa Z Z.heap sre "java/lang/String") (F_sre_coder : Fld Z Z.heap sre "java/lang/String" "coder" "B" (.int (0 : Int32))) (F_sre_value : Fld Z Z.heap sre "java/lang/String" "value" "[B" (.ref tre)) (V_va : Arv Z Z.heap va k_va (.object "com/example/thing_access_ledger/thingaccessledger/PolicyState") (4 : Int32) [(.ref ocr), (.ref oen), (.ref odi), (.ref ore)] .null) (V_tcr : Arv Z Z.heap tcr k_tcr .byte (7 : Int32) [(.int (67 : Int32)), (.int (114 : Int32)), (.int (101 : Int32)), (.int (97 : Int32)), (.int (116 : Int32)), (.int (101 : Int32)), (.int (100 : Int32))] (.int (0 : Int32))) (V_ten : Arv Z Z.heap ten k_ten .byte (7 : Int32) [(.int (69 : Int32)), (.int (110 : Int32)), (.int (97 : Int32)), (.int (98 : Int32)), (.int (108 : Int32)), (.int (101 : Int32)), (.int (100 : Int32))] (.int (0 : Int32))) (V_tdi : Arv Z Z.heap tdi k_tdi .byte (8 : Int32) [(.int (68 : Int32)), (.int (105 : Int32)), (.int (115 : Int32)), (.int (97 : Int32)), (.int (98 : Int32)), (.int (108 : Int32)), (.int (101 : Int32)), (.int (100 : Int32))] (.int (0 : Int32))) (V_tre : Arv Z Z.heap tre k_tre .byte (7 : Int32) [(.int (82 : Int32)), (.int (101 : Int32)), (.int (118 : Int32)), (.int (111 : Int32)), (.int (107 : Int32)), (.int (101 : Int32)), (.int (100 : Int32))] (.int (0 : Int32))) (S_CS : Sta Z Z.heap "java/lang/String" "COMPACT_STRINGS" "Z" (.int zc)) (hzc : ¬ zc = 0) (S_FM : Sta Z Z.heap "jdk/internal/util/Preconditions" "SIOOBE_FORMATTER" "Ljava/util/function/BiFunction;" fm) (hfm : fm.isRef = true) :
    MetFree l y1_ (head1 (Jvm.Cond.code y1_ prog_19_method_1_code 0 (some (.array (.object "com/example/thing_access_ledger/thingaccessledger/PolicyState"))) :: ws) ({ frames := 1, cells := 1, slots := 4, locals := 14 } : Room)) (fun aa U => aa = #[] ∧ Z.Warmed39 U.vm ∧ U.heap = h0) (fun _ _ _ _ _ => True) (fun _ U oo U' => ∃ vv LL, oo = .returned vv ∧ QVal Z ocr va oen odi ore scr tcr sen ten sdi tdi sre tre k_va k_tcr k_ten k_tdi k_tre zc fm h0 n0 vv U'.heap LL ∧ FrameEnd U oo U' LL ({ frames := 1, cells := 1, slots := 4, locals := 14 } : Room).cells ({ frames := 1, cells := 1, slots := 4, locals := 14 } : Room).slots) := by
  refine MetFree.of_bodySF (plainFor_of_name pn_com_example_thing_access_ledger_thingaccessledger_PolicyState) hisR ?_
  intro p e s m args below meth c s₁ Bd hml0 hP hK
  obtain ⟨rfl, hZ, hh⟩ := hP
  have hx := Bd.exec
  have hby := Bd.bytes
  have hml : c.maxLocals = 0 := hml0
  have hown : s.vm.findClass "com/example/thing_access_ledger/thingaccessledger/PolicyState" = some m.cls := findClass_of_methodNamed Bd.named
  have hnm := (name_of_methodNamed Bd.named Bd.method).1
  have X0 : Stand p l e ({ frames := 1, cells := 1, slots := 4, locals := 14 } : Room) s m #[] below meth c s₁ [] 0 0 := Stand.of_body Bd
  have e0 : s₁.heap = h0 := by rw [← hh, Bd.state]; rfl
  have N0 := Fr.nil n0
  refine Goes.give (Q := QVal Z ocr va oen odi ore scr tcr sen ten sdi tdi sre tre k_va k_tcr k_ten k_tdi k_tre zc fm h0 n0) ?_
  rw [efVal m ]
  have K0 : Keep h0 h0 [] := Keep.refl _ _
  obtain ⟨T1, X1, e1, st1⟩ := getS2 X0 hx hZ hown (host := "") (Or.inl (own_w hw 39 rfl)) Via.refl e0 (S__VALUES.ext O0.2) (g := (mkF m 0 #[] [])) rfl (hb hby d8_0)
  refine Goes.step (T' := T1) (g' := (mkF m 3 #[] [(.ref va)])) st1 ?_
  have V3 : Arv Z h0 va k_va (.object "com/example/thing_access_ledger/thingaccessledger/PolicyState") (4 : Int32) [(.ref ocr), (.ref oen), (.ref odi), (.ref ore)] .null := (V_va.ext O0.2)
  obtain ⟨T2, h2, X2, e2, E2, V2, A2, st2⟩ := cloneV X1 hx hZ hown (own_w hw 41 rfl) (own_w hw 42 rfl) (own_w hw 46 rfl) (own_w hw 44 rfl) (own_w hw 45 rfl) (own_w hw 47 rfl) e1 V3 (E_va.ext O0.2) (g := (mkF m 3 #[] [(.ref va)])) rfl (by rw [hml]; rfl) rfl (hb hby d8_3) (ok rfl) (W := 0) (cap := 4) (by show 2 * 0 + _ ≤ _; exact Nat.le_of_eq rfl) (ok rfl) (ok rfl) (ok rfl) (ok rfl)
  obtain ⟨b2, g2⟩ : ∃ z, z = h0.size := ⟨_, rfl⟩
  rw [← g2] at V2 A2 st2
  have ge_b2 : n0 ≤ b2 := Nat.le_trans Z0 (Nat.le_of_eq g2.symm)
  have sz_b2 : h0.size ≤ b2 := Nat.le_trans K0.1 (Nat.le_of_eq g2.symm)
  refine Goes.step (T' := T2) (g' := (mkF m 6 #[] [(.ref b2)])) st2 ?_
  obtain ⟨T4, X4, e4, st4⟩ := castY X2 hx hZ hown (own_w hw 52 rfl) e2 (Ins.self A2) (g := (mkF m 6 #[] [(.ref b2)])) rfl rfl (hb hby d8_6)
  refine Goes.step (T' := T4) (g' := (mkF m 9 #[] [(.ref b2)])) st4 ?_
  refine Goes.retA X4 hx Bd.notSynchronized Bd.returns rfl rfl (hb hby d8_9) (ok rfl) (ok rfl) ?_
  rw [e4]
  exact ⟨b2, rfl, N0, V2, E2, g2⟩
theorem d7_0 : decode prog_19_method_4_code 0 = .ok (.invokestatic 39, 3) := by decide +kernel
theorem d7_3 : decode prog_19_method_4_code 3 = .ok (.astore_n 1, 1) := by decide +kernel
theorem d7_4 : decode prog_19_method_4_code 4 = .ok (.aload_n 1, 1) := by decide +kernel
theorem d7_5 : decode prog_19_method_4_code 5 = .ok (.arraylength, 1) := by decide +kernel
theorem d7_6 : decode prog_19_method_4_code 6 = .ok (.istore_n 2, 1) := by decide +kernel
theorem d7_7 : decode prog_19_method_4_code 7 = .ok (.iconst 0, 1) := by decide +kernel
theorem d7_8 : decode prog_19_method_4_code 8 = .ok (.istore_n 3, 1) := by decide +kernel
theorem d7_9 : decode prog_19_method_4_code 9 = .ok (.iload_n 3, 1) := by decide +kernel
theorem d7_10 : decode prog_19_method_4_code 10 = .ok (.iload_n 2, 1) := by decide +kernel
theorem d7_11 : decode prog_19_method_4_code 11 = .ok (.if_icmp .ge 29, 3) := by decide +kernel
theorem d7_14 : decode prog_19_method_4_code 14 = .ok (.aload_n 1, 1) := by decide +kernel
theorem d7_15 : decode prog_19_method_4_code 15 = .ok (.iload_n 3, 1) := by decide +kernel
theorem d7_16 : decode prog_19_method_4_code 16 = .ok (.aaload, 1) := by decide +kernel
theorem d7_17 : decode prog_19_method_4_code 17 = .ok (.astore 4, 2) := by decide +kernel
theorem d7_19 : decode prog_19_method_4_code 19 = .ok (.aload 4, 2) := by decide +kernel
theorem d7_21 : decode prog_19_method_4_code 21 = .ok (.getfield 35, 3) := by decide +kernel
theorem d7_24 : decode prog_19_method_4_code 24 = .ok (.aload_n 0, 1) := by decide +kernel
theorem d7_25 : decode prog_19_method_4_code 25 = .ok (.invokevirtual 43, 3) := by decide +kernel
theorem d7_28 : decode prog_19_method_4_code 28 = .ok (.ifCond .eq 6, 3) := by decide +kernel
theorem d7_31 : decode prog_19_method_4_code 31 = .ok (.aload 4, 2) := by decide +kernel
theorem d7_33 : decode prog_19_method_4_code 33 = .ok (.areturn, 1) := by decide +kernel
theorem d7_34 : decode prog_19_method_4_code 34 = .ok (.iinc 3 1, 3) := by decide +kernel
theorem d7_37 : decode prog_19_method_4_code 37 = .ok (.goto (-28), 3) := by decide +kernel
theorem d7_40 : decode prog_19_method_4_code 40 = .ok (.new 49, 3) := by decide +kernel
theorem d7_43 : decode prog_19_method_4_code 43 = .ok (.dup, 1) := by decide +kernel
theorem d7_44 : decode prog_19_method_4_code 44 = .ok (.aload_n 0, 1) := by decide +kernel
theorem d7_50 : decode prog_19_method_4_code 50 = .ok (.invokespecial 55, 3) := by decide +kernel
theorem d7_53 : decode prog_19_method_4_code 53 = .ok (.athrow, 1) := by decide +kernel
theorem pd_221203 : parseMethodDescriptor "()[Lcom/example/thing_access_ledger/thingaccessledger/PolicyState;" = some ⟨[], some (.array (.object "com/example/thing_access_ledger/thingaccessledger/PolicyState"))⟩ := by decide +kernel
theorem in_wordsEq : ∀ d ∈ StrChars.Road.wordsEq, d ∈ tables_1 := by decide +kernel
theorem pd_20140 : parseMethodDescriptor "(Ljava/lang/Object;)Z" = some ⟨[(.object "java/lang/Object")], some .boolean⟩ := by decide +kernel
theorem efOfcr (m : MethodId) (xs : Addr) : entryFrame m #[(.ref xs)] 5 = mkF m 0 #[.val (.ref xs), .unset, .unset, .unset, .unset] [] := by first | (simp [entryFrame, mkF, argsToLocals, Value.category]; done) | rfl
def QOfcr (Z : State) (ocr : Addr) (va : Addr) (oen : Addr) (odi : Addr) (ore : Addr) (scr : Addr) (tcr : Addr) (sen : Addr) (ten : Addr) (sdi : Addr) (tdi : Addr) (sre : Addr) (tre : Addr) (k_va : ClassId) (k_tcr : ClassId) (k_ten : ClassId) (k_tdi : ClassId) (k_tre : ClassId) (zc : Int32) (fm : Value) (xs : Addr) (xt : Addr) (xk : ClassId) (h0 : Heap) (n0 : Nat) (v : Option Value) (h : Heap) (L : List Loc) : Prop := v = some (.ref ocr) ∧ Fr n0 L ∧ Keep h0 h []
set_option maxRecDepth 65536 in
set_option maxHeartbeats 40000000 in
theorem rmOfcr (l : Launch) (Z : State) (a0 : Array Value) (hw : ∀ d ∈ tables_1, d.before a0 Z = true) (ws : List Jvm.Cond) (ocr : Addr) (va : Addr) (oen : Addr) (odi : Addr) (ore : Addr) (scr : Addr) (tcr : Addr) (sen : Addr) (ten : Addr) (sdi : Addr) (tdi : Addr) (sre : Addr) (tre : Addr) (k_va : ClassId) (k_tcr : ClassId) (k_ten : ClassId) (k_tdi : ClassId) (k_tre : ClassId) (zc : Int32) (fm : Value) (xs : Addr) (xt : Addr) (xk : ClassId) (h0 : Heap) (n0 : Nat) (Z0 : n0 ≤ h0.size) (O0 : Old Z n0 h0) (S_CREATED : Sta Z Z.heap "com/example/thing_access_ledger/thingaccessledger/PolicyState" "CREATED" "Lcom/example/thing_access_ledger/thingaccessledger/PolicyState;" (.ref ocr)) (E_ocr : Exa Z Z.heap ocr "com/example/thing_access_ledger/thingaccessledger/PolicyState") (S__VALUES : Sta Z Z.heap "com/example/thing_access_ledger/thingaccessledger/PolicyState" "$VALUES" "[Lcom/example/thing_access_ledger/thingaccessledger/PolicyState;" (.ref va)) (E_va : Exa Z Z.heap va "[Lcom/example/thing_access_ledger/thingaccessledger/PolicyState;") (S_ENABLED : Sta Z Z.heap "com/example/thing_access_ledger/thingaccessledger/PolicyState" "ENABLED" "Lcom/example/thing_access_ledger/thingaccessledger/PolicyState;" (.ref oen)) (E_oen : Exa Z Z.heap oen "com/example/thing_access_ledger/thingaccessledger/PolicyState") (S_DISABLED : Sta Z Z.heap "com/example/thing_access_ledger/thingaccessledger/PolicyState" "DISABLED" "Lcom/example/thing_access_ledger/thingaccessledger/PolicyState;" (.ref odi)) (E_odi : Exa Z Z.heap odi "com/example/thing_access_ledger/thingaccessledger/PolicyState") (S_REVOKED : Sta Z Z.heap "com/example/thing_access_ledger/thingaccessledger/PolicyState" "REVOKED" "Lcom/example/thing_access_ledger/thingaccessledger/PolicyState;" (.ref ore)) (E_ore : Exa Z Z.heap ore "com/example/thing_access_ledger/thingaccessledger/PolicyState") (F_ocr_name : Fld Z Z.heap ocr "com/example/thing_access_ledger/thingaccessledger/PolicyState" "name" "Ljava/lang/String;" (.ref scr)) (E_scr : Exa Z Z.heap scr "java/lang/String") (F_scr_coder : Fld Z Z.heap scr "java/lang/String" "coder" "B" (.int (0 : Int32))) (F_scr_value : Fld Z Z.heap scr "java/lang/String" "value" "[B" (.ref tcr)) (F_oen_name : Fld Z Z.heap oen "com/example/thing_access_ledger/thingaccessledger/PolicyState" "name" "Ljava/lang/String;" (.ref sen)) (E_sen : Exa Z Z.heap sen "java/lang/String") (F_sen_coder : Fld Z Z.heap sen "java/lang/String" "coder" "B" (.int (0 : Int32))) (F_sen_value : Fld Z Z.heap sen "java/lang/String" "value" "[B" (.ref ten)) (F_odi_name : Fld Z Z.heap odi "com/example/thing_access_ledger/thingaccessledger/PolicyState" "name" "Ljava/lang/String;" (.ref sdi)) (E_sdi : Exa Z Z.heap sdi "java/lang/String") (F_sdi_coder : Fld Z Z.heap sdi "java/lang/String" "coder" "B" (.int (0 : Int32))) (F_sdi_value : Fld Z Z.heap sdi "java/lang/String" "value" "[B" (.ref tdi)) (F_ore_name : Fld Z Z.heap ore "com/example/thing_access_ledger/thingaccessledger/PolicyState" "name" "Ljava/lang/String;" (.ref sre)) (E_sre : Exa Z Z.heap sre "java/lang/String") (F_sre_coder : Fld Z Z.heap sre "java/lang/String" "coder" "B" (.int (0 : Int32))) (F_sre_value : Fld Z Z.heap sre "java/lang/String" "value" "[B" (.ref tre)) (V_va : Arv Z Z.heap va k_va (.object "com/example/thing_access_ledger/thingaccessledger/PolicyState") (4 : Int32) [(.ref ocr), (.ref oen), (.ref odi), (.ref ore)] .null) (V_tcr : Arv Z Z.heap tcr k_tcr .byte (7 : Int32) [(.int (67 : Int32)), (.int (114 : Int32)), (.int (101 : Int32)), (.int (97 : Int32)), (.int (116 : Int32)), (.int (101 : Int32)), (.int (100 : Int32))] (.int (0 : Int32))) (V_ten : Arv Z Z.heap ten k_ten .byte (7 : Int32) [(.int (69 : Int32)), (.int (110 : Int32)), (.int (97 : Int32)), (.int (98 : Int32)), (.int (108 : Int32)), (.int (101 : Int32)), (.int (100 : Int32))] (.int (0 : Int32))) (V_tdi : Arv Z Z.heap tdi k_tdi .byte (8 : Int32) [(.int (68 : Int32)), (.int (105 : Int32)), (.int (115 : Int32)), (.int (97 : Int32)), (.int (98 : Int32)), (.int (108 : Int32)), (.int (101 : Int32)), (.int (100 : Int32))] (.int (0 : Int32))) (V_tre : Arv Z Z.heap tre k_tre .byte (7 : Int32) [(.int (82 : Int32)), (.int (101 : Int32)), (.int (118 : Int32)), (.int (111 : Int32)), (.int (107 : Int32)), (.int (101 : Int32)), (.int (100 : Int32))] (.int (0 : Int32))) (S_CS : Sta Z Z.heap "java/lang/String" "COMPACT_STRINGS" "Z" (.int zc)) (hzc : ¬ zc = 0) (S_FM : Sta Z Z.heap "jdk/internal/util/Preconditions" "SIOOBE_FORMATTER" "Ljava/util/function/BiFunction;" fm) (hfm : fm.isRef = true) (Ex : Exa Z h0 xs "java/lang/String") (Vx : Fld Z h0 xs "java/lang/String" "value" "[B" (.ref xt)) (Cx : Fld Z h0 xs "java/lang/String" "coder" "B" (.int (0 : Int32))) (Kx : Arv Z h0 xt xk .byte (7 : Int32) [(.int (67 : Int32)), (.int (114 : Int32)), (.int (101 : Int32)), (.int (97 : Int32)), (.int (116 : Int32)), (.int (101 : Int32)), (.int (100 : Int32))] (.int (0 : Int32))) :
    MetFree l y0_ (head1 (Jvm.Cond.code y0_ prog_19_method_4_code 5 (some (.object "com/example/thing_access_ledger/thingaccessledger/PolicyState")) :: ws) ({ frames := 2, cells := 1, slots := 4, locals := 28 } : Room)) (fun aa U => aa = #[(.ref xs)] ∧ Z.Warmed39 U.vm ∧ U.heap = h0) (fun _ _ _ _ _ => True) (fun _ U oo U' => ∃ vv LL, oo = .returned vv ∧ QOfcr Z ocr va oen odi ore scr tcr sen ten sdi tdi sre tre k_va k_tcr k_ten k_tdi k_tre zc fm xs xt xk h0 n0 vv U'.heap LL ∧ FrameEnd U oo U' LL ({ frames := 2, cells := 1, slots := 4, locals := 28 } : Room).cells ({ frames := 2, cells := 1, slots := 4, locals := 28 } : Room).slots) := by
  refine MetFree.of_bodySF (plainFor_of_name pn_com_example_thing_access_ledger_thingaccessledger_PolicyState) hisR ?_
  intro p e s m args below meth c s₁ Bd hml0 hP hK
  obtain ⟨rfl, hZ, hh⟩ := hP
  have hx := Bd.exec
  have hby := Bd.bytes
  have hml : c.maxLocals = 5 := hml0
  have hown : s.vm.findClass "com/example/thing_access_ledger/thingaccessledger/PolicyState" = some m.cls := findClass_of_methodNamed Bd.named
  have hnm := (name_of_methodNamed Bd.named Bd.method).1
  have X0 : Stand p l e ({ frames := 2, cells := 1, slots := 4, locals := 28 } : Room) s m #[(.ref xs)] below meth c s₁ [] 0 0 := Stand.of_body Bd
  have e0 : s₁.heap = h0 := by rw [← hh, Bd.state]; rfl
  have N0 := Fr.nil n0
  refine Goes.give (Q := QOfcr Z ocr va oen odi ore scr tcr sen ten sdi tdi sre tre k_va k_tcr k_ten k_tdi k_tre zc fm xs xt xk h0 n0) ?_
  rw [efOfcr m xs]
  have K0 : Keep h0 h0 [] := Keep.refl _ _
  refine Goes.callS X0 hx (y := y1_) hown (mvT hZ (own_w hw 36 rfl)) (mvT hZ (own_w hw 37 rfl)) (mvT hZ (own_w hw 2 rfl)) (mvT hZ (own_w hw 38 rfl)) (by decide) (kc' := 1) (ks' := 4) (backOf (W := 0) (rmVal l Z a0 hw [] ocr va oen odi ore scr tcr sen ten sdi tdi sre tre k_va k_tcr k_ten k_tdi k_tre zc fm h0 n0 Z0 O0 S_CREATED E_ocr S__VALUES E_va S_ENABLED E_oen S_DISABLED E_odi S_REVOKED E_ore F_ocr_name E_scr F_scr_coder F_scr_value F_oen_name E_sen F_sen_coder F_sen_value F_odi_name E_sdi F_sdi_coder F_sdi_value F_ore_name E_sre F_sre_coder F_sre_value V_va V_tcr V_ten V_tdi V_tre S_CS hzc S_FM hfm) hZ (own_w hw 38 rfl) (own_w hw 2 rfl) (ok rfl) (ok rfl)) (g := (mkF m 0 #[.val (.ref xs), .unset, .unset, .unset, .unset] [])) rfl (by rw [hml]; rfl) (argsL := []) (rest := []) (lenOf pd_221203 rfl) rfl (by show 2 * 0 + _ ≤ _; exact Nat.le_of_eq rfl) (hb hby d7_0) rfl e0 (ok rfl) (ok rfl) ?_
  intro v5 T5 L5 q5 X5
  obtain ⟨b5, rfl, N5q, V5, E5, g5⟩ := q5
  have ge_b5 : n0 ≤ b5 := Nat.le_trans Z0 (Nat.le_of_eq g5.symm)
  have N5 := Fr.app N0 N5q
  show Goes p e below _ T5 (mkF m 3 #[.val (.ref xs), .unset, .unset, .unset, .unset] [(.ref b5)])
  refine P1.astoreN X5.here hx #[.val (.ref xs), .val (.ref b5), .unset, .unset, .unset] (hb hby d7_3) rfl rfl ?_
  refine P1.aloadN X5.here hx (hb hby d7_4) rfl rfl ?_
  obtain ⟨cl6, Ar6, qk6, sl6, nz6, ha6, fi6⟩ := id V5
  have al7 : cl6.slots.size.toInt32 = (4 : Int32) := len_of sl6 nz6
  refine Goes.step (T' := T5) (g' := (mkF m 6 #[.val (.ref xs), .val (.ref b5), .unset, .unset, .unset] [(.int (4 : Int32))])) (fun t k => X5.arraylength hx Ar6.1 (State.isArrayOf_alike hZ.alike Ar6.2.1) (g := (mkF m 5 #[.val (.ref xs), .val (.ref b5), .unset, .unset, .unset] [(.ref b5)])) rfl rfl (hb hby d7_5) _ <| by rw [al7]; exact k) ?_
  refine P1.istoreN X5.here hx #[.val (.ref xs), .val (.ref b5), .val (.int (4 : Int32)), .unset, .unset] (hb hby d7_6) rfl ?_
  refine P1.iconst X5.here hx (0 : Int32) (hb hby d7_7) rfl ?_
  refine P1.istoreN X5.here hx #[.val (.ref xs), .val (.ref b5), .val (.int (4 : Int32)), .val (.int (0 : Int32)), .unset] (hb hby d7_8) rfl ?_
  refine P1.iloadN X5.here hx (hb hby d7_9) rfl ?_
  refine P1.iloadN X5.here hx (hb hby d7_10) rfl ?_
  refine Goes.step (T' := T5) (g' := (mkF m 14 #[.val (.ref xs), .val (.ref b5), .val (.int (4 : Int32)), .val (.int (0 : Int32)), .unset] [])) (fun t k => XS.icmpNo X5.here hx rfl (hb hby d7_11) rfl (tlt ((by decide : (0 : Int32) < (4 : Int32)) : (0 : Int32) < (4 : Int32))).2.1 k) ?_
  refine P1.aloadN X5.here hx (hb hby d7_14) rfl rfl ?_
  refine P1.iloadN X5.here hx (hb hby d7_15) rfl ?_
  obtain ⟨cl8, Ar8, qk8, sl8, nz8, ha8, fi8⟩ := id V5
  have i9 := inb_of (j := (0 : Int32)) sl8 ⟨by decide, by decide⟩
  refine Goes.step (T' := T5) (g' := (mkF m 17 #[.val (.ref xs), .val (.ref b5), .val (.int (4 : Int32)), .val (.int (0 : Int32)), .unset] [(.ref ocr)])) (fun t k => X5.aaload hx (j := (0 : Int32)) (v := (.ref ocr)) Ar8.1 (State.isArrayOf_alike hZ.alike Ar8.2.1) rfl Ar8.2.2 i9 (Has.at ha8 i9 rfl) (g := (mkF m 16 #[.val (.ref xs), .val (.ref b5), .val (.int (4 : Int32)), .val (.int (0 : Int32)), .unset] [(.int (0 : Int32)), (.ref b5)])) rfl rfl (hb hby d7_16) _ k) ?_
  refine P1.astore X5.here hx #[.val (.ref xs), .val (.ref b5), .val (.int (4 : Int32)), .val (.int (0 : Int32)), .val (.ref ocr)] (hb hby d7_17) rfl rfl ?_
  refine P1.aload X5.here hx (hb hby d7_19) rfl rfl ?_
  have O10 : Old Z n0 T5.heap := O0.ext E5
  obtain ⟨T11, X11, e11, st11⟩ := getF X5 hx hZ hown (host := "") (Or.inl (own_w hw 54 rfl)) Via.refl rfl (F_ocr_name.ext O10.2) (g := (mkF m 21 #[.val (.ref xs), .val (.ref b5), .val (.int (4 : Int32)), .val (.int (0 : Int32)), .val (.ref ocr)] [(.ref ocr)])) rfl rfl (hb hby d7_21)
  refine Goes.step (T' := T11) (g' := (mkF m 24 #[.val (.ref xs), .val (.ref b5), .val (.int (4 : Int32)), .val (.int (0 : Int32)), .val (.ref ocr)] [(.ref scr)])) st11 ?_
  refine P1.aloadN X11.here hx (hb hby d7_24) rfl rfl ?_
  have V12 : Arv Z T5.heap tcr k_tcr .byte (7 : Int32) [(.int (67 : Int32)), (.int (114 : Int32)), (.int (101 : Int32)), (.int (97 : Int32)), (.int (116 : Int32)), (.int (101 : Int32)), (.int (100 : Int32))] (.int (0 : Int32)) := (V_tcr.ext O10.2)
  have E13 : Exa Z T5.heap xs "java/lang/String" := Ex.ext E5
  have F14 : Fld Z T5.heap xs "java/lang/String" "value" "[B" (.ref xt) := Vx.ext E5
  have F15 : Fld Z T5.heap xs "java/lang/String" "coder" "B" (.int (0 : Int32)) := Cx.ext E5
  have V16 : Arv Z T5.heap xt xk .byte (7 : Int32) [(.int (67 : Int32)), (.int (114 : Int32)), (.int (101 : Int32)), (.int (97 : Int32)), (.int (116 : Int32)), (.int (101 : Int32)), (.int (100 : Int32))] (.int (0 : Int32)) := Kx.ext E5
  refine Goes.callV X11 hx hZ (y := y3_) (z := y3_) (Qc := fun v h' L => (((v = some (.int 1) ∧ ([(67 : Int32), (114 : Int32), (101 : Int32), (97 : Int32), (116 : Int32), (101 : Int32), (100 : Int32)] : List Int32) = ([(67 : Int32), (114 : Int32), (101 : Int32), (97 : Int32), (116 : Int32), (101 : Int32), (100 : Int32)] : List Int32)) ∨ (v = some (.int 0) ∧ ¬ ([(67 : Int32), (114 : Int32), (101 : Int32), (97 : Int32), (116 : Int32), (101 : Int32), (100 : Int32)] : List Int32) = ([(67 : Int32), (114 : Int32), (101 : Int32), (97 : Int32), (116 : Int32), (101 : Int32), (100 : Int32)] : List Int32))) ∧ L = [] ∧ h' = T5.heap)) hown (mvT hZ (own_w hw 56 rfl)) (mvT hZ (own_w hw 57 rfl)) (notFace_of_selects (args := #[]) (mvT hZ (own_w hw 59 rfl))) (mvT hZ (own_w hw 59 rfl)) (mvT hZ (own_w hw 58 rfl)) (by decide) (kc' := 0) (ks' := 0) (StrChars.Road.eqW (W := 0) hZ (fun d hd => hw d (in_wordsEq d hd)) (kI := 4) (own_w hw 5 rfl) (E_scr.ext O10.2) (F_scr_value.ext O10.2) (F_scr_coder.ext O10.2) V12 (show StrChars.Road.CodA ([(67 : Int32), (114 : Int32), (101 : Int32), (97 : Int32), (116 : Int32), (101 : Int32), (100 : Int32)] : List Int32) 0 (7 : Int32) _ from Or.inl ⟨rfl, rfl, rfl, by decide⟩) (by decide) (ok rfl) E13 F14 F15 V16 (show StrChars.Road.CodA ([(67 : Int32), (114 : Int32), (101 : Int32), (97 : Int32), (116 : Int32), (101 : Int32), (100 : Int32)] : List Int32) 0 (7 : Int32) _ from Or.inl ⟨rfl, rfl, rfl, by decide⟩) (by decide) (ok rfl) (S_CS.ext O10.2) hzc (ok rfl) (ok rfl)) (b := scr) e11 (E_scr.ext O10.2) (g := (mkF m 25 #[.val (.ref xs), .val (.ref b5), .val (.int (4 : Int32)), .val (.int (0 : Int32)), .val (.ref ocr)] [(.ref xs), (.ref scr)])) rfl (by rw [hml]; rfl) (argsL := [(.ref xs)]) (rest := []) (lenOf pd_20140 rfl) rfl (by show 2 * 0 + _ ≤ _; exact Nat.le_of_eq rfl) (hb hby d7_25) rfl (ok rfl) (ok rfl) ?_
  intro v17 T17 L17 q17 X17
  obtain ⟨q17, rfl, hE17⟩ := q17
  have N17 := Fr.app N5 (Fr.nil n0)
  obtain ⟨rfl, -⟩ := q17.resolve_right (fun z => z.2 rfl)
  show Goes p e below _ T17 (mkF m 28 #[.val (.ref xs), .val (.ref b5), .val (.int (4 : Int32)), .val (.int (0 : Int32)), .val (.ref ocr)] [(.int (1 : Int32))])
  refine Goes.step (T' := T17) (g' := (mkF m 31 #[.val (.ref xs), .val (.ref b5), .val (.int (4 : Int32)), .val (.int (0 : Int32)), .val (.ref ocr)] [])) (fun t k => XS.ifNo X17.here hx rfl (hb hby d7_28) rfl ((if0 _ _).trans (feq ((by decide : ¬ ((1 : Int32) = (0 : Int32))) : ¬ ((1 : Int32) = (0 : Int32)))).1) k) ?_
  refine P1.aload X17.here hx (hb hby d7_31) rfl rfl ?_
  refine Goes.retA X17 hx Bd.notSynchronized Bd.returns rfl rfl (hb hby d7_33) (ok rfl) (ok rfl) ?_
  rw [hE17]
  have K18 : Keep h0 T5.heap [] := K0.ext E5
  exact ⟨rfl, N17, K18⟩
theorem efOfen (m : MethodId) (xs : Addr) : entryFrame m #[(.ref xs)] 5 = mkF m 0 #[.val (.ref xs), .unset, .unset, .unset, .unset] [] := by first | (simp [entryFrame, mkF, argsToLocals, Value.category]; done) | rfl
def QOfen (Z : State) (ocr : Addr) (va : Addr) (oen : Addr) (odi : Addr) (ore : Addr) (scr : Addr) (tcr : Addr) (sen : Addr) (ten : Addr) (sdi : Addr) (tdi : Addr) (sre : Addr) (tre : Addr) (k_va : ClassId) (k_tcr : ClassId) (k_ten : ClassId) (k_tdi : ClassId) (k_tre : ClassId) (zc : Int32) (fm : Value) (xs : Addr) (xt : Addr) (xk : ClassId) (h0 : Heap) (n0 : Nat) (v : Option Value) (h : Heap) (L : List Loc) : Prop := v = some (.ref oen) ∧ Fr n0 L ∧ Keep h0 h []
set_option maxRecDepth 65536 in
set_option maxHeartbeats 40000000 in
theorem rmOfen (l : Launch) (Z : State) (a0 : Array Value) (hw : ∀ d ∈ tables_1, d.before a0 Z = true) (ws : List Jvm.Cond) (ocr : Addr) (va : Addr) (oen : Addr) (odi : Addr) (ore : Addr) (scr : Addr) (tcr : Addr) (sen : Addr) (ten : Addr) (sdi : Addr) (tdi : Addr) (sre : Addr) (tre : Addr) (k_va : ClassId) (k_tcr : ClassId) (k_ten : ClassId) (k_tdi : ClassId) (k_tre : ClassId) (zc : Int32) (fm : Value) (xs : Addr) (xt : Addr) (xk : ClassId) (h0 : Heap) (n0 : Nat) (Z0 : n0 ≤ h0.size) (O0 : Old Z n0 h0) (S_CREATED : Sta Z Z.heap "com/example/thing_access_ledger/thingaccessledger/PolicyState" "CREATED" "Lcom/example/thing_access_ledger/thingaccessledger/PolicyState;" (.ref ocr)) (E_ocr : Exa Z Z.heap ocr "com/example/thing_access_ledger/thingaccessledger/PolicyState") (S__VALUES : Sta Z Z.heap "com/example/thing_access_ledger/thingaccessledger/PolicyState" "$VALUES" "[Lcom/example/thing_access_ledger/thingaccessledger/PolicyState;" (.ref va)) (E_va : Exa Z Z.heap va "[Lcom/example/thing_access_ledger/thingaccessledger/PolicyState;") (S_ENABLED : Sta Z Z.heap "com/example/thing_access_ledger/thingaccessledger/PolicyState" "ENABLED" "Lcom/example/thing_access_ledger/thingaccessledger/PolicyState;" (.ref oen)) (E_oen : Exa Z Z.heap oen "com/example/thing_access_ledger/thingaccessledger/PolicyState") (S_DISABLED : Sta Z Z.heap "com/example/thing_access_ledger/thingaccessledger/PolicyState" "DISABLED" "Lcom/example/thing_access_ledger/thingaccessledger/PolicyState;" (.ref odi)) (E_odi : Exa Z Z.heap odi "com/example/thing_access_ledger/thingaccessledger/PolicyState") (S_REVOKED : Sta Z Z.heap "com/example/thing_access_ledger/thingaccessledger/PolicyState" "REVOKED" "Lcom/example/thing_access_ledger/thingaccessledger/PolicyState;" (.ref ore)) (E_ore : Exa Z Z.heap ore "com/example/thing_access_ledger/thingaccessledger/PolicyState") (F_ocr_name : Fld Z Z.heap ocr "com/example/thing_access_ledger/thingaccessledger/PolicyState" "name" "Ljava/lang/String;" (.ref scr)) (E_scr : Exa Z Z.heap scr "java/lang/String") (F_scr_coder : Fld Z Z.heap scr "java/lang/String" "coder" "B" (.int (0 : Int32))) (F_scr_value : Fld Z Z.heap scr "java/lang/String" "value" "[B" (.ref tcr)) (F_oen_name : Fld Z Z.heap oen "com/example/thing_access_ledger/thingaccessledger/PolicyState" "name" "Ljava/lang/String;" (.ref sen)) (E_sen : Exa Z Z.heap sen "java/lang/String") (F_sen_coder : Fld Z Z.heap sen "java/lang/String" "coder" "B" (.int (0 : Int32))) (F_sen_value : Fld Z Z.heap sen "java/lang/String" "value" "[B" (.ref ten)) (F_odi_name : Fld Z Z.heap odi "com/example/thing_access_ledger/thingaccessledger/PolicyState" "name" "Ljava/lang/String;" (.ref sdi)) (E_sdi : Exa Z Z.heap sdi "java/lang/String") (F_sdi_coder : Fld Z Z.heap sdi "java/lang/String" "coder" "B" (.int (0 : Int32))) (F_sdi_value : Fld Z Z.heap sdi "java/lang/String" "value" "[B" (.ref tdi)) (F_ore_name : Fld Z Z.heap ore "com/example/thing_access_ledger/thingaccessledger/PolicyState" "name" "Ljava/lang/String;" (.ref sre)) (E_sre : Exa Z Z.heap sre "java/lang/String") (F_sre_coder : Fld Z Z.heap sre "java/lang/String" "coder" "B" (.int (0 : Int32))) (F_sre_value : Fld Z Z.heap sre "java/lang/String" "value" "[B" (.ref tre)) (V_va : Arv Z Z.heap va k_va (.object "com/example/thing_access_ledger/thingaccessledger/PolicyState") (4 : Int32) [(.ref ocr), (.ref oen), (.ref odi), (.ref ore)] .null) (V_tcr : Arv Z Z.heap tcr k_tcr .byte (7 : Int32) [(.int (67 : Int32)), (.int (114 : Int32)), (.int (101 : Int32)), (.int (97 : Int32)), (.int (116 : Int32)), (.int (101 : Int32)), (.int (100 : Int32))] (.int (0 : Int32))) (V_ten : Arv Z Z.heap ten k_ten .byte (7 : Int32) [(.int (69 : Int32)), (.int (110 : Int32)), (.int (97 : Int32)), (.int (98 : Int32)), (.int (108 : Int32)), (.int (101 : Int32)), (.int (100 : Int32))] (.int (0 : Int32))) (V_tdi : Arv Z Z.heap tdi k_tdi .byte (8 : Int32) [(.int (68 : Int32)), (.int (105 : Int32)), (.int (115 : Int32)), (.int (97 : Int32)), (.int (98 : Int32)), (.int (108 : Int32)), (.int (101 : Int32)), (.int (100 : Int32))] (.int (0 : Int32))) (V_tre : Arv Z Z.heap tre k_tre .byte (7 : Int32) [(.int (82 : Int32)), (.int (101 : Int32)), (.int (118 : Int32)), (.int (111 : Int32)), (.int (107 : Int32)), (.int (101 : Int32)), (.int (100 : Int32))] (.int (0 : Int32))) (S_CS : Sta Z Z.heap "java/lang/String" "COMPACT_STRINGS" "Z" (.int zc)) (hzc : ¬ zc = 0) (S_FM : Sta Z Z.heap "jdk/internal/util/Preconditions" "SIOOBE_FORMATTER" "Ljava/util/function/BiFunction;" fm) (hfm : fm.isRef = true) (Ex : Exa Z h0 xs "java/lang/String") (Vx : Fld Z h0 xs "java/lang/String" "value" "[B" (.ref xt)) (Cx : Fld Z h0 xs "java/lang/String" "coder" "B" (.int (0 : Int32))) (Kx : Arv Z h0 xt xk .byte (7 : Int32) [(.int (69 : Int32)), (.int (110 : Int32)), (.int (97 : Int32)), (.int (98 : Int32)), (.int (108 : Int32)), (.int (101 : Int32)), (.int (100 : Int32))] (.int (0 : Int32))) :
    MetFree l y0_ (head1 (Jvm.Cond.code y0_ prog_19_method_4_code 5 (some (.object "com/example/thing_access_ledger/thingaccessledger/PolicyState")) :: ws) ({ frames := 2, cells := 1, slots := 4, locals := 28 } : Room)) (fun aa U => aa = #[(.ref xs)] ∧ Z.Warmed39 U.vm ∧ U.heap = h0) (fun _ _ _ _ _ => True) (fun _ U oo U' => ∃ vv LL, oo = .returned vv ∧ QOfen Z ocr va oen odi ore scr tcr sen ten sdi tdi sre tre k_va k_tcr k_ten k_tdi k_tre zc fm xs xt xk h0 n0 vv U'.heap LL ∧ FrameEnd U oo U' LL ({ frames := 2, cells := 1, slots := 4, locals := 28 } : Room).cells ({ frames := 2, cells := 1, slots := 4, locals := 28 } : Room).slots) := by
  refine MetFree.of_bodySF (plainFor_of_name pn_com_example_thing_access_ledger_thingaccessledger_PolicyState) hisR ?_
  intro p e s m args below meth c s₁ Bd hml0 hP hK
  obtain ⟨rfl, hZ, hh⟩ := hP
  have hx := Bd.exec
  have hby := Bd.bytes
  have hml : c.maxLocals = 5 := hml0
  have hown : s.vm.findClass "com/example/thing_access_ledger/thingaccessledger/PolicyState" = some m.cls := findClass_of_methodNamed Bd.named
  have hnm := (name_of_methodNamed Bd.named Bd.method).1
  have X0 : Stand p l e ({ frames := 2, cells := 1, slots := 4, locals := 28 } : Room) s m #[(.ref xs)] below meth c s₁ [] 0 0 := Stand.of_body Bd
  have e0 : s₁.heap = h0 := by rw [← hh, Bd.state]; rfl
  have N0 := Fr.nil n0
  refine Goes.give (Q := QOfen Z ocr va oen odi ore scr tcr sen ten sdi tdi sre tre k_va k_tcr k_ten k_tdi k_tre zc fm xs xt xk h0 n0) ?_
  rw [efOfen m xs]
  have K0 : Keep h0 h0 [] := Keep.refl _ _
  refine Goes.callS X0 hx (y := y1_) hown (mvT hZ (own_w hw 36 rfl)) (mvT hZ (own_w hw 37 rfl)) (mvT hZ (own_w hw 2 rfl)) (mvT hZ (own_w hw 38 rfl)) (by decide) (kc' := 1) (ks' := 4) (backOf (W := 0) (rmVal l Z a0 hw [] ocr va oen odi ore scr tcr sen ten sdi tdi sre tre k_va k_tcr k_ten k_tdi k_tre zc fm h0 n0 Z0 O0 S_CREATED E_ocr S__VALUES E_va S_ENABLED E_oen S_DISABLED E_odi S_REVOKED E_ore F_ocr_name E_scr F_scr_coder F_scr_value F_oen_name E_sen F_sen_coder F_sen_value F_odi_name E_sdi F_sdi_coder F_sdi_value F_ore_name E_sre F_sre_coder F_sre_value V_va V_tcr V_ten V_tdi V_tre S_CS hzc S_FM hfm) hZ (own_w hw 38 rfl) (own_w hw 2 rfl) (ok rfl) (ok rfl)) (g := (mkF m 0 #[.val (.ref xs), .unset, .unset, .unset, .unset] [])) rfl (by rw [hml]; rfl) (argsL := []) (rest := []) (lenOf pd_221203 rfl) rfl (by show 2 * 0 + _ ≤ _; exact Nat.le_of_eq rfl) (hb hby d7_0) rfl e0 (ok rfl) (ok rfl) ?_
  intro v19 T19 L19 q19 X19
  obtain ⟨b19, rfl, N19q, V19, E19, g19⟩ := q19
  have ge_b19 : n0 ≤ b19 := Nat.le_trans Z0 (Nat.le_of_eq g19.symm)
  have N19 := Fr.app N0 N19q
  show Goes p e below _ T19 (mkF m 3 #[.val (.ref xs), .unset, .unset, .unset, .unset] [(.ref b19)])
  refine P1.astoreN X19.here hx #[.val (.ref xs), .val (.ref b19), .unset, .unset, .unset] (hb hby d7_3) rfl rfl ?_
  refine P1.aloadN X19.here hx (hb hby d7_4) rfl rfl ?_
  obtain ⟨cl20, Ar20, qk20, sl20, nz20, ha20, fi20⟩ := id V19
  have al21 : cl20.slots.size.toInt32 = (4 : Int32) := len_of sl20 nz20
  refine Goes.step (T' := T19) (g' := (mkF m 6 #[.val (.ref xs), .val (.ref b19), .unset, .unset, .unset] [(.int (4 : Int32))])) (fun t k => X19.arraylength hx Ar20.1 (State.isArrayOf_alike hZ.alike Ar20.2.1) (g := (mkF m 5 #[.val (.ref xs), .val (.ref b19), .unset, .unset, .unset] [(.ref b19)])) rfl rfl (hb hby d7_5) _ <| by rw [al21]; exact k) ?_
  refine P1.istoreN X19.here hx #[.val (.ref xs), .val (.ref b19), .val (.int (4 : Int32)), .unset, .unset] (hb hby d7_6) rfl ?_
  refine P1.iconst X19.here hx (0 : Int32) (hb hby d7_7) rfl ?_
  refine P1.istoreN X19.here hx #[.val (.ref xs), .val (.ref b19), .val (.int (4 : Int32)), .val (.int (0 : Int32)), .unset] (hb hby d7_8) rfl ?_
  refine P1.iloadN X19.here hx (hb hby d7_9) rfl ?_
  refine P1.iloadN X19.here hx (hb hby d7_10) rfl ?_
  refine Goes.step (T' := T19) (g' := (mkF m 14 #[.val (.ref xs), .val (.ref b19), .val (.int (4 : Int32)), .val (.int (0 : Int32)), .unset] [])) (fun t k => XS.icmpNo X19.here hx rfl (hb hby d7_11) rfl (tlt ((by decide : (0 : Int32) < (4 : Int32)) : (0 : Int32) < (4 : Int32))).2.1 k) ?_
  refine P1.aloadN X19.here hx (hb hby d7_14) rfl rfl ?_
  refine P1.iloadN X19.here hx (hb hby d7_15) rfl ?_
  obtain ⟨cl22, Ar22, qk22, sl22, nz22, ha22, fi22⟩ := id V19
  have i23 := inb_of (j := (0 : Int32)) sl22 ⟨by decide, by decide⟩
  refine Goes.step (T' := T19) (g' := (mkF m 17 #[.val (.ref xs), .val (.ref b19), .val (.int (4 : Int32)), .val (.int (0 : Int32)), .unset] [(.ref ocr)])) (fun t k => X19.aaload hx (j := (0 : Int32)) (v := (.ref ocr)) Ar22.1 (State.isArrayOf_alike hZ.alike Ar22.2.1) rfl Ar22.2.2 i23 (Has.at ha22 i23 rfl) (g := (mkF m 16 #[.val (.ref xs), .val (.ref b19), .val (.int (4 : Int32)), .val (.int (0 : Int32)), .unset] [(.int (0 : Int32)), (.ref b19)])) rfl rfl (hb hby d7_16) _ k) ?_
  refine P1.astore X19.here hx #[.val (.ref xs), .val (.ref b19), .val (.int (4 : Int32)), .val (.int (0 : Int32)), .val (.ref ocr)] (hb hby d7_17) rfl rfl ?_
  refine P1.aload X19.here hx (hb hby d7_19) rfl rfl ?_
  have O24 : Old Z n0 T19.heap := O0.ext E19
  obtain ⟨T25, X25, e25, st25⟩ := getF X19 hx hZ hown (host := "") (Or.inl (own_w hw 54 rfl)) Via.refl rfl (F_ocr_name.ext O24.2) (g := (mkF m 21 #[.val (.ref xs), .val (.ref b19), .val (.int (4 : Int32)), .val (.int (0 : Int32)), .val (.ref ocr)] [(.ref ocr)])) rfl rfl (hb hby d7_21)
  refine Goes.step (T' := T25) (g' := (mkF m 24 #[.val (.ref xs), .val (.ref b19), .val (.int (4 : Int32)), .val (.int (0 : Int32)), .val (.ref ocr)] [(.ref scr)])) st25 ?_
  refine P1.aloadN X25.here hx (hb hby d7_24) rfl rfl ?_
  have V26 : Arv Z T19.heap tcr k_tcr .byte (7 : Int32) [(.int (67 : Int32)), (.int (114 : Int32)), (.int (101 : Int32)), (.int (97 : Int32)), (.int (116 : Int32)), (.int (101 : Int32)), (.int (100 : Int32))] (.int (0 : Int32)) := (V_tcr.ext O24.2)
  have E27 : Exa Z T19.heap xs "java/lang/String" := Ex.ext E19
  have F28 : Fld Z T19.heap xs "java/lang/String" "value" "[B" (.ref xt) := Vx.ext E19
  have F29 : Fld Z T19.heap xs "java/lang/String" "coder" "B" (.int (0 : Int32)) := Cx.ext E19
  have V30 : Arv Z T19.heap xt xk .byte (7 : Int32) [(.int (69 : Int32)), (.int (110 : Int32)), (.int (97 : Int32)), (.int (98 : Int32)), (.int (108 : Int32)), (.int (101 : Int32)), (.int (100 : Int32))] (.int (0 : Int32)) := Kx.ext E19
  refine Goes.callV X25 hx hZ (y := y3_) (z := y3_) (Qc := fun v h' L => (((v = some (.int 1) ∧ ([(67 : Int32), (114 : Int32), (101 : Int32), (97 : Int32), (116 : Int32), (101 : Int32), (100 : Int32)] : List Int32) = ([(69 : Int32), (110 : Int32), (97 : Int32), (98 : Int32), (108 : Int32), (101 : Int32), (100 : Int32)] : List Int32)) ∨ (v = some (.int 0) ∧ ¬ ([(67 : Int32), (114 : Int32), (101 : Int32), (97 : Int32), (116 : Int32), (101 : Int32), (100 : Int32)] : List Int32) = ([(69 : Int32), (110 : Int32), (97 : Int32), (98 : Int32), (108 : Int32), (101 : Int32), (100 : Int32)] : List Int32))) ∧ L = [] ∧ h' = T19.heap)) hown (mvT hZ (own_w hw 56 rfl)) (mvT hZ (own_w hw 57 rfl)) (notFace_of_selects (args := #[]) (mvT hZ (own_w hw 59 rfl))) (mvT hZ (own_w hw 59 rfl)) (mvT hZ (own_w hw 58 rfl)) (by decide) (kc' := 0) (ks' := 0) (StrChars.Road.eqW (W := 0) hZ (fun d hd => hw d (in_wordsEq d hd)) (kI := 4) (own_w hw 5 rfl) (E_scr.ext O24.2) (F_scr_value.ext O24.2) (F_scr_coder.ext O24.2) V26 (show StrChars.Road.CodA ([(67 : Int32), (114 : Int32), (101 : Int32), (97 : Int32), (116 : Int32), (101 : Int32), (100 : Int32)] : List Int32) 0 (7 : Int32) _ from Or.inl ⟨rfl, rfl, rfl, by decide⟩) (by decide) (ok rfl) E27 F28 F29 V30 (show StrChars.Road.CodA ([(69 : Int32), (110 : Int32), (97 : Int32), (98 : Int32), (108 : Int32), (101 : Int32), (100 : Int32)] : List Int32) 0 (7 : Int32) _ from Or.inl ⟨rfl, rfl, rfl, by decide⟩) (by decide) (ok rfl) (S_CS.ext O24.2) hzc (ok rfl) (ok rfl)) (b := scr) e25 (E_scr.ext O24.2) (g := (mkF m 25 #[.val (.ref xs), .val (.ref b19), .val (.int (4 : Int32)), .val (.int (0 : Int32)), .val (.ref ocr)] [(.ref xs), (.ref scr)])) rfl (by rw [hml]; rfl) (argsL := [(.ref xs)]) (rest := []) (lenOf pd_20140 rfl) rfl (by show 2 * 0 + _ ≤ _; exact Nat.le_of_eq rfl) (hb hby d7_25) rfl (ok rfl) (ok rfl) ?_
  intro v31 T31 L31 q31 X31
  obtain ⟨q31, rfl, hE31⟩ := q31
  have N31 := Fr.app N19 (Fr.nil n0)
  obtain ⟨rfl, -⟩ := q31.resolve_left (fun z => absurd z.2 (by decide))
  show Goes p e below _ T31 (mkF m 28 #[.val (.ref xs), .val (.ref b19), .val (.int (4 : Int32)), .val (.int (0 : Int32)), .val (.ref ocr)] [(.int (0 : Int32))])
  refine Goes.step (T' := T31) (g' := (mkF m 34 #[.val (.ref xs), .val (.ref b19), .val (.int (4 : Int32)), .val (.int (0 : Int32)), .val (.ref ocr)] [])) (fun t k => XS.ifYes X31.here hx rfl (pc0 := 28) (pc' := 34) rfl (hb hby d7_28) rfl ((if0 _ _).trans (teq ((by decide : (0 : Int32) = (0 : Int32)) : (0 : Int32) = (0 : Int32))).1) (by decide) (by decide) k) ?_
  refine Goes.step (T' := T31) (g' := (mkF m 37 #[.val (.ref xs), .val (.ref b19), .val (.int (4 : Int32)), .val (.int ((0 : Int32) + (1 : Int32))), .val (.ref ocr)] [])) (fun t k => XS.iinc X31.here hx rfl (hb hby d7_34) rfl (l' := #[.val (.ref xs), .val (.ref b19), .val (.int (4 : Int32)), .val (.int ((0 : Int32) + (1 : Int32))), .val (.ref ocr)]) rfl k) ?_
  have rw32 : ((0 : Int32) + (1 : Int32)) = (1 : Int32) := by decide
  rw [rw32]
  refine P1.goto X31.here hx 9 (hb hby d7_37) (by decide) (by decide) ?_
  refine P1.iloadN X31.here hx (hb hby d7_9) rfl ?_
  refine P1.iloadN X31.here hx (hb hby d7_10) rfl ?_
  refine Goes.step (T' := T31) (g' := (mkF m 14 #[.val (.ref xs), .val (.ref b19), .val (.int (4 : Int32)), .val (.int (1 : Int32)), .val (.ref ocr)] [])) (fun t k => XS.icmpNo X31.here hx rfl (hb hby d7_11) rfl (tlt ((by decide : (1 : Int32) < (4 : Int32)) : (1 : Int32) < (4 : Int32))).2.1 k) ?_
  refine P1.aloadN X31.here hx (hb hby d7_14) rfl rfl ?_
  refine P1.iloadN X31.here hx (hb hby d7_15) rfl ?_
  obtain ⟨cl33, Ar33, qk33, sl33, nz33, ha33, fi33⟩ := id V19
  have i34 := inb_of (j := (1 : Int32)) sl33 ⟨by decide, by decide⟩
  refine Goes.step (T' := T31) (g' := (mkF m 17 #[.val (.ref xs), .val (.ref b19), .val (.int (4 : Int32)), .val (.int (1 : Int32)), .val (.ref ocr)] [(.ref oen)])) (fun t k => X31.aaload hx (j := (1 : Int32)) (v := (.ref oen)) (by rw [hE31]; exact Ar33.1) (State.isArrayOf_alike hZ.alike Ar33.2.1) rfl Ar33.2.2 i34 (Has.at ha33 i34 rfl) (g := (mkF m 16 #[.val (.ref xs), .val (.ref b19), .val (.int (4 : Int32)), .val (.int (1 : Int32)), .val (.ref ocr)] [(.int (1 : Int32)), (.ref b19)])) rfl rfl (hb hby d7_16) _ k) ?_
  refine P1.astore X31.here hx #[.val (.ref xs), .val (.ref b19), .val (.int (4 : Int32)), .val (.int (1 : Int32)), .val (.ref oen)] (hb hby d7_17) rfl rfl ?_
  refine P1.aload X31.here hx (hb hby d7_19) rfl rfl ?_
  obtain ⟨T35, X35, e35, st35⟩ := getF X31 hx hZ hown (host := "") (Or.inl (own_w hw 54 rfl)) Via.refl hE31 (F_oen_name.ext O24.2) (g := (mkF m 21 #[.val (.ref xs), .val (.ref b19), .val (.int (4 : Int32)), .val (.int (1 : Int32)), .val (.ref oen)] [(.ref oen)])) rfl rfl (hb hby d7_21)
  refine Goes.step (T' := T35) (g' := (mkF m 24 #[.val (.ref xs), .val (.ref b19), .val (.int (4 : Int32)), .val (.int (1 : Int32)), .val (.ref oen)] [(.ref sen)])) st35 ?_
  refine P1.aloadN X35.here hx (hb hby d7_24) rfl rfl ?_
  have V36 : Arv Z T19.heap ten k_ten .byte (7 : Int32) [(.int (69 : Int32)), (.int (110 : Int32)), (.int (97 : Int32)), (.int (98 : Int32)), (.int (108 : Int32)), (.int (101 : Int32)), (.int (100 : Int32))] (.int (0 : Int32)) := (V_ten.ext O24.2)
  refine Goes.callV X35 hx hZ (y := y3_) (z := y3_) (Qc := fun v h' L => (((v = some (.int 1) ∧ ([(69 : Int32), (110 : Int32), (97 : Int32), (98 : Int32), (108 : Int32), (101 : Int32), (100 : Int32)] : List Int32) = ([(69 : Int32), (110 : Int32), (97 : Int32), (98 : Int32), (108 : Int32), (101 : Int32), (100 : Int32)] : List Int32)) ∨ (v = some (.int 0) ∧ ¬ ([(69 : Int32), (110 : Int32), (97 : Int32), (98 : Int32), (108 : Int32), (101 : Int32), (100 : Int32)] : List Int32) = ([(69 : Int32), (110 : Int32), (97 : Int32), (98 : Int32), (108 : Int32), (101 : Int32), (100 : Int32)] : List Int32))) ∧ L = [] ∧ h' = T19.heap)) hown (mvT hZ (own_w hw 56 rfl)) (mvT hZ (own_w hw 57 rfl)) (notFace_of_selects (args := #[]) (mvT hZ (own_w hw 59 rfl))) (mvT hZ (own_w hw 59 rfl)) (mvT hZ (own_w hw 58 rfl)) (by decide) (kc' := 0) (ks' := 0) (StrChars.Road.eqW (W := 0) hZ (fun d hd => hw d (in_wordsEq d hd)) (kI := 4) (own_w hw 5 rfl) (E_sen.ext O24.2) (F_sen_value.ext O24.2) (F_sen_coder.ext O24.2) V36 (show StrChars.Road.CodA ([(69 : Int32), (110 : Int32), (97 : Int32), (98 : Int32), (108 : Int32), (101 : Int32), (100 : Int32)] : List Int32) 0 (7 : Int32) _ from Or.inl ⟨rfl, rfl, rfl, by decide⟩) (by decide) (ok rfl) E27 F28 F29 V30 (show StrChars.Road.CodA ([(69 : Int32), (110 : Int32), (97 : Int32), (98 : Int32), (108 : Int32), (101 : Int32), (100 : Int32)] : List Int32) 0 (7 : Int32) _ from Or.inl ⟨rfl, rfl, rfl, by decide⟩) (by decide) (ok rfl) (S_CS.ext O24.2) hzc (ok rfl) (ok rfl)) (b := sen) e35 (E_sen.ext O24.2) (g := (mkF m 25 #[.val (.ref xs), .val (.ref b19), .val (.int (4 : Int32)), .val (.int (1 : Int32)), .val (.ref oen)] [(.ref xs), (.ref sen)])) rfl (by rw [hml]; rfl) (argsL := [(.ref xs)]) (rest := []) (lenOf pd_20140 rfl) rfl (by show 2 * 0 + _ ≤ _; exact Nat.le_of_eq rfl) (hb hby d7_25) rfl (ok rfl) (ok rfl) ?_
  intro v37 T37 L37 q37 X37
  obtain ⟨q37, rfl, hE37⟩ := q37
  have N37 := Fr.app N31 (Fr.nil n0)
  obtain ⟨rfl, -⟩ := q37.resolve_right (fun z => z.2 rfl)
  show Goes p e below _ T37 (mkF m 28 #[.val (.ref xs), .val (.ref b19), .val (.int (4 : Int32)), .val (.int (1 : Int32)), .val (.ref oen)] [(.int (1 : Int32))])
  refine Goes.step (T' := T37) (g' := (mkF m 31 #[.val (.ref xs), .val (.ref b19), .val (.int (4 : Int32)), .val (.int (1 : Int32)), .val (.ref oen)] [])) (fun t k => XS.ifNo X37.here hx rfl (hb hby d7_28) rfl ((if0 _ _).trans (feq ((by decide : ¬ ((1 : Int32) = (0 : Int32))) : ¬ ((1 : Int32) = (0 : Int32)))).1) k) ?_
  refine P1.aload X37.here hx (hb hby d7_31) rfl rfl ?_
  refine Goes.retA X37 hx Bd.notSynchronized Bd.returns rfl rfl (hb hby d7_33) (ok rfl) (ok rfl) ?_
  rw [hE37]
  have K38 : Keep h0 T19.heap [] := K0.ext E19
  exact ⟨rfl, N37, K38⟩
theorem efOfdi (m : MethodId) (xs : Addr) : entryFrame m #[(.ref xs)] 5 = mkF m 0 #[.val (.ref xs), .unset, .unset, .unset, .unset] [] := by first | (simp [entryFrame, mkF, argsToLocals, Value.category]; done) | rfl
def QOfdi (Z : State) (ocr : Addr) (va : Addr) (oen : Addr) (odi : Addr) (ore : Addr) (scr : Addr) (tcr : Addr) (sen : Addr) (ten : Addr) (sdi : Addr) (tdi : Addr) (sre : Addr) (tre : Addr) (k_va : ClassId) (k_tcr : ClassId) (k_ten : ClassId) (k_tdi : ClassId) (k_tre : ClassId) (zc : Int32) (fm : Value) (xs : Addr) (xt : Addr) (xk : ClassId) (h0 : Heap) (n0 : Nat) (v : Option Value) (h : Heap) (L : List Loc) : Prop := v = some (.ref odi) ∧ Fr n0 L ∧ Keep h0 h []
set_option maxRecDepth 65536 in
set_option maxHeartbeats 40000000 in
theorem rmOfdi (l : Launch) (Z : State) (a0 : Array Value) (hw : ∀ d ∈ tables_1, d.before a0 Z = true) (ws : List Jvm.Cond) (ocr : Addr) (va : Addr) (oen : Addr) (odi : Addr) (ore : Addr) (scr : Addr) (tcr : Addr) (sen : Addr) (ten : Addr) (sdi : Addr) (tdi : Addr) (sre : Addr) (tre : Addr) (k_va : ClassId) (k_tcr : ClassId) (k_ten : ClassId) (k_tdi : ClassId) (k_tre : ClassId) (zc : Int32) (fm : Value) (xs : Addr) (xt : Addr) (xk : ClassId) (h0 : Heap) (n0 : Nat) (Z0 : n0 ≤ h0.size) (O0 : Old Z n0 h0) (S_CREATED : Sta Z Z.heap "com/example/thing_access_ledger/thingaccessledger/PolicyState" "CREATED" "Lcom/example/thing_access_ledger/thingaccessledger/PolicyState;" (.ref ocr)) (E_ocr : Exa Z Z.heap ocr "com/example/thing_access_ledger/thingaccessledger/PolicyState") (S__VALUES : Sta Z Z.heap "com/example/thing_access_ledger/thingaccessledger/PolicyState" "$VALUES" "[Lcom/example/thing_access_ledger/thingaccessledger/PolicyState;" (.ref va)) (E_va : Exa Z Z.heap va "[Lcom/example/thing_access_ledger/thingaccessledger/PolicyState;") (S_ENABLED : Sta Z Z.heap "com/example/thing_access_ledger/thingaccessledger/PolicyState" "ENABLED" "Lcom/example/thing_access_ledger/thingaccessledger/PolicyState;" (.ref oen)) (E_oen : Exa Z Z.heap oen "com/example/thing_access_ledger/thingaccessledger/PolicyState") (S_DISABLED : Sta Z Z.heap "com/example/thing_access_ledger/thingaccessledger/PolicyState" "DISABLED" "Lcom/example/thing_access_ledger/thingaccessledger/PolicyState;" (.ref odi)) (E_odi : Exa Z Z.heap odi "com/example/thing_access_ledger/thingaccessledger/PolicyState") (S_REVOKED : Sta Z Z.heap "com/example/thing_access_ledger/thingaccessledger/PolicyState" "REVOKED" "Lcom/example/thing_access_ledger/thingaccessledger/PolicyState;" (.ref ore)) (E_ore : Exa Z Z.heap ore "com/example/thing_access_ledger/thingaccessledger/PolicyState") (F_ocr_name : Fld Z Z.heap ocr "com/example/thing_access_ledger/thingaccessledger/PolicyState" "name" "Ljava/lang/String;" (.ref scr)) (E_scr : Exa Z Z.heap scr "java/lang/String") (F_scr_coder : Fld Z Z.heap scr "java/lang/String" "coder" "B" (.int (0 : Int32))) (F_scr_value : Fld Z Z.heap scr "java/lang/String" "value" "[B" (.ref tcr)) (F_oen_name : Fld Z Z.heap oen "com/example/thing_access_ledger/thingaccessledger/PolicyState" "name" "Ljava/lang/String;" (.ref sen)) (E_sen : Exa Z Z.heap sen "java/lang/String") (F_sen_coder : Fld Z Z.heap sen "java/lang/String" "coder" "B" (.int (0 : Int32))) (F_sen_value : Fld Z Z.heap sen "java/lang/String" "value" "[B" (.ref ten)) (F_odi_name : Fld Z Z.heap odi "com/example/thing_access_ledger/thingaccessledger/PolicyState" "name" "Ljava/lang/String;" (.ref sdi)) (E_sdi : Exa Z Z.heap sdi "java/lang/String") (F_sdi_coder : Fld Z Z.heap sdi "java/lang/String" "coder" "B" (.int (0 : Int32))) (F_sdi_value : Fld Z Z.heap sdi "java/lang/String" "value" "[B" (.ref tdi)) (F_ore_name : Fld Z Z.heap ore "com/example/thing_access_ledger/thingaccessledger/PolicyState" "name" "Ljava/lang/String;" (.ref sre)) (E_sre : Exa Z Z.heap sre "java/lang/String") (F_sre_coder : Fld Z Z.heap sre "java/lang/String" "coder" "B" (.int (0 : Int32))) (F_sre_value : Fld Z Z.heap sre "java/lang/String" "value" "[B" (.ref tre)) (V_va : Arv Z Z.heap va k_va (.object "com/example/thing_access_ledger/thingaccessledger/PolicyState") (4 : Int32) [(.ref ocr), (.ref oen), (.ref odi), (.ref ore)] .null) (V_tcr : Arv Z Z.heap tcr k_tcr .byte (7 : Int32) [(.int (67 : Int32)), (.int (114 : Int32)), (.int (101 : Int32)), (.int (97 : Int32)), (.int (116 : Int32)), (.int (101 : Int32)), (.int (100 : Int32))] (.int (0 : Int32))) (V_ten : Arv Z Z.heap ten k_ten .byte (7 : Int32) [(.int (69 : Int32)), (.int (110 : Int32)), (.int (97 : Int32)), (.int (98 : Int32)), (.int (108 : Int32)), (.int (101 : Int32)), (.int (100 : Int32))] (.int (0 : Int32))) (V_tdi : Arv Z Z.heap tdi k_tdi .byte (8 : Int32) [(.int (68 : Int32)), (.int (105 : Int32)), (.int (115 : Int32)), (.int (97 : Int32)), (.int (98 : Int32)), (.int (108 : Int32)), (.int (101 : Int32)), (.int (100 : Int32))] (.int (0 : Int32))) (V_tre : Arv Z Z.heap tre k_tre .byte (7 : Int32) [(.int (82 : Int32)), (.int (101 : Int32)), (.int (118 : Int32)), (.int (111 : Int32)), (.int (107 : Int32)), (.int (101 : Int32)), (.int (100 : Int32))] (.int (0 : Int32))) (S_CS : Sta Z Z.heap "java/lang/String" "COMPACT_STRINGS" "Z" (.int zc)) (hzc : ¬ zc = 0) (S_FM : Sta Z Z.heap "jdk/internal/util/Preconditions" "SIOOBE_FORMATTER" "Ljava/util/function/BiFunction;" fm) (hfm : fm.isRef = true) (Ex : Exa Z h0 xs "java/lang/String") (Vx : Fld Z h0 xs "java/lang/String" "value" "[B" (.ref xt)) (Cx : Fld Z h0 xs "java/lang/String" "coder" "B" (.int (0 : Int32))) (Kx : Arv Z h0 xt xk .byte (8 : Int32) [(.int (68 : Int32)), (.int (105 : Int32)), (.int (115 : Int32)), (.int (97 : Int32)), (.int (98 : Int32)), (.int (108 : Int32)), (.int (101 : Int32)), (.int (100 : Int32))] (.int (0 : Int32))) :
    MetFree l y0_ (head1 (Jvm.Cond.code y0_ prog_19_method_4_code 5 (some (.object "com/example/thing_access_ledger/thingaccessledger/PolicyState")) :: ws) ({ frames := 2, cells := 1, slots := 4, locals := 28 } : Room)) (fun aa U => aa = #[(.ref xs)] ∧ Z.Warmed39 U.vm ∧ U.heap = h0) (fun _ _ _ _ _ => True) (fun _ U oo U' => ∃ vv LL, oo = .returned vv ∧ QOfdi Z ocr va oen odi ore scr tcr sen ten sdi tdi sre tre k_va k_tcr k_ten k_tdi k_tre zc fm xs xt xk h0 n0 vv U'.heap LL ∧ FrameEnd U oo U' LL ({ frames := 2, cells := 1, slots := 4, locals := 28 } : Room).cells ({ frames := 2, cells := 1, slots := 4, locals := 28 } : Room).slots) := by
  refine MetFree.of_bodySF (plainFor_of_name pn_com_example_thing_access_ledger_thingaccessledger_PolicyState) hisR ?_
  intro p e s m args below meth c s₁ Bd hml0 hP hK
  obtain ⟨rfl, hZ, hh⟩ := hP
  have hx := Bd.exec
  have hby := Bd.bytes
  have hml : c.maxLocals = 5 := hml0
  have hown : s.vm.findClass "com/example/thing_access_ledger/thingaccessledger/PolicyState" = some m.cls := findClass_of_methodNamed Bd.named
  have hnm := (name_of_methodNamed Bd.named Bd.method).1
  have X0 : Stand p l e ({ frames := 2, cells := 1, slots := 4, locals := 28 } : Room) s m #[(.ref xs)] below meth c s₁ [] 0 0 := Stand.of_body Bd
  have e0 : s₁.heap = h0 := by rw [← hh, Bd.state]; rfl
  have N0 := Fr.nil n0
  refine Goes.give (Q := QOfdi Z ocr va oen odi ore scr tcr sen ten sdi tdi sre tre k_va k_tcr k_ten k_tdi k_tre zc fm xs xt xk h0 n0) ?_
  rw [efOfdi m xs]
  have K0 : Keep h0 h0 [] := Keep.refl _ _
  refine Goes.callS X0 hx (y := y1_) hown (mvT hZ (own_w hw 36 rfl)) (mvT hZ (own_w hw 37 rfl)) (mvT hZ (own_w hw 2 rfl)) (mvT hZ (own_w hw 38 rfl)) (by decide) (kc' := 1) (ks' := 4) (backOf (W := 0) (rmVal l Z a0 hw [] ocr va oen odi ore scr tcr sen ten sdi tdi sre tre k_va k_tcr k_ten k_tdi k_tre zc fm h0 n0 Z0 O0 S_CREATED E_ocr S__VALUES E_va S_ENABLED E_oen S_DISABLED E_odi S_REVOKED E_ore F_ocr_name E_scr F_scr_coder F_scr_value F_oen_name E_sen F_sen_coder F_sen_value F_odi_name E_sdi F_sdi_coder F_sdi_value F_ore_name E_sre F_sre_coder F_sre_value V_va V_tcr V_ten V_tdi V_tre S_CS hzc S_FM hfm) hZ (own_w hw 38 rfl) (own_w hw 2 rfl) (ok rfl) (ok rfl)) (g := (mkF m 0 #[.val (.ref xs), .unset, .unset, .unset, .unset] [])) rfl (by rw [hml]; rfl) (argsL := []) (rest := []) (lenOf pd_221203 rfl) rfl (by show 2 * 0 + _ ≤ _; exact Nat.le_of_eq rfl) (hb hby d7_0) rfl e0 (ok rfl) (ok rfl) ?_
  intro v39 T39 L39 q39 X39
  obtain ⟨b39, rfl, N39q, V39, E39, g39⟩ := q39
  have ge_b39 : n0 ≤ b39 := Nat.le_trans Z0 (Nat.le_of_eq g39.symm)
  have N39 := Fr.app N0 N39q
  show Goes p e below _ T39 (mkF m 3 #[.val (.ref xs), .unset, .unset, .unset, .unset] [(.ref b39)])
  refine P1.astoreN X39.here hx #[.val (.ref xs), .val (.ref b39), .unset, .unset, .unset] (hb hby d7_3) rfl rfl ?_
  refine P1.aloadN X39.here hx (hb hby d7_4) rfl rfl ?_
  obtain ⟨cl40, Ar40, qk40, sl40, nz40, ha40, fi40⟩ := id V39
  have al41 : cl40.slots.size.toInt32 = (4 : Int32) := len_of sl40 nz40
  refine Goes.step (T' := T39) (g' := (mkF m 6 #[.val (.ref xs), .val (.ref b39), .unset, .unset, .unset] [(.int (4 : Int32))])) (fun t k => X39.arraylength hx Ar40.1 (State.isArrayOf_alike hZ.alike Ar40.2.1) (g := (mkF m 5 #[.val (.ref xs), .val (.ref b39), .unset, .unset, .unset] [(.ref b39)])) rfl rfl (hb hby d7_5) _ <| by rw [al41]; exact k) ?_
  refine P1.istoreN X39.here hx #[.val (.ref xs), .val (.ref b39), .val (.int (4 : Int32)), .unset, .unset] (hb hby d7_6) rfl ?_
  refine P1.iconst X39.here hx (0 : Int32) (hb hby d7_7) rfl ?_
  refine P1.istoreN X39.here hx #[.val (.ref xs), .val (.ref b39), .val (.int (4 : Int32)), .val (.int (0 : Int32)), .unset] (hb hby d7_8) rfl ?_
  refine P1.iloadN X39.here hx (hb hby d7_9) rfl ?_
  refine P1.iloadN X39.here hx (hb hby d7_10) rfl ?_
  refine Goes.step (T' := T39) (g' := (mkF m 14 #[.val (.ref xs), .val (.ref b39), .val (.int (4 : Int32)), .val (.int (0 : Int32)), .unset] [])) (fun t k => XS.icmpNo X39.here hx rfl (hb hby d7_11) rfl (tlt ((by decide : (0 : Int32) < (4 : Int32)) : (0 : Int32) < (4 : Int32))).2.1 k) ?_
  refine P1.aloadN X39.here hx (hb hby d7_14) rfl rfl ?_
  refine P1.iloadN X39.here hx (hb hby d7_15) rfl ?_
  obtain ⟨cl42, Ar42, qk42, sl42, nz42, ha42, fi42⟩ := id V39
  have i43 := inb_of (j := (0 : Int32)) sl42 ⟨by decide, by decide⟩
  refine Goes.step (T' := T39) (g' := (mkF m 17 #[.val (.ref xs), .val (.ref b39), .val (.int (4 : Int32)), .val (.int (0 : Int32)), .unset] [(.ref ocr)])) (fun t k => X39.aaload hx (j := (0 : Int32)) (v := (.ref ocr)) Ar42.1 (State.isArrayOf_alike hZ.alike Ar42.2.1) rfl Ar42.2.2 i43 (Has.at ha42 i43 rfl) (g := (mkF m 16 #[.val (.ref xs), .val (.ref b39), .val (.int (4 : Int32)), .val (.int (0 : Int32)), .unset] [(.int (0 : Int32)), (.ref b39)])) rfl rfl (hb hby d7_16) _ k) ?_
  refine P1.astore X39.here hx #[.val (.ref xs), .val (.ref b39), .val (.int (4 : Int32)), .val (.int (0 : Int32)), .val (.ref ocr)] (hb hby d7_17) rfl rfl ?_
  refine P1.aload X39.here hx (hb hby d7_19) rfl rfl ?_
  have O44 : Old Z n0 T39.heap := O0.ext E39
  obtain ⟨T45, X45, e45, st45⟩ := getF X39 hx hZ hown (host := "") (Or.inl (own_w hw 54 rfl)) Via.refl rfl (F_ocr_name.ext O44.2) (g := (mkF m 21 #[.val (.ref xs), .val (.ref b39), .val (.int (4 : Int32)), .val (.int (0 : Int32)), .val (.ref ocr)] [(.ref ocr)])) rfl rfl (hb hby d7_21)
  refine Goes.step (T' := T45) (g' := (mkF m 24 #[.val (.ref xs), .val (.ref b39), .val (.int (4 : Int32)), .val (.int (0 : Int32)), .val (.ref ocr)] [(.ref scr)])) st45 ?_
  refine P1.aloadN X45.here hx (hb hby d7_24) rfl rfl ?_
  have V46 : Arv Z T39.heap tcr k_tcr .byte (7 : Int32) [(.int (67 : Int32)), (.int (114 : Int32)), (.int (101 : Int32)), (.int (97 : Int32)), (.int (116 : Int32)), (.int (101 : Int32)), (.int (100 : Int32))] (.int (0 : Int32)) := (V_tcr.ext O44.2)
  have E47 : Exa Z T39.heap xs "java/lang/String" := Ex.ext E39
  have F48 : Fld Z T39.heap xs "java/lang/String" "value" "[B" (.ref xt) := Vx.ext E39
  have F49 : Fld Z T39.heap xs "java/lang/String" "coder" "B" (.int (0 : Int32)) := Cx.ext E39
  have V50 : Arv Z T39.heap xt xk .byte (8 : Int32) [(.int (68 : Int32)), (.int (105 : Int32)), (.int (115 : Int32)), (.int (97 : Int32)), (.int (98 : Int32)), (.int (108 : Int32)), (.int (101 : Int32)), (.int (100 : Int32))] (.int (0 : Int32)) := Kx.ext E39
  refine Goes.callV X45 hx hZ (y := y3_) (z := y3_) (Qc := fun v h' L => (((v = some (.int 1) ∧ ([(67 : Int32), (114 : Int32), (101 : Int32), (97 : Int32), (116 : Int32), (101 : Int32), (100 : Int32)] : List Int32) = ([(68 : Int32), (105 : Int32), (115 : Int32), (97 : Int32), (98 : Int32), (108 : Int32), (101 : Int32), (100 : Int32)] : List Int32)) ∨ (v = some (.int 0) ∧ ¬ ([(67 : Int32), (114 : Int32), (101 : Int32), (97 : Int32), (116 : Int32), (101 : Int32), (100 : Int32)] : List Int32) = ([(68 : Int32), (105 : Int32), (115 : Int32), (97 : Int32), (98 : Int32), (108 : Int32), (101 : Int32), (100 : Int32)] : List Int32))) ∧ L = [] ∧ h' = T39.heap)) hown (mvT hZ (own_w hw 56 rfl)) (mvT hZ (own_w hw 57 rfl)) (notFace_of_selects (args := #[]) (mvT hZ (own_w hw 59 rfl))) (mvT hZ (own_w hw 59 rfl)) (mvT hZ (own_w hw 58 rfl)) (by decide) (kc' := 0) (ks' := 0) (StrChars.Road.eqW (W := 0) hZ (fun d hd => hw d (in_wordsEq d hd)) (kI := 4) (own_w hw 5 rfl) (E_scr.ext O44.2) (F_scr_value.ext O44.2) (F_scr_coder.ext O44.2) V46 (show StrChars.Road.CodA ([(67 : Int32), (114 : Int32), (101 : Int32), (97 : Int32), (116 : Int32), (101 : Int32), (100 : Int32)] : List Int32) 0 (7 : Int32) _ from Or.inl ⟨rfl, rfl, rfl, by decide⟩) (by decide) (ok rfl) E47 F48 F49 V50 (show StrChars.Road.CodA ([(68 : Int32), (105 : Int32), (115 : Int32), (97 : Int32), (98 : Int32), (108 : Int32), (101 : Int32), (100 : Int32)] : List Int32) 0 (8 : Int32) _ from Or.inl ⟨rfl, rfl, rfl, by decide⟩) (by decide) (ok rfl) (S_CS.ext O44.2) hzc (ok rfl) (ok rfl)) (b := scr) e45 (E_scr.ext O44.2) (g := (mkF m 25 #[.val (.ref xs), .val (.ref b39), .val (.int (4 : Int32)), .val (.int (0 : Int32)), .val (.ref ocr)] [(.ref xs), (.ref scr)])) rfl (by rw [hml]; rfl) (argsL := [(.ref xs)]) (rest := []) (lenOf pd_20140 rfl) rfl (by show 2 * 0 + _ ≤ _; exact Nat.le_of_eq rfl) (hb hby d7_25) rfl (ok rfl) (ok rfl) ?_
  intro v51 T51 L51 q51 X51
  obtain ⟨q51, rfl, hE51⟩ := q51
  have N51 := Fr.app N39 (Fr.nil n0)
  obtain ⟨rfl, -⟩ := q51.resolve_left (fun z => absurd z.2 (by decide))
  show Goes p e below _ T51 (mkF m 28 #[.val (.ref xs), .val (.ref b39), .val (.int (4 : Int32)), .val (.int (0 : Int32)), .val (.ref ocr)] [(.int (0 : Int32))])
  refine Goes.step (T' := T51) (g' := (mkF m 34 #[.val (.ref xs), .val (.ref b39), .val (.int (4 : Int32)), .val (.int (0 : Int32)), .val (.ref ocr)] [])) (fun t k => XS.ifYes X51.here hx rfl (pc0 := 28) (pc' := 34) rfl (hb hby d7_28) rfl ((if0 _ _).trans (teq ((by decide : (0 : Int32) = (0 : Int32)) : (0 : Int32) = (0 : Int32))).1) (by decide) (by decide) k) ?_
  refine Goes.step (T' := T51) (g' := (mkF m 37 #[.val (.ref xs), .val (.ref b39), .val (.int (4 : Int32)), .val (.int ((0 : Int32) + (1 : Int32))), .val (.ref ocr)] [])) (fun t k => XS.iinc X51.here hx rfl (hb hby d7_34) rfl (l' := #[.val (.ref xs), .val (.ref b39), .val (.int (4 : Int32)), .val (.int ((0 : Int32) + (1 : Int32))), .val (.ref ocr)]) rfl k) ?_
  have rw52 : ((0 : Int32) + (1 : Int32)) = (1 : Int32) := by decide
  rw [rw52]
  refine P1.goto X51.here hx 9 (hb hby d7_37) (by decide) (by decide) ?_
  refine P1.iloadN X51.here hx (hb hby d7_9) rfl ?_
  refine P1.iloadN X51.here hx (hb hby d7_10) rfl ?_
  refine Goes.step (T' := T51) (g' := (mkF m 14 #[.val (.ref xs), .val (.ref b39), .val (.int (4 : Int32)), .val (.int (1 : Int32)), .val (.ref ocr)] [])) (fun t k => XS.icmpNo X51.here hx rfl (hb hby d7_11) rfl (tlt ((by decide : (1 : Int32) < (4 : Int32)) : (1 : Int32) < (4 : Int32))).2.1 k) ?_
  refine P1.aloadN X51.here hx (hb hby d7_14) rfl rfl ?_
  refine P1.iloadN X51.here hx (hb hby d7_15) rfl ?_
  obtain ⟨cl53, Ar53, qk53, sl53, nz53, ha53, fi53⟩ := id V39
  have i54 := inb_of (j := (1 : Int32)) sl53 ⟨by decide, by decide⟩
  refine Goes.step (T' := T51) (g' := (mkF m 17 #[.val (.ref xs), .val (.ref b39), .val (.int (4 : Int32)), .val (.int (1 : Int32)), .val (.ref ocr)] [(.ref oen)])) (fun t k => X51.aaload hx (j := (1 : Int32)) (v := (.ref oen)) (by rw [hE51]; exact Ar53.1) (State.isArrayOf_alike hZ.alike Ar53.2.1) rfl Ar53.2.2 i54 (Has.at ha53 i54 rfl) (g := (mkF m 16 #[.val (.ref xs), .val (.ref b39), .val (.int (4 : Int32)), .val (.int (1 : Int32)), .val (.ref ocr)] [(.int (1 : Int32)), (.ref b39)])) rfl rfl (hb hby d7_16) _ k) ?_
  refine P1.astore X51.here hx #[.val (.ref xs), .val (.ref b39), .val (.int (4 : Int32)), .val (.int (1 : Int32)), .val (.ref oen)] (hb hby d7_17) rfl rfl ?_
  refine P1.aload X51.here hx (hb hby d7_19) rfl rfl ?_
  obtain ⟨T55, X55, e55, st55⟩ := getF X51 hx hZ hown (host := "") (Or.inl (own_w hw 54 rfl)) Via.refl hE51 (F_oen_name.ext O44.2) (g := (mkF m 21 #[.val (.ref xs), .val (.ref b39), .val (.int (4 : Int32)), .val (.int (1 : Int32)), .val (.ref oen)] [(.ref oen)])) rfl rfl (hb hby d7_21)
  refine Goes.step (T' := T55) (g' := (mkF m 24 #[.val (.ref xs), .val (.ref b39), .val (.int (4 : Int32)), .val (.int (1 : Int32)), .val (.ref oen)] [(.ref sen)])) st55 ?_
  refine P1.aloadN X55.here hx (hb hby d7_24) rfl rfl ?_
  have V56 : Arv Z T39.heap ten k_ten .byte (7 : Int32) [(.int (69 : Int32)), (.int (110 : Int32)), (.int (97 : Int32)), (.int (98 : Int32)), (.int (108 : Int32)), (.int (101 : Int32)), (.int (100 : Int32))] (.int (0 : Int32)) := (V_ten.ext O44.2)
  refine Goes.callV X55 hx hZ (y := y3_) (z := y3_) (Qc := fun v h' L => (((v = some (.int 1) ∧ ([(69 : Int32), (110 : Int32), (97 : Int32), (98 : Int32), (108 : Int32), (101 : Int32), (100 : Int32)] : List Int32) = ([(68 : Int32), (105 : Int32), (115 : Int32), (97 : Int32), (98 : Int32), (108 : Int32), (101 : Int32), (100 : Int32)] : List Int32)) ∨ (v = some (.int 0) ∧ ¬ ([(69 : Int32), (110 : Int32), (97 : Int32), (98 : Int32), (108 : Int32), (101 : Int32), (100 : Int32)] : List Int32) = ([(68 : Int32), (105 : Int32), (115 : Int32), (97 : Int32), (98 : Int32), (108 : Int32), (101 : Int32), (100 : Int32)] : List Int32))) ∧ L = [] ∧ h' = T39.heap)) hown (mvT hZ (own_w hw 56 rfl)) (mvT hZ (own_w hw 57 rfl)) (notFace_of_selects (args := #[]) (mvT hZ (own_w hw 59 rfl))) (mvT hZ (own_w hw 59 rfl)) (mvT hZ (own_w hw 58 rfl)) (by decide) (kc' := 0) (ks' := 0) (StrChars.Road.eqW (W := 0) hZ (fun d hd => hw d (in_wordsEq d hd)) (kI := 4) (own_w hw 5 rfl) (E_sen.ext O44.2) (F_sen_value.ext O44.2) (F_sen_coder.ext O44.2) V56 (show StrChars.Road.CodA ([(69 : Int32), (110 : Int32), (97 : Int32), (98 : Int32), (108 : Int32), (101 : Int32), (100 : Int32)] : List Int32) 0 (7 : Int32) _ from Or.inl ⟨rfl, rfl, rfl, by decide⟩) (by decide) (ok rfl) E47 F48 F49 V50 (show StrChars.Road.CodA ([(68 : Int32), (105 : Int32), (115 : Int32), (97 : Int32), (98 : Int32), (108 : Int32), (101 : Int32), (100 : Int32)] : List Int32) 0 (8 : Int32) _ from Or.inl ⟨rfl, rfl, rfl, by decide⟩) (by decide) (ok rfl) (S_CS.ext O44.2) hzc (ok rfl) (ok rfl)) (b := sen) e55 (E_sen.ext O44.2) (g := (mkF m 25 #[.val (.ref xs), .val (.ref b39), .val (.int (4 : Int32)), .val (.int (1 : Int32)), .val (.ref oen)] [(.ref xs), (.ref sen)])) rfl (by rw [hml]; rfl) (argsL := [(.ref xs)]) (rest := []) (lenOf pd_20140 rfl) rfl (by show 2 * 0 + _ ≤ _; exact Nat.le_of_eq rfl) (hb hby d7_25) rfl (ok rfl) (ok rfl) ?_
  intro v57 T57 L57 q57 X57
  obtain ⟨q57, rfl, hE57⟩ := q57
  have N57 := Fr.app N51 (Fr.nil n0)
  obtain ⟨rfl, -⟩ := q57.resolve_left (fun z => absurd z.2 (by decide))
  show Goes p e below _ T57 (mkF m 28 #[.val (.ref xs), .val (.ref b39), .val (.int (4 : Int32)), .val (.int (1 : Int32)), .val (.ref oen)] [(.int (0 : Int32))])
  refine Goes.step (T' := T57) (g' := (mkF m 34 #[.val (.ref xs), .val (.ref b39), .val (.int (4 : Int32)), .val (.int (1 : Int32)), .val (.ref oen)] [])) (fun t k => XS.ifYes X57.here hx rfl (pc0 := 28) (pc' := 34) rfl (hb hby d7_28) rfl ((if0 _ _).trans (teq ((by decide : (0 : Int32) = (0 : Int32)) : (0 : Int32) = (0 : Int32))).1) (by decide) (by decide) k) ?_
  refine Goes.step (T' := T57) (g' := (mkF m 37 #[.val (.ref xs), .val (.ref b39), .val (.int (4 : Int32)), .val (.int ((1 : Int32) + (1 : Int32))), .val (.ref oen)] [])) (fun t k => XS.iinc X57.here hx rfl (hb hby d7_34) rfl (l' := #[.val (.ref xs), .val (.ref b39), .val (.int (4 : Int32)), .val (.int ((1 : Int32) + (1 : Int32))), .val (.ref oen)]) rfl k) ?_
  have rw58 : ((1 : Int32) + (1 : Int32)) = (2 : Int32) := by decide
  rw [rw58]
  refine P1.goto X57.here hx 9 (hb hby d7_37) (by decide) (by decide) ?_
  refine P1.iloadN X57.here hx (hb hby d7_9) rfl ?_
  refine P1.iloadN X57.here hx (hb hby d7_10) rfl ?_
  refine Goes.step (T' := T57) (g' := (mkF m 14 #[.val (.ref xs), .val (.ref b39), .val (.int (4 : Int32)), .val (.int (2 : Int32)), .val (.ref oen)] [])) (fun t k => XS.icmpNo X57.here hx rfl (hb hby d7_11) rfl (tlt ((by decide : (2 : Int32) < (4 : Int32)) : (2 : Int32) < (4 : Int32))).2.1 k) ?_
  refine P1.aloadN X57.here hx (hb hby d7_14) rfl rfl ?_
  refine P1.iloadN X57.here hx (hb hby d7_15) rfl ?_
  obtain ⟨cl59, Ar59, qk59, sl59, nz59, ha59, fi59⟩ := id V39
  have i60 := inb_of (j := (2 : Int32)) sl59 ⟨by decide, by decide⟩
  refine Goes.step (T' := T57) (g' := (mkF m 17 #[.val (.ref xs), .val (.ref b39), .val (.int (4 : Int32)), .val (.int (2 : Int32)), .val (.ref oen)] [(.ref odi)])) (fun t k => X57.aaload hx (j := (2 : Int32)) (v := (.ref odi)) (by rw [hE57]; exact Ar59.1) (State.isArrayOf_alike hZ.alike Ar59.2.1) rfl Ar59.2.2 i60 (Has.at ha59 i60 rfl) (g := (mkF m 16 #[.val (.ref xs), .val (.ref b39), .val (.int (4 : Int32)), .val (.int (2 : Int32)), .val (.ref oen)] [(.int (2 : Int32)), (.ref b39)])) rfl rfl (hb hby d7_16) _ k) ?_
  refine P1.astore X57.here hx #[.val (.ref xs), .val (.ref b39), .val (.int (4 : Int32)), .val (.int (2 : Int32)), .val (.ref odi)] (hb hby d7_17) rfl rfl ?_
  refine P1.aload X57.here hx (hb hby d7_19) rfl rfl ?_
  obtain ⟨T61, X61, e61, st61⟩ := getF X57 hx hZ hown (host := "") (Or.inl (own_w hw 54 rfl)) Via.refl hE57 (F_odi_name.ext O44.2) (g := (mkF m 21 #[.val (.ref xs), .val (.ref b39), .val (.int (4 : Int32)), .val (.int (2 : Int32)), .val (.ref odi)] [(.ref odi)])) rfl rfl (hb hby d7_21)
  refine Goes.step (T' := T61) (g' := (mkF m 24 #[.val (.ref xs), .val (.ref b39), .val (.int (4 : Int32)), .val (.int (2 : Int32)), .val (.ref odi)] [(.ref sdi)])) st61 ?_
  refine P1.aloadN X61.here hx (hb hby d7_24) rfl rfl ?_
  have V62 : Arv Z T39.heap tdi k_tdi .byte (8 : Int32) [(.int (68 : Int32)), (.int (105 : Int32)), (.int (115 : Int32)), (.int (97 : Int32)), (.int (98 : Int32)), (.int (108 : Int32)), (.int (101 : Int32)), (.int (100 : Int32))] (.int (0 : Int32)) := (V_tdi.ext O44.2)
  refine Goes.callV X61 hx hZ (y := y3_) (z := y3_) (Qc := fun v h' L => (((v = some (.int 1) ∧ ([(68 : Int32), (105 : Int32), (115 : Int32), (97 : Int32), (98 : Int32), (108 : Int32), (101 : Int32), (100 : Int32)] : List Int32) = ([(68 : Int32), (105 : Int32), (115 : Int32), (97 : Int32), (98 : Int32), (108 : Int32), (101 : Int32), (100 : Int32)] : List Int32)) ∨ (v = some (.int 0) ∧ ¬ ([(68 : Int32), (105 : Int32), (115 : Int32), (97 : Int32), (98 : Int32), (108 : Int32), (101 : Int32), (100 : Int32)] : List Int32) = ([(68 : Int32), (105 : Int32), (115 : Int32), (97 : Int32), (98 : Int32), (108 : Int32), (101 : Int32), (100 : Int32)] : List Int32))) ∧ L = [] ∧ h' = T39.heap)) hown (mvT hZ (own_w hw 56 rfl)) (mvT hZ (own_w hw 57 rfl)) (notFace_of_selects (args := #[]) (mvT hZ (own_w hw 59 rfl))) (mvT hZ (own_w hw 59 rfl)) (mvT hZ (own_w hw 58 rfl)) (by decide) (kc' := 0) (ks' := 0) (StrChars.Road.eqW (W := 0) hZ (fun d hd => hw d (in_wordsEq d hd)) (kI := 4) (own_w hw 5 rfl) (E_sdi.ext O44.2) (F_sdi_value.ext O44.2) (F_sdi_coder.ext O44.2) V62 (show StrChars.Road.CodA ([(68 : Int32), (105 : Int32), (115 : Int32), (97 : Int32), (98 : Int32), (108 : Int32), (101 : Int32), (100 : Int32)] : List Int32) 0 (8 : Int32) _ from Or.inl ⟨rfl, rfl, rfl, by decide⟩) (by decide) (ok rfl) E47 F48 F49 V50 (show StrChars.Road.CodA ([(68 : Int32), (105 : Int32), (115 : Int32), (97 : Int32), (98 : Int32), (108 : Int32), (101 : Int32), (100 : Int32)] : List Int32) 0 (8 : Int32) _ from Or.inl ⟨rfl, rfl, rfl, by decide⟩) (by decide) (ok rfl) (S_CS.ext O44.2) hzc (ok rfl) (ok rfl)) (b := sdi) e61 (E_sdi.ext O44.2) (g := (mkF m 25 #[.val (.ref xs), .val (.ref b39), .val (.int (4 : Int32)), .val (.int (2 : Int32)), .val (.ref odi)] [(.ref xs), (.ref sdi)])) rfl (by rw [hml]; rfl) (argsL := [(.ref xs)]) (rest := []) (lenOf pd_20140 rfl) rfl (by show 2 * 0 + _ ≤ _; exact Nat.le_of_eq rfl) (hb hby d7_25) rfl (ok rfl) (ok rfl) ?_
  intro v63 T63 L63 q63 X63
  obtain ⟨q63, rfl, hE63⟩ := q63
  have N63 := Fr.app N57 (Fr.nil n0)
  obtain ⟨rfl, -⟩ := q63.resolve_right (fun z => z.2 rfl)
  show Goes p e below _ T63 (mkF m 28 #[.val (.ref xs), .val (.ref b39), .val (.int (4 : Int32)), .val (.int (2 : Int32)), .val (.ref odi)] [(.int (1 : Int32))])
  refine Goes.step (T' := T63) (g' := (mkF m 31 #[.val (.ref xs), .val (.ref b39), .val (.int (4 : Int32)), .val (.int (2 : Int32)), .val (.ref odi)] [])) (fun t k => XS.ifNo X63.here hx rfl (hb hby d7_28) rfl ((if0 _ _).trans (feq ((by decide : ¬ ((1 : Int32) = (0 : Int32))) : ¬ ((1 : Int32) = (0 : Int32)))).1) k) ?_
  refine P1.aload X63.here hx (hb hby d7_31) rfl rfl ?_
  refine Goes.retA X63 hx Bd.notSynchronized Bd.returns rfl rfl (hb hby d7_33) (ok rfl) (ok rfl) ?_
  rw [hE63]
  have K64 : Keep h0 T39.heap [] := K0.ext E39
  exact ⟨rfl, N63, K64⟩
theorem efOfre (m : MethodId) (xs : Addr) : entryFrame m #[(.ref xs)] 5 = mkF m 0 #[.val (.ref xs), .unset, .unset, .unset, .unset] [] := by first | (simp [entryFrame, mkF, argsToLocals, Value.category]; done) | rfl
def QOfre (Z : State) (ocr : Addr) (va : Addr) (oen : Addr) (odi : Addr) (ore : Addr) (scr : Addr) (tcr : Addr) (sen : Addr) (ten : Addr) (sdi : Addr) (tdi : Addr) (sre : Addr) (tre : Addr) (k_va : ClassId) (k_tcr : ClassId) (k_ten : ClassId) (k_tdi : ClassId) (k_tre : ClassId) (zc : Int32) (fm : Value) (xs : Addr) (xt : Addr) (xk : ClassId) (h0 : Heap) (n0 : Nat) (v : Option Value) (h : Heap) (L : List Loc) : Prop := v = some (.ref ore) ∧ Fr n0 L ∧ Keep h0 h []
set_option maxRecDepth 65536 in
set_option maxHeartbeats 40000000 in
theorem rmOfre (l : Launch) (Z : State) (a0 : Array Value) (hw : ∀ d ∈ tables_1, d.before a0 Z = true) (ws : List Jvm.Cond) (ocr : Addr) (va : Addr) (oen : Addr) (odi : Addr) (ore : Addr) (scr : Addr) (tcr : Addr) (sen : Addr) (ten : Addr) (sdi : Addr) (tdi : Addr) (sre : Addr) (tre : Addr) (k_va : ClassId) (k_tcr : ClassId) (k_ten : ClassId) (k_tdi : ClassId) (k_tre : ClassId) (zc : Int32) (fm : Value) (xs : Addr) (xt : Addr) (xk : ClassId) (h0 : Heap) (n0 : Nat) (Z0 : n0 ≤ h0.size) (O0 : Old Z n0 h0) (S_CREATED : Sta Z Z.heap "com/example/thing_access_ledger/thingaccessledger/PolicyState" "CREATED" "Lcom/example/thing_access_ledger/thingaccessledger/PolicyState;" (.ref ocr)) (E_ocr : Exa Z Z.heap ocr "com/example/thing_access_ledger/thingaccessledger/PolicyState") (S__VALUES : Sta Z Z.heap "com/example/thing_access_ledger/thingaccessledger/PolicyState" "$VALUES" "[Lcom/example/thing_access_ledger/thingaccessledger/PolicyState;" (.ref va)) (E_va : Exa Z Z.heap va "[Lcom/example/thing_access_ledger/thingaccessledger/PolicyState;") (S_ENABLED : Sta Z Z.heap "com/example/thing_access_ledger/thingaccessledger/PolicyState" "ENABLED" "Lcom/example/thing_access_ledger/thingaccessledger/PolicyState;" (.ref oen)) (E_oen : Exa Z Z.heap oen "com/example/thing_access_ledger/thingaccessledger/PolicyState") (S_DISABLED : Sta Z Z.heap "com/example/thing_access_ledger/thingaccessledger/PolicyState" "DISABLED" "Lcom/example/thing_access_ledger/thingaccessledger/PolicyState;" (.ref odi)) (E_odi : Exa Z Z.heap odi "com/example/thing_access_ledger/thingaccessledger/PolicyState") (S_REVOKED : Sta Z Z.heap "com/example/thing_access_ledger/thingaccessledger/PolicyState" "REVOKED" "Lcom/example/thing_access_ledger/thingaccessledger/PolicyState;" (.ref ore)) (E_ore : Exa Z Z.heap ore "com/example/thing_access_ledger/thingaccessledger/PolicyState") (F_ocr_name : Fld Z Z.heap ocr "com/example/thing_access_ledger/thingaccessledger/PolicyState" "name" "Ljava/lang/String;" (.ref scr)) (E_scr : Exa Z Z.heap scr "java/lang/String") (F_scr_coder : Fld Z Z.heap scr "java/lang/String" "coder" "B" (.int (0 : Int32))) (F_scr_value : Fld Z Z.heap scr "java/lang/String" "value" "[B" (.ref tcr)) (F_oen_name : Fld Z Z.heap oen "com/example/thing_access_ledger/thingaccessledger/PolicyState" "name" "Ljava/lang/String;" (.ref sen)) (E_sen : Exa Z Z.heap sen "java/lang/String") (F_sen_coder : Fld Z Z.heap sen "java/lang/String" "coder" "B" (.int (0 : Int32))) (F_sen_value : Fld Z Z.heap sen "java/lang/String" "value" "[B" (.ref ten)) (F_odi_name : Fld Z Z.heap odi "com/example/thing_access_ledger/thingaccessledger/PolicyState" "name" "Ljava/lang/String;" (.ref sdi)) (E_sdi : Exa Z Z.heap sdi "java/lang/String") (F_sdi_coder : Fld Z Z.heap sdi "java/lang/String" "coder" "B" (.int (0 : Int32))) (F_sdi_value : Fld Z Z.heap sdi "java/lang/String" "value" "[B" (.ref tdi)) (F_ore_name : Fld Z Z.heap ore "com/example/thing_access_ledger/thingaccessledger/PolicyState" "name" "Ljava/lang/String;" (.ref sre)) (E_sre : Exa Z Z.heap sre "java/lang/String") (F_sre_coder : Fld Z Z.heap sre "java/lang/String" "coder" "B" (.int (0 : Int32))) (F_sre_value : Fld Z Z.heap sre "java/lang/String" "value" "[B" (.ref tre)) (V_va : Arv Z Z.heap va k_va (.object "com/example/thing_access_ledger/thingaccessledger/PolicyState") (4 : Int32) [(.ref ocr), (.ref oen), (.ref odi), (.ref ore)] .null) (V_tcr : Arv Z Z.heap tcr k_tcr .byte (7 : Int32) [(.int (67 : Int32)), (.int (114 : Int32)), (.int (101 : Int32)), (.int (97 : Int32)), (.int (116 : Int32)), (.int (101 : Int32)), (.int (100 : Int32))] (.int (0 : Int32))) (V_ten : Arv Z Z.heap ten k_ten .byte (7 : Int32) [(.int (69 : Int32)), (.int (110 : Int32)), (.int (97 : Int32)), (.int (98 : Int32)), (.int (108 : Int32)), (.int (101 : Int32)), (.int (100 : Int32))] (.int (0 : Int32))) (V_tdi : Arv Z Z.heap tdi k_tdi .byte (8 : Int32) [(.int (68 : Int32)), (.int (105 : Int32)), (.int (115 : Int32)), (.int (97 : Int32)), (.int (98 : Int32)), (.int (108 : Int32)), (.int (101 : Int32)), (.int (100 : Int32))] (.int (0 : Int32))) (V_tre : Arv Z Z.heap tre k_tre .byte (7 : Int32) [(.int (82 : Int32)), (.int (101 : Int32)), (.int (118 : Int32)), (.int (111 : Int32)), (.int (107 : Int32)), (.int (101 : Int32)), (.int (100 : Int32))] (.int (0 : Int32))) (S_CS : Sta Z Z.heap "java/lang/String" "COMPACT_STRINGS" "Z" (.int zc)) (hzc : ¬ zc = 0) (S_FM : Sta Z Z.heap "jdk/internal/util/Preconditions" "SIOOBE_FORMATTER" "Ljava/util/function/BiFunction;" fm) (hfm : fm.isRef = true) (Ex : Exa Z h0 xs "java/lang/String") (Vx : Fld Z h0 xs "java/lang/String" "value" "[B" (.ref xt)) (Cx : Fld Z h0 xs "java/lang/String" "coder" "B" (.int (0 : Int32))) (Kx : Arv Z h0 xt xk .byte (7 : Int32) [(.int (82 : Int32)), (.int (101 : Int32)), (.int (118 : Int32)), (.int (111 : Int32)), (.int (107 : Int32)), (.int (101 : Int32)), (.int (100 : Int32))] (.int (0 : Int32))) :
    MetFree l y0_ (head1 (Jvm.Cond.code y0_ prog_19_method_4_code 5 (some (.object "com/example/thing_access_ledger/thingaccessledger/PolicyState")) :: ws) ({ frames := 2, cells := 1, slots := 4, locals := 28 } : Room)) (fun aa U => aa = #[(.ref xs)] ∧ Z.Warmed39 U.vm ∧ U.heap = h0) (fun _ _ _ _ _ => True) (fun _ U oo U' => ∃ vv LL, oo = .returned vv ∧ QOfre Z ocr va oen odi ore scr tcr sen ten sdi tdi sre tre k_va k_tcr k_ten k_tdi k_tre zc fm xs xt xk h0 n0 vv U'.heap LL ∧ FrameEnd U oo U' LL ({ frames := 2, cells := 1, slots := 4, locals := 28 } : Room).cells ({ frames := 2, cells := 1, slots := 4, locals := 28 } : Room).slots) := by
  refine MetFree.of_bodySF (plainFor_of_name pn_com_example_thing_access_ledger_thingaccessledger_PolicyState) hisR ?_
  intro p e s m args below meth c s₁ Bd hml0 hP hK
  obtain ⟨rfl, hZ, hh⟩ := hP
  have hx := Bd.exec
  have hby := Bd.bytes
  have hml : c.maxLocals = 5 := hml0
  have hown : s.vm.findClass "com/example/thing_access_ledger/thingaccessledger/PolicyState" = some m.cls := findClass_of_methodNamed Bd.named
  have hnm := (name_of_methodNamed Bd.named Bd.method).1
  have X0 : Stand p l e ({ frames := 2, cells := 1, slots := 4, locals := 28 } : Room) s m #[(.ref xs)] below meth c s₁ [] 0 0 := Stand.of_body Bd
  have e0 : s₁.heap = h0 := by rw [← hh, Bd.state]; rfl
  have N0 := Fr.nil n0
  refine Goes.give (Q := QOfre Z ocr va oen odi ore scr tcr sen ten sdi tdi sre tre k_va k_tcr k_ten k_tdi k_tre zc fm xs xt xk h0 n0) ?_
  rw [efOfre m xs]
  have K0 : Keep h0 h0 [] := Keep.refl _ _
  refine Goes.callS X0 hx (y := y1_) hown (mvT hZ (own_w hw 36 rfl)) (mvT hZ (own_w hw 37 rfl)) (mvT hZ (own_w hw 2 rfl)) (mvT hZ (own_w hw 38 rfl)) (by decide) (kc' := 1) (ks' := 4) (backOf (W := 0) (rmVal l Z a0 hw [] ocr va oen odi ore scr tcr sen ten sdi tdi sre tre k_va k_tcr k_ten k_tdi k_tre zc fm h0 n0 Z0 O0 S_CREATED E_ocr S__VALUES E_va S_ENABLED E_oen S_DISABLED E_odi S_REVOKED E_ore F_ocr_name E_scr F_scr_coder F_scr_value F_oen_name E_sen F_sen_coder F_sen_value F_odi_name E_sdi F_sdi_coder F_sdi_value F_ore_name E_sre F_sre_coder F_sre_value V_va V_tcr V_ten V_tdi V_tre S_CS hzc S_FM hfm) hZ (own_w hw 38 rfl) (own_w hw 2 rfl) (ok rfl) (ok rfl)) (g := (mkF m 0 #[.val (.ref xs), .unset, .unset, .unset, .unset] [])) rfl (by rw [hml]; rfl) (argsL := []) (rest := []) (lenOf pd_221203 rfl) rfl (by show 2 * 0 + _ ≤ _; exact Nat.le_of_eq rfl) (hb hby d7_0) rfl e0 (ok rfl) (ok rfl) ?_
  intro v65 T65 L65 q65 X65
  obtain ⟨b65, rfl, N65q, V65, E65, g65⟩ := q65
  have ge_b65 : n0 ≤ b65 := Nat.le_trans Z0 (Nat.le_of_eq g65.symm)
  have N65 := Fr.app N0 N65q
  show Goes p e below _ T65 (mkF m 3 #[.val (.ref xs), .unset, .unset, .unset, .unset] [(.ref b65)])
  refine P1.astoreN X65.here hx #[.val (.ref xs), .val (.ref b65), .unset, .unset, .unset] (hb hby d7_3) rfl rfl ?_
  refine P1.aloadN X65.here hx (hb hby d7_4) rfl rfl ?_
  obtain ⟨cl66, Ar66, qk66, sl66, nz66, ha66, fi66⟩ := id V65
  have al67 : cl66.slots.size.toInt32 = (4 : Int32) := len_of sl66 nz66
  refine Goes.step (T' := T65) (g' := (mkF m 6 #[.val (.ref xs), .val (.ref b65), .unset, .unset, .unset] [(.int (4 : Int32))])) (fun t k => X65.arraylength hx Ar66.1 (State.isArrayOf_alike hZ.alike Ar66.2.1) (g := (mkF m 5 #[.val (.ref xs), .val (.ref b65), .unset, .unset, .unset] [(.ref b65)])) rfl rfl (hb hby d7_5) _ <| by rw [al67]; exact k) ?_
  refine P1.istoreN X65.here hx #[.val (.ref xs), .val (.ref b65), .val (.int (4 : Int32)), .unset, .unset] (hb hby d7_6) rfl ?_
  refine P1.iconst X65.here hx (0 : Int32) (hb hby d7_7) rfl ?_
  refine P1.istoreN X65.here hx #[.val (.ref xs), .val (.ref b65), .val (.int (4 : Int32)), .val (.int (0 : Int32)), .unset] (hb hby d7_8) rfl ?_
  refine P1.iloadN X65.here hx (hb hby d7_9) rfl ?_
  refine P1.iloadN X65.here hx (hb hby d7_10) rfl ?_
  refine Goes.step (T' := T65) (g' := (mkF m 14 #[.val (.ref xs), .val (.ref b65), .val (.int (4 : Int32)), .val (.int (0 : Int32)), .unset] [])) (fun t k => XS.icmpNo X65.here hx rfl (hb hby d7_11) rfl (tlt ((by decide : (0 : Int32) < (4 : Int32)) : (0 : Int32) < (4 : Int32))).2.1 k) ?_
  refine P1.aloadN X65.here hx (hb hby d7_14) rfl rfl ?_
  refine P1.iloadN X65.here hx (hb hby d7_15) rfl ?_
  obtain ⟨cl68, Ar68, qk68, sl68, nz68, ha68, fi68⟩ := id V65
  have i69 := inb_of (j := (0 : Int32)) sl68 ⟨by decide, by decide⟩
  refine Goes.step (T' := T65) (g' := (mkF m 17 #[.val (.ref xs), .val (.ref b65), .val (.int (4 : Int32)), .val (.int (0 : Int32)), .unset] [(.ref ocr)])) (fun t k => X65.aaload hx (j := (0 : Int32)) (v := (.ref ocr)) Ar68.1 (State.isArrayOf_alike hZ.alike Ar68.2.1) rfl Ar68.2.2 i69 (Has.at ha68 i69 rfl) (g := (mkF m 16 #[.val (.ref xs), .val (.ref b65), .val (.int (4 : Int32)), .val (.int (0 : Int32)), .unset] [(.int (0 : Int32)), (.ref b65)])) rfl rfl (hb hby d7_16) _ k) ?_
  refine P1.astore X65.here hx #[.val (.ref xs), .val (.ref b65), .val (.int (4 : Int32)), .val (.int (0 : Int32)), .val (.ref ocr)] (hb hby d7_17) rfl rfl ?_
  refine P1.aload X65.here hx (hb hby d7_19) rfl rfl ?_
  have O70 : Old Z n0 T65.heap := O0.ext E65
  obtain ⟨T71, X71, e71, st71⟩ := getF X65 hx hZ hown (host := "") (Or.inl (own_w hw 54 rfl)) Via.refl rfl (F_ocr_name.ext O70.2) (g := (mkF m 21 #[.val (.ref xs), .val (.ref b65), .val (.int (4 : Int32)), .val (.int (0 : Int32)), .val (.ref ocr)] [(.ref ocr)])) rfl rfl (hb hby d7_21)
  refine Goes.step (T' := T71) (g' := (mkF m 24 #[.val (.ref xs), .val (.ref b65), .val (.int (4 : Int32)), .val (.int (0 : Int32)), .val (.ref ocr)] [(.ref scr)])) st71 ?_
  refine P1.aloadN X71.here hx (hb hby d7_24) rfl rfl ?_
  have V72 : Arv Z T65.heap tcr k_tcr .byte (7 : Int32) [(.int (67 : Int32)), (.int (114 : Int32)), (.int (101 : Int32)), (.int (97 : Int32)), (.int (116 : Int32)), (.int (101 : Int32)), (.int (100 : Int32))] (.int (0 : Int32)) := (V_tcr.ext O70.2)
  have E73 : Exa Z T65.heap xs "java/lang/String" := Ex.ext E65
  have F74 : Fld Z T65.heap xs "java/lang/String" "value" "[B" (.ref xt) := Vx.ext E65
  have F75 : Fld Z T65.heap xs "java/lang/String" "coder" "B" (.int (0 : Int32)) := Cx.ext E65
  have V76 : Arv Z T65.heap xt xk .byte (7 : Int32) [(.int (82 : Int32)), (.int (101 : Int32)), (.int (118 : Int32)), (.int (111 : Int32)), (.int (107 : Int32)), (.int (101 : Int32)), (.int (100 : Int32))] (.int (0 : Int32)) := Kx.ext E65
  refine Goes.callV X71 hx hZ (y := y3_) (z := y3_) (Qc := fun v h' L => (((v = some (.int 1) ∧ ([(67 : Int32), (114 : Int32), (101 : Int32), (97 : Int32), (116 : Int32), (101 : Int32), (100 : Int32)] : List Int32) = ([(82 : Int32), (101 : Int32), (118 : Int32), (111 : Int32), (107 : Int32), (101 : Int32), (100 : Int32)] : List Int32)) ∨ (v = some (.int 0) ∧ ¬ ([(67 : Int32), (114 : Int32), (101 : Int32), (97 : Int32), (116 : Int32), (101 : Int32), (100 : Int32)] : List Int32) = ([(82 : Int32), (101 : Int32), (118 : Int32), (111 : Int32), (107 : Int32), (101 : Int32), (100 : Int32)] : List Int32))) ∧ L = [] ∧ h' = T65.heap)) hown (mvT hZ (own_w hw 56 rfl)) (mvT hZ (own_w hw 57 rfl)) (notFace_of_selects (args := #[]) (mvT hZ (own_w hw 59 rfl))) (mvT hZ (own_w hw 59 rfl)) (mvT hZ (own_w hw 58 rfl)) (by decide) (kc' := 0) (ks' := 0) (StrChars.Road.eqW (W := 0) hZ (fun d hd => hw d (in_wordsEq d hd)) (kI := 4) (own_w hw 5 rfl) (E_scr.ext O70.2) (F_scr_value.ext O70.2) (F_scr_coder.ext O70.2) V72 (show StrChars.Road.CodA ([(67 : Int32), (114 : Int32), (101 : Int32), (97 : Int32), (116 : Int32), (101 : Int32), (100 : Int32)] : List Int32) 0 (7 : Int32) _ from Or.inl ⟨rfl, rfl, rfl, by decide⟩) (by decide) (ok rfl) E73 F74 F75 V76 (show StrChars.Road.CodA ([(82 : Int32), (101 : Int32), (118 : Int32), (111 : Int32), (107 : Int32), (101 : Int32), (100 : Int32)] : List Int32) 0 (7 : Int32) _ from Or.inl ⟨rfl, rfl, rfl, by decide⟩) (by decide) (ok rfl) (S_CS.ext O70.2) hzc (ok rfl) (ok rfl)) (b := scr) e71 (E_scr.ext O70.2) (g := (mkF m 25 #[.val (.ref xs), .val (.ref b65), .val (.int (4 : Int32)), .val (.int (0 : Int32)), .val (.ref ocr)] [(.ref xs), (.ref scr)])) rfl (by rw [hml]; rfl) (argsL := [(.ref xs)]) (rest := []) (lenOf pd_20140 rfl) rfl (by show 2 * 0 + _ ≤ _; exact Nat.le_of_eq rfl) (hb hby d7_25) rfl (ok rfl) (ok rfl) ?_
  intro v77 T77 L77 q77 X77
  obtain ⟨q77, rfl, hE77⟩ := q77
  have N77 := Fr.app N65 (Fr.nil n0)
  obtain ⟨rfl, -⟩ := q77.resolve_left (fun z => absurd z.2 (by decide))
  show Goes p e below _ T77 (mkF m 28 #[.val (.ref xs), .val (.ref b65), .val (.int (4 : Int32)), .val (.int (0 : Int32)), .val (.ref ocr)] [(.int (0 : Int32))])
  refine Goes.step (T' := T77) (g' := (mkF m 34 #[.val (.ref xs), .val (.ref b65), .val (.int (4 : Int32)), .val (.int (0 : Int32)), .val (.ref ocr)] [])) (fun t k => XS.ifYes X77.here hx rfl (pc0 := 28) (pc' := 34) rfl (hb hby d7_28) rfl ((if0 _ _).trans (teq ((by decide : (0 : Int32) = (0 : Int32)) : (0 : Int32) = (0 : Int32))).1) (by decide) (by decide) k) ?_
  refine Goes.step (T' := T77) (g' := (mkF m 37 #[.val (.ref xs), .val (.ref b65), .val (.int (4 : Int32)), .val (.int ((0 : Int32) + (1 : Int32))), .val (.ref ocr)] [])) (fun t k => XS.iinc X77.here hx rfl (hb hby d7_34) rfl (l' := #[.val (.ref xs), .val (.ref b65), .val (.int (4 : Int32)), .val (.int ((0 : Int32) + (1 : Int32))), .val (.ref ocr)]) rfl k) ?_
  have rw78 : ((0 : Int32) + (1 : Int32)) = (1 : Int32) := by decide
  rw [rw78]
  refine P1.goto X77.here hx 9 (hb hby d7_37) (by decide) (by decide) ?_
  refine P1.iloadN X77.here hx (hb hby d7_9) rfl ?_
  refine P1.iloadN X77.here hx (hb hby d7_10) rfl ?_
  refine Goes.step (T' := T77) (g' := (mkF m 14 #[.val (.ref xs), .val (.ref b65), .val (.int (4 : Int32)), .val (.int (1 : Int32)), .val (.ref ocr)] [])) (fun t k => XS.icmpNo X77.here hx rfl (hb hby d7_11) rfl (tlt ((by decide : (1 : Int32) < (4 : Int32)) : (1 : Int32) < (4 : Int32))).2.1 k) ?_
  refine P1.aloadN X77.here hx (hb hby d7_14) rfl rfl ?_
  refine P1.iloadN X77.here hx (hb hby d7_15) rfl ?_
  obtain ⟨cl79, Ar79, qk79, sl79, nz79, ha79, fi79⟩ := id V65
  have i80 := inb_of (j := (1 : Int32)) sl79 ⟨by decide, by decide⟩
  refine Goes.step (T' := T77) (g' := (mkF m 17 #[.val (.ref xs), .val (.ref b65), .val (.int (4 : Int32)), .val (.int (1 : Int32)), .val (.ref ocr)] [(.ref oen)])) (fun t k => X77.aaload hx (j := (1 : Int32)) (v := (.ref oen)) (by rw [hE77]; exact Ar79.1) (State.isArrayOf_alike hZ.alike Ar79.2.1) rfl Ar79.2.2 i80 (Has.at ha79 i80 rfl) (g := (mkF m 16 #[.val (.ref xs), .val (.ref b65), .val (.int (4 : Int32)), .val (.int (1 : Int32)), .val (.ref ocr)] [(.int (1 : Int32)), (.ref b65)])) rfl rfl (hb hby d7_16) _ k) ?_
  refine P1.astore X77.here hx #[.val (.ref xs), .val (.ref b65), .val (.int (4 : Int32)), .val (.int (1 : Int32)), .val (.ref oen)] (hb hby d7_17) rfl rfl ?_
  refine P1.aload X77.here hx (hb hby d7_19) rfl rfl ?_
  obtain ⟨T81, X81, e81, st81⟩ := getF X77 hx hZ hown (host := "") (Or.inl (own_w hw 54 rfl)) Via.refl hE77 (F_oen_name.ext O70.2) (g := (mkF m 21 #[.val (.ref xs), .val (.ref b65), .val (.int (4 : Int32)), .val (.int (1 : Int32)), .val (.ref oen)] [(.ref oen)])) rfl rfl (hb hby d7_21)
  refine Goes.step (T' := T81) (g' := (mkF m 24 #[.val (.ref xs), .val (.ref b65), .val (.int (4 : Int32)), .val (.int (1 : Int32)), .val (.ref oen)] [(.ref sen)])) st81 ?_
  refine P1.aloadN X81.here hx (hb hby d7_24) rfl rfl ?_
  have V82 : Arv Z T65.heap ten k_ten .byte (7 : Int32) [(.int (69 : Int32)), (.int (110 : Int32)), (.int (97 : Int32)), (.int (98 : Int32)), (.int (108 : Int32)), (.int (101 : Int32)), (.int (100 : Int32))] (.int (0 : Int32)) := (V_ten.ext O70.2)
  refine Goes.callV X81 hx hZ (y := y3_) (z := y3_) (Qc := fun v h' L => (((v = some (.int 1) ∧ ([(69 : Int32), (110 : Int32), (97 : Int32), (98 : Int32), (108 : Int32), (101 : Int32), (100 : Int32)] : List Int32) = ([(82 : Int32), (101 : Int32), (118 : Int32), (111 : Int32), (107 : Int32), (101 : Int32), (100 : Int32)] : List Int32)) ∨ (v = some (.int 0) ∧ ¬ ([(69 : Int32), (110 : Int32), (97 : Int32), (98 : Int32), (108 : Int32), (101 : Int32), (100 : Int32)] : List Int32) = ([(82 : Int32), (101 : Int32), (118 : Int32), (111 : Int32), (107 : Int32), (101 : Int32), (100 : Int32)] : List Int32))) ∧ L = [] ∧ h' = T65.heap)) hown (mvT hZ (own_w hw 56 rfl)) (mvT hZ (own_w hw 57 rfl)) (notFace_of_selects (args := #[]) (mvT hZ (own_w hw 59 rfl))) (mvT hZ (own_w hw 59 rfl)) (mvT hZ (own_w hw 58 rfl)) (by decide) (kc' := 0) (ks' := 0) (StrChars.Road.eqW (W := 0) hZ (fun d hd => hw d (in_wordsEq d hd)) (kI := 4) (own_w hw 5 rfl) (E_sen.ext O70.2) (F_sen_value.ext O70.2) (F_sen_coder.ext O70.2) V82 (show StrChars.Road.CodA ([(69 : Int32), (110 : Int32), (97 : Int32), (98 : Int32), (108 : Int32), (101 : Int32), (100 : Int32)] : List Int32) 0 (7 : Int32) _ from Or.inl ⟨rfl, rfl, rfl, by decide⟩) (by decide) (ok rfl) E73 F74 F75 V76 (show StrChars.Road.CodA ([(82 : Int32), (101 : Int32), (118 : Int32), (111 : Int32), (107 : Int32), (101 : Int32), (100 : Int32)] : List Int32) 0 (7 : Int32) _ from Or.inl ⟨rfl, rfl, rfl, by decide⟩) (by decide) (ok rfl) (S_CS.ext O70.2) hzc (ok rfl) (ok rfl)) (b := sen) e81 (E_sen.ext O70.2) (g := (mkF m 25 #[.val (.ref xs), .val (.ref b65), .val (.int (4 : Int32)), .val (.int (1 : Int32)), .val (.ref oen)] [(.ref xs), (.ref sen)])) rfl (by rw [hml]; rfl) (argsL := [(.ref xs)]) (rest := []) (lenOf pd_20140 rfl) rfl (by show 2 * 0 + _ ≤ _; exact Nat.le_of_eq rfl) (hb hby d7_25) rfl (ok rfl) (ok rfl) ?_
  intro v83 T83 L83 q83 X83
  obtain ⟨q83, rfl, hE83⟩ := q83
  have N83 := Fr.app N77 (Fr.nil n0)
  obtain ⟨rfl, -⟩ := q83.resolve_left (fun z => absurd z.2 (by decide))
  show Goes p e below _ T83 (mkF m 28 #[.val (.ref xs), .val (.ref b65), .val (.int (4 : Int32)), .val (.int (1 : Int32)), .val (.ref oen)] [(.int (0 : Int32))])
  refine Goes.step (T' := T83) (g' := (mkF m 34 #[.val (.ref xs), .val (.ref b65), .val (.int (4 : Int32)), .val (.int (1 : Int32)), .val (.ref oen)] [])) (fun t k => XS.ifYes X83.here hx rfl (pc0 := 28) (pc' := 34) rfl (hb hby d7_28) rfl ((if0 _ _).trans (teq ((by decide : (0 : Int32) = (0 : Int32)) : (0 : Int32) = (0 : Int32))).1) (by decide) (by decide) k) ?_
  refine Goes.step (T' := T83) (g' := (mkF m 37 #[.val (.ref xs), .val (.ref b65), .val (.int (4 : Int32)), .val (.int ((1 : Int32) + (1 : Int32))), .val (.ref oen)] [])) (fun t k => XS.iinc X83.here hx rfl (hb hby d7_34) rfl (l' := #[.val (.ref xs), .val (.ref b65), .val (.int (4 : Int32)), .val (.int ((1 : Int32) + (1 : Int32))), .val (.ref oen)]) rfl k) ?_
  have rw84 : ((1 : Int32) + (1 : Int32)) = (2 : Int32) := by decide
  rw [rw84]
  refine P1.goto X83.here hx 9 (hb hby d7_37) (by decide) (by decide) ?_
  refine P1.iloadN X83.here hx (hb hby d7_9) rfl ?_
  refine P1.iloadN X83.here hx (hb hby d7_10) rfl ?_
  refine Goes.step (T' := T83) (g' := (mkF m 14 #[.val (.ref xs), .val (.ref b65), .val (.int (4 : Int32)), .val (.int (2 : Int32)), .val (.ref oen)] [])) (fun t k => XS.icmpNo X83.here hx rfl (hb hby d7_11) rfl (tlt ((by decide : (2 : Int32) < (4 : Int32)) : (2 : Int32) < (4 : Int32))).2.1 k) ?_
  refine P1.aloadN X83.here hx (hb hby d7_14) rfl rfl ?_
  refine P1.iloadN X83.here hx (hb hby d7_15) rfl ?_
  obtain ⟨cl85, Ar85, qk85, sl85, nz85, ha85, fi85⟩ := id V65
  have i86 := inb_of (j := (2 : Int32)) sl85 ⟨by decide, by decide⟩
  refine Goes.step (T' := T83) (g' := (mkF m 17 #[.val (.ref xs), .val (.ref b65), .val (.int (4 : Int32)), .val (.int (2 : Int32)), .val (.ref oen)] [(.ref odi)])) (fun t k => X83.aaload hx (j := (2 : Int32)) (v := (.ref odi)) (by rw [hE83]; exact Ar85.1) (State.isArrayOf_alike hZ.alike Ar85.2.1) rfl Ar85.2.2 i86 (Has.at ha85 i86 rfl) (g := (mkF m 16 #[.val (.ref xs), .val (.ref b65), .val (.int (4 : Int32)), .val (.int (2 : Int32)), .val (.ref oen)] [(.int (2 : Int32)), (.ref b65)])) rfl rfl (hb hby d7_16) _ k) ?_
  refine P1.astore X83.here hx #[.val (.ref xs), .val (.ref b65), .val (.int (4 : Int32)), .val (.int (2 : Int32)), .val (.ref odi)] (hb hby d7_17) rfl rfl ?_
  refine P1.aload X83.here hx (hb hby d7_19) rfl rfl ?_
  obtain ⟨T87, X87, e87, st87⟩ := getF X83 hx hZ hown (host := "") (Or.inl (own_w hw 54 rfl)) Via.refl hE83 (F_odi_name.ext O70.2) (g := (mkF m 21 #[.val (.ref xs), .val (.ref b65), .val (.int (4 : Int32)), .val (.int (2 : Int32)), .val (.ref odi)] [(.ref odi)])) rfl rfl (hb hby d7_21)
  refine Goes.step (T' := T87) (g' := (mkF m 24 #[.val (.ref xs), .val (.ref b65), .val (.int (4 : Int32)), .val (.int (2 : Int32)), .val (.ref odi)] [(.ref sdi)])) st87 ?_
  refine P1.aloadN X87.here hx (hb hby d7_24) rfl rfl ?_
  have V88 : Arv Z T65.heap tdi k_tdi .byte (8 : Int32) [(.int (68 : Int32)), (.int (105 : Int32)), (.int (115 : Int32)), (.int (97 : Int32)), (.int (98 : Int32)), (.int (108 : Int32)), (.int (101 : Int32)), (.int (100 : Int32))] (.int (0 : Int32)) := (V_tdi.ext O70.2)
  refine Goes.callV X87 hx hZ (y := y3_) (z := y3_) (Qc := fun v h' L => (((v = some (.int 1) ∧ ([(68 : Int32), (105 : Int32), (115 : Int32), (97 : Int32), (98 : Int32), (108 : Int32), (101 : Int32), (100 : Int32)] : List Int32) = ([(82 : Int32), (101 : Int32), (118 : Int32), (111 : Int32), (107 : Int32), (101 : Int32), (100 : Int32)] : List Int32)) ∨ (v = some (.int 0) ∧ ¬ ([(68 : Int32), (105 : Int32), (115 : Int32), (97 : Int32), (98 : Int32), (108 : Int32), (101 : Int32), (100 : Int32)] : List Int32) = ([(82 : Int32), (101 : Int32), (118 : Int32), (111 : Int32), (107 : Int32), (101 : Int32), (100 : Int32)] : List Int32))) ∧ L = [] ∧ h' = T65.heap)) hown (mvT hZ (own_w hw 56 rfl)) (mvT hZ (own_w hw 57 rfl)) (notFace_of_selects (args := #[]) (mvT hZ (own_w hw 59 rfl))) (mvT hZ (own_w hw 59 rfl)) (mvT hZ (own_w hw 58 rfl)) (by decide) (kc' := 0) (ks' := 0) (StrChars.Road.eqW (W := 0) hZ (fun d hd => hw d (in_wordsEq d hd)) (kI := 4) (own_w hw 5 rfl) (E_sdi.ext O70.2) (F_sdi_value.ext O70.2) (F_sdi_coder.ext O70.2) V88 (show StrChars.Road.CodA ([(68 : Int32), (105 : Int32), (115 : Int32), (97 : Int32), (98 : Int32), (108 : Int32), (101 : Int32), (100 : Int32)] : List Int32) 0 (8 : Int32) _ from Or.inl ⟨rfl, rfl, rfl, by decide⟩) (by decide) (ok rfl) E73 F74 F75 V76 (show StrChars.Road.CodA ([(82 : Int32), (101 : Int32), (118 : Int32), (111 : Int32), (107 : Int32), (101 : Int32), (100 : Int32)] : List Int32) 0 (7 : Int32) _ from Or.inl ⟨rfl, rfl, rfl, by decide⟩) (by decide) (ok rfl) (S_CS.ext O70.2) hzc (ok rfl) (ok rfl)) (b := sdi) e87 (E_sdi.ext O70.2) (g := (mkF m 25 #[.val (.ref xs), .val (.ref b65), .val (.int (4 : Int32)), .val (.int (2 : Int32)), .val (.ref odi)] [(.ref xs), (.ref sdi)])) rfl (by rw [hml]; rfl) (argsL := [(.ref xs)]) (rest := []) (lenOf pd_20140 rfl) rfl (by show 2 * 0 + _ ≤ _; exact Nat.le_of_eq rfl) (hb hby d7_25) rfl (ok rfl) (ok rfl) ?_
  intro v89 T89 L89 q89 X89
  obtain ⟨q89, rfl, hE89⟩ := q89
  have N89 := Fr.app N83 (Fr.nil n0)
  obtain ⟨rfl, -⟩ := q89.resolve_left (fun z => absurd z.2 (by decide))
  show Goes p e below _ T89 (mkF m 28 #[.val (.ref xs), .val (.ref b65), .val (.int (4 : Int32)), .val (.int (2 : Int32)), .val (.ref odi)] [(.int (0 : Int32))])
  refine Goes.step (T' := T89) (g' := (mkF m 34 #[.val (.ref xs), .val (.ref b65), .val (.int (4 : Int32)), .val (.int (2 : Int32)), .val (.ref odi)] [])) (fun t k => XS.ifYes X89.here hx rfl (pc0 := 28) (pc' := 34) rfl (hb hby d7_28) rfl ((if0 _ _).trans (teq ((by decide : (0 : Int32) = (0 : Int32)) : (0 : Int32) = (0 : Int32))).1) (by decide) (by decide) k) ?_
  refine Goes.step (T' := T89) (g' := (mkF m 37 #[.val (.ref xs), .val (.ref b65), .val (.int (4 : Int32)), .val (.int ((2 : Int32) + (1 : Int32))), .val (.ref odi)] [])) (fun t k => XS.iinc X89.here hx rfl (hb hby d7_34) rfl (l' := #[.val (.ref xs), .val (.ref b65), .val (.int (4 : Int32)), .val (.int ((2 : Int32) + (1 : Int32))), .val (.ref odi)]) rfl k) ?_
  have rw90 : ((2 : Int32) + (1 : Int32)) = (3 : Int32) := by decide
  rw [rw90]
  refine P1.goto X89.here hx 9 (hb hby d7_37) (by decide) (by decide) ?_
  refine P1.iloadN X89.here hx (hb hby d7_9) rfl ?_
  refine P1.iloadN X89.here hx (hb hby d7_10) rfl ?_
  refine Goes.step (T' := T89) (g' := (mkF m 14 #[.val (.ref xs), .val (.ref b65), .val (.int (4 : Int32)), .val (.int (3 : Int32)), .val (.ref odi)] [])) (fun t k => XS.icmpNo X89.here hx rfl (hb hby d7_11) rfl (tlt ((by decide : (3 : Int32) < (4 : Int32)) : (3 : Int32) < (4 : Int32))).2.1 k) ?_
  refine P1.aloadN X89.here hx (hb hby d7_14) rfl rfl ?_
  refine P1.iloadN X89.here hx (hb hby d7_15) rfl ?_
  obtain ⟨cl91, Ar91, qk91, sl91, nz91, ha91, fi91⟩ := id V65
  have i92 := inb_of (j := (3 : Int32)) sl91 ⟨by decide, by decide⟩
  refine Goes.step (T' := T89) (g' := (mkF m 17 #[.val (.ref xs), .val (.ref b65), .val (.int (4 : Int32)), .val (.int (3 : Int32)), .val (.ref odi)] [(.ref ore)])) (fun t k => X89.aaload hx (j := (3 : Int32)) (v := (.ref ore)) (by rw [hE89]; exact Ar91.1) (State.isArrayOf_alike hZ.alike Ar91.2.1) rfl Ar91.2.2 i92 (Has.at ha91 i92 rfl) (g := (mkF m 16 #[.val (.ref xs), .val (.ref b65), .val (.int (4 : Int32)), .val (.int (3 : Int32)), .val (.ref odi)] [(.int (3 : Int32)), (.ref b65)])) rfl rfl (hb hby d7_16) _ k) ?_
  refine P1.astore X89.here hx #[.val (.ref xs), .val (.ref b65), .val (.int (4 : Int32)), .val (.int (3 : Int32)), .val (.ref ore)] (hb hby d7_17) rfl rfl ?_
  refine P1.aload X89.here hx (hb hby d7_19) rfl rfl ?_
  obtain ⟨T93, X93, e93, st93⟩ := getF X89 hx hZ hown (host := "") (Or.inl (own_w hw 54 rfl)) Via.refl hE89 (F_ore_name.ext O70.2) (g := (mkF m 21 #[.val (.ref xs), .val (.ref b65), .val (.int (4 : Int32)), .val (.int (3 : Int32)), .val (.ref ore)] [(.ref ore)])) rfl rfl (hb hby d7_21)
  refine Goes.step (T' := T93) (g' := (mkF m 24 #[.val (.ref xs), .val (.ref b65), .val (.int (4 : Int32)), .val (.int (3 : Int32)), .val (.ref ore)] [(.ref sre)])) st93 ?_
  refine P1.aloadN X93.here hx (hb hby d7_24) rfl rfl ?_
  have V94 : Arv Z T65.heap tre k_tre .byte (7 : Int32) [(.int (82 : Int32)), (.int (101 : Int32)), (.int (118 : Int32)), (.int (111 : Int32)), (.int (107 : Int32)), (.int (101 : Int32)), (.int (100 : Int32))] (.int (0 : Int32)) := (V_tre.ext O70.2)
  refine Goes.callV X93 hx hZ (y := y3_) (z := y3_) (Qc := fun v h' L => (((v = some (.int 1) ∧ ([(82 : Int32), (101 : Int32), (118 : Int32), (111 : Int32), (107 : Int32), (101 : Int32), (100 : Int32)] : List Int32) = ([(82 : Int32), (101 : Int32), (118 : Int32), (111 : Int32), (107 : Int32), (101 : Int32), (100 : Int32)] : List Int32)) ∨ (v = some (.int 0) ∧ ¬ ([(82 : Int32), (101 : Int32), (118 : Int32), (111 : Int32), (107 : Int32), (101 : Int32), (100 : Int32)] : List Int32) = ([(82 : Int32), (101 : Int32), (118 : Int32), (111 : Int32), (107 : Int32), (101 : Int32), (100 : Int32)] : List Int32))) ∧ L = [] ∧ h' = T65.heap)) hown (mvT hZ (own_w hw 56 rfl)) (mvT hZ (own_w hw 57 rfl)) (notFace_of_selects (args := #[]) (mvT hZ (own_w hw 59 rfl))) (mvT hZ (own_w hw 59 rfl)) (mvT hZ (own_w hw 58 rfl)) (by decide) (kc' := 0) (ks' := 0) (StrChars.Road.eqW (W := 0) hZ (fun d hd => hw d (in_wordsEq d hd)) (kI := 4) (own_w hw 5 rfl) (E_sre.ext O70.2) (F_sre_value.ext O70.2) (F_sre_coder.ext O70.2) V94 (show StrChars.Road.CodA ([(82 : Int32), (101 : Int32), (118 : Int32), (111 : Int32), (107 : Int32), (101 : Int32), (100 : Int32)] : List Int32) 0 (7 : Int32) _ from Or.inl ⟨rfl, rfl, rfl, by decide⟩) (by decide) (ok rfl) E73 F74 F75 V76 (show StrChars.Road.CodA ([(82 : Int32), (101 : Int32), (118 : Int32), (111 : Int32), (107 : Int32), (101 : Int32), (100 : Int32)] : List Int32) 0 (7 : Int32) _ from Or.inl ⟨rfl, rfl, rfl, by decide⟩) (by decide) (ok rfl) (S_CS.ext O70.2) hzc (ok rfl) (ok rfl)) (b := sre) e93 (E_sre.ext O70.2) (g := (mkF m 25 #[.val (.ref xs), .val (.ref b65), .val (.int (4 : Int32)), .val (.int (3 : Int32)), .val (.ref ore)] [(.ref xs), (.ref sre)])) rfl (by rw [hml]; rfl) (argsL := [(.ref xs)]) (rest := []) (lenOf pd_20140 rfl) rfl (by show 2 * 0 + _ ≤ _; exact Nat.le_of_eq rfl) (hb hby d7_25) rfl (ok rfl) (ok rfl) ?_
  intro v95 T95 L95 q95 X95
  obtain ⟨q95, rfl, hE95⟩ := q95
  have N95 := Fr.app N89 (Fr.nil n0)
  obtain ⟨rfl, -⟩ := q95.resolve_right (fun z => z.2 rfl)
  show Goes p e below _ T95 (mkF m 28 #[.val (.ref xs), .val (.ref b65), .val (.int (4 : Int32)), .val (.int (3 : Int32)), .val (.ref ore)] [(.int (1 : Int32))])
  refine Goes.step (T' := T95) (g' := (mkF m 31 #[.val (.ref xs), .val (.ref b65), .val (.int (4 : Int32)), .val (.int (3 : Int32)), .val (.ref ore)] [])) (fun t k => XS.ifNo X95.here hx rfl (hb hby d7_28) rfl ((if0 _ _).trans (feq ((by decide : ¬ ((1 : Int32) = (0 : Int32))) : ¬ ((1 : Int32) = (0 : Int32)))).1) k) ?_
  refine P1.aload X95.here hx (hb hby d7_31) rfl rfl ?_
  refine Goes.retA X95 hx Bd.notSynchronized Bd.returns rfl rfl (hb hby d7_33) (ok rfl) (ok rfl) ?_
  rw [hE95]
  have K96 : Keep h0 T65.heap [] := K0.ext E65
  exact ⟨rfl, N95, K96⟩
theorem pn_com_example_thing_access_ledger_thingaccessledger_PolicyStateOfPinLaw : plainName "com/example/thing_access_ledger/thingaccessledger/PolicyStateOfPinLaw" = true := by first | (simp [plainName, overriddenIn]; done) | decide +kernel
theorem in_words : ∀ d ∈ StrChars.Road.words, d ∈ tables_1 := by decide +kernel
theorem pd_1017 : parseMethodDescriptor "([C)V" = some ⟨[(.array .char)], none⟩ := by decide +kernel
theorem pd_346582 : parseMethodDescriptor "(Ljava/lang/String;)Lcom/example/thing_access_ledger/thingaccessledger/PolicyState;" = some ⟨[(.object "java/lang/String")], some (.object "com/example/thing_access_ledger/thingaccessledger/PolicyState")⟩ := by decide +kernel
theorem ef0 (m : MethodId) (p0 : Int32) : entryFrame m #[(.int p0)] maxLocals = mkF m 0 #[.val (.int p0), .unset, .unset, .unset, .unset] [] := by first | (simp [entryFrame, mkF, argsToLocals, Value.category, maxLocals]; done) | rfl
def Q0 (Z : State) (p0 : Int32) (ocr : Addr) (va : Addr) (oen : Addr) (odi : Addr) (ore : Addr) (scr : Addr) (tcr : Addr) (sen : Addr) (ten : Addr) (sdi : Addr) (tdi : Addr) (sre : Addr) (tre : Addr) (k_va : ClassId) (k_tcr : ClassId) (k_ten : ClassId) (k_tdi : ClassId) (k_tre : ClassId) (zc : Int32) (fm : Value) (h0 : Heap) (n0 : Nat) (v : Option Value) (h : Heap) (L : List Loc) : Prop := v = some (.int 1) ∧ Fr n0 L
set_option maxRecDepth 65536 in
set_option maxHeartbeats 40000000 in
theorem rm0 (l : Launch) (Z : State) (a0 : Array Value) (hw : ∀ d ∈ tables_1, d.before a0 Z = true) (ws : List Jvm.Cond) (p0 : Int32) (ocr : Addr) (va : Addr) (oen : Addr) (odi : Addr) (ore : Addr) (scr : Addr) (tcr : Addr) (sen : Addr) (ten : Addr) (sdi : Addr) (tdi : Addr) (sre : Addr) (tre : Addr) (k_va : ClassId) (k_tcr : ClassId) (k_ten : ClassId) (k_tdi : ClassId) (k_tre : ClassId) (zc : Int32) (fm : Value) (h0 : Heap) (n0 : Nat) (Z0 : n0 ≤ h0.size) (O0 : Old Z n0 h0) (S_CREATED : Sta Z Z.heap "com/example/thing_access_ledger/thingaccessledger/PolicyState" "CREATED" "Lcom/example/thing_access_ledger/thingaccessledger/PolicyState;" (.ref ocr)) (E_ocr : Exa Z Z.heap ocr "com/example/thing_access_ledger/thingaccessledger/PolicyState") (S__VALUES : Sta Z Z.heap "com/example/thing_access_ledger/thingaccessledger/PolicyState" "$VALUES" "[Lcom/example/thing_access_ledger/thingaccessledger/PolicyState;" (.ref va)) (E_va : Exa Z Z.heap va "[Lcom/example/thing_access_ledger/thingaccessledger/PolicyState;") (S_ENABLED : Sta Z Z.heap "com/example/thing_access_ledger/thingaccessledger/PolicyState" "ENABLED" "Lcom/example/thing_access_ledger/thingaccessledger/PolicyState;" (.ref oen)) (E_oen : Exa Z Z.heap oen "com/example/thing_access_ledger/thingaccessledger/PolicyState") (S_DISABLED : Sta Z Z.heap "com/example/thing_access_ledger/thingaccessledger/PolicyState" "DISABLED" "Lcom/example/thing_access_ledger/thingaccessledger/PolicyState;" (.ref odi)) (E_odi : Exa Z Z.heap odi "com/example/thing_access_ledger/thingaccessledger/PolicyState") (S_REVOKED : Sta Z Z.heap "com/example/thing_access_ledger/thingaccessledger/PolicyState" "REVOKED" "Lcom/example/thing_access_ledger/thingaccessledger/PolicyState;" (.ref ore)) (E_ore : Exa Z Z.heap ore "com/example/thing_access_ledger/thingaccessledger/PolicyState") (F_ocr_name : Fld Z Z.heap ocr "com/example/thing_access_ledger/thingaccessledger/PolicyState" "name" "Ljava/lang/String;" (.ref scr)) (E_scr : Exa Z Z.heap scr "java/lang/String") (F_scr_coder : Fld Z Z.heap scr "java/lang/String" "coder" "B" (.int (0 : Int32))) (F_scr_value : Fld Z Z.heap scr "java/lang/String" "value" "[B" (.ref tcr)) (F_oen_name : Fld Z Z.heap oen "com/example/thing_access_ledger/thingaccessledger/PolicyState" "name" "Ljava/lang/String;" (.ref sen)) (E_sen : Exa Z Z.heap sen "java/lang/String") (F_sen_coder : Fld Z Z.heap sen "java/lang/String" "coder" "B" (.int (0 : Int32))) (F_sen_value : Fld Z Z.heap sen "java/lang/String" "value" "[B" (.ref ten)) (F_odi_name : Fld Z Z.heap odi "com/example/thing_access_ledger/thingaccessledger/PolicyState" "name" "Ljava/lang/String;" (.ref sdi)) (E_sdi : Exa Z Z.heap sdi "java/lang/String") (F_sdi_coder : Fld Z Z.heap sdi "java/lang/String" "coder" "B" (.int (0 : Int32))) (F_sdi_value : Fld Z Z.heap sdi "java/lang/String" "value" "[B" (.ref tdi)) (F_ore_name : Fld Z Z.heap ore "com/example/thing_access_ledger/thingaccessledger/PolicyState" "name" "Ljava/lang/String;" (.ref sre)) (E_sre : Exa Z Z.heap sre "java/lang/String") (F_sre_coder : Fld Z Z.heap sre "java/lang/String" "coder" "B" (.int (0 : Int32))) (F_sre_value : Fld Z Z.heap sre "java/lang/String" "value" "[B" (.ref tre)) (V_va : Arv Z Z.heap va k_va (.object "com/example/thing_access_ledger/thingaccessledger/PolicyState") (4 : Int32) [(.ref ocr), (.ref oen), (.ref odi), (.ref ore)] .null) (V_tcr : Arv Z Z.heap tcr k_tcr .byte (7 : Int32) [(.int (67 : Int32)), (.int (114 : Int32)), (.int (101 : Int32)), (.int (97 : Int32)), (.int (116 : Int32)), (.int (101 : Int32)), (.int (100 : Int32))] (.int (0 : Int32))) (V_ten : Arv Z Z.heap ten k_ten .byte (7 : Int32) [(.int (69 : Int32)), (.int (110 : Int32)), (.int (97 : Int32)), (.int (98 : Int32)), (.int (108 : Int32)), (.int (101 : Int32)), (.int (100 : Int32))] (.int (0 : Int32))) (V_tdi : Arv Z Z.heap tdi k_tdi .byte (8 : Int32) [(.int (68 : Int32)), (.int (105 : Int32)), (.int (115 : Int32)), (.int (97 : Int32)), (.int (98 : Int32)), (.int (108 : Int32)), (.int (101 : Int32)), (.int (100 : Int32))] (.int (0 : Int32))) (V_tre : Arv Z Z.heap tre k_tre .byte (7 : Int32) [(.int (82 : Int32)), (.int (101 : Int32)), (.int (118 : Int32)), (.int (111 : Int32)), (.int (107 : Int32)), (.int (101 : Int32)), (.int (100 : Int32))] (.int (0 : Int32))) (S_CS : Sta Z Z.heap "java/lang/String" "COMPACT_STRINGS" "Z" (.int zc)) (hzc : ¬ zc = 0) (S_FM : Sta Z Z.heap "jdk/internal/util/Preconditions" "SIOOBE_FORMATTER" "Ljava/util/function/BiFunction;" fm) (hfm : fm.isRef = true) :
    MetFree l x (head1 (Jvm.Cond.code x code maxLocals ret :: ws) room_1) (fun aa U => aa = #[(.int p0)] ∧ Z.Warmed39 U.vm ∧ U.heap = h0) (fun _ _ _ _ _ => True) (fun _ U oo U' => ∃ vv LL, oo = .returned vv ∧ Q0 Z p0 ocr va oen odi ore scr tcr sen ten sdi tdi sre tre k_va k_tcr k_ten k_tdi k_tre zc fm h0 n0 vv U'.heap LL ∧ FrameEnd U oo U' LL room_1.cells room_1.slots) := by
  refine MetFree.of_bodySF (plainFor_of_name pn_com_example_thing_access_ledger_thingaccessledger_PolicyStateOfPinLaw) hisR ?_
  intro p e s m args below meth c s₁ Bd hml0 hP hK
  obtain ⟨rfl, hZ, hh⟩ := hP
  have hx := Bd.exec
  have hby := Bd.bytes
  have hml : c.maxLocals = 5 := hml0
  have hown : s.vm.findClass "com/example/thing_access_ledger/thingaccessledger/PolicyStateOfPinLaw" = some m.cls := findClass_of_methodNamed Bd.named
  have hnm := (name_of_methodNamed Bd.named Bd.method).1
  have X0 : Stand p l e room_1 s m #[(.int p0)] below meth c s₁ [] 0 0 := Stand.of_body Bd
  have e0 : s₁.heap = h0 := by rw [← hh, Bd.state]; rfl
  have N0 := Fr.nil n0
  refine Goes.give (Q := Q0 Z p0 ocr va oen odi ore scr tcr sen ten sdi tdi sre tre k_va k_tcr k_ten k_tdi k_tre zc fm h0 n0) ?_
  rw [ef0 m p0]
  have K0 : Keep h0 h0 [] := Keep.refl _ _
  refine P1.iloadN X0.here hx (hb hby at_0) rfl ?_
  refine P1.iconst X0.here hx (3 : Int32) (hb hby at_1) rfl ?_
  refine P1.iand X0.here hx (hb hby at_2) ?_
  refine P1.istoreN X0.here hx #[.val (.int p0), .val (.int (p0 &&& (3 : Int32))), .unset, .unset, .unset] (hb hby at_3) rfl ?_
  refine P1.iloadN X0.here hx (hb hby at_4) rfl ?_
  by_cases hb0 : (p0 &&& (3 : Int32)) = (0 : Int32)
  ·
    refine Goes.step (T' := s₁) (g' := (mkF m 8 #[.val (.int p0), .val (.int (p0 &&& (3 : Int32))), .unset, .unset, .unset] [])) (fun t k => XS.ifNo X0.here hx rfl (hb hby at_5) rfl ((if0 _ _).trans (teq (hb0 : (p0 &&& (3 : Int32)) = (0 : Int32))).2) k) ?_
    refine P1.bipush X0.here hx (7 : Int32) (hb hby at_8) rfl ?_
    obtain ⟨T97, h97, k97, X97, e97, E97, A97, st97⟩ := newP X0 hx hZ (own_w hw 0 rfl) e0 (g := (mkF m 10 #[.val (.int p0), .val (.int (p0 &&& (3 : Int32))), .unset, .unset, .unset] [(.int (7 : Int32))])) rfl (hb hby at_10) rfl (by decide) (cap := 7) (ok rfl) (ok rfl) (ok rfl) (ok rfl)
    obtain ⟨b97, g97⟩ : ∃ z, z = h0.size := ⟨_, rfl⟩
    rw [← g97] at A97 st97
    have ge_b97 : n0 ≤ b97 := Nat.le_trans Z0 (Nat.le_of_eq g97.symm)
    have sz_b97 : h0.size ≤ b97 := Nat.le_trans K0.1 (Nat.le_of_eq g97.symm)
    have V97 : Arv Z h97 b97 k97 .char (7 : Int32) [(.int (0 : Int32)), (.int (0 : Int32)), (.int (0 : Int32)), (.int (0 : Int32)), (.int (0 : Int32)), (.int (0 : Int32)), (.int (0 : Int32))] (.int (0 : Int32)) := (Arv.new A97 (by decide)).pad (pad_rep [] (.int (0 : Int32)) 7)
    refine Goes.step (T' := T97) (g' := (mkF m 12 #[.val (.int p0), .val (.int (p0 &&& (3 : Int32))), .unset, .unset, .unset] [(.ref b97)])) st97 ?_
    refine P1.dup X97.here hx (hb hby at_12) rfl ?_
    refine P1.iconst X97.here hx (0 : Int32) (hb hby at_13) rfl ?_
    refine P1.bipush X97.here hx (67 : Int32) (hb hby at_14) rfl ?_
    obtain ⟨cl98, Ar98, qk98, sl98, nz98, ha98, fi98⟩ := id V97
    obtain ⟨T99, h99, X99, e99, W99, st99⟩ := stC X97 hx hZ e97 Ar98 (j := (0 : Int32)) (inb_of sl98 ⟨by decide, by decide⟩) (g := (mkF m 16 #[.val (.int p0), .val (.int (p0 &&& (3 : Int32))), .unset, .unset, .unset] [(.int (67 : Int32)), (.int (0 : Int32)), (.ref b97), (.ref b97)])) rfl rfl (hb hby at_16)
    have V99 : Arv Z h99 b97 k97 .char (7 : Int32) [(.int (67 : Int32)), (.int (0 : Int32)), (.int (0 : Int32)), (.int (0 : Int32)), (.int (0 : Int32)), (.int (0 : Int32)), (.int (0 : Int32))] (.int (0 : Int32)) := Arv.set Ar98 qk98 sl98 nz98 ha98 fi98 (fits_nar_char _) W99 0 rfl (ok rfl)
    have N99 := Fr.snoc X99 N0 ge_b97
    refine Goes.step (T' := T99) (g' := (mkF m 17 #[.val (.int p0), .val (.int (p0 &&& (3 : Int32))), .unset, .unset, .unset] [(.ref b97)])) st99 ?_
    refine P1.dup X99.here hx (hb hby at_17) rfl ?_
    refine P1.iconst X99.here hx (1 : Int32) (hb hby at_18) rfl ?_
    refine P1.bipush X99.here hx (114 : Int32) (hb hby at_19) rfl ?_
    obtain ⟨cl100, Ar100, qk100, sl100, nz100, ha100, fi100⟩ := id V99
    obtain ⟨T101, h101, X101, e101, W101, st101⟩ := stC X99 hx hZ e99 Ar100 (j := (1 : Int32)) (inb_of sl100 ⟨by decide, by decide⟩) (g := (mkF m 21 #[.val (.int p0), .val (.int (p0 &&& (3 : Int32))), .unset, .unset, .unset] [(.int (114 : Int32)), (.int (1 : Int32)), (.ref b97), (.ref b97)])) rfl rfl (hb hby at_21)
    have V101 : Arv Z h101 b97 k97 .char (7 : Int32) [(.int (67 : Int32)), (.int (114 : Int32)), (.int (0 : Int32)), (.int (0 : Int32)), (.int (0 : Int32)), (.int (0 : Int32)), (.int (0 : Int32))] (.int (0 : Int32)) := Arv.set Ar100 qk100 sl100 nz100 ha100 fi100 (fits_nar_char _) W101 1 rfl (ok rfl)
    have N101 := Fr.snoc X101 N99 ge_b97
    refine Goes.step (T' := T101) (g' := (mkF m 22 #[.val (.int p0), .val (.int (p0 &&& (3 : Int32))), .unset, .unset, .unset] [(.ref b97)])) st101 ?_
    refine P1.dup X101.here hx (hb hby at_22) rfl ?_
    refine P1.iconst X101.here hx (2 : Int32) (hb hby at_23) rfl ?_
    refine P1.bipush X101.here hx (101 : Int32) (hb hby at_24) rfl ?_
    obtain ⟨cl102, Ar102, qk102, sl102, nz102, ha102, fi102⟩ := id V101
    obtain ⟨T103, h103, X103, e103, W103, st103⟩ := stC X101 hx hZ e101 Ar102 (j := (2 : Int32)) (inb_of sl102 ⟨by decide, by decide⟩) (g := (mkF m 26 #[.val (.int p0), .val (.int (p0 &&& (3 : Int32))), .unset, .unset, .unset] [(.int (101 : Int32)), (.int (2 : Int32)), (.ref b97), (.ref b97)])) rfl rfl (hb hby at_26)
    have V103 : Arv Z h103 b97 k97 .char (7 : Int32) [(.int (67 : Int32)), (.int (114 : Int32)), (.int (101 : Int32)), (.int (0 : Int32)), (.int (0 : Int32)), (.int (0 : Int32)), (.int (0 : Int32))] (.int (0 : Int32)) := Arv.set Ar102 qk102 sl102 nz102 ha102 fi102 (fits_nar_char _) W103 2 rfl (ok rfl)
    have N103 := Fr.snoc X103 N101 ge_b97
    refine Goes.step (T' := T103) (g' := (mkF m 27 #[.val (.int p0), .val (.int (p0 &&& (3 : Int32))), .unset, .unset, .unset] [(.ref b97)])) st103 ?_
    refine P1.dup X103.here hx (hb hby at_27) rfl ?_
    refine P1.iconst X103.here hx (3 : Int32) (hb hby at_28) rfl ?_
    refine P1.bipush X103.here hx (97 : Int32) (hb hby at_29) rfl ?_
    obtain ⟨cl104, Ar104, qk104, sl104, nz104, ha104, fi104⟩ := id V103
    obtain ⟨T105, h105, X105, e105, W105, st105⟩ := stC X103 hx hZ e103 Ar104 (j := (3 : Int32)) (inb_of sl104 ⟨by decide, by decide⟩) (g := (mkF m 31 #[.val (.int p0), .val (.int (p0 &&& (3 : Int32))), .unset, .unset, .unset] [(.int (97 : Int32)), (.int (3 : Int32)), (.ref b97), (.ref b97)])) rfl rfl (hb hby at_31)
    have V105 : Arv Z h105 b97 k97 .char (7 : Int32) [(.int (67 : Int32)), (.int (114 : Int32)), (.int (101 : Int32)), (.int (97 : Int32)), (.int (0 : Int32)), (.int (0 : Int32)), (.int (0 : Int32))] (.int (0 : Int32)) := Arv.set Ar104 qk104 sl104 nz104 ha104 fi104 (fits_nar_char _) W105 3 rfl (ok rfl)
    have N105 := Fr.snoc X105 N103 ge_b97
    refine Goes.step (T' := T105) (g' := (mkF m 32 #[.val (.int p0), .val (.int (p0 &&& (3 : Int32))), .unset, .unset, .unset] [(.ref b97)])) st105 ?_
    refine P1.dup X105.here hx (hb hby at_32) rfl ?_
    refine P1.iconst X105.here hx (4 : Int32) (hb hby at_33) rfl ?_
    refine P1.bipush X105.here hx (116 : Int32) (hb hby at_34) rfl ?_
    obtain ⟨cl106, Ar106, qk106, sl106, nz106, ha106, fi106⟩ := id V105
    obtain ⟨T107, h107, X107, e107, W107, st107⟩ := stC X105 hx hZ e105 Ar106 (j := (4 : Int32)) (inb_of sl106 ⟨by decide, by decide⟩) (g := (mkF m 36 #[.val (.int p0), .val (.int (p0 &&& (3 : Int32))), .unset, .unset, .unset] [(.int (116 : Int32)), (.int (4 : Int32)), (.ref b97), (.ref b97)])) rfl rfl (hb hby at_36)
    have V107 : Arv Z h107 b97 k97 .char (7 : Int32) [(.int (67 : Int32)), (.int (114 : Int32)), (.int (101 : Int32)), (.int (97 : Int32)), (.int (116 : Int32)), (.int (0 : Int32)), (.int (0 : Int32))] (.int (0 : Int32)) := Arv.set Ar106 qk106 sl106 nz106 ha106 fi106 (fits_nar_char _) W107 4 rfl (ok rfl)
    have N107 := Fr.snoc X107 N105 ge_b97
    refine Goes.step (T' := T107) (g' := (mkF m 37 #[.val (.int p0), .val (.int (p0 &&& (3 : Int32))), .unset, .unset, .unset] [(.ref b97)])) st107 ?_
    refine P1.dup X107.here hx (hb hby at_37) rfl ?_
    refine P1.iconst X107.here hx (5 : Int32) (hb hby at_38) rfl ?_
    refine P1.bipush X107.here hx (101 : Int32) (hb hby at_39) rfl ?_
    obtain ⟨cl108, Ar108, qk108, sl108, nz108, ha108, fi108⟩ := id V107
    obtain ⟨T109, h109, X109, e109, W109, st109⟩ := stC X107 hx hZ e107 Ar108 (j := (5 : Int32)) (inb_of sl108 ⟨by decide, by decide⟩) (g := (mkF m 41 #[.val (.int p0), .val (.int (p0 &&& (3 : Int32))), .unset, .unset, .unset] [(.int (101 : Int32)), (.int (5 : Int32)), (.ref b97), (.ref b97)])) rfl rfl (hb hby at_41)
    have V109 : Arv Z h109 b97 k97 .char (7 : Int32) [(.int (67 : Int32)), (.int (114 : Int32)), (.int (101 : Int32)), (.int (97 : Int32)), (.int (116 : Int32)), (.int (101 : Int32)), (.int (0 : Int32))] (.int (0 : Int32)) := Arv.set Ar108 qk108 sl108 nz108 ha108 fi108 (fits_nar_char _) W109 5 rfl (ok rfl)
    have N109 := Fr.snoc X109 N107 ge_b97
    refine Goes.step (T' := T109) (g' := (mkF m 42 #[.val (.int p0), .val (.int (p0 &&& (3 : Int32))), .unset, .unset, .unset] [(.ref b97)])) st109 ?_
    refine P1.dup X109.here hx (hb hby at_42) rfl ?_
    refine P1.bipush X109.here hx (6 : Int32) (hb hby at_43) rfl ?_
    refine P1.bipush X109.here hx (100 : Int32) (hb hby at_45) rfl ?_
    obtain ⟨cl110, Ar110, qk110, sl110, nz110, ha110, fi110⟩ := id V109
    obtain ⟨T111, h111, X111, e111, W111, st111⟩ := stC X109 hx hZ e109 Ar110 (j := (6 : Int32)) (inb_of sl110 ⟨by decide, by decide⟩) (g := (mkF m 47 #[.val (.int p0), .val (.int (p0 &&& (3 : Int32))), .unset, .unset, .unset] [(.int (100 : Int32)), (.int (6 : Int32)), (.ref b97), (.ref b97)])) rfl rfl (hb hby at_47)
    have V111 : Arv Z h111 b97 k97 .char (7 : Int32) [(.int (67 : Int32)), (.int (114 : Int32)), (.int (101 : Int32)), (.int (97 : Int32)), (.int (116 : Int32)), (.int (101 : Int32)), (.int (100 : Int32))] (.int (0 : Int32)) := Arv.set Ar110 qk110 sl110 nz110 ha110 fi110 (fits_nar_char _) W111 6 rfl (ok rfl)
    have N111 := Fr.snoc X111 N109 ge_b97
    refine Goes.step (T' := T111) (g' := (mkF m 48 #[.val (.int p0), .val (.int (p0 &&& (3 : Int32))), .unset, .unset, .unset] [(.ref b97)])) st111 ?_
    refine P1.astoreN X111.here hx #[.val (.int p0), .val (.int (p0 &&& (3 : Int32))), .val (.ref b97), .unset, .unset] (hb hby at_48) rfl rfl ?_
    have O113 : Old Z n0 h97 := O0.ext E97
    have O114 : Old Z n0 h99 := O113.wr W99 ge_b97
    have O115 : Old Z n0 h101 := O114.wr W101 ge_b97
    have O116 : Old Z n0 h103 := O115.wr W103 ge_b97
    have O117 : Old Z n0 h105 := O116.wr W105 ge_b97
    have O118 : Old Z n0 h107 := O117.wr W107 ge_b97
    have O119 : Old Z n0 h109 := O118.wr W109 ge_b97
    have O120 : Old Z n0 h111 := O119.wr W111 ge_b97
    obtain ⟨T112, X112, e112, st112⟩ := getS2 X111 hx hZ hown (host := "") (Or.inl (own_w hw 1 rfl)) Via.refl e111 (S_CREATED.ext O120.2) (g := (mkF m 49 #[.val (.int p0), .val (.int (p0 &&& (3 : Int32))), .val (.ref b97), .unset, .unset] [])) rfl (hb hby at_49)
    refine Goes.step (T' := T112) (g' := (mkF m 52 #[.val (.int p0), .val (.int (p0 &&& (3 : Int32))), .val (.ref b97), .unset, .unset] [(.ref ocr)])) st112 ?_
    refine P1.astoreN X112.here hx #[.val (.int p0), .val (.int (p0 &&& (3 : Int32))), .val (.ref b97), .val (.ref ocr), .unset] (hb hby at_52) rfl rfl ?_
    refine P1.goto X112.here hx 213 (hb hby at_53) (by decide) (by decide) ?_
    obtain ⟨T121, h121, X121, e121, E121, A121, D121, -, st121⟩ := newO X112 hx hZ hown (own_w hw 4 rfl) (own_w hw 5 rfl) (own_w hw 6 rfl) e112 (g := (mkF m 213 #[.val (.int p0), .val (.int (p0 &&& (3 : Int32))), .val (.ref b97), .val (.ref ocr), .unset] [])) rfl (hb hby at_213) (ok rfl) (ok rfl)
    have Z122 : n0 ≤ h97.size := Nat.le_trans Z0 E97.1
    have Z123 : n0 ≤ h99.size := Nat.le_trans Z122 (Keep.of_wr W99).1
    have Z124 : n0 ≤ h101.size := Nat.le_trans Z123 (Keep.of_wr W101).1
    have Z125 : n0 ≤ h103.size := Nat.le_trans Z124 (Keep.of_wr W103).1
    have Z126 : n0 ≤ h105.size := Nat.le_trans Z125 (Keep.of_wr W105).1
    have Z127 : n0 ≤ h107.size := Nat.le_trans Z126 (Keep.of_wr W107).1
    have Z128 : n0 ≤ h109.size := Nat.le_trans Z127 (Keep.of_wr W109).1
    have Z129 : n0 ≤ h111.size := Nat.le_trans Z128 (Keep.of_wr W111).1
    have K130 : Keep h0 h97 [] := K0.ext E97
    have K131 : Keep h0 h99 [] := K130.wr W99 (Or.inr sz_b97)
    have K132 : Keep h0 h101 [] := K131.wr W101 (Or.inr sz_b97)
    have K133 : Keep h0 h103 [] := K132.wr W103 (Or.inr sz_b97)
    have K134 : Keep h0 h105 [] := K133.wr W105 (Or.inr sz_b97)
    have K135 : Keep h0 h107 [] := K134.wr W107 (Or.inr sz_b97)
    have K136 : Keep h0 h109 [] := K135.wr W109 (Or.inr sz_b97)
    have K137 : Keep h0 h111 [] := K136.wr W111 (Or.inr sz_b97)
    obtain ⟨b121, g121⟩ : ∃ z, z = h111.size := ⟨_, rfl⟩
    rw [← g121] at A121 D121 st121
    have ge_b121 : n0 ≤ b121 := Nat.le_trans Z129 (Nat.le_of_eq g121.symm)
    have sz_b121 : h0.size ≤ b121 := Nat.le_trans K137.1 (Nat.le_of_eq g121.symm)
    have F121_coder : Fld Z h121 b121 "java/lang/String" "coder" "B" (.int (0 : Int32)) := D121 (Or.inr (own_w hw 30 rfl)) (ty := .byte) (by decide)
    have F121_value : Fld Z h121 b121 "java/lang/String" "value" "[B" .null := D121 (Or.inr (own_w hw 32 rfl)) (ty := (.array .byte)) (by decide)
    refine Goes.step (T' := T121) (g' := (mkF m 216 #[.val (.int p0), .val (.int (p0 &&& (3 : Int32))), .val (.ref b97), .val (.ref ocr), .unset] [(.ref b121)])) st121 ?_
    refine P1.dup X121.here hx (hb hby at_216) rfl ?_
    refine P1.aloadN X121.here hx (hb hby at_217) rfl rfl ?_
    have V138 : Arv Z h121 b97 k97 .char (7 : Int32) [(.int (67 : Int32)), (.int (114 : Int32)), (.int (101 : Int32)), (.int (97 : Int32)), (.int (116 : Int32)), (.int (101 : Int32)), (.int (100 : Int32))] (.int (0 : Int32)) := V111.ext E121
    have Z139 : n0 ≤ h121.size := Nat.le_trans Z129 E121.1
    have hp140 : ∀ c ∈ ([(67 : Int32), (114 : Int32), (101 : Int32), (97 : Int32), (116 : Int32), (101 : Int32), (100 : Int32)] : List Int32), ¬ c < 0 ∧ ¬ (255 : Int32) < c := by decide
    have O141 : Old Z n0 h121 := O120.ext E121
    refine Goes.callC X121 hx (y := y2_) rfl hown (mvT hZ (own_w hw 7 rfl)) (mvT hZ (own_w hw 8 rfl)) (mvT hZ (own_w hw 9 rfl)) (by decide) (kc' := 1) (ks' := 7) (StrChars.Road.backV (W := 1) hZ (fun d hd => hw d (in_words d hd)) (kI := 4) (own_w hw 5 rfl) (cs := ([(67 : Int32), (114 : Int32), (101 : Int32), (97 : Int32), (116 : Int32), (101 : Int32), (100 : Int32)] : List Int32)) (bs := ([(67 : Int32), (114 : Int32), (101 : Int32), (97 : Int32), (116 : Int32), (101 : Int32), (100 : Int32)] : List Int32).map (fun c => c.toInt8.toInt32)) (n := 7) ge_b121 Z139 A121 F121_value F121_coder V138 (S_CS.ext O141.2) hzc rfl rfl (by decide) (by decide) hp140 rfl (ok rfl) (ok rfl)) (g := (mkF m 218 #[.val (.int p0), .val (.int (p0 &&& (3 : Int32))), .val (.ref b97), .val (.ref ocr), .unset] [(.ref b97), (.ref b121), (.ref b121)])) (a := b121) rfl (by rw [hml]; rfl) (argsL := [(.ref b97)]) (rest := [(.ref b121)]) (lenOf pd_1017 rfl) rfl (by show 2 * 0 + _ ≤ _; exact Nat.le_of_eq rfl) (hb hby at_218) rfl e121 (ok rfl) (ok rfl) ?_
    intro v142 T142 L142 q142 X142
    obtain ⟨rfl, N142q, K142, g142E, g142C, t142, kb142, ge_t142, szt142, net142, g142V, g142K⟩ := q142
    have K143 : Keep h0 h121 [] := K137.ext E121
    have N142 := Fr.app N111 N142q
    have sz_t142 : h0.size ≤ t142 := Nat.le_trans K143.1 szt142
    show Goes p e below _ T142 (mkF m 221 #[.val (.int p0), .val (.int (p0 &&& (3 : Int32))), .val (.ref b97), .val (.ref ocr), .unset] [(.ref b121)])
    have Z144 : n0 ≤ T142.heap.size := Nat.le_trans Z139 K142.1
    have O145 : Old Z n0 T142.heap := O141.keep K142 (allS ge_b121 all0)
    refine Goes.callS X142 hx (y := y0_) hown (mvT hZ (own_w hw 33 rfl)) (mvT hZ (own_w hw 34 rfl)) (mvT hZ (own_w hw 2 rfl)) (mvT hZ (own_w hw 35 rfl)) (by decide) (kc' := 1) (ks' := 4) (backOf (W := 0) (rmOfcr l Z a0 hw [] ocr va oen odi ore scr tcr sen ten sdi tdi sre tre k_va k_tcr k_ten k_tdi k_tre zc fm b121 t142 kb142 T142.heap n0 Z144 O145 S_CREATED E_ocr S__VALUES E_va S_ENABLED E_oen S_DISABLED E_odi S_REVOKED E_ore F_ocr_name E_scr F_scr_coder F_scr_value F_oen_name E_sen F_sen_coder F_sen_value F_odi_name E_sdi F_sdi_coder F_sdi_value F_ore_name E_sre F_sre_coder F_sre_value V_va V_tcr V_ten V_tdi V_tre S_CS hzc S_FM hfm g142E g142V g142C g142K) hZ (own_w hw 35 rfl) (own_w hw 2 rfl) (ok rfl) (ok rfl)) (g := (mkF m 221 #[.val (.int p0), .val (.int (p0 &&& (3 : Int32))), .val (.ref b97), .val (.ref ocr), .unset] [(.ref b121)])) rfl (by rw [hml]; rfl) (argsL := [(.ref b121)]) (rest := []) (lenOf pd_346582 rfl) rfl (by show 2 * 0 + _ ≤ _; exact Nat.le_of_eq rfl) (hb hby at_221) rfl rfl (ok rfl) (ok rfl) ?_
    intro v146 T146 L146 q146 X146
    obtain ⟨rfl, N146q, K146⟩ := q146
    have N146 := Fr.app N142 N146q
    show Goes p e below _ T146 (mkF m 224 #[.val (.int p0), .val (.int (p0 &&& (3 : Int32))), .val (.ref b97), .val (.ref ocr), .unset] [(.ref ocr)])
    refine P1.astore X146.here hx #[.val (.int p0), .val (.int (p0 &&& (3 : Int32))), .val (.ref b97), .val (.ref ocr), .val (.ref ocr)] (hb hby at_224) rfl rfl ?_
    refine P1.aload X146.here hx (hb hby at_226) rfl rfl ?_
    refine P1.aloadN X146.here hx (hb hby at_228) rfl rfl ?_
    refine Goes.step (T' := T146) (g' := (mkF m 232 #[.val (.int p0), .val (.int (p0 &&& (3 : Int32))), .val (.ref b97), .val (.ref ocr), .val (.ref ocr)] [])) (fun t k => Jvm.RoadKit.acmp (g := (mkF m 229 #[.val (.int p0), .val (.int (p0 &&& (3 : Int32))), .val (.ref b97), .val (.ref ocr), .val (.ref ocr)] [(.ref ocr), (.ref ocr)])) X146 hx rfl rfl rfl (pc0 := 229) (pc' := 232) (same := true) rfl (hb hby at_229) rfl (decide_eq_true rfl) (by decide) (by decide) k) ?_
    refine P1.iconst X146.here hx (1 : Int32) (hb hby at_232) rfl ?_
    refine P1.goto X146.here hx 237 (hb hby at_233) (by decide) (by decide) ?_
    refine Goes.retN X146 hx Bd.notSynchronized (t := .boolean) Bd.returns (by simp) (hb hby at_237) (ok rfl) (ok rfl) ?_
    exact ⟨rfl, N146⟩
  ·
    refine Goes.step (T' := s₁) (g' := (mkF m 56 #[.val (.int p0), .val (.int (p0 &&& (3 : Int32))), .unset, .unset, .unset] [])) (fun t k => XS.ifYes X0.here hx rfl (pc0 := 5) (pc' := 56) rfl (hb hby at_5) rfl ((if0 _ _).trans (feq (hb0 : ¬ ((p0 &&& (3 : Int32)) = (0 : Int32)))).2) (by decide) (by decide) k) ?_
    refine P1.iloadN X0.here hx (hb hby at_56) rfl ?_
    refine P1.iconst X0.here hx (1 : Int32) (hb hby at_57) rfl ?_
    by_cases hb1 : (p0 &&& (3 : Int32)) = (1 : Int32)
    ·
      refine Goes.step (T' := s₁) (g' := (mkF m 61 #[.val (.int p0), .val (.int (p0 &&& (3 : Int32))), .unset, .unset, .unset] [])) (fun t k => XS.icmpNo X0.here hx rfl (hb hby at_58) rfl (teq (hb1 : (p0 &&& (3 : Int32)) = (1 : Int32))).2 k) ?_
      refine P1.bipush X0.here hx (7 : Int32) (hb hby at_61) rfl ?_
      obtain ⟨T147, h147, k147, X147, e147, E147, A147, st147⟩ := newP X0 hx hZ (own_w hw 0 rfl) e0 (g := (mkF m 63 #[.val (.int p0), .val (.int (p0 &&& (3 : Int32))), .unset, .unset, .unset] [(.int (7 : Int32))])) rfl (hb hby at_63) rfl (by decide) (cap := 7) (ok rfl) (ok rfl) (ok rfl) (ok rfl)
      obtain ⟨b147, g147⟩ : ∃ z, z = h0.size := ⟨_, rfl⟩
      rw [← g147] at A147 st147
      have ge_b147 : n0 ≤ b147 := Nat.le_trans Z0 (Nat.le_of_eq g147.symm)
      have sz_b147 : h0.size ≤ b147 := Nat.le_trans K0.1 (Nat.le_of_eq g147.symm)
      have V147 : Arv Z h147 b147 k147 .char (7 : Int32) [(.int (0 : Int32)), (.int (0 : Int32)), (.int (0 : Int32)), (.int (0 : Int32)), (.int (0 : Int32)), (.int (0 : Int32)), (.int (0 : Int32))] (.int (0 : Int32)) := (Arv.new A147 (by decide)).pad (pad_rep [] (.int (0 : Int32)) 7)
      refine Goes.step (T' := T147) (g' := (mkF m 65 #[.val (.int p0), .val (.int (p0 &&& (3 : Int32))), .unset, .unset, .unset] [(.ref b147)])) st147 ?_
      refine P1.dup X147.here hx (hb hby at_65) rfl ?_
      refine P1.iconst X147.here hx (0 : Int32) (hb hby at_66) rfl ?_
      refine P1.bipush X147.here hx (69 : Int32) (hb hby at_67) rfl ?_
      obtain ⟨cl148, Ar148, qk148, sl148, nz148, ha148, fi148⟩ := id V147
      obtain ⟨T149, h149, X149, e149, W149, st149⟩ := stC X147 hx hZ e147 Ar148 (j := (0 : Int32)) (inb_of sl148 ⟨by decide, by decide⟩) (g := (mkF m 69 #[.val (.int p0), .val (.int (p0 &&& (3 : Int32))), .unset, .unset, .unset] [(.int (69 : Int32)), (.int (0 : Int32)), (.ref b147), (.ref b147)])) rfl rfl (hb hby at_69)
      have V149 : Arv Z h149 b147 k147 .char (7 : Int32) [(.int (69 : Int32)), (.int (0 : Int32)), (.int (0 : Int32)), (.int (0 : Int32)), (.int (0 : Int32)), (.int (0 : Int32)), (.int (0 : Int32))] (.int (0 : Int32)) := Arv.set Ar148 qk148 sl148 nz148 ha148 fi148 (fits_nar_char _) W149 0 rfl (ok rfl)
      have N149 := Fr.snoc X149 N0 ge_b147
      refine Goes.step (T' := T149) (g' := (mkF m 70 #[.val (.int p0), .val (.int (p0 &&& (3 : Int32))), .unset, .unset, .unset] [(.ref b147)])) st149 ?_
      refine P1.dup X149.here hx (hb hby at_70) rfl ?_
      refine P1.iconst X149.here hx (1 : Int32) (hb hby at_71) rfl ?_
      refine P1.bipush X149.here hx (110 : Int32) (hb hby at_72) rfl ?_
      obtain ⟨cl150, Ar150, qk150, sl150, nz150, ha150, fi150⟩ := id V149
      obtain ⟨T151, h151, X151, e151, W151, st151⟩ := stC X149 hx hZ e149 Ar150 (j := (1 : Int32)) (inb_of sl150 ⟨by decide, by decide⟩) (g := (mkF m 74 #[.val (.int p0), .val (.int (p0 &&& (3 : Int32))), .unset, .unset, .unset] [(.int (110 : Int32)), (.int (1 : Int32)), (.ref b147), (.ref b147)])) rfl rfl (hb hby at_74)
      have V151 : Arv Z h151 b147 k147 .char (7 : Int32) [(.int (69 : Int32)), (.int (110 : Int32)), (.int (0 : Int32)), (.int (0 : Int32)), (.int (0 : Int32)), (.int (0 : Int32)), (.int (0 : Int32))] (.int (0 : Int32)) := Arv.set Ar150 qk150 sl150 nz150 ha150 fi150 (fits_nar_char _) W151 1 rfl (ok rfl)
      have N151 := Fr.snoc X151 N149 ge_b147
      refine Goes.step (T' := T151) (g' := (mkF m 75 #[.val (.int p0), .val (.int (p0 &&& (3 : Int32))), .unset, .unset, .unset] [(.ref b147)])) st151 ?_
      refine P1.dup X151.here hx (hb hby at_75) rfl ?_
      refine P1.iconst X151.here hx (2 : Int32) (hb hby at_76) rfl ?_
      refine P1.bipush X151.here hx (97 : Int32) (hb hby at_77) rfl ?_
      obtain ⟨cl152, Ar152, qk152, sl152, nz152, ha152, fi152⟩ := id V151
      obtain ⟨T153, h153, X153, e153, W153, st153⟩ := stC X151 hx hZ e151 Ar152 (j := (2 : Int32)) (inb_of sl152 ⟨by decide, by decide⟩) (g := (mkF m 79 #[.val (.int p0), .val (.int (p0 &&& (3 : Int32))), .unset, .unset, .unset] [(.int (97 : Int32)), (.int (2 : Int32)), (.ref b147), (.ref b147)])) rfl rfl (hb hby at_79)
      have V153 : Arv Z h153 b147 k147 .char (7 : Int32) [(.int (69 : Int32)), (.int (110 : Int32)), (.int (97 : Int32)), (.int (0 : Int32)), (.int (0 : Int32)), (.int (0 : Int32)), (.int (0 : Int32))] (.int (0 : Int32)) := Arv.set Ar152 qk152 sl152 nz152 ha152 fi152 (fits_nar_char _) W153 2 rfl (ok rfl)
      have N153 := Fr.snoc X153 N151 ge_b147
      refine Goes.step (T' := T153) (g' := (mkF m 80 #[.val (.int p0), .val (.int (p0 &&& (3 : Int32))), .unset, .unset, .unset] [(.ref b147)])) st153 ?_
      refine P1.dup X153.here hx (hb hby at_80) rfl ?_
      refine P1.iconst X153.here hx (3 : Int32) (hb hby at_81) rfl ?_
      refine P1.bipush X153.here hx (98 : Int32) (hb hby at_82) rfl ?_
      obtain ⟨cl154, Ar154, qk154, sl154, nz154, ha154, fi154⟩ := id V153
      obtain ⟨T155, h155, X155, e155, W155, st155⟩ := stC X153 hx hZ e153 Ar154 (j := (3 : Int32)) (inb_of sl154 ⟨by decide, by decide⟩) (g := (mkF m 84 #[.val (.int p0), .val (.int (p0 &&& (3 : Int32))), .unset, .unset, .unset] [(.int (98 : Int32)), (.int (3 : Int32)), (.ref b147), (.ref b147)])) rfl rfl (hb hby at_84)
      have V155 : Arv Z h155 b147 k147 .char (7 : Int32) [(.int (69 : Int32)), (.int (110 : Int32)), (.int (97 : Int32)), (.int (98 : Int32)), (.int (0 : Int32)), (.int (0 : Int32)), (.int (0 : Int32))] (.int (0 : Int32)) := Arv.set Ar154 qk154 sl154 nz154 ha154 fi154 (fits_nar_char _) W155 3 rfl (ok rfl)
      have N155 := Fr.snoc X155 N153 ge_b147
      refine Goes.step (T' := T155) (g' := (mkF m 85 #[.val (.int p0), .val (.int (p0 &&& (3 : Int32))), .unset, .unset, .unset] [(.ref b147)])) st155 ?_
      refine P1.dup X155.here hx (hb hby at_85) rfl ?_
      refine P1.iconst X155.here hx (4 : Int32) (hb hby at_86) rfl ?_
      refine P1.bipush X155.here hx (108 : Int32) (hb hby at_87) rfl ?_
      obtain ⟨cl156, Ar156, qk156, sl156, nz156, ha156, fi156⟩ := id V155
      obtain ⟨T157, h157, X157, e157, W157, st157⟩ := stC X155 hx hZ e155 Ar156 (j := (4 : Int32)) (inb_of sl156 ⟨by decide, by decide⟩) (g := (mkF m 89 #[.val (.int p0), .val (.int (p0 &&& (3 : Int32))), .unset, .unset, .unset] [(.int (108 : Int32)), (.int (4 : Int32)), (.ref b147), (.ref b147)])) rfl rfl (hb hby at_89)
      have V157 : Arv Z h157 b147 k147 .char (7 : Int32) [(.int (69 : Int32)), (.int (110 : Int32)), (.int (97 : Int32)), (.int (98 : Int32)), (.int (108 : Int32)), (.int (0 : Int32)), (.int (0 : Int32))] (.int (0 : Int32)) := Arv.set Ar156 qk156 sl156 nz156 ha156 fi156 (fits_nar_char _) W157 4 rfl (ok rfl)
      have N157 := Fr.snoc X157 N155 ge_b147
      refine Goes.step (T' := T157) (g' := (mkF m 90 #[.val (.int p0), .val (.int (p0 &&& (3 : Int32))), .unset, .unset, .unset] [(.ref b147)])) st157 ?_
      refine P1.dup X157.here hx (hb hby at_90) rfl ?_
      refine P1.iconst X157.here hx (5 : Int32) (hb hby at_91) rfl ?_
      refine P1.bipush X157.here hx (101 : Int32) (hb hby at_92) rfl ?_
      obtain ⟨cl158, Ar158, qk158, sl158, nz158, ha158, fi158⟩ := id V157
      obtain ⟨T159, h159, X159, e159, W159, st159⟩ := stC X157 hx hZ e157 Ar158 (j := (5 : Int32)) (inb_of sl158 ⟨by decide, by decide⟩) (g := (mkF m 94 #[.val (.int p0), .val (.int (p0 &&& (3 : Int32))), .unset, .unset, .unset] [(.int (101 : Int32)), (.int (5 : Int32)), (.ref b147), (.ref b147)])) rfl rfl (hb hby at_94)
      have V159 : Arv Z h159 b147 k147 .char (7 : Int32) [(.int (69 : Int32)), (.int (110 : Int32)), (.int (97 : Int32)), (.int (98 : Int32)), (.int (108 : Int32)), (.int (101 : Int32)), (.int (0 : Int32))] (.int (0 : Int32)) := Arv.set Ar158 qk158 sl158 nz158 ha158 fi158 (fits_nar_char _) W159 5 rfl (ok rfl)
      have N159 := Fr.snoc X159 N157 ge_b147
      refine Goes.step (T' := T159) (g' := (mkF m 95 #[.val (.int p0), .val (.int (p0 &&& (3 : Int32))), .unset, .unset, .unset] [(.ref b147)])) st159 ?_
      refine P1.dup X159.here hx (hb hby at_95) rfl ?_
      refine P1.bipush X159.here hx (6 : Int32) (hb hby at_96) rfl ?_
      refine P1.bipush X159.here hx (100 : Int32) (hb hby at_98) rfl ?_
      obtain ⟨cl160, Ar160, qk160, sl160, nz160, ha160, fi160⟩ := id V159
      obtain ⟨T161, h161, X161, e161, W161, st161⟩ := stC X159 hx hZ e159 Ar160 (j := (6 : Int32)) (inb_of sl160 ⟨by decide, by decide⟩) (g := (mkF m 100 #[.val (.int p0), .val (.int (p0 &&& (3 : Int32))), .unset, .unset, .unset] [(.int (100 : Int32)), (.int (6 : Int32)), (.ref b147), (.ref b147)])) rfl rfl (hb hby at_100)
      have V161 : Arv Z h161 b147 k147 .char (7 : Int32) [(.int (69 : Int32)), (.int (110 : Int32)), (.int (97 : Int32)), (.int (98 : Int32)), (.int (108 : Int32)), (.int (101 : Int32)), (.int (100 : Int32))] (.int (0 : Int32)) := Arv.set Ar160 qk160 sl160 nz160 ha160 fi160 (fits_nar_char _) W161 6 rfl (ok rfl)
      have N161 := Fr.snoc X161 N159 ge_b147
      refine Goes.step (T' := T161) (g' := (mkF m 101 #[.val (.int p0), .val (.int (p0 &&& (3 : Int32))), .unset, .unset, .unset] [(.ref b147)])) st161 ?_
      refine P1.astoreN X161.here hx #[.val (.int p0), .val (.int (p0 &&& (3 : Int32))), .val (.ref b147), .unset, .unset] (hb hby at_101) rfl rfl ?_
      have O163 : Old Z n0 h147 := O0.ext E147
      have O164 : Old Z n0 h149 := O163.wr W149 ge_b147
      have O165 : Old Z n0 h151 := O164.wr W151 ge_b147
      have O166 : Old Z n0 h153 := O165.wr W153 ge_b147
      have O167 : Old Z n0 h155 := O166.wr W155 ge_b147
      have O168 : Old Z n0 h157 := O167.wr W157 ge_b147
      have O169 : Old Z n0 h159 := O168.wr W159 ge_b147
      have O170 : Old Z n0 h161 := O169.wr W161 ge_b147
      obtain ⟨T162, X162, e162, st162⟩ := getS2 X161 hx hZ hown (host := "") (Or.inl (own_w hw 68 rfl)) Via.refl e161 (S_ENABLED.ext O170.2) (g := (mkF m 102 #[.val (.int p0), .val (.int (p0 &&& (3 : Int32))), .val (.ref b147), .unset, .unset] [])) rfl (hb hby at_102)
      refine Goes.step (T' := T162) (g' := (mkF m 105 #[.val (.int p0), .val (.int (p0 &&& (3 : Int32))), .val (.ref b147), .unset, .unset] [(.ref oen)])) st162 ?_
      refine P1.astoreN X162.here hx #[.val (.int p0), .val (.int (p0 &&& (3 : Int32))), .val (.ref b147), .val (.ref oen), .unset] (hb hby at_105) rfl rfl ?_
      refine P1.goto X162.here hx 213 (hb hby at_106) (by decide) (by decide) ?_
      obtain ⟨T171, h171, X171, e171, E171, A171, D171, -, st171⟩ := newO X162 hx hZ hown (own_w hw 4 rfl) (own_w hw 5 rfl) (own_w hw 6 rfl) e162 (g := (mkF m 213 #[.val (.int p0), .val (.int (p0 &&& (3 : Int32))), .val (.ref b147), .val (.ref oen), .unset] [])) rfl (hb hby at_213) (ok rfl) (ok rfl)
      have Z172 : n0 ≤ h147.size := Nat.le_trans Z0 E147.1
      have Z173 : n0 ≤ h149.size := Nat.le_trans Z172 (Keep.of_wr W149).1
      have Z174 : n0 ≤ h151.size := Nat.le_trans Z173 (Keep.of_wr W151).1
      have Z175 : n0 ≤ h153.size := Nat.le_trans Z174 (Keep.of_wr W153).1
      have Z176 : n0 ≤ h155.size := Nat.le_trans Z175 (Keep.of_wr W155).1
      have Z177 : n0 ≤ h157.size := Nat.le_trans Z176 (Keep.of_wr W157).1
      have Z178 : n0 ≤ h159.size := Nat.le_trans Z177 (Keep.of_wr W159).1
      have Z179 : n0 ≤ h161.size := Nat.le_trans Z178 (Keep.of_wr W161).1
      have K180 : Keep h0 h147 [] := K0.ext E147
      have K181 : Keep h0 h149 [] := K180.wr W149 (Or.inr sz_b147)
      have K182 : Keep h0 h151 [] := K181.wr W151 (Or.inr sz_b147)
      have K183 : Keep h0 h153 [] := K182.wr W153 (Or.inr sz_b147)
      have K184 : Keep h0 h155 [] := K183.wr W155 (Or.inr sz_b147)
      have K185 : Keep h0 h157 [] := K184.wr W157 (Or.inr sz_b147)
      have K186 : Keep h0 h159 [] := K185.wr W159 (Or.inr sz_b147)
      have K187 : Keep h0 h161 [] := K186.wr W161 (Or.inr sz_b147)
      obtain ⟨b171, g171⟩ : ∃ z, z = h161.size := ⟨_, rfl⟩
      rw [← g171] at A171 D171 st171
      have ge_b171 : n0 ≤ b171 := Nat.le_trans Z179 (Nat.le_of_eq g171.symm)
      have sz_b171 : h0.size ≤ b171 := Nat.le_trans K187.1 (Nat.le_of_eq g171.symm)
      have F171_coder : Fld Z h171 b171 "java/lang/String" "coder" "B" (.int (0 : Int32)) := D171 (Or.inr (own_w hw 30 rfl)) (ty := .byte) (by decide)
      have F171_value : Fld Z h171 b171 "java/lang/String" "value" "[B" .null := D171 (Or.inr (own_w hw 32 rfl)) (ty := (.array .byte)) (by decide)
      refine Goes.step (T' := T171) (g' := (mkF m 216 #[.val (.int p0), .val (.int (p0 &&& (3 : Int32))), .val (.ref b147), .val (.ref oen), .unset] [(.ref b171)])) st171 ?_
      refine P1.dup X171.here hx (hb hby at_216) rfl ?_
      refine P1.aloadN X171.here hx (hb hby at_217) rfl rfl ?_
      have V188 : Arv Z h171 b147 k147 .char (7 : Int32) [(.int (69 : Int32)), (.int (110 : Int32)), (.int (97 : Int32)), (.int (98 : Int32)), (.int (108 : Int32)), (.int (101 : Int32)), (.int (100 : Int32))] (.int (0 : Int32)) := V161.ext E171
      have Z189 : n0 ≤ h171.size := Nat.le_trans Z179 E171.1
      have hp190 : ∀ c ∈ ([(69 : Int32), (110 : Int32), (97 : Int32), (98 : Int32), (108 : Int32), (101 : Int32), (100 : Int32)] : List Int32), ¬ c < 0 ∧ ¬ (255 : Int32) < c := by decide
      have O191 : Old Z n0 h171 := O170.ext E171
      refine Goes.callC X171 hx (y := y2_) rfl hown (mvT hZ (own_w hw 7 rfl)) (mvT hZ (own_w hw 8 rfl)) (mvT hZ (own_w hw 9 rfl)) (by decide) (kc' := 1) (ks' := 7) (StrChars.Road.backV (W := 1) hZ (fun d hd => hw d (in_words d hd)) (kI := 4) (own_w hw 5 rfl) (cs := ([(69 : Int32), (110 : Int32), (97 : Int32), (98 : Int32), (108 : Int32), (101 : Int32), (100 : Int32)] : List Int32)) (bs := ([(69 : Int32), (110 : Int32), (97 : Int32), (98 : Int32), (108 : Int32), (101 : Int32), (100 : Int32)] : List Int32).map (fun c => c.toInt8.toInt32)) (n := 7) ge_b171 Z189 A171 F171_value F171_coder V188 (S_CS.ext O191.2) hzc rfl rfl (by decide) (by decide) hp190 rfl (ok rfl) (ok rfl)) (g := (mkF m 218 #[.val (.int p0), .val (.int (p0 &&& (3 : Int32))), .val (.ref b147), .val (.ref oen), .unset] [(.ref b147), (.ref b171), (.ref b171)])) (a := b171) rfl (by rw [hml]; rfl) (argsL := [(.ref b147)]) (rest := [(.ref b171)]) (lenOf pd_1017 rfl) rfl (by show 2 * 0 + _ ≤ _; exact Nat.le_of_eq rfl) (hb hby at_218) rfl e171 (ok rfl) (ok rfl) ?_
      intro v192 T192 L192 q192 X192
      obtain ⟨rfl, N192q, K192, g192E, g192C, t192, kb192, ge_t192, szt192, net192, g192V, g192K⟩ := q192
      have K193 : Keep h0 h171 [] := K187.ext E171
      have N192 := Fr.app N161 N192q
      have sz_t192 : h0.size ≤ t192 := Nat.le_trans K193.1 szt192
      show Goes p e below _ T192 (mkF m 221 #[.val (.int p0), .val (.int (p0 &&& (3 : Int32))), .val (.ref b147), .val (.ref oen), .unset] [(.ref b171)])
      have Z194 : n0 ≤ T192.heap.size := Nat.le_trans Z189 K192.1
      have O195 : Old Z n0 T192.heap := O191.keep K192 (allS ge_b171 all0)
      refine Goes.callS X192 hx (y := y0_) hown (mvT hZ (own_w hw 33 rfl)) (mvT hZ (own_w hw 34 rfl)) (mvT hZ (own_w hw 2 rfl)) (mvT hZ (own_w hw 35 rfl)) (by decide) (kc' := 1) (ks' := 4) (backOf (W := 0) (rmOfen l Z a0 hw [] ocr va oen odi ore scr tcr sen ten sdi tdi sre tre k_va k_tcr k_ten k_tdi k_tre zc fm b171 t192 kb192 T192.heap n0 Z194 O195 S_CREATED E_ocr S__VALUES E_va S_ENABLED E_oen S_DISABLED E_odi S_REVOKED E_ore F_ocr_name E_scr F_scr_coder F_scr_value F_oen_name E_sen F_sen_coder F_sen_value F_odi_name E_sdi F_sdi_coder F_sdi_value F_ore_name E_sre F_sre_coder F_sre_value V_va V_tcr V_ten V_tdi V_tre S_CS hzc S_FM hfm g192E g192V g192C g192K) hZ (own_w hw 35 rfl) (own_w hw 2 rfl) (ok rfl) (ok rfl)) (g := (mkF m 221 #[.val (.int p0), .val (.int (p0 &&& (3 : Int32))), .val (.ref b147), .val (.ref oen), .unset] [(.ref b171)])) rfl (by rw [hml]; rfl) (argsL := [(.ref b171)]) (rest := []) (lenOf pd_346582 rfl) rfl (by show 2 * 0 + _ ≤ _; exact Nat.le_of_eq rfl) (hb hby at_221) rfl rfl (ok rfl) (ok rfl) ?_
      intro v196 T196 L196 q196 X196
      obtain ⟨rfl, N196q, K196⟩ := q196
      have N196 := Fr.app N192 N196q
      show Goes p e below _ T196 (mkF m 224 #[.val (.int p0), .val (.int (p0 &&& (3 : Int32))), .val (.ref b147), .val (.ref oen), .unset] [(.ref oen)])
      refine P1.astore X196.here hx #[.val (.int p0), .val (.int (p0 &&& (3 : Int32))), .val (.ref b147), .val (.ref oen), .val (.ref oen)] (hb hby at_224) rfl rfl ?_
      refine P1.aload X196.here hx (hb hby at_226) rfl rfl ?_
      refine P1.aloadN X196.here hx (hb hby at_228) rfl rfl ?_
      refine Goes.step (T' := T196) (g' := (mkF m 232 #[.val (.int p0), .val (.int (p0 &&& (3 : Int32))), .val (.ref b147), .val (.ref oen), .val (.ref oen)] [])) (fun t k => Jvm.RoadKit.acmp (g := (mkF m 229 #[.val (.int p0), .val (.int (p0 &&& (3 : Int32))), .val (.ref b147), .val (.ref oen), .val (.ref oen)] [(.ref oen), (.ref oen)])) X196 hx rfl rfl rfl (pc0 := 229) (pc' := 232) (same := true) rfl (hb hby at_229) rfl (decide_eq_true rfl) (by decide) (by decide) k) ?_
      refine P1.iconst X196.here hx (1 : Int32) (hb hby at_232) rfl ?_
      refine P1.goto X196.here hx 237 (hb hby at_233) (by decide) (by decide) ?_
      refine Goes.retN X196 hx Bd.notSynchronized (t := .boolean) Bd.returns (by simp) (hb hby at_237) (ok rfl) (ok rfl) ?_
      exact ⟨rfl, N196⟩
    ·
      refine Goes.step (T' := s₁) (g' := (mkF m 109 #[.val (.int p0), .val (.int (p0 &&& (3 : Int32))), .unset, .unset, .unset] [])) (fun t k => XS.icmpYes X0.here hx rfl (pc0 := 58) (pc' := 109) rfl (hb hby at_58) rfl (feq (hb1 : ¬ ((p0 &&& (3 : Int32)) = (1 : Int32)))).2 (by decide) (by decide) k) ?_
      refine P1.iloadN X0.here hx (hb hby at_109) rfl ?_
      refine P1.iconst X0.here hx (2 : Int32) (hb hby at_110) rfl ?_
      by_cases hb2 : (p0 &&& (3 : Int32)) = (2 : Int32)
      ·
        refine Goes.step (T' := s₁) (g' := (mkF m 114 #[.val (.int p0), .val (.int (p0 &&& (3 : Int32))), .unset, .unset, .unset] [])) (fun t k => XS.icmpNo X0.here hx rfl (hb hby at_111) rfl (teq (hb2 : (p0 &&& (3 : Int32)) = (2 : Int32))).2 k) ?_
        refine P1.bipush X0.here hx (8 : Int32) (hb hby at_114) rfl ?_
        obtain ⟨T197, h197, k197, X197, e197, E197, A197, st197⟩ := newP X0 hx hZ (own_w hw 0 rfl) e0 (g := (mkF m 116 #[.val (.int p0), .val (.int (p0 &&& (3 : Int32))), .unset, .unset, .unset] [(.int (8 : Int32))])) rfl (hb hby at_116) rfl (by decide) (cap := 8) (ok rfl) (ok rfl) (ok rfl) (ok rfl)
        obtain ⟨b197, g197⟩ : ∃ z, z = h0.size := ⟨_, rfl⟩
        rw [← g197] at A197 st197
        have ge_b197 : n0 ≤ b197 := Nat.le_trans Z0 (Nat.le_of_eq g197.symm)
        have sz_b197 : h0.size ≤ b197 := Nat.le_trans K0.1 (Nat.le_of_eq g197.symm)
        have V197 : Arv Z h197 b197 k197 .char (8 : Int32) [(.int (0 : Int32)), (.int (0 : Int32)), (.int (0 : Int32)), (.int (0 : Int32)), (.int (0 : Int32)), (.int (0 : Int32)), (.int (0 : Int32)), (.int (0 : Int32))] (.int (0 : Int32)) := (Arv.new A197 (by decide)).pad (pad_rep [] (.int (0 : Int32)) 8)
        refine Goes.step (T' := T197) (g' := (mkF m 118 #[.val (.int p0), .val (.int (p0 &&& (3 : Int32))), .unset, .unset, .unset] [(.ref b197)])) st197 ?_
        refine P1.dup X197.here hx (hb hby at_118) rfl ?_
        refine P1.iconst X197.here hx (0 : Int32) (hb hby at_119) rfl ?_
        refine P1.bipush X197.here hx (68 : Int32) (hb hby at_120) rfl ?_
        obtain ⟨cl198, Ar198, qk198, sl198, nz198, ha198, fi198⟩ := id V197
        obtain ⟨T199, h199, X199, e199, W199, st199⟩ := stC X197 hx hZ e197 Ar198 (j := (0 : Int32)) (inb_of sl198 ⟨by decide, by decide⟩) (g := (mkF m 122 #[.val (.int p0), .val (.int (p0 &&& (3 : Int32))), .unset, .unset, .unset] [(.int (68 : Int32)), (.int (0 : Int32)), (.ref b197), (.ref b197)])) rfl rfl (hb hby at_122)
        have V199 : Arv Z h199 b197 k197 .char (8 : Int32) [(.int (68 : Int32)), (.int (0 : Int32)), (.int (0 : Int32)), (.int (0 : Int32)), (.int (0 : Int32)), (.int (0 : Int32)), (.int (0 : Int32)), (.int (0 : Int32))] (.int (0 : Int32)) := Arv.set Ar198 qk198 sl198 nz198 ha198 fi198 (fits_nar_char _) W199 0 rfl (ok rfl)
        have N199 := Fr.snoc X199 N0 ge_b197
        refine Goes.step (T' := T199) (g' := (mkF m 123 #[.val (.int p0), .val (.int (p0 &&& (3 : Int32))), .unset, .unset, .unset] [(.ref b197)])) st199 ?_
        refine P1.dup X199.here hx (hb hby at_123) rfl ?_
        refine P1.iconst X199.here hx (1 : Int32) (hb hby at_124) rfl ?_
        refine P1.bipush X199.here hx (105 : Int32) (hb hby at_125) rfl ?_
        obtain ⟨cl200, Ar200, qk200, sl200, nz200, ha200, fi200⟩ := id V199
        obtain ⟨T201, h201, X201, e201, W201, st201⟩ := stC X199 hx hZ e199 Ar200 (j := (1 : Int32)) (inb_of sl200 ⟨by decide, by decide⟩) (g := (mkF m 127 #[.val (.int p0), .val (.int (p0 &&& (3 : Int32))), .unset, .unset, .unset] [(.int (105 : Int32)), (.int (1 : Int32)), (.ref b197), (.ref b197)])) rfl rfl (hb hby at_127)
        have V201 : Arv Z h201 b197 k197 .char (8 : Int32) [(.int (68 : Int32)), (.int (105 : Int32)), (.int (0 : Int32)), (.int (0 : Int32)), (.int (0 : Int32)), (.int (0 : Int32)), (.int (0 : Int32)), (.int (0 : Int32))] (.int (0 : Int32)) := Arv.set Ar200 qk200 sl200 nz200 ha200 fi200 (fits_nar_char _) W201 1 rfl (ok rfl)
        have N201 := Fr.snoc X201 N199 ge_b197
        refine Goes.step (T' := T201) (g' := (mkF m 128 #[.val (.int p0), .val (.int (p0 &&& (3 : Int32))), .unset, .unset, .unset] [(.ref b197)])) st201 ?_
        refine P1.dup X201.here hx (hb hby at_128) rfl ?_
        refine P1.iconst X201.here hx (2 : Int32) (hb hby at_129) rfl ?_
        refine P1.bipush X201.here hx (115 : Int32) (hb hby at_130) rfl ?_
        obtain ⟨cl202, Ar202, qk202, sl202, nz202, ha202, fi202⟩ := id V201
        obtain ⟨T203, h203, X203, e203, W203, st203⟩ := stC X201 hx hZ e201 Ar202 (j := (2 : Int32)) (inb_of sl202 ⟨by decide, by decide⟩) (g := (mkF m 132 #[.val (.int p0), .val (.int (p0 &&& (3 : Int32))), .unset, .unset, .unset] [(.int (115 : Int32)), (.int (2 : Int32)), (.ref b197), (.ref b197)])) rfl rfl (hb hby at_132)
        have V203 : Arv Z h203 b197 k197 .char (8 : Int32) [(.int (68 : Int32)), (.int (105 : Int32)), (.int (115 : Int32)), (.int (0 : Int32)), (.int (0 : Int32)), (.int (0 : Int32)), (.int (0 : Int32)), (.int (0 : Int32))] (.int (0 : Int32)) := Arv.set Ar202 qk202 sl202 nz202 ha202 fi202 (fits_nar_char _) W203 2 rfl (ok rfl)
        have N203 := Fr.snoc X203 N201 ge_b197
        refine Goes.step (T' := T203) (g' := (mkF m 133 #[.val (.int p0), .val (.int (p0 &&& (3 : Int32))), .unset, .unset, .unset] [(.ref b197)])) st203 ?_
        refine P1.dup X203.here hx (hb hby at_133) rfl ?_
        refine P1.iconst X203.here hx (3 : Int32) (hb hby at_134) rfl ?_
        refine P1.bipush X203.here hx (97 : Int32) (hb hby at_135) rfl ?_
        obtain ⟨cl204, Ar204, qk204, sl204, nz204, ha204, fi204⟩ := id V203
        obtain ⟨T205, h205, X205, e205, W205, st205⟩ := stC X203 hx hZ e203 Ar204 (j := (3 : Int32)) (inb_of sl204 ⟨by decide, by decide⟩) (g := (mkF m 137 #[.val (.int p0), .val (.int (p0 &&& (3 : Int32))), .unset, .unset, .unset] [(.int (97 : Int32)), (.int (3 : Int32)), (.ref b197), (.ref b197)])) rfl rfl (hb hby at_137)
        have V205 : Arv Z h205 b197 k197 .char (8 : Int32) [(.int (68 : Int32)), (.int (105 : Int32)), (.int (115 : Int32)), (.int (97 : Int32)), (.int (0 : Int32)), (.int (0 : Int32)), (.int (0 : Int32)), (.int (0 : Int32))] (.int (0 : Int32)) := Arv.set Ar204 qk204 sl204 nz204 ha204 fi204 (fits_nar_char _) W205 3 rfl (ok rfl)
        have N205 := Fr.snoc X205 N203 ge_b197
        refine Goes.step (T' := T205) (g' := (mkF m 138 #[.val (.int p0), .val (.int (p0 &&& (3 : Int32))), .unset, .unset, .unset] [(.ref b197)])) st205 ?_
        refine P1.dup X205.here hx (hb hby at_138) rfl ?_
        refine P1.iconst X205.here hx (4 : Int32) (hb hby at_139) rfl ?_
        refine P1.bipush X205.here hx (98 : Int32) (hb hby at_140) rfl ?_
        obtain ⟨cl206, Ar206, qk206, sl206, nz206, ha206, fi206⟩ := id V205
        obtain ⟨T207, h207, X207, e207, W207, st207⟩ := stC X205 hx hZ e205 Ar206 (j := (4 : Int32)) (inb_of sl206 ⟨by decide, by decide⟩) (g := (mkF m 142 #[.val (.int p0), .val (.int (p0 &&& (3 : Int32))), .unset, .unset, .unset] [(.int (98 : Int32)), (.int (4 : Int32)), (.ref b197), (.ref b197)])) rfl rfl (hb hby at_142)
        have V207 : Arv Z h207 b197 k197 .char (8 : Int32) [(.int (68 : Int32)), (.int (105 : Int32)), (.int (115 : Int32)), (.int (97 : Int32)), (.int (98 : Int32)), (.int (0 : Int32)), (.int (0 : Int32)), (.int (0 : Int32))] (.int (0 : Int32)) := Arv.set Ar206 qk206 sl206 nz206 ha206 fi206 (fits_nar_char _) W207 4 rfl (ok rfl)
        have N207 := Fr.snoc X207 N205 ge_b197
        refine Goes.step (T' := T207) (g' := (mkF m 143 #[.val (.int p0), .val (.int (p0 &&& (3 : Int32))), .unset, .unset, .unset] [(.ref b197)])) st207 ?_
        refine P1.dup X207.here hx (hb hby at_143) rfl ?_
        refine P1.iconst X207.here hx (5 : Int32) (hb hby at_144) rfl ?_
        refine P1.bipush X207.here hx (108 : Int32) (hb hby at_145) rfl ?_
        obtain ⟨cl208, Ar208, qk208, sl208, nz208, ha208, fi208⟩ := id V207
        obtain ⟨T209, h209, X209, e209, W209, st209⟩ := stC X207 hx hZ e207 Ar208 (j := (5 : Int32)) (inb_of sl208 ⟨by decide, by decide⟩) (g := (mkF m 147 #[.val (.int p0), .val (.int (p0 &&& (3 : Int32))), .unset, .unset, .unset] [(.int (108 : Int32)), (.int (5 : Int32)), (.ref b197), (.ref b197)])) rfl rfl (hb hby at_147)
        have V209 : Arv Z h209 b197 k197 .char (8 : Int32) [(.int (68 : Int32)), (.int (105 : Int32)), (.int (115 : Int32)), (.int (97 : Int32)), (.int (98 : Int32)), (.int (108 : Int32)), (.int (0 : Int32)), (.int (0 : Int32))] (.int (0 : Int32)) := Arv.set Ar208 qk208 sl208 nz208 ha208 fi208 (fits_nar_char _) W209 5 rfl (ok rfl)
        have N209 := Fr.snoc X209 N207 ge_b197
        refine Goes.step (T' := T209) (g' := (mkF m 148 #[.val (.int p0), .val (.int (p0 &&& (3 : Int32))), .unset, .unset, .unset] [(.ref b197)])) st209 ?_
        refine P1.dup X209.here hx (hb hby at_148) rfl ?_
        refine P1.bipush X209.here hx (6 : Int32) (hb hby at_149) rfl ?_
        refine P1.bipush X209.here hx (101 : Int32) (hb hby at_151) rfl ?_
        obtain ⟨cl210, Ar210, qk210, sl210, nz210, ha210, fi210⟩ := id V209
        obtain ⟨T211, h211, X211, e211, W211, st211⟩ := stC X209 hx hZ e209 Ar210 (j := (6 : Int32)) (inb_of sl210 ⟨by decide, by decide⟩) (g := (mkF m 153 #[.val (.int p0), .val (.int (p0 &&& (3 : Int32))), .unset, .unset, .unset] [(.int (101 : Int32)), (.int (6 : Int32)), (.ref b197), (.ref b197)])) rfl rfl (hb hby at_153)
        have V211 : Arv Z h211 b197 k197 .char (8 : Int32) [(.int (68 : Int32)), (.int (105 : Int32)), (.int (115 : Int32)), (.int (97 : Int32)), (.int (98 : Int32)), (.int (108 : Int32)), (.int (101 : Int32)), (.int (0 : Int32))] (.int (0 : Int32)) := Arv.set Ar210 qk210 sl210 nz210 ha210 fi210 (fits_nar_char _) W211 6 rfl (ok rfl)
        have N211 := Fr.snoc X211 N209 ge_b197
        refine Goes.step (T' := T211) (g' := (mkF m 154 #[.val (.int p0), .val (.int (p0 &&& (3 : Int32))), .unset, .unset, .unset] [(.ref b197)])) st211 ?_
        refine P1.dup X211.here hx (hb hby at_154) rfl ?_
        refine P1.bipush X211.here hx (7 : Int32) (hb hby at_155) rfl ?_
        refine P1.bipush X211.here hx (100 : Int32) (hb hby at_157) rfl ?_
        obtain ⟨cl212, Ar212, qk212, sl212, nz212, ha212, fi212⟩ := id V211
        obtain ⟨T213, h213, X213, e213, W213, st213⟩ := stC X211 hx hZ e211 Ar212 (j := (7 : Int32)) (inb_of sl212 ⟨by decide, by decide⟩) (g := (mkF m 159 #[.val (.int p0), .val (.int (p0 &&& (3 : Int32))), .unset, .unset, .unset] [(.int (100 : Int32)), (.int (7 : Int32)), (.ref b197), (.ref b197)])) rfl rfl (hb hby at_159)
        have V213 : Arv Z h213 b197 k197 .char (8 : Int32) [(.int (68 : Int32)), (.int (105 : Int32)), (.int (115 : Int32)), (.int (97 : Int32)), (.int (98 : Int32)), (.int (108 : Int32)), (.int (101 : Int32)), (.int (100 : Int32))] (.int (0 : Int32)) := Arv.set Ar212 qk212 sl212 nz212 ha212 fi212 (fits_nar_char _) W213 7 rfl (ok rfl)
        have N213 := Fr.snoc X213 N211 ge_b197
        refine Goes.step (T' := T213) (g' := (mkF m 160 #[.val (.int p0), .val (.int (p0 &&& (3 : Int32))), .unset, .unset, .unset] [(.ref b197)])) st213 ?_
        refine P1.astoreN X213.here hx #[.val (.int p0), .val (.int (p0 &&& (3 : Int32))), .val (.ref b197), .unset, .unset] (hb hby at_160) rfl rfl ?_
        have O215 : Old Z n0 h197 := O0.ext E197
        have O216 : Old Z n0 h199 := O215.wr W199 ge_b197
        have O217 : Old Z n0 h201 := O216.wr W201 ge_b197
        have O218 : Old Z n0 h203 := O217.wr W203 ge_b197
        have O219 : Old Z n0 h205 := O218.wr W205 ge_b197
        have O220 : Old Z n0 h207 := O219.wr W207 ge_b197
        have O221 : Old Z n0 h209 := O220.wr W209 ge_b197
        have O222 : Old Z n0 h211 := O221.wr W211 ge_b197
        have O223 : Old Z n0 h213 := O222.wr W213 ge_b197
        obtain ⟨T214, X214, e214, st214⟩ := getS2 X213 hx hZ hown (host := "") (Or.inl (own_w hw 67 rfl)) Via.refl e213 (S_DISABLED.ext O223.2) (g := (mkF m 161 #[.val (.int p0), .val (.int (p0 &&& (3 : Int32))), .val (.ref b197), .unset, .unset] [])) rfl (hb hby at_161)
        refine Goes.step (T' := T214) (g' := (mkF m 164 #[.val (.int p0), .val (.int (p0 &&& (3 : Int32))), .val (.ref b197), .unset, .unset] [(.ref odi)])) st214 ?_
        refine P1.astoreN X214.here hx #[.val (.int p0), .val (.int (p0 &&& (3 : Int32))), .val (.ref b197), .val (.ref odi), .unset] (hb hby at_164) rfl rfl ?_
        refine P1.goto X214.here hx 213 (hb hby at_165) (by decide) (by decide) ?_
        obtain ⟨T224, h224, X224, e224, E224, A224, D224, -, st224⟩ := newO X214 hx hZ hown (own_w hw 4 rfl) (own_w hw 5 rfl) (own_w hw 6 rfl) e214 (g := (mkF m 213 #[.val (.int p0), .val (.int (p0 &&& (3 : Int32))), .val (.ref b197), .val (.ref odi), .unset] [])) rfl (hb hby at_213) (ok rfl) (ok rfl)
        have Z225 : n0 ≤ h197.size := Nat.le_trans Z0 E197.1
        have Z226 : n0 ≤ h199.size := Nat.le_trans Z225 (Keep.of_wr W199).1
        have Z227 : n0 ≤ h201.size := Nat.le_trans Z226 (Keep.of_wr W201).1
        have Z228 : n0 ≤ h203.size := Nat.le_trans Z227 (Keep.of_wr W203).1
        have Z229 : n0 ≤ h205.size := Nat.le_trans Z228 (Keep.of_wr W205).1
        have Z230 : n0 ≤ h207.size := Nat.le_trans Z229 (Keep.of_wr W207).1
        have Z231 : n0 ≤ h209.size := Nat.le_trans Z230 (Keep.of_wr W209).1
        have Z232 : n0 ≤ h211.size := Nat.le_trans Z231 (Keep.of_wr W211).1
        have Z233 : n0 ≤ h213.size := Nat.le_trans Z232 (Keep.of_wr W213).1
        have K234 : Keep h0 h197 [] := K0.ext E197
        have K235 : Keep h0 h199 [] := K234.wr W199 (Or.inr sz_b197)
        have K236 : Keep h0 h201 [] := K235.wr W201 (Or.inr sz_b197)
        have K237 : Keep h0 h203 [] := K236.wr W203 (Or.inr sz_b197)
        have K238 : Keep h0 h205 [] := K237.wr W205 (Or.inr sz_b197)
        have K239 : Keep h0 h207 [] := K238.wr W207 (Or.inr sz_b197)
        have K240 : Keep h0 h209 [] := K239.wr W209 (Or.inr sz_b197)
        have K241 : Keep h0 h211 [] := K240.wr W211 (Or.inr sz_b197)
        have K242 : Keep h0 h213 [] := K241.wr W213 (Or.inr sz_b197)
        obtain ⟨b224, g224⟩ : ∃ z, z = h213.size := ⟨_, rfl⟩
        rw [← g224] at A224 D224 st224
        have ge_b224 : n0 ≤ b224 := Nat.le_trans Z233 (Nat.le_of_eq g224.symm)
        have sz_b224 : h0.size ≤ b224 := Nat.le_trans K242.1 (Nat.le_of_eq g224.symm)
        have F224_coder : Fld Z h224 b224 "java/lang/String" "coder" "B" (.int (0 : Int32)) := D224 (Or.inr (own_w hw 30 rfl)) (ty := .byte) (by decide)
        have F224_value : Fld Z h224 b224 "java/lang/String" "value" "[B" .null := D224 (Or.inr (own_w hw 32 rfl)) (ty := (.array .byte)) (by decide)
        refine Goes.step (T' := T224) (g' := (mkF m 216 #[.val (.int p0), .val (.int (p0 &&& (3 : Int32))), .val (.ref b197), .val (.ref odi), .unset] [(.ref b224)])) st224 ?_
        refine P1.dup X224.here hx (hb hby at_216) rfl ?_
        refine P1.aloadN X224.here hx (hb hby at_217) rfl rfl ?_
        have V243 : Arv Z h224 b197 k197 .char (8 : Int32) [(.int (68 : Int32)), (.int (105 : Int32)), (.int (115 : Int32)), (.int (97 : Int32)), (.int (98 : Int32)), (.int (108 : Int32)), (.int (101 : Int32)), (.int (100 : Int32))] (.int (0 : Int32)) := V213.ext E224
        have Z244 : n0 ≤ h224.size := Nat.le_trans Z233 E224.1
        have hp245 : ∀ c ∈ ([(68 : Int32), (105 : Int32), (115 : Int32), (97 : Int32), (98 : Int32), (108 : Int32), (101 : Int32), (100 : Int32)] : List Int32), ¬ c < 0 ∧ ¬ (255 : Int32) < c := by decide
        have O246 : Old Z n0 h224 := O223.ext E224
        refine Goes.callC X224 hx (y := y2_) rfl hown (mvT hZ (own_w hw 7 rfl)) (mvT hZ (own_w hw 8 rfl)) (mvT hZ (own_w hw 9 rfl)) (by decide) (kc' := 1) (ks' := 8) (StrChars.Road.backV (W := 1) hZ (fun d hd => hw d (in_words d hd)) (kI := 4) (own_w hw 5 rfl) (cs := ([(68 : Int32), (105 : Int32), (115 : Int32), (97 : Int32), (98 : Int32), (108 : Int32), (101 : Int32), (100 : Int32)] : List Int32)) (bs := ([(68 : Int32), (105 : Int32), (115 : Int32), (97 : Int32), (98 : Int32), (108 : Int32), (101 : Int32), (100 : Int32)] : List Int32).map (fun c => c.toInt8.toInt32)) (n := 8) ge_b224 Z244 A224 F224_value F224_coder V243 (S_CS.ext O246.2) hzc rfl rfl (by decide) (by decide) hp245 rfl (ok rfl) (ok rfl)) (g := (mkF m 218 #[.val (.int p0), .val (.int (p0 &&& (3 : Int32))), .val (.ref b197), .val (.ref odi), .unset] [(.ref b197), (.ref b224), (.ref b224)])) (a := b224) rfl (by rw [hml]; rfl) (argsL := [(.ref b197)]) (rest := [(.ref b224)]) (lenOf pd_1017 rfl) rfl (by show 2 * 0 + _ ≤ _; exact Nat.le_of_eq rfl) (hb hby at_218) rfl e224 (ok rfl) (ok rfl) ?_
        intro v247 T247 L247 q247 X247
        obtain ⟨rfl, N247q, K247, g247E, g247C, t247, kb247, ge_t247, szt247, net247, g247V, g247K⟩ := q247
        have K248 : Keep h0 h224 [] := K242.ext E224
        have N247 := Fr.app N213 N247q
        have sz_t247 : h0.size ≤ t247 := Nat.le_trans K248.1 szt247
        show Goes p e below _ T247 (mkF m 221 #[.val (.int p0), .val (.int (p0 &&& (3 : Int32))), .val (.ref b197), .val (.ref odi), .unset] [(.ref b224)])
        have Z249 : n0 ≤ T247.heap.size := Nat.le_trans Z244 K247.1
        have O250 : Old Z n0 T247.heap := O246.keep K247 (allS ge_b224 all0)
        refine Goes.callS X247 hx (y := y0_) hown (mvT hZ (own_w hw 33 rfl)) (mvT hZ (own_w hw 34 rfl)) (mvT hZ (own_w hw 2 rfl)) (mvT hZ (own_w hw 35 rfl)) (by decide) (kc' := 1) (ks' := 4) (backOf (W := 0) (rmOfdi l Z a0 hw [] ocr va oen odi ore scr tcr sen ten sdi tdi sre tre k_va k_tcr k_ten k_tdi k_tre zc fm b224 t247 kb247 T247.heap n0 Z249 O250 S_CREATED E_ocr S__VALUES E_va S_ENABLED E_oen S_DISABLED E_odi S_REVOKED E_ore F_ocr_name E_scr F_scr_coder F_scr_value F_oen_name E_sen F_sen_coder F_sen_value F_odi_name E_sdi F_sdi_coder F_sdi_value F_ore_name E_sre F_sre_coder F_sre_value V_va V_tcr V_ten V_tdi V_tre S_CS hzc S_FM hfm g247E g247V g247C g247K) hZ (own_w hw 35 rfl) (own_w hw 2 rfl) (ok rfl) (ok rfl)) (g := (mkF m 221 #[.val (.int p0), .val (.int (p0 &&& (3 : Int32))), .val (.ref b197), .val (.ref odi), .unset] [(.ref b224)])) rfl (by rw [hml]; rfl) (argsL := [(.ref b224)]) (rest := []) (lenOf pd_346582 rfl) rfl (by show 2 * 0 + _ ≤ _; exact Nat.le_of_eq rfl) (hb hby at_221) rfl rfl (ok rfl) (ok rfl) ?_
        intro v251 T251 L251 q251 X251
        obtain ⟨rfl, N251q, K251⟩ := q251
        have N251 := Fr.app N247 N251q
        show Goes p e below _ T251 (mkF m 224 #[.val (.int p0), .val (.int (p0 &&& (3 : Int32))), .val (.ref b197), .val (.ref odi), .unset] [(.ref odi)])
        refine P1.astore X251.here hx #[.val (.int p0), .val (.int (p0 &&& (3 : Int32))), .val (.ref b197), .val (.ref odi), .val (.ref odi)] (hb hby at_224) rfl rfl ?_
        refine P1.aload X251.here hx (hb hby at_226) rfl rfl ?_
        refine P1.aloadN X251.here hx (hb hby at_228) rfl rfl ?_
        refine Goes.step (T' := T251) (g' := (mkF m 232 #[.val (.int p0), .val (.int (p0 &&& (3 : Int32))), .val (.ref b197), .val (.ref odi), .val (.ref odi)] [])) (fun t k => Jvm.RoadKit.acmp (g := (mkF m 229 #[.val (.int p0), .val (.int (p0 &&& (3 : Int32))), .val (.ref b197), .val (.ref odi), .val (.ref odi)] [(.ref odi), (.ref odi)])) X251 hx rfl rfl rfl (pc0 := 229) (pc' := 232) (same := true) rfl (hb hby at_229) rfl (decide_eq_true rfl) (by decide) (by decide) k) ?_
        refine P1.iconst X251.here hx (1 : Int32) (hb hby at_232) rfl ?_
        refine P1.goto X251.here hx 237 (hb hby at_233) (by decide) (by decide) ?_
        refine Goes.retN X251 hx Bd.notSynchronized (t := .boolean) Bd.returns (by simp) (hb hby at_237) (ok rfl) (ok rfl) ?_
        exact ⟨rfl, N251⟩
      ·
        refine Goes.step (T' := s₁) (g' := (mkF m 168 #[.val (.int p0), .val (.int (p0 &&& (3 : Int32))), .unset, .unset, .unset] [])) (fun t k => XS.icmpYes X0.here hx rfl (pc0 := 111) (pc' := 168) rfl (hb hby at_111) rfl (feq (hb2 : ¬ ((p0 &&& (3 : Int32)) = (2 : Int32)))).2 (by decide) (by decide) k) ?_
        refine P1.bipush X0.here hx (7 : Int32) (hb hby at_168) rfl ?_
        obtain ⟨T252, h252, k252, X252, e252, E252, A252, st252⟩ := newP X0 hx hZ (own_w hw 0 rfl) e0 (g := (mkF m 170 #[.val (.int p0), .val (.int (p0 &&& (3 : Int32))), .unset, .unset, .unset] [(.int (7 : Int32))])) rfl (hb hby at_170) rfl (by decide) (cap := 7) (ok rfl) (ok rfl) (ok rfl) (ok rfl)
        obtain ⟨b252, g252⟩ : ∃ z, z = h0.size := ⟨_, rfl⟩
        rw [← g252] at A252 st252
        have ge_b252 : n0 ≤ b252 := Nat.le_trans Z0 (Nat.le_of_eq g252.symm)
        have sz_b252 : h0.size ≤ b252 := Nat.le_trans K0.1 (Nat.le_of_eq g252.symm)
        have V252 : Arv Z h252 b252 k252 .char (7 : Int32) [(.int (0 : Int32)), (.int (0 : Int32)), (.int (0 : Int32)), (.int (0 : Int32)), (.int (0 : Int32)), (.int (0 : Int32)), (.int (0 : Int32))] (.int (0 : Int32)) := (Arv.new A252 (by decide)).pad (pad_rep [] (.int (0 : Int32)) 7)
        refine Goes.step (T' := T252) (g' := (mkF m 172 #[.val (.int p0), .val (.int (p0 &&& (3 : Int32))), .unset, .unset, .unset] [(.ref b252)])) st252 ?_
        refine P1.dup X252.here hx (hb hby at_172) rfl ?_
        refine P1.iconst X252.here hx (0 : Int32) (hb hby at_173) rfl ?_
        refine P1.bipush X252.here hx (82 : Int32) (hb hby at_174) rfl ?_
        obtain ⟨cl253, Ar253, qk253, sl253, nz253, ha253, fi253⟩ := id V252
        obtain ⟨T254, h254, X254, e254, W254, st254⟩ := stC X252 hx hZ e252 Ar253 (j := (0 : Int32)) (inb_of sl253 ⟨by decide, by decide⟩) (g := (mkF m 176 #[.val (.int p0), .val (.int (p0 &&& (3 : Int32))), .unset, .unset, .unset] [(.int (82 : Int32)), (.int (0 : Int32)), (.ref b252), (.ref b252)])) rfl rfl (hb hby at_176)
        have V254 : Arv Z h254 b252 k252 .char (7 : Int32) [(.int (82 : Int32)), (.int (0 : Int32)), (.int (0 : Int32)), (.int (0 : Int32)), (.int (0 : Int32)), (.int (0 : Int32)), (.int (0 : Int32))] (.int (0 : Int32)) := Arv.set Ar253 qk253 sl253 nz253 ha253 fi253 (fits_nar_char _) W254 0 rfl (ok rfl)
        have N254 := Fr.snoc X254 N0 ge_b252
        refine Goes.step (T' := T254) (g' := (mkF m 177 #[.val (.int p0), .val (.int (p0 &&& (3 : Int32))), .unset, .unset, .unset] [(.ref b252)])) st254 ?_
        refine P1.dup X254.here hx (hb hby at_177) rfl ?_
        refine P1.iconst X254.here hx (1 : Int32) (hb hby at_178) rfl ?_
        refine P1.bipush X254.here hx (101 : Int32) (hb hby at_179) rfl ?_
        obtain ⟨cl255, Ar255, qk255, sl255, nz255, ha255, fi255⟩ := id V254
        obtain ⟨T256, h256, X256, e256, W256, st256⟩ := stC X254 hx hZ e254 Ar255 (j := (1 : Int32)) (inb_of sl255 ⟨by decide, by decide⟩) (g := (mkF m 181 #[.val (.int p0), .val (.int (p0 &&& (3 : Int32))), .unset, .unset, .unset] [(.int (101 : Int32)), (.int (1 : Int32)), (.ref b252), (.ref b252)])) rfl rfl (hb hby at_181)
        have V256 : Arv Z h256 b252 k252 .char (7 : Int32) [(.int (82 : Int32)), (.int (101 : Int32)), (.int (0 : Int32)), (.int (0 : Int32)), (.int (0 : Int32)), (.int (0 : Int32)), (.int (0 : Int32))] (.int (0 : Int32)) := Arv.set Ar255 qk255 sl255 nz255 ha255 fi255 (fits_nar_char _) W256 1 rfl (ok rfl)
        have N256 := Fr.snoc X256 N254 ge_b252
        refine Goes.step (T' := T256) (g' := (mkF m 182 #[.val (.int p0), .val (.int (p0 &&& (3 : Int32))), .unset, .unset, .unset] [(.ref b252)])) st256 ?_
        refine P1.dup X256.here hx (hb hby at_182) rfl ?_
        refine P1.iconst X256.here hx (2 : Int32) (hb hby at_183) rfl ?_
        refine P1.bipush X256.here hx (118 : Int32) (hb hby at_184) rfl ?_
        obtain ⟨cl257, Ar257, qk257, sl257, nz257, ha257, fi257⟩ := id V256
        obtain ⟨T258, h258, X258, e258, W258, st258⟩ := stC X256 hx hZ e256 Ar257 (j := (2 : Int32)) (inb_of sl257 ⟨by decide, by decide⟩) (g := (mkF m 186 #[.val (.int p0), .val (.int (p0 &&& (3 : Int32))), .unset, .unset, .unset] [(.int (118 : Int32)), (.int (2 : Int32)), (.ref b252), (.ref b252)])) rfl rfl (hb hby at_186)
        have V258 : Arv Z h258 b252 k252 .char (7 : Int32) [(.int (82 : Int32)), (.int (101 : Int32)), (.int (118 : Int32)), (.int (0 : Int32)), (.int (0 : Int32)), (.int (0 : Int32)), (.int (0 : Int32))] (.int (0 : Int32)) := Arv.set Ar257 qk257 sl257 nz257 ha257 fi257 (fits_nar_char _) W258 2 rfl (ok rfl)
        have N258 := Fr.snoc X258 N256 ge_b252
        refine Goes.step (T' := T258) (g' := (mkF m 187 #[.val (.int p0), .val (.int (p0 &&& (3 : Int32))), .unset, .unset, .unset] [(.ref b252)])) st258 ?_
        refine P1.dup X258.here hx (hb hby at_187) rfl ?_
        refine P1.iconst X258.here hx (3 : Int32) (hb hby at_188) rfl ?_
        refine P1.bipush X258.here hx (111 : Int32) (hb hby at_189) rfl ?_
        obtain ⟨cl259, Ar259, qk259, sl259, nz259, ha259, fi259⟩ := id V258
        obtain ⟨T260, h260, X260, e260, W260, st260⟩ := stC X258 hx hZ e258 Ar259 (j := (3 : Int32)) (inb_of sl259 ⟨by decide, by decide⟩) (g := (mkF m 191 #[.val (.int p0), .val (.int (p0 &&& (3 : Int32))), .unset, .unset, .unset] [(.int (111 : Int32)), (.int (3 : Int32)), (.ref b252), (.ref b252)])) rfl rfl (hb hby at_191)
        have V260 : Arv Z h260 b252 k252 .char (7 : Int32) [(.int (82 : Int32)), (.int (101 : Int32)), (.int (118 : Int32)), (.int (111 : Int32)), (.int (0 : Int32)), (.int (0 : Int32)), (.int (0 : Int32))] (.int (0 : Int32)) := Arv.set Ar259 qk259 sl259 nz259 ha259 fi259 (fits_nar_char _) W260 3 rfl (ok rfl)
        have N260 := Fr.snoc X260 N258 ge_b252
        refine Goes.step (T' := T260) (g' := (mkF m 192 #[.val (.int p0), .val (.int (p0 &&& (3 : Int32))), .unset, .unset, .unset] [(.ref b252)])) st260 ?_
        refine P1.dup X260.here hx (hb hby at_192) rfl ?_
        refine P1.iconst X260.here hx (4 : Int32) (hb hby at_193) rfl ?_
        refine P1.bipush X260.here hx (107 : Int32) (hb hby at_194) rfl ?_
        obtain ⟨cl261, Ar261, qk261, sl261, nz261, ha261, fi261⟩ := id V260
        obtain ⟨T262, h262, X262, e262, W262, st262⟩ := stC X260 hx hZ e260 Ar261 (j := (4 : Int32)) (inb_of sl261 ⟨by decide, by decide⟩) (g := (mkF m 196 #[.val (.int p0), .val (.int (p0 &&& (3 : Int32))), .unset, .unset, .unset] [(.int (107 : Int32)), (.int (4 : Int32)), (.ref b252), (.ref b252)])) rfl rfl (hb hby at_196)
        have V262 : Arv Z h262 b252 k252 .char (7 : Int32) [(.int (82 : Int32)), (.int (101 : Int32)), (.int (118 : Int32)), (.int (111 : Int32)), (.int (107 : Int32)), (.int (0 : Int32)), (.int (0 : Int32))] (.int (0 : Int32)) := Arv.set Ar261 qk261 sl261 nz261 ha261 fi261 (fits_nar_char _) W262 4 rfl (ok rfl)
        have N262 := Fr.snoc X262 N260 ge_b252
        refine Goes.step (T' := T262) (g' := (mkF m 197 #[.val (.int p0), .val (.int (p0 &&& (3 : Int32))), .unset, .unset, .unset] [(.ref b252)])) st262 ?_
        refine P1.dup X262.here hx (hb hby at_197) rfl ?_
        refine P1.iconst X262.here hx (5 : Int32) (hb hby at_198) rfl ?_
        refine P1.bipush X262.here hx (101 : Int32) (hb hby at_199) rfl ?_
        obtain ⟨cl263, Ar263, qk263, sl263, nz263, ha263, fi263⟩ := id V262
        obtain ⟨T264, h264, X264, e264, W264, st264⟩ := stC X262 hx hZ e262 Ar263 (j := (5 : Int32)) (inb_of sl263 ⟨by decide, by decide⟩) (g := (mkF m 201 #[.val (.int p0), .val (.int (p0 &&& (3 : Int32))), .unset, .unset, .unset] [(.int (101 : Int32)), (.int (5 : Int32)), (.ref b252), (.ref b252)])) rfl rfl (hb hby at_201)
        have V264 : Arv Z h264 b252 k252 .char (7 : Int32) [(.int (82 : Int32)), (.int (101 : Int32)), (.int (118 : Int32)), (.int (111 : Int32)), (.int (107 : Int32)), (.int (101 : Int32)), (.int (0 : Int32))] (.int (0 : Int32)) := Arv.set Ar263 qk263 sl263 nz263 ha263 fi263 (fits_nar_char _) W264 5 rfl (ok rfl)
        have N264 := Fr.snoc X264 N262 ge_b252
        refine Goes.step (T' := T264) (g' := (mkF m 202 #[.val (.int p0), .val (.int (p0 &&& (3 : Int32))), .unset, .unset, .unset] [(.ref b252)])) st264 ?_
        refine P1.dup X264.here hx (hb hby at_202) rfl ?_
        refine P1.bipush X264.here hx (6 : Int32) (hb hby at_203) rfl ?_
        refine P1.bipush X264.here hx (100 : Int32) (hb hby at_205) rfl ?_
        obtain ⟨cl265, Ar265, qk265, sl265, nz265, ha265, fi265⟩ := id V264
        obtain ⟨T266, h266, X266, e266, W266, st266⟩ := stC X264 hx hZ e264 Ar265 (j := (6 : Int32)) (inb_of sl265 ⟨by decide, by decide⟩) (g := (mkF m 207 #[.val (.int p0), .val (.int (p0 &&& (3 : Int32))), .unset, .unset, .unset] [(.int (100 : Int32)), (.int (6 : Int32)), (.ref b252), (.ref b252)])) rfl rfl (hb hby at_207)
        have V266 : Arv Z h266 b252 k252 .char (7 : Int32) [(.int (82 : Int32)), (.int (101 : Int32)), (.int (118 : Int32)), (.int (111 : Int32)), (.int (107 : Int32)), (.int (101 : Int32)), (.int (100 : Int32))] (.int (0 : Int32)) := Arv.set Ar265 qk265 sl265 nz265 ha265 fi265 (fits_nar_char _) W266 6 rfl (ok rfl)
        have N266 := Fr.snoc X266 N264 ge_b252
        refine Goes.step (T' := T266) (g' := (mkF m 208 #[.val (.int p0), .val (.int (p0 &&& (3 : Int32))), .unset, .unset, .unset] [(.ref b252)])) st266 ?_
        refine P1.astoreN X266.here hx #[.val (.int p0), .val (.int (p0 &&& (3 : Int32))), .val (.ref b252), .unset, .unset] (hb hby at_208) rfl rfl ?_
        have O268 : Old Z n0 h252 := O0.ext E252
        have O269 : Old Z n0 h254 := O268.wr W254 ge_b252
        have O270 : Old Z n0 h256 := O269.wr W256 ge_b252
        have O271 : Old Z n0 h258 := O270.wr W258 ge_b252
        have O272 : Old Z n0 h260 := O271.wr W260 ge_b252
        have O273 : Old Z n0 h262 := O272.wr W262 ge_b252
        have O274 : Old Z n0 h264 := O273.wr W264 ge_b252
        have O275 : Old Z n0 h266 := O274.wr W266 ge_b252
        obtain ⟨T267, X267, e267, st267⟩ := getS2 X266 hx hZ hown (host := "") (Or.inl (own_w hw 66 rfl)) Via.refl e266 (S_REVOKED.ext O275.2) (g := (mkF m 209 #[.val (.int p0), .val (.int (p0 &&& (3 : Int32))), .val (.ref b252), .unset, .unset] [])) rfl (hb hby at_209)
        refine Goes.step (T' := T267) (g' := (mkF m 212 #[.val (.int p0), .val (.int (p0 &&& (3 : Int32))), .val (.ref b252), .unset, .unset] [(.ref ore)])) st267 ?_
        refine P1.astoreN X267.here hx #[.val (.int p0), .val (.int (p0 &&& (3 : Int32))), .val (.ref b252), .val (.ref ore), .unset] (hb hby at_212) rfl rfl ?_
        obtain ⟨T276, h276, X276, e276, E276, A276, D276, -, st276⟩ := newO X267 hx hZ hown (own_w hw 4 rfl) (own_w hw 5 rfl) (own_w hw 6 rfl) e267 (g := (mkF m 213 #[.val (.int p0), .val (.int (p0 &&& (3 : Int32))), .val (.ref b252), .val (.ref ore), .unset] [])) rfl (hb hby at_213) (ok rfl) (ok rfl)
        have Z277 : n0 ≤ h252.size := Nat.le_trans Z0 E252.1
        have Z278 : n0 ≤ h254.size := Nat.le_trans Z277 (Keep.of_wr W254).1
        have Z279 : n0 ≤ h256.size := Nat.le_trans Z278 (Keep.of_wr W256).1
        have Z280 : n0 ≤ h258.size := Nat.le_trans Z279 (Keep.of_wr W258).1
        have Z281 : n0 ≤ h260.size := Nat.le_trans Z280 (Keep.of_wr W260).1
        have Z282 : n0 ≤ h262.size := Nat.le_trans Z281 (Keep.of_wr W262).1
        have Z283 : n0 ≤ h264.size := Nat.le_trans Z282 (Keep.of_wr W264).1
        have Z284 : n0 ≤ h266.size := Nat.le_trans Z283 (Keep.of_wr W266).1
        have K285 : Keep h0 h252 [] := K0.ext E252
        have K286 : Keep h0 h254 [] := K285.wr W254 (Or.inr sz_b252)
        have K287 : Keep h0 h256 [] := K286.wr W256 (Or.inr sz_b252)
        have K288 : Keep h0 h258 [] := K287.wr W258 (Or.inr sz_b252)
        have K289 : Keep h0 h260 [] := K288.wr W260 (Or.inr sz_b252)
        have K290 : Keep h0 h262 [] := K289.wr W262 (Or.inr sz_b252)
        have K291 : Keep h0 h264 [] := K290.wr W264 (Or.inr sz_b252)
        have K292 : Keep h0 h266 [] := K291.wr W266 (Or.inr sz_b252)
        obtain ⟨b276, g276⟩ : ∃ z, z = h266.size := ⟨_, rfl⟩
        rw [← g276] at A276 D276 st276
        have ge_b276 : n0 ≤ b276 := Nat.le_trans Z284 (Nat.le_of_eq g276.symm)
        have sz_b276 : h0.size ≤ b276 := Nat.le_trans K292.1 (Nat.le_of_eq g276.symm)
        have F276_coder : Fld Z h276 b276 "java/lang/String" "coder" "B" (.int (0 : Int32)) := D276 (Or.inr (own_w hw 30 rfl)) (ty := .byte) (by decide)
        have F276_value : Fld Z h276 b276 "java/lang/String" "value" "[B" .null := D276 (Or.inr (own_w hw 32 rfl)) (ty := (.array .byte)) (by decide)
        refine Goes.step (T' := T276) (g' := (mkF m 216 #[.val (.int p0), .val (.int (p0 &&& (3 : Int32))), .val (.ref b252), .val (.ref ore), .unset] [(.ref b276)])) st276 ?_
        refine P1.dup X276.here hx (hb hby at_216) rfl ?_
        refine P1.aloadN X276.here hx (hb hby at_217) rfl rfl ?_
        have V293 : Arv Z h276 b252 k252 .char (7 : Int32) [(.int (82 : Int32)), (.int (101 : Int32)), (.int (118 : Int32)), (.int (111 : Int32)), (.int (107 : Int32)), (.int (101 : Int32)), (.int (100 : Int32))] (.int (0 : Int32)) := V266.ext E276
        have Z294 : n0 ≤ h276.size := Nat.le_trans Z284 E276.1
        have hp295 : ∀ c ∈ ([(82 : Int32), (101 : Int32), (118 : Int32), (111 : Int32), (107 : Int32), (101 : Int32), (100 : Int32)] : List Int32), ¬ c < 0 ∧ ¬ (255 : Int32) < c := by decide
        have O296 : Old Z n0 h276 := O275.ext E276
        refine Goes.callC X276 hx (y := y2_) rfl hown (mvT hZ (own_w hw 7 rfl)) (mvT hZ (own_w hw 8 rfl)) (mvT hZ (own_w hw 9 rfl)) (by decide) (kc' := 1) (ks' := 7) (StrChars.Road.backV (W := 1) hZ (fun d hd => hw d (in_words d hd)) (kI := 4) (own_w hw 5 rfl) (cs := ([(82 : Int32), (101 : Int32), (118 : Int32), (111 : Int32), (107 : Int32), (101 : Int32), (100 : Int32)] : List Int32)) (bs := ([(82 : Int32), (101 : Int32), (118 : Int32), (111 : Int32), (107 : Int32), (101 : Int32), (100 : Int32)] : List Int32).map (fun c => c.toInt8.toInt32)) (n := 7) ge_b276 Z294 A276 F276_value F276_coder V293 (S_CS.ext O296.2) hzc rfl rfl (by decide) (by decide) hp295 rfl (ok rfl) (ok rfl)) (g := (mkF m 218 #[.val (.int p0), .val (.int (p0 &&& (3 : Int32))), .val (.ref b252), .val (.ref ore), .unset] [(.ref b252), (.ref b276), (.ref b276)])) (a := b276) rfl (by rw [hml]; rfl) (argsL := [(.ref b252)]) (rest := [(.ref b276)]) (lenOf pd_1017 rfl) rfl (by show 2 * 0 + _ ≤ _; exact Nat.le_of_eq rfl) (hb hby at_218) rfl e276 (ok rfl) (ok rfl) ?_
        intro v297 T297 L297 q297 X297
        obtain ⟨rfl, N297q, K297, g297E, g297C, t297, kb297, ge_t297, szt297, net297, g297V, g297K⟩ := q297
        have K298 : Keep h0 h276 [] := K292.ext E276
        have N297 := Fr.app N266 N297q
        have sz_t297 : h0.size ≤ t297 := Nat.le_trans K298.1 szt297
        show Goes p e below _ T297 (mkF m 221 #[.val (.int p0), .val (.int (p0 &&& (3 : Int32))), .val (.ref b252), .val (.ref ore), .unset] [(.ref b276)])
        have Z299 : n0 ≤ T297.heap.size := Nat.le_trans Z294 K297.1
        have O300 : Old Z n0 T297.heap := O296.keep K297 (allS ge_b276 all0)
        refine Goes.callS X297 hx (y := y0_) hown (mvT hZ (own_w hw 33 rfl)) (mvT hZ (own_w hw 34 rfl)) (mvT hZ (own_w hw 2 rfl)) (mvT hZ (own_w hw 35 rfl)) (by decide) (kc' := 1) (ks' := 4) (backOf (W := 0) (rmOfre l Z a0 hw [] ocr va oen odi ore scr tcr sen ten sdi tdi sre tre k_va k_tcr k_ten k_tdi k_tre zc fm b276 t297 kb297 T297.heap n0 Z299 O300 S_CREATED E_ocr S__VALUES E_va S_ENABLED E_oen S_DISABLED E_odi S_REVOKED E_ore F_ocr_name E_scr F_scr_coder F_scr_value F_oen_name E_sen F_sen_coder F_sen_value F_odi_name E_sdi F_sdi_coder F_sdi_value F_ore_name E_sre F_sre_coder F_sre_value V_va V_tcr V_ten V_tdi V_tre S_CS hzc S_FM hfm g297E g297V g297C g297K) hZ (own_w hw 35 rfl) (own_w hw 2 rfl) (ok rfl) (ok rfl)) (g := (mkF m 221 #[.val (.int p0), .val (.int (p0 &&& (3 : Int32))), .val (.ref b252), .val (.ref ore), .unset] [(.ref b276)])) rfl (by rw [hml]; rfl) (argsL := [(.ref b276)]) (rest := []) (lenOf pd_346582 rfl) rfl (by show 2 * 0 + _ ≤ _; exact Nat.le_of_eq rfl) (hb hby at_221) rfl rfl (ok rfl) (ok rfl) ?_
        intro v301 T301 L301 q301 X301
        obtain ⟨rfl, N301q, K301⟩ := q301
        have N301 := Fr.app N297 N301q
        show Goes p e below _ T301 (mkF m 224 #[.val (.int p0), .val (.int (p0 &&& (3 : Int32))), .val (.ref b252), .val (.ref ore), .unset] [(.ref ore)])
        refine P1.astore X301.here hx #[.val (.int p0), .val (.int (p0 &&& (3 : Int32))), .val (.ref b252), .val (.ref ore), .val (.ref ore)] (hb hby at_224) rfl rfl ?_
        refine P1.aload X301.here hx (hb hby at_226) rfl rfl ?_
        refine P1.aloadN X301.here hx (hb hby at_228) rfl rfl ?_
        refine Goes.step (T' := T301) (g' := (mkF m 232 #[.val (.int p0), .val (.int (p0 &&& (3 : Int32))), .val (.ref b252), .val (.ref ore), .val (.ref ore)] [])) (fun t k => Jvm.RoadKit.acmp (g := (mkF m 229 #[.val (.int p0), .val (.int (p0 &&& (3 : Int32))), .val (.ref b252), .val (.ref ore), .val (.ref ore)] [(.ref ore), (.ref ore)])) X301 hx rfl rfl rfl (pc0 := 229) (pc' := 232) (same := true) rfl (hb hby at_229) rfl (decide_eq_true rfl) (by decide) (by decide) k) ?_
        refine P1.iconst X301.here hx (1 : Int32) (hb hby at_232) rfl ?_
        refine P1.goto X301.here hx 237 (hb hby at_233) (by decide) (by decide) ?_
        refine Goes.retN X301 hx Bd.notSynchronized (t := .boolean) Bd.returns (by simp) (hb hby at_237) (ok rfl) (ok rfl) ?_
        exact ⟨rfl, N301⟩
set_option maxRecDepth 65536 in
set_option maxHeartbeats 40000000 in
theorem comes_1 {Post : Tables → Env → Array Value → State → Outcome → State → Prop} (hpost : ∀ tb e args s v u, (limb_1_1.after args s (.returned v) u = true ∧ limb_1_2.after args s (.returned v) u = true ∧ True) → FrameEnd s (.returned v) u (Jvm.fieldLocs frame_1_writes args s ++ Jvm.arrayLocs frame_1_arrays args s ++ Jvm.staticLocs frame_1_statics s) 16 128 → Post tb e args s (.returned v) u) :
    ArmFor flags0 classFile x code maxLocals ret World_1 tables_1 room_1 Calls_1 rest_1 Pre_1 Post := by
  intro l hfl _ _ p e ha hc hk s m args below hf hA hF happ hP
  obtain ⟨hcalls, hrest, hpre⟩ := hP
  obtain ⟨-, -, -, hnamed, -, -, -, hat⟩ := (Spec.applies_iff hf).mp happ
  obtain ⟨hg, hn⟩ := and_e (Cond.before_iff.mp (show (Jvm.Cond.and given_1 narrow_1).before args s = true from hpre))
  obtain ⟨hg0, hg1⟩ := and_e hg
  obtain ⟨w0, rfl⟩ : ∃ w0 : Value, args = #[w0] := by
    have hs : args.size = 1 := by simpa [Cond.value, given_1] using hg0
    obtain ⟨L⟩ := args
    match L, hs with
    | [w0], _ => exact ⟨w0, rfl⟩
  have hw := fun d (hd : d ∈ tables_1) => atoms_spec (ws := Jvm.Cond.code x code maxLocals ret :: tables_1) hat d (List.mem_cons_of_mem _ hd)
  have hfit : Fit s := fun {y c} hc i hi => by
    obtain ⟨ha, rfl⟩ := Array.getElem?_eq_some_iff.mp hc
    have q := List.all_eq_true.mp ((Array.all_eq_true_iff_forall_mem.mp hF) _ (Array.getElem_mem ha)) i (List.mem_range.mpr hi)
    simpa [Array.getElem?_eq_getElem hi] using q
  obtain ⟨hsets, hown0⟩ := atoms_of _ (rest_1_c_eq ▸ (show rest_1_c.before _ s = true from hrest))
  obtain ⟨i0, ei0⟩ := is_v hg1
  obtain rfl : w0 = (.int i0) := Option.some.inj ei0
  obtain ⟨hn0, hr0⟩ := and_e hn
  obtain ⟨ocr, ev_ocr⟩ := exa_v hn0
  have S_CREATED : Sta s s.heap "com/example/thing_access_ledger/thingaccessledger/PolicyState" "CREATED" "Lcom/example/thing_access_ledger/thingaccessledger/PolicyState;" (.ref ocr) := Sta.start ev_ocr (Or.inr ⟨(own_w hw 2 rfl), (own_w hw 3 rfl)⟩)
  have E_ocr : Exa s s.heap ocr "com/example/thing_access_ledger/thingaccessledger/PolicyState" := Exa.start ev_ocr hn0
  obtain ⟨hn1, hr1⟩ := and_e hr0
  obtain ⟨va, ev_va⟩ := arr_v hn1
  have S__VALUES : Sta s s.heap "com/example/thing_access_ledger/thingaccessledger/PolicyState" "$VALUES" "[Lcom/example/thing_access_ledger/thingaccessledger/PolicyState;" (.ref va) := Sta.start ev_va (Or.inr ⟨(own_w hw 2 rfl), (own_w hw 40 rfl)⟩)
  obtain ⟨cl_va, Ar_va⟩ := Arr.start ev_va hn1
  obtain ⟨hn2, hr2⟩ := and_e hr1
  have E_va : Exa s s.heap va "[Lcom/example/thing_access_ledger/thingaccessledger/PolicyState;" := Exa.start ev_va hn2
  obtain ⟨hn3, hr3⟩ := and_e hr2
  obtain ⟨lt_va, le_va⟩ := own_len Ar_va ev_va hn3
  obtain ⟨hn4, hr4⟩ := and_e hr3
  have el_va_0 := own_elem Ar_va ev_va (own_eqV hn4 ev_ocr (Or.inr rfl))
  obtain ⟨hn5, hr5⟩ := and_e hr4
  obtain ⟨oen, ev_oen⟩ := exa_v hn5
  have S_ENABLED : Sta s s.heap "com/example/thing_access_ledger/thingaccessledger/PolicyState" "ENABLED" "Lcom/example/thing_access_ledger/thingaccessledger/PolicyState;" (.ref oen) := Sta.start ev_oen (Or.inr ⟨(own_w hw 2 rfl), (own_w hw 48 rfl)⟩)
  have E_oen : Exa s s.heap oen "com/example/thing_access_ledger/thingaccessledger/PolicyState" := Exa.start ev_oen hn5
  obtain ⟨hn6, hr6⟩ := and_e hr5
  have el_va_1 := own_elem Ar_va ev_va (own_eqV hn6 ev_oen (Or.inr rfl))
  obtain ⟨hn7, hr7⟩ := and_e hr6
  obtain ⟨odi, ev_odi⟩ := exa_v hn7
  have S_DISABLED : Sta s s.heap "com/example/thing_access_ledger/thingaccessledger/PolicyState" "DISABLED" "Lcom/example/thing_access_ledger/thingaccessledger/PolicyState;" (.ref odi) := Sta.start ev_odi (Or.inr ⟨(own_w hw 2 rfl), (own_w hw 49 rfl)⟩)
  have E_odi : Exa s s.heap odi "com/example/thing_access_ledger/thingaccessledger/PolicyState" := Exa.start ev_odi hn7
  obtain ⟨hn8, hr8⟩ := and_e hr7
  have el_va_2 := own_elem Ar_va ev_va (own_eqV hn8 ev_odi (Or.inr rfl))
  obtain ⟨hn9, hr9⟩ := and_e hr8
  obtain ⟨ore, ev_ore⟩ := exa_v hn9
  have S_REVOKED : Sta s s.heap "com/example/thing_access_ledger/thingaccessledger/PolicyState" "REVOKED" "Lcom/example/thing_access_ledger/thingaccessledger/PolicyState;" (.ref ore) := Sta.start ev_ore (Or.inr ⟨(own_w hw 2 rfl), (own_w hw 50 rfl)⟩)
  have E_ore : Exa s s.heap ore "com/example/thing_access_ledger/thingaccessledger/PolicyState" := Exa.start ev_ore hn9
  obtain ⟨hn10, hr10⟩ := and_e hr9
  have el_va_3 := own_elem Ar_va ev_va (own_eqV hn10 ev_ore (Or.inr rfl))
  obtain ⟨hn11, hr11⟩ := and_e hr10
  obtain ⟨scr, ev_scr⟩ := exa_v hn11
  have F_ocr_name : Fld s s.heap ocr "com/example/thing_access_ledger/thingaccessledger/PolicyState" "name" "Ljava/lang/String;" (.ref scr) := own_fld ev_ocr ev_scr
  have E_scr : Exa s s.heap scr "java/lang/String" := Exa.start ev_scr hn11
  obtain ⟨hn12, hr12⟩ := and_e hr11
  have F_scr_coder : Fld s s.heap scr "java/lang/String" "coder" "B" (.int (0 : Int32)) := own_fld ev_scr (own_eqV hn12 (Term.int_eval _) (Or.inl ⟨_, rfl⟩))
  obtain ⟨hn13, hr13⟩ := and_e hr12
  obtain ⟨tcr, ev_tcr⟩ := arr_v hn13
  have F_scr_value : Fld s s.heap scr "java/lang/String" "value" "[B" (.ref tcr) := own_fld ev_scr ev_tcr
  obtain ⟨cl_tcr, Ar_tcr⟩ := Arr.start ev_tcr hn13
  obtain ⟨hn14, hr14⟩ := and_e hr13
  obtain ⟨lt_tcr, le_tcr⟩ := own_len Ar_tcr ev_tcr hn14
  obtain ⟨hn15, hr15⟩ := and_e hr14
  obtain ⟨sen, ev_sen⟩ := exa_v hn15
  have F_oen_name : Fld s s.heap oen "com/example/thing_access_ledger/thingaccessledger/PolicyState" "name" "Ljava/lang/String;" (.ref sen) := own_fld ev_oen ev_sen
  have E_sen : Exa s s.heap sen "java/lang/String" := Exa.start ev_sen hn15
  obtain ⟨hn16, hr16⟩ := and_e hr15
  have F_sen_coder : Fld s s.heap sen "java/lang/String" "coder" "B" (.int (0 : Int32)) := own_fld ev_sen (own_eqV hn16 (Term.int_eval _) (Or.inl ⟨_, rfl⟩))
  obtain ⟨hn17, hr17⟩ := and_e hr16
  obtain ⟨ten, ev_ten⟩ := arr_v hn17
  have F_sen_value : Fld s s.heap sen "java/lang/String" "value" "[B" (.ref ten) := own_fld ev_sen ev_ten
  obtain ⟨cl_ten, Ar_ten⟩ := Arr.start ev_ten hn17
  obtain ⟨hn18, hr18⟩ := and_e hr17
  obtain ⟨lt_ten, le_ten⟩ := own_len Ar_ten ev_ten hn18
  obtain ⟨hn19, hr19⟩ := and_e hr18
  obtain ⟨sdi, ev_sdi⟩ := exa_v hn19
  have F_odi_name : Fld s s.heap odi "com/example/thing_access_ledger/thingaccessledger/PolicyState" "name" "Ljava/lang/String;" (.ref sdi) := own_fld ev_odi ev_sdi
  have E_sdi : Exa s s.heap sdi "java/lang/String" := Exa.start ev_sdi hn19
  obtain ⟨hn20, hr20⟩ := and_e hr19
  have F_sdi_coder : Fld s s.heap sdi "java/lang/String" "coder" "B" (.int (0 : Int32)) := own_fld ev_sdi (own_eqV hn20 (Term.int_eval _) (Or.inl ⟨_, rfl⟩))
  obtain ⟨hn21, hr21⟩ := and_e hr20
  obtain ⟨tdi, ev_tdi⟩ := arr_v hn21
  have F_sdi_value : Fld s s.heap sdi "java/lang/String" "value" "[B" (.ref tdi) := own_fld ev_sdi ev_tdi
  obtain ⟨cl_tdi, Ar_tdi⟩ := Arr.start ev_tdi hn21
  obtain ⟨hn22, hr22⟩ := and_e hr21
  obtain ⟨lt_tdi, le_tdi⟩ := own_len Ar_tdi ev_tdi hn22
  obtain ⟨hn23, hr23⟩ := and_e hr22
  obtain ⟨sre, ev_sre⟩ := exa_v hn23
  have F_ore_name : Fld s s.heap ore "com/example/thing_access_ledger/thingaccessledger/PolicyState" "name" "Ljava/lang/String;" (.ref sre) := own_fld ev_ore ev_sre
  have E_sre : Exa s s.heap sre "java/lang/String" := Exa.start ev_sre hn23
  obtain ⟨hn24, hr24⟩ := and_e hr23
  have F_sre_coder : Fld s s.heap sre "java/lang/String" "coder" "B" (.int (0 : Int32)) := own_fld ev_sre (own_eqV hn24 (Term.int_eval _) (Or.inl ⟨_, rfl⟩))
  obtain ⟨hn25, hr25⟩ := and_e hr24
  obtain ⟨tre, ev_tre⟩ := arr_v hn25
  have F_sre_value : Fld s s.heap sre "java/lang/String" "value" "[B" (.ref tre) := own_fld ev_sre ev_tre
  obtain ⟨cl_tre, Ar_tre⟩ := Arr.start ev_tre hn25
  obtain ⟨hn26, hr26⟩ := and_e hr25
  obtain ⟨lt_tre, le_tre⟩ := own_len Ar_tre ev_tre hn26
  obtain ⟨hn27, hr27⟩ := and_e hr26
  have el_tcr_0 := own_elem Ar_tcr ev_tcr (own_eqV hn27 (Term.int_eval _) (Or.inl ⟨_, rfl⟩))
  obtain ⟨hn28, hr28⟩ := and_e hr27
  have el_tcr_1 := own_elem Ar_tcr ev_tcr (own_eqV hn28 (Term.int_eval _) (Or.inl ⟨_, rfl⟩))
  obtain ⟨hn29, hr29⟩ := and_e hr28
  have el_tcr_2 := own_elem Ar_tcr ev_tcr (own_eqV hn29 (Term.int_eval _) (Or.inl ⟨_, rfl⟩))
  obtain ⟨hn30, hr30⟩ := and_e hr29
  have el_tcr_3 := own_elem Ar_tcr ev_tcr (own_eqV hn30 (Term.int_eval _) (Or.inl ⟨_, rfl⟩))
  obtain ⟨hn31, hr31⟩ := and_e hr30
  have el_tcr_4 := own_elem Ar_tcr ev_tcr (own_eqV hn31 (Term.int_eval _) (Or.inl ⟨_, rfl⟩))
  obtain ⟨hn32, hr32⟩ := and_e hr31
  have el_tcr_5 := own_elem Ar_tcr ev_tcr (own_eqV hn32 (Term.int_eval _) (Or.inl ⟨_, rfl⟩))
  obtain ⟨hn33, hr33⟩ := and_e hr32
  have el_tcr_6 := own_elem Ar_tcr ev_tcr (own_eqV hn33 (Term.int_eval _) (Or.inl ⟨_, rfl⟩))
  obtain ⟨hn34, hr34⟩ := and_e hr33
  have el_ten_0 := own_elem Ar_ten ev_ten (own_eqV hn34 (Term.int_eval _) (Or.inl ⟨_, rfl⟩))
  obtain ⟨hn35, hr35⟩ := and_e hr34
  have el_ten_1 := own_elem Ar_ten ev_ten (own_eqV hn35 (Term.int_eval _) (Or.inl ⟨_, rfl⟩))
  obtain ⟨hn36, hr36⟩ := and_e hr35
  have el_ten_2 := own_elem Ar_ten ev_ten (own_eqV hn36 (Term.int_eval _) (Or.inl ⟨_, rfl⟩))
  obtain ⟨hn37, hr37⟩ := and_e hr36
  have el_ten_3 := own_elem Ar_ten ev_ten (own_eqV hn37 (Term.int_eval _) (Or.inl ⟨_, rfl⟩))
  obtain ⟨hn38, hr38⟩ := and_e hr37
  have el_ten_4 := own_elem Ar_ten ev_ten (own_eqV hn38 (Term.int_eval _) (Or.inl ⟨_, rfl⟩))
  obtain ⟨hn39, hr39⟩ := and_e hr38
  have el_ten_5 := own_elem Ar_ten ev_ten (own_eqV hn39 (Term.int_eval _) (Or.inl ⟨_, rfl⟩))
  obtain ⟨hn40, hr40⟩ := and_e hr39
  have el_ten_6 := own_elem Ar_ten ev_ten (own_eqV hn40 (Term.int_eval _) (Or.inl ⟨_, rfl⟩))
  obtain ⟨hn41, hr41⟩ := and_e hr40
  have el_tdi_0 := own_elem Ar_tdi ev_tdi (own_eqV hn41 (Term.int_eval _) (Or.inl ⟨_, rfl⟩))
  obtain ⟨hn42, hr42⟩ := and_e hr41
  have el_tdi_1 := own_elem Ar_tdi ev_tdi (own_eqV hn42 (Term.int_eval _) (Or.inl ⟨_, rfl⟩))
  obtain ⟨hn43, hr43⟩ := and_e hr42
  have el_tdi_2 := own_elem Ar_tdi ev_tdi (own_eqV hn43 (Term.int_eval _) (Or.inl ⟨_, rfl⟩))
  obtain ⟨hn44, hr44⟩ := and_e hr43
  have el_tdi_3 := own_elem Ar_tdi ev_tdi (own_eqV hn44 (Term.int_eval _) (Or.inl ⟨_, rfl⟩))
  obtain ⟨hn45, hr45⟩ := and_e hr44
  have el_tdi_4 := own_elem Ar_tdi ev_tdi (own_eqV hn45 (Term.int_eval _) (Or.inl ⟨_, rfl⟩))
  obtain ⟨hn46, hr46⟩ := and_e hr45
  have el_tdi_5 := own_elem Ar_tdi ev_tdi (own_eqV hn46 (Term.int_eval _) (Or.inl ⟨_, rfl⟩))
  obtain ⟨hn47, hr47⟩ := and_e hr46
  have el_tdi_6 := own_elem Ar_tdi ev_tdi (own_eqV hn47 (Term.int_eval _) (Or.inl ⟨_, rfl⟩))
  obtain ⟨hn48, hr48⟩ := and_e hr47
  have el_tdi_7 := own_elem Ar_tdi ev_tdi (own_eqV hn48 (Term.int_eval _) (Or.inl ⟨_, rfl⟩))
  obtain ⟨hn49, hr49⟩ := and_e hr48
  have el_tre_0 := own_elem Ar_tre ev_tre (own_eqV hn49 (Term.int_eval _) (Or.inl ⟨_, rfl⟩))
  obtain ⟨hn50, hr50⟩ := and_e hr49
  have el_tre_1 := own_elem Ar_tre ev_tre (own_eqV hn50 (Term.int_eval _) (Or.inl ⟨_, rfl⟩))
  obtain ⟨hn51, hr51⟩ := and_e hr50
  have el_tre_2 := own_elem Ar_tre ev_tre (own_eqV hn51 (Term.int_eval _) (Or.inl ⟨_, rfl⟩))
  obtain ⟨hn52, hr52⟩ := and_e hr51
  have el_tre_3 := own_elem Ar_tre ev_tre (own_eqV hn52 (Term.int_eval _) (Or.inl ⟨_, rfl⟩))
  obtain ⟨hn53, hr53⟩ := and_e hr52
  have el_tre_4 := own_elem Ar_tre ev_tre (own_eqV hn53 (Term.int_eval _) (Or.inl ⟨_, rfl⟩))
  obtain ⟨hn54, hr54⟩ := and_e hr53
  have el_tre_5 := own_elem Ar_tre ev_tre (own_eqV hn54 (Term.int_eval _) (Or.inl ⟨_, rfl⟩))
  have el_tre_6 := own_elem Ar_tre ev_tre (own_eqV hr54 (Term.int_eval _) (Or.inl ⟨_, rfl⟩))
  obtain ⟨k_va, ek_va⟩ : ∃ k, k = cl_va.cls := ⟨_, rfl⟩
  have V_va : Arv s s.heap va k_va (.object "com/example/thing_access_ledger/thingaccessledger/PolicyState") (4 : Int32) [(.ref ocr), (.ref oen), (.ref odi), (.ref ore)] .null := by rw [ek_va]; exact Arv.start hfit Ar_va lt_va le_va (by decide) rfl ⟨el_va_0, el_va_1, el_va_2, el_va_3, trivial⟩
  obtain ⟨k_tcr, ek_tcr⟩ : ∃ k, k = cl_tcr.cls := ⟨_, rfl⟩
  have V_tcr : Arv s s.heap tcr k_tcr .byte (7 : Int32) [(.int (67 : Int32)), (.int (114 : Int32)), (.int (101 : Int32)), (.int (97 : Int32)), (.int (116 : Int32)), (.int (101 : Int32)), (.int (100 : Int32))] (.int (0 : Int32)) := by rw [ek_tcr]; exact Arv.start hfit Ar_tcr lt_tcr le_tcr (by decide) rfl ⟨el_tcr_0, el_tcr_1, el_tcr_2, el_tcr_3, el_tcr_4, el_tcr_5, el_tcr_6, trivial⟩
  obtain ⟨k_ten, ek_ten⟩ : ∃ k, k = cl_ten.cls := ⟨_, rfl⟩
  have V_ten : Arv s s.heap ten k_ten .byte (7 : Int32) [(.int (69 : Int32)), (.int (110 : Int32)), (.int (97 : Int32)), (.int (98 : Int32)), (.int (108 : Int32)), (.int (101 : Int32)), (.int (100 : Int32))] (.int (0 : Int32)) := by rw [ek_ten]; exact Arv.start hfit Ar_ten lt_ten le_ten (by decide) rfl ⟨el_ten_0, el_ten_1, el_ten_2, el_ten_3, el_ten_4, el_ten_5, el_ten_6, trivial⟩
  obtain ⟨k_tdi, ek_tdi⟩ : ∃ k, k = cl_tdi.cls := ⟨_, rfl⟩
  have V_tdi : Arv s s.heap tdi k_tdi .byte (8 : Int32) [(.int (68 : Int32)), (.int (105 : Int32)), (.int (115 : Int32)), (.int (97 : Int32)), (.int (98 : Int32)), (.int (108 : Int32)), (.int (101 : Int32)), (.int (100 : Int32))] (.int (0 : Int32)) := by rw [ek_tdi]; exact Arv.start hfit Ar_tdi lt_tdi le_tdi (by decide) rfl ⟨el_tdi_0, el_tdi_1, el_tdi_2, el_tdi_3, el_tdi_4, el_tdi_5, el_tdi_6, el_tdi_7, trivial⟩
  obtain ⟨k_tre, ek_tre⟩ : ∃ k, k = cl_tre.cls := ⟨_, rfl⟩
  have V_tre : Arv s s.heap tre k_tre .byte (7 : Int32) [(.int (82 : Int32)), (.int (101 : Int32)), (.int (118 : Int32)), (.int (111 : Int32)), (.int (107 : Int32)), (.int (101 : Int32)), (.int (100 : Int32))] (.int (0 : Int32)) := by rw [ek_tre]; exact Arv.start hfit Ar_tre lt_tre le_tre (by decide) rfl ⟨el_tre_0, el_tre_1, el_tre_2, el_tre_3, el_tre_4, el_tre_5, el_tre_6, trivial⟩
  obtain ⟨zc, ev_zc⟩ := is_v (Cond.before_iff.mp (hsets _ (List.mem_of_getElem? (i := 1) rfl)))
  have S_CS : Sta s s.heap "java/lang/String" "COMPACT_STRINGS" "Z" (.int zc) := Sta.start ev_zc (Or.inl (hsets _ (List.mem_of_getElem? (i := 0) rfl)))
  have hzc : ¬ zc = 0 := gotF (Cond.eq_ints ev_zc (Term.int_eval (0))) (not_v (Cond.before_iff.mp (hsets _ (List.mem_of_getElem? (i := 2) rfl))))
  obtain ⟨fm, ev_fm, hfm⟩ := isR_v (Cond.before_iff.mp (hsets _ (List.mem_of_getElem? (i := 8) rfl)))
  have S_FM : Sta s s.heap "jdk/internal/util/Preconditions" "SIOOBE_FORMATTER" "Ljava/util/function/BiFunction;" fm := Sta.start ev_fm (Or.inl (hsets _ (List.mem_of_getElem? (i := 7) rfl)))
  obtain ⟨n, o, h1, h2, h3, _, L, rfl, ⟨rfl, N⟩, hq⟩ := rm0 l s _ hw tables_1 i0 ocr va oen odi ore scr tcr sen ten sdi tdi sre tre k_va k_tcr k_ten k_tdi k_tre zc fm s.heap s.heap.size (Nat.le_refl _) (Old.start s) S_CREATED E_ocr S__VALUES E_va S_ENABLED E_oen S_DISABLED E_odi S_REVOKED E_ore F_ocr_name E_scr F_scr_coder F_scr_value F_oen_name E_sen F_sen_coder F_sen_value F_odi_name E_sdi F_sdi_coder F_sdi_value F_ore_name E_sre F_sre_coder F_sre_value V_va V_tcr V_ten V_tdi V_tre S_CS hzc S_FM hfm p e ha hc hk s m _ below hf ((Spec.applies_iff_loose hf).mp happ).1 ⟨rfl, State.Warmed39.refl s, rfl⟩ trivial
  refine ⟨n, _, h1, h2, h3, hpost _ _ _ _ _ _ ⟨Cond.after_iff.mpr rfl, Cond.after_iff.mpr (eq_i res_at (Term.int_eval (1)) rfl), trivial⟩ ⟨hq.1, hq.2.1, (hq.2.2.sift fun y hy => Or.inr (N y hy)).mono (ok rfl) (ok rfl)⟩⟩
theorem main_1_1 : Claimed_1_1 := comes_1 fun _ _ _ _ _ _ h hF => ⟨h.1, hF⟩
theorem main_1_2 : Claimed_1_2 := comes_1 fun _ _ _ _ _ _ h hF => ⟨h.2.1, hF⟩
end Jvm.Pilot.@@N@@
namespace Jvm.Pilot.@@N@@
open Jvm Jvm.ClassFile Sem Op Lib Jvm.Free Jvm.Stand Jvm.Pilot.@@N@@.Jvm.D
/-! MADE BY PROGRAM (witnessworld.py) out of the Statement's table words and the real class files: 22 classes; the members and pool entries that the words name. The judged class is class 1, her method 1. -/
namespace start1
open Jvm.ClassFile
def u (s : String) : CpInfo := .utf8 (stringToUtf16 s)
/-- a pool by its gaps: so many unusable entries, then the entry; so many at the end -/
def gap : Nat → List CpInfo → List CpInfo
  | 0, r => r
  | n + 1, r => .unusable :: gap n r
def poolList (es : List (Nat × CpInfo)) (last : Nat) : List CpInfo := es.foldr (fun e r => gap e.1 (e.2 :: r)) (gap last [])
def pool (es : List (Nat × CpInfo)) (last : Nat) : Array CpInfo := ⟨poolList es last⟩
def fileOf (pool : Array CpInfo) (this : Nat) (attrs : Array Attribute := #[]) (ms : Array MethodInfo := #[]) (fl : Nat := 33) (sup : Nat := 0) (ifs : Array Nat := #[]) (fds : Array FieldInfo := #[]) : ClassFile where
  minorVersion := 0
  majorVersion := 65
  constantPool := pool
  accessFlags := fl
  thisClass := this
  superClass := sup
  interfaces := ifs
  fields := fds
  methods := ms
  attributes := attrs
def plain (name : String) (sup : Option ClassId) : Class where
  name := name
  kind := .ordinary
  loader := none
  accessFlags := 33
  super := sup
  interfaces := #[]
  cf := none
  fields := #[]
  methods := #[]
  instanceTypes := #[]
  staticTypes := #[]
  resolved := #[]
  callSites := []
  init := .initialized
  statics := none
  mirror := none

def pool0 : Array CpInfo := pool [(5, u "<init>"), (0, u "()V"), (1, .class_ 10), (1, u "java/lang/Object"), (85, u "clone"), (0, u "()Ljava/lang/Object;")] 26

def k0c0 : Code := { maxStack := 0, maxLocals := 1, code := object_method_1_code, exceptionTable := #[], attributes := #[] }
def k0m0 : Method := { name := "<init>", desc := "()V", sig := { parameters := [], returnType := none }, accessFlags := 1, code := some k0c0 }
def k0m1 : Method := { name := "clone", desc := "()Ljava/lang/Object;", sig := { parameters := [], returnType := some (.object "java/lang/Object") }, accessFlags := 260, code := none }
/-- java/lang/Object -/
def k0 : Class := { plain "java/lang/Object" none with
  accessFlags := 33
  interfaces := #[]
  cf := some (fileOf pool0 8 #[] #[{ accessFlags := 1, nameIndex := 5, descriptorIndex := 6, attributes := #[] }, { accessFlags := 260, nameIndex := 96, descriptorIndex := 97, attributes := #[] }] 33 0 #[] #[])
  fields := #[]
  methods := #[k0m0, k0m1]
  instanceTypes := #[]
  staticTypes := #[]
  resolved := Array.replicate 124 none
  statics := none }

def pool1 : Array CpInfo := pool [(2, .class_ 4), (1, u "java/lang/Object"), (0, u "<init>"), (0, u "()V"), (0, .fieldref 8 9), (0, .class_ 10), (0, .nameAndType 11 12), (0, u "com/example/thing_access_ledger/thingaccessledger/PolicyState"), (0, u "CREATED"), (0, u "Lcom/example/thing_access_ledger/thingaccessledger/PolicyState;"), (0, .fieldref 8 14), (0, .nameAndType 15 12), (0, u "ENABLED"), (0, .fieldref 8 17), (0, .nameAndType 18 12), (0, u "DISABLED"), (0, .fieldref 8 20), (0, .nameAndType 21 12), (0, u "REVOKED"), (0, .class_ 23), (0, u "java/lang/String"), (0, .methodref 22 25), (0, .nameAndType 5 26), (0, u "([C)V"), (0, .methodref 8 28), (0, .nameAndType 29 30), (0, u "of"), (0, u "(Ljava/lang/String;)Lcom/example/thing_access_ledger/thingaccessledger/PolicyState;"), (0, .class_ 32), (0, u "com/example/thing_access_ledger/thingaccessledger/PolicyStateOfPinLaw"), (2, u "law"), (0, u "(I)Z")] 5

def k1m0 : Method := { name := "<init>", desc := "()V", sig := { parameters := [], returnType := none }, accessFlags := 1, code := none }
def k1c1 : Code := { maxStack := 4, maxLocals := 5, code := code, exceptionTable := #[], attributes := #[] }
def k1m1 : Method := { name := "law", desc := "(I)Z", sig := { parameters := [.int], returnType := some .boolean }, accessFlags := 9, code := some k1c1 }
/-- com/example/thing_access_ledger/thingaccessledger/PolicyStateOfPinLaw -/
def k1 : Class := { plain "com/example/thing_access_ledger/thingaccessledger/PolicyStateOfPinLaw" (some 0) with
  accessFlags := 49
  interfaces := #[]
  cf := some (fileOf pool1 31 #[] #[{ accessFlags := 1, nameIndex := 5, descriptorIndex := 6, attributes := #[] }, { accessFlags := 9, nameIndex := 35, descriptorIndex := 36, attributes := #[] }] 49 2 #[] #[])
  fields := #[]
  methods := #[k1m0, k1m1]
  instanceTypes := #[]
  staticTypes := #[]
  resolved := Array.replicate 42 none
  statics := none }

def pool2 : Array CpInfo := pool [(1, .class_ 2), (0, u "java/lang/constant/Constable"), (0, .class_ 4), (0, u "java/lang/Object")] 6

/-- java/lang/constant/Constable -/
def k2 : Class := { plain "java/lang/constant/Constable" (some 0) with
  accessFlags := 1537
  interfaces := #[]
  cf := some (fileOf pool2 1 #[] #[] 1537 3 #[] #[])
  fields := #[]
  methods := #[]
  instanceTypes := #[]
  staticTypes := #[]
  resolved := Array.replicate 11 none
  statics := none }

def pool3 : Array CpInfo := pool [(1, .class_ 2), (0, u "java/lang/Comparable"), (0, .class_ 4), (0, u "java/lang/Object")] 7

/-- java/lang/Comparable -/
def k3 : Class := { plain "java/lang/Comparable" (some 0) with
  accessFlags := 1537
  interfaces := #[]
  cf := some (fileOf pool3 1 #[] #[] 1537 3 #[] #[])
  fields := #[]
  methods := #[]
  instanceTypes := #[]
  staticTypes := #[]
  resolved := Array.replicate 12 none
  statics := none }

def pool4 : Array CpInfo := pool [(1, .class_ 2), (0, u "java/io/Serializable"), (0, .class_ 4), (0, u "java/lang/Object")] 2

/-- java/io/Serializable -/
def k4 : Class := { plain "java/io/Serializable" (some 0) with
  accessFlags := 1537
  interfaces := #[]
  cf := some (fileOf pool4 1 #[] #[] 1537 3 #[] #[])
  fields := #[]
  methods := #[]
  instanceTypes := #[]
  staticTypes := #[]
  resolved := Array.replicate 7 none
  statics := none }

def pool5 : Array CpInfo := pool [(2, .class_ 4), (1, u "java/lang/Enum"), (0, u "name"), (0, u "Ljava/lang/String;"), (2, u "ordinal"), (0, u "I"), (1, .class_ 14), (1, u "java/lang/Object"), (4, u "hash"), (86, .class_ 108), (1, u "java/lang/Enum$EnumDesc"), (2, .class_ 112), (0, u "java/lang/constant/Constable"), (0, .class_ 114), (0, u "java/lang/Comparable"), (0, .class_ 116), (0, u "java/io/Serializable")] 87

/-- java/lang/Enum -/
def k5 : Class := { plain "java/lang/Enum" (some 0) with
  accessFlags := 1057
  interfaces := #[2, 3, 4]
  cf := some (fileOf pool5 2 #[.nestMembers #[106]] #[] 1057 12 #[111, 113, 115] #[{ accessFlags := 18, nameIndex := 5, descriptorIndex := 6, attributes := #[] }, { accessFlags := 18, nameIndex := 9, descriptorIndex := 10, attributes := #[] }, { accessFlags := 2, nameIndex := 19, descriptorIndex := 10, attributes := #[] }])
  fields := #[{ name := "name", type := (.object "java/lang/String"), accessFlags := 18, slot := 0, constantValue := 0 }, { name := "ordinal", type := .int, accessFlags := 18, slot := 1, constantValue := 0 }, { name := "hash", type := .int, accessFlags := 2, slot := 2, constantValue := 0 }]
  methods := #[]
  instanceTypes := #[(.object "java/lang/String"), .int, .int]
  staticTypes := #[]
  resolved := Array.replicate 204 none
  statics := none }

def pool6 : Array CpInfo := pool [(1, .class_ 2), (0, u "com/example/thing_access_ledger/thingaccessledger/PolicyState"), (2, u "CREATED"), (0, u "Lcom/example/thing_access_ledger/thingaccessledger/PolicyState;"), (2, u "ENABLED"), (2, u "DISABLED"), (2, u "REVOKED"), (0, .fieldref 1 17), (0, .nameAndType 18 19), (0, u "$VALUES"), (0, u "[Lcom/example/thing_access_ledger/thingaccessledger/PolicyState;"), (0, .methodref 21 22), (0, .class_ 19), (0, .nameAndType 23 24), (0, u "clone"), (0, u "()Ljava/lang/Object;"), (1, .class_ 28), (1, u "java/lang/Enum"), (6, .fieldref 1 36), (0, .nameAndType 37 38), (0, u "name"), (0, u "Ljava/lang/String;"), (0, .methodref 1 40), (0, .nameAndType 41 42), (0, u "values"), (0, u "()[Lcom/example/thing_access_ledger/thingaccessledger/PolicyState;"), (0, .methodref 44 45), (0, .class_ 46), (0, .nameAndType 47 48), (0, u "java/lang/String"), (0, u "equals"), (0, u "(Ljava/lang/Object;)Z"), (22, u "of"), (37, u "(Ljava/lang/String;)Lcom/example/thing_access_ledger/thingaccessledger/PolicyState;")] 28

def k6c0 : Code := { maxStack := 1, maxLocals := 0, code := prog_19_method_1_code, exceptionTable := #[], attributes := #[] }
def k6m0 : Method := { name := "values", desc := "()[Lcom/example/thing_access_ledger/thingaccessledger/PolicyState;", sig := { parameters := [], returnType := some (.array (.object "com/example/thing_access_ledger/thingaccessledger/PolicyState")) }, accessFlags := 9, code := some k6c0 }
def k6c1 : Code := { maxStack := 3, maxLocals := 5, code := prog_19_method_4_code, exceptionTable := #[], attributes := #[] }
def k6m1 : Method := { name := "of", desc := "(Ljava/lang/String;)Lcom/example/thing_access_ledger/thingaccessledger/PolicyState;", sig := { parameters := [(.object "java/lang/String")], returnType := some (.object "com/example/thing_access_ledger/thingaccessledger/PolicyState") }, accessFlags := 9, code := some k6c1 }
/-- com/example/thing_access_ledger/thingaccessledger/PolicyState -/
def k6 : Class := { plain "com/example/thing_access_ledger/thingaccessledger/PolicyState" (some 5) with
  accessFlags := 16433
  interfaces := #[]
  cf := some (fileOf pool6 1 #[] #[{ accessFlags := 9, nameIndex := 41, descriptorIndex := 42, attributes := #[] }, { accessFlags := 9, nameIndex := 71, descriptorIndex := 109, attributes := #[] }] 16433 26 #[] #[{ accessFlags := 16409, nameIndex := 5, descriptorIndex := 6, attributes := #[] }, { accessFlags := 16409, nameIndex := 9, descriptorIndex := 6, attributes := #[] }, { accessFlags := 16409, nameIndex := 12, descriptorIndex := 6, attributes := #[] }, { accessFlags := 16409, nameIndex := 15, descriptorIndex := 6, attributes := #[] }, { accessFlags := 18, nameIndex := 37, descriptorIndex := 38, attributes := #[] }, { accessFlags := 4122, nameIndex := 18, descriptorIndex := 19, attributes := #[] }])
  fields := #[{ name := "CREATED", type := (.object "com/example/thing_access_ledger/thingaccessledger/PolicyState"), accessFlags := 16409, slot := 0, constantValue := 0 }, { name := "ENABLED", type := (.object "com/example/thing_access_ledger/thingaccessledger/PolicyState"), accessFlags := 16409, slot := 1, constantValue := 0 }, { name := "DISABLED", type := (.object "com/example/thing_access_ledger/thingaccessledger/PolicyState"), accessFlags := 16409, slot := 2, constantValue := 0 }, { name := "REVOKED", type := (.object "com/example/thing_access_ledger/thingaccessledger/PolicyState"), accessFlags := 16409, slot := 3, constantValue := 0 }, { name := "name", type := (.object "java/lang/String"), accessFlags := 18, slot := 3, constantValue := 0 }, { name := "$VALUES", type := (.array (.object "com/example/thing_access_ledger/thingaccessledger/PolicyState")), accessFlags := 4122, slot := 4, constantValue := 0 }]
  methods := #[k6m0, k6m1]
  instanceTypes := #[(.object "java/lang/String"), .int, .int, (.object "java/lang/String")]
  staticTypes := #[(.object "com/example/thing_access_ledger/thingaccessledger/PolicyState"), (.object "com/example/thing_access_ledger/thingaccessledger/PolicyState"), (.object "com/example/thing_access_ledger/thingaccessledger/PolicyState"), (.object "com/example/thing_access_ledger/thingaccessledger/PolicyState"), (.array (.object "com/example/thing_access_ledger/thingaccessledger/PolicyState"))]
  resolved := Array.replicate 138 none
  statics := some 0 }

def pool7 : Array CpInfo := pool [(2, .class_ 4), (1, u "java/lang/CharSequence"), (42, .class_ 48), (0, u "java/lang/CharSequence$1CodePointIterator"), (10, .class_ 60), (0, u "java/lang/CharSequence$1CharIterator"), (5, .class_ 67), (0, u "java/lang/Object")] 63

/-- java/lang/CharSequence -/
def k7 : Class := { plain "java/lang/CharSequence" (some 0) with
  accessFlags := 1537
  interfaces := #[]
  cf := some (fileOf pool7 2 #[.nestMembers #[47, 59]] #[] 1537 66 #[] #[])
  fields := #[]
  methods := #[]
  instanceTypes := #[]
  staticTypes := #[]
  resolved := Array.replicate 131 none
  statics := none }

def pool8 : Array CpInfo := pool [(1, .class_ 2), (0, u "java/lang/constant/ConstantDesc"), (0, .class_ 4), (0, u "java/lang/Object")] 32

/-- java/lang/constant/ConstantDesc -/
def k8 : Class := { plain "java/lang/constant/ConstantDesc" (some 0) with
  accessFlags := 1537
  interfaces := #[]
  cf := some (fileOf pool8 1 #[] #[] 1537 3 #[] #[])
  fields := #[]
  methods := #[]
  instanceTypes := #[]
  staticTypes := #[]
  resolved := Array.replicate 37 none
  statics := none }

def pool9 : Array CpInfo := pool [(1, .methodref 2 3), (0, .class_ 4), (0, .nameAndType 5 6), (0, u "java/lang/Object"), (0, u "<init>"), (0, u "()V"), (2, .fieldref 10 11), (0, .class_ 12), (0, .nameAndType 13 14), (0, u "java/lang/String"), (0, u "value"), (0, u "[B"), (0, .fieldref 10 16), (0, .nameAndType 17 18), (0, u "coder"), (0, u "B"), (2, u "hash"), (0, u "I"), (2, u "hashIsZero"), (0, u "Z"), (0, .methodref 10 28), (0, .nameAndType 5 29), (0, u "([CIILjava/lang/Void;)V"), (8, .fieldref 10 39), (0, .nameAndType 40 26), (0, u "COMPACT_STRINGS"), (1, .class_ 44), (1, u "java/lang/StringUTF16"), (0, u "compress"), (1, .methodref 42 48), (0, .nameAndType 49 50), (0, u "coderFromArrayLen"), (0, u "([BI)B"), (56, .class_ 109), (1, u "java/lang/StringLatin1"), (67, .methodref 42 178), (0, .nameAndType 45 179), (0, u "([CII)[B"), (361, .methodref 107 542), (0, .nameAndType 543 544), (0, u "equals"), (0, u "([B[B)Z"), (28, u "(Ljava/lang/Object;)Z"), (1, .class_ 576), (0, u "java/lang/CharSequence"), (22, u "CASE_INSENSITIVE_ORDER"), (0, u "Ljava/util/Comparator;"), (409, u "([C)V"), (90, u "serialPersistentFields"), (0, u "[Ljava/io/ObjectStreamField;"), (0, .class_ 1104), (0, u "java/lang/String$CaseInsensitiveComparator"), (1, .class_ 1107), (0, u "java/io/Serializable"), (0, .class_ 1109), (0, u "java/lang/Comparable"), (0, .class_ 1111), (0, u "java/lang/constant/Constable"), (0, .class_ 1113), (0, u "java/lang/constant/ConstantDesc"), (2, u "serialVersionUID"), (0, u "J"), (3, u "REPL"), (0, u "C"), (2, u "LATIN1"), (1, u "UTF16")] 323

def k9m0 : Method := { name := "<init>", desc := "()V", sig := { parameters := [], returnType := none }, accessFlags := 1, code := none }
def k9c1 : Code := { maxStack := 5, maxLocals := 2, code := jdk_42_method_3_code, exceptionTable := #[], attributes := #[] }
def k9m1 : Method := { name := "<init>", desc := "([C)V", sig := { parameters := [(.array .char)], returnType := none }, accessFlags := 1, code := some k9c1 }
def k9c2 : Code := { maxStack := 2, maxLocals := 3, code := jdk_42_method_66_code, exceptionTable := #[], attributes := #[] }
def k9m2 : Method := { name := "equals", desc := "(Ljava/lang/Object;)Z", sig := { parameters := [(.object "java/lang/Object")], returnType := some .boolean }, accessFlags := 1, code := some k9c2 }
def k9c3 : Code := { maxStack := 4, maxLocals := 6, code := jdk_42_method_149_code, exceptionTable := #[], attributes := #[] }
def k9m3 : Method := { name := "<init>", desc := "([CIILjava/lang/Void;)V", sig := { parameters := [(.array .char), .int, .int, (.object "java/lang/Void")], returnType := none }, accessFlags := 2, code := some k9c3 }
/-- java/lang/String -/
def k9 : Class := { plain "java/lang/String" (some 0) with
  accessFlags := 49
  interfaces := #[4, 3, 7, 2, 8]
  cf := some (fileOf pool9 10 #[.nestMembers #[1103]] #[{ accessFlags := 1, nameIndex := 5, descriptorIndex := 6, attributes := #[] }, { accessFlags := 1, nameIndex := 5, descriptorIndex := 1010, attributes := #[] }, { accessFlags := 1, nameIndex := 543, descriptorIndex := 573, attributes := #[] }, { accessFlags := 2, nameIndex := 5, descriptorIndex := 29, attributes := #[] }] 49 2 #[1106, 1108, 575, 1110, 1112] #[{ accessFlags := 18, nameIndex := 13, descriptorIndex := 14, attributes := #[] }, { accessFlags := 18, nameIndex := 17, descriptorIndex := 18, attributes := #[] }, { accessFlags := 2, nameIndex := 21, descriptorIndex := 22, attributes := #[] }, { accessFlags := 2, nameIndex := 25, descriptorIndex := 26, attributes := #[] }, { accessFlags := 26, nameIndex := 1116, descriptorIndex := 1117, attributes := #[] }, { accessFlags := 24, nameIndex := 40, descriptorIndex := 26, attributes := #[] }, { accessFlags := 26, nameIndex := 1101, descriptorIndex := 1102, attributes := #[] }, { accessFlags := 26, nameIndex := 1121, descriptorIndex := 1122, attributes := #[] }, { accessFlags := 25, nameIndex := 599, descriptorIndex := 600, attributes := #[] }, { accessFlags := 24, nameIndex := 1125, descriptorIndex := 18, attributes := #[] }, { accessFlags := 24, nameIndex := 1127, descriptorIndex := 18, attributes := #[] }])
  fields := #[{ name := "value", type := (.array .byte), accessFlags := 18, slot := 0, constantValue := 0 }, { name := "coder", type := .byte, accessFlags := 18, slot := 1, constantValue := 0 }, { name := "hash", type := .int, accessFlags := 2, slot := 2, constantValue := 0 }, { name := "hashIsZero", type := .boolean, accessFlags := 2, slot := 3, constantValue := 0 }, { name := "serialVersionUID", type := .long, accessFlags := 26, slot := 0, constantValue := 0 }, { name := "COMPACT_STRINGS", type := .boolean, accessFlags := 24, slot := 1, constantValue := 0 }, { name := "serialPersistentFields", type := (.array (.object "java/io/ObjectStreamField")), accessFlags := 26, slot := 2, constantValue := 0 }, { name := "REPL", type := .char, accessFlags := 26, slot := 3, constantValue := 0 }, { name := "CASE_INSENSITIVE_ORDER", type := (.object "java/util/Comparator"), accessFlags := 25, slot := 4, constantValue := 0 }, { name := "LATIN1", type := .byte, accessFlags := 24, slot := 5, constantValue := 0 }, { name := "UTF16", type := .byte, accessFlags := 24, slot := 6, constantValue := 0 }]
  methods := #[k9m0, k9m1, k9m2, k9m3]
  instanceTypes := #[(.array .byte), .byte, .int, .boolean]
  staticTypes := #[.long, .boolean, (.array (.object "java/io/ObjectStreamField")), .char, (.object "java/util/Comparator"), .byte, .byte]
  resolved := Array.replicate 1451 none
  statics := some 1 }

def pool10 : Array CpInfo := pool [(6, .class_ 8), (1, u "java/lang/Object"), (0, u "<init>"), (0, u "()V"), (1, .class_ 14), (1, u "java/lang/StringUTF16"), (31, u "$assertionsDisabled"), (0, u "Z"), (13, u "HI_BYTE_SHIFT"), (0, u "I"), (2, u "LO_BYTE_SHIFT"), (49, .methodref 12 116), (0, .nameAndType 117 118), (0, u "compress"), (0, u "([CI[BII)I"), (3, u "([CII)[B"), (138, u "coderFromArrayLen"), (0, u "([BI)B"), (106, .class_ 371), (1, u "java/lang/StringUTF16$LinesSpliterator"), (58, u "MAX_LENGTH"), (196, .class_ 628), (0, u "java/lang/StringUTF16$CodePointsSpliterator"), (0, .class_ 630), (0, u "java/lang/StringUTF16$CharsSpliterator")] 4

def k10m0 : Method := { name := "<init>", desc := "()V", sig := { parameters := [], returnType := none }, accessFlags := 0, code := none }
def k10c1 : Code := { maxStack := 2, maxLocals := 2, code := jdk_52_method_15_code, exceptionTable := #[], attributes := #[] }
def k10m1 : Method := { name := "coderFromArrayLen", desc := "([BI)B", sig := { parameters := [(.array .byte), .int], returnType := some .byte }, accessFlags := 8, code := some k10c1 }
def k10c2 : Code := { maxStack := 5, maxLocals := 6, code := jdk_52_method_16_code, exceptionTable := #[], attributes := #[] }
def k10m2 : Method := { name := "compress", desc := "([CII)[B", sig := { parameters := [(.array .char), .int, .int], returnType := some (.array .byte) }, accessFlags := 9, code := some k10c2 }
def k10c3 : Code := { maxStack := 3, maxLocals := 7, code := jdk_52_method_21_code, exceptionTable := #[], attributes := #[] }
def k10m3 : Method := { name := "compress", desc := "([CI[BII)I", sig := { parameters := [(.array .char), .int, (.array .byte), .int, .int], returnType := some .int }, accessFlags := 9, code := some k10c3 }
/-- java/lang/StringUTF16 -/
def k10 : Class := { plain "java/lang/StringUTF16" (some 0) with
  accessFlags := 48
  interfaces := #[]
  cf := some (fileOf pool10 12 #[.nestMembers #[627, 629, 369]] #[{ accessFlags := 0, nameIndex := 9, descriptorIndex := 10, attributes := #[] }, { accessFlags := 8, nameIndex := 261, descriptorIndex := 262, attributes := #[] }, { accessFlags := 9, nameIndex := 117, descriptorIndex := 122, attributes := #[] }, { accessFlags := 9, nameIndex := 117, descriptorIndex := 118, attributes := #[] }] 48 6 #[] #[{ accessFlags := 26, nameIndex := 61, descriptorIndex := 62, attributes := #[] }, { accessFlags := 26, nameIndex := 65, descriptorIndex := 62, attributes := #[] }, { accessFlags := 24, nameIndex := 430, descriptorIndex := 62, attributes := #[] }, { accessFlags := 4120, nameIndex := 46, descriptorIndex := 47, attributes := #[] }])
  fields := #[{ name := "HI_BYTE_SHIFT", type := .int, accessFlags := 26, slot := 0, constantValue := 0 }, { name := "LO_BYTE_SHIFT", type := .int, accessFlags := 26, slot := 1, constantValue := 0 }, { name := "MAX_LENGTH", type := .int, accessFlags := 24, slot := 2, constantValue := 0 }, { name := "$assertionsDisabled", type := .boolean, accessFlags := 4120, slot := 3, constantValue := 0 }]
  methods := #[k10m0, k10m1, k10m2, k10m3]
  instanceTypes := #[]
  staticTypes := #[.int, .int, .int, .boolean]
  resolved := Array.replicate 635 none
  statics := none }

def pool11 : Array CpInfo := pool [(1, .class_ 2), (0, u "java/lang/Cloneable"), (0, .class_ 4), (0, u "java/lang/Object")] 2

/-- java/lang/Cloneable -/
def k11 : Class := { plain "java/lang/Cloneable" (some 0) with
  accessFlags := 1537
  interfaces := #[]
  cf := some (fileOf pool11 1 #[] #[] 1537 3 #[] #[])
  fields := #[]
  methods := #[]
  instanceTypes := #[]
  staticTypes := #[]
  resolved := Array.replicate 7 none
  statics := none }

def pool12 : Array CpInfo := pool [(4, .class_ 6), (1, u "java/lang/Object"), (0, u "<init>"), (0, u "()V"), (5, .class_ 16), (1, u "java/lang/StringLatin1"), (104, u "$assertionsDisabled"), (0, u "Z"), (98, .class_ 223), (1, u "java/lang/StringLatin1$LinesSpliterator"), (57, u "equals"), (0, u "([B[B)Z"), (107, .class_ 391), (0, u "java/lang/StringLatin1$CharsSpliterator")] 3

def k12m0 : Method := { name := "<init>", desc := "()V", sig := { parameters := [], returnType := none }, accessFlags := 0, code := none }
def k12c1 : Code := { maxStack := 3, maxLocals := 3, code := jdk_43_method_13_code, exceptionTable := #[], attributes := #[] }
def k12m1 : Method := { name := "equals", desc := "([B[B)Z", sig := { parameters := [(.array .byte), (.array .byte)], returnType := some .boolean }, accessFlags := 9, code := some k12c1 }
/-- java/lang/StringLatin1 -/
def k12 : Class := { plain "java/lang/StringLatin1" (some 0) with
  accessFlags := 48
  interfaces := #[]
  cf := some (fileOf pool12 14 #[.nestMembers #[390, 221]] #[{ accessFlags := 0, nameIndex := 7, descriptorIndex := 8, attributes := #[] }, { accessFlags := 9, nameIndex := 281, descriptorIndex := 282, attributes := #[] }] 48 4 #[] #[{ accessFlags := 4120, nameIndex := 121, descriptorIndex := 122, attributes := #[] }])
  fields := #[{ name := "$assertionsDisabled", type := .boolean, accessFlags := 4120, slot := 0, constantValue := 0 }]
  methods := #[k12m0, k12m1]
  instanceTypes := #[]
  staticTypes := #[.boolean]
  resolved := Array.replicate 395 none
  statics := none }

def pool13 : Array CpInfo := pool [(2, .class_ 4), (1, u "java/lang/Object"), (0, u "<init>"), (0, u "()V"), (17, .class_ 26), (1, u "jdk/internal/util/Preconditions"), (28, .class_ 56), (0, u "jdk/internal/util/Preconditions$4"), (57, .class_ 115), (0, u "jdk/internal/util/Preconditions$1"), (7, u "SIOOBE_FORMATTER"), (0, u "Ljava/util/function/BiFunction;"), (0, .class_ 126), (0, u "jdk/internal/util/Preconditions$2"), (3, u "AIOOBE_FORMATTER"), (0, .class_ 132), (0, u "jdk/internal/util/Preconditions$3"), (3, u "IOOBE_FORMATTER")] 57

def k13m0 : Method := { name := "<init>", desc := "()V", sig := { parameters := [], returnType := none }, accessFlags := 1, code := none }
/-- jdk/internal/util/Preconditions -/
def k13 : Class := { plain "jdk/internal/util/Preconditions" (some 0) with
  accessFlags := 33
  interfaces := #[]
  cf := some (fileOf pool13 24 #[.nestMembers #[55, 131, 125, 114]] #[{ accessFlags := 1, nameIndex := 5, descriptorIndex := 6, attributes := #[] }] 33 2 #[] #[{ accessFlags := 25, nameIndex := 123, descriptorIndex := 124, attributes := #[] }, { accessFlags := 25, nameIndex := 130, descriptorIndex := 124, attributes := #[] }, { accessFlags := 25, nameIndex := 136, descriptorIndex := 124, attributes := #[] }])
  fields := #[{ name := "SIOOBE_FORMATTER", type := (.object "java/util/function/BiFunction"), accessFlags := 25, slot := 0, constantValue := 0 }, { name := "AIOOBE_FORMATTER", type := (.object "java/util/function/BiFunction"), accessFlags := 25, slot := 1, constantValue := 0 }, { name := "IOOBE_FORMATTER", type := (.object "java/util/function/BiFunction"), accessFlags := 25, slot := 2, constantValue := 0 }]
  methods := #[k13m0]
  instanceTypes := #[]
  staticTypes := #[(.object "java/util/function/BiFunction"), (.object "java/util/function/BiFunction"), (.object "java/util/function/BiFunction")]
  resolved := Array.replicate 194 none
  statics := some 2 }

def pool14 : Array CpInfo := pool [(9, u "<init>"), (6, .class_ 18), (1, u "java/lang/Object"), (0, u "()V"), (1, .class_ 23), (1, u "jdk/internal/util/ArraysSupport"), (0, u "LOG2_ARRAY_LONG_INDEX_SCALE"), (0, u "I"), (2, u "U"), (0, u "Ljdk/internal/misc/Unsafe;"), (8, u "BIG_ENDIAN"), (0, u "Z"), (8, u "LOG2_BYTE_BIT_SIZE"), (4, u "LOG2_ARRAY_INT_INDEX_SCALE"), (54, u "JLA"), (0, u "Ljdk/internal/access/JavaLangAccess;"), (11, u "LOG2_ARRAY_BOOLEAN_INDEX_SCALE"), (9, u "LOG2_ARRAY_BYTE_INDEX_SCALE"), (5, u "LOG2_ARRAY_CHAR_INDEX_SCALE"), (5, u "LOG2_ARRAY_SHORT_INDEX_SCALE"), (18, u "LOG2_ARRAY_FLOAT_INDEX_SCALE"), (24, u "LOG2_ARRAY_DOUBLE_INDEX_SCALE"), (89, u "T_BOOLEAN"), (2, u "T_CHAR"), (1, u "T_FLOAT"), (1, u "T_DOUBLE"), (1, u "T_BYTE"), (1, u "T_SHORT"), (1, u "T_INT"), (1, u "T_LONG"), (1, u "SOFT_MAX_ARRAY_LENGTH")] 83

def k14m0 : Method := { name := "<init>", desc := "()V", sig := { parameters := [], returnType := none }, accessFlags := 2, code := none }
/-- jdk/internal/util/ArraysSupport -/
def k14 : Class := { plain "jdk/internal/util/ArraysSupport" (some 0) with
  accessFlags := 33
  interfaces := #[]
  cf := some (fileOf pool14 21 #[] #[{ accessFlags := 2, nameIndex := 9, descriptorIndex := 19, attributes := #[] }] 33 16 #[] #[{ accessFlags := 24, nameIndex := 28, descriptorIndex := 29, attributes := #[] }, { accessFlags := 26, nameIndex := 38, descriptorIndex := 39, attributes := #[] }, { accessFlags := 25, nameIndex := 121, descriptorIndex := 25, attributes := #[] }, { accessFlags := 25, nameIndex := 131, descriptorIndex := 25, attributes := #[] }, { accessFlags := 25, nameIndex := 137, descriptorIndex := 25, attributes := #[] }, { accessFlags := 25, nameIndex := 143, descriptorIndex := 25, attributes := #[] }, { accessFlags := 25, nameIndex := 53, descriptorIndex := 25, attributes := #[] }, { accessFlags := 25, nameIndex := 24, descriptorIndex := 25, attributes := #[] }, { accessFlags := 25, nameIndex := 162, descriptorIndex := 25, attributes := #[] }, { accessFlags := 25, nameIndex := 187, descriptorIndex := 25, attributes := #[] }, { accessFlags := 26, nameIndex := 48, descriptorIndex := 25, attributes := #[] }, { accessFlags := 25, nameIndex := 277, descriptorIndex := 25, attributes := #[] }, { accessFlags := 25, nameIndex := 280, descriptorIndex := 25, attributes := #[] }, { accessFlags := 25, nameIndex := 282, descriptorIndex := 25, attributes := #[] }, { accessFlags := 25, nameIndex := 284, descriptorIndex := 25, attributes := #[] }, { accessFlags := 25, nameIndex := 286, descriptorIndex := 25, attributes := #[] }, { accessFlags := 25, nameIndex := 288, descriptorIndex := 25, attributes := #[] }, { accessFlags := 25, nameIndex := 290, descriptorIndex := 25, attributes := #[] }, { accessFlags := 25, nameIndex := 292, descriptorIndex := 25, attributes := #[] }, { accessFlags := 26, nameIndex := 108, descriptorIndex := 109, attributes := #[] }, { accessFlags := 25, nameIndex := 294, descriptorIndex := 25, attributes := #[] }])
  fields := #[{ name := "U", type := (.object "jdk/internal/misc/Unsafe"), accessFlags := 24, slot := 0, constantValue := 0 }, { name := "BIG_ENDIAN", type := .boolean, accessFlags := 26, slot := 1, constantValue := 0 }, { name := "LOG2_ARRAY_BOOLEAN_INDEX_SCALE", type := .int, accessFlags := 25, slot := 2, constantValue := 0 }, { name := "LOG2_ARRAY_BYTE_INDEX_SCALE", type := .int, accessFlags := 25, slot := 3, constantValue := 0 }, { name := "LOG2_ARRAY_CHAR_INDEX_SCALE", type := .int, accessFlags := 25, slot := 4, constantValue := 0 }, { name := "LOG2_ARRAY_SHORT_INDEX_SCALE", type := .int, accessFlags := 25, slot := 5, constantValue := 0 }, { name := "LOG2_ARRAY_INT_INDEX_SCALE", type := .int, accessFlags := 25, slot := 6, constantValue := 0 }, { name := "LOG2_ARRAY_LONG_INDEX_SCALE", type := .int, accessFlags := 25, slot := 7, constantValue := 0 }, { name := "LOG2_ARRAY_FLOAT_INDEX_SCALE", type := .int, accessFlags := 25, slot := 8, constantValue := 0 }, { name := "LOG2_ARRAY_DOUBLE_INDEX_SCALE", type := .int, accessFlags := 25, slot := 9, constantValue := 0 }, { name := "LOG2_BYTE_BIT_SIZE", type := .int, accessFlags := 26, slot := 10, constantValue := 0 }, { name := "T_BOOLEAN", type := .int, accessFlags := 25, slot := 11, constantValue := 0 }, { name := "T_CHAR", type := .int, accessFlags := 25, slot := 12, constantValue := 0 }, { name := "T_FLOAT", type := .int, accessFlags := 25, slot := 13, constantValue := 0 }, { name := "T_DOUBLE", type := .int, accessFlags := 25, slot := 14, constantValue := 0 }, { name := "T_BYTE", type := .int, accessFlags := 25, slot := 15, constantValue := 0 }, { name := "T_SHORT", type := .int, accessFlags := 25, slot := 16, constantValue := 0 }, { name := "T_INT", type := .int, accessFlags := 25, slot := 17, constantValue := 0 }, { name := "T_LONG", type := .int, accessFlags := 25, slot := 18, constantValue := 0 }, { name := "JLA", type := (.object "jdk/internal/access/JavaLangAccess"), accessFlags := 26, slot := 19, constantValue := 0 }, { name := "SOFT_MAX_ARRAY_LENGTH", type := .int, accessFlags := 25, slot := 20, constantValue := 0 }]
  methods := #[k14m0]
  instanceTypes := #[]
  staticTypes := #[(.object "jdk/internal/misc/Unsafe"), .boolean, .int, .int, .int, .int, .int, .int, .int, .int, .int, .int, .int, .int, .int, .int, .int, .int, .int, (.object "jdk/internal/access/JavaLangAccess"), .int]
  resolved := Array.replicate 378 none
  statics := none }

/-- the primitive byte -/
def k15 : Class := { plain "byte" none with kind := .primitive 'B', accessFlags := 0x411 }
/-- [B -/
def k16 : Class := { plain "[B" (some 0) with kind := .array 15 .byte, interfaces := #[11, 4], accessFlags := 1041 }

/-- the primitive char -/
def k17 : Class := { plain "char" none with kind := .primitive 'C', accessFlags := 0x411 }
/-- [C -/
def k18 : Class := { plain "[C" (some 0) with kind := .array 17 .char, interfaces := #[11, 4], accessFlags := 1041 }

/-- the primitive int -/
def k19 : Class := { plain "int" none with kind := .primitive 'I', accessFlags := 0x411 }
/-- [I -/
def k20 : Class := { plain "[I" (some 0) with kind := .array 19 .int, interfaces := #[11, 4], accessFlags := 1041 }

/-- [Lcom/example/thing_access_ledger/thingaccessledger/PolicyState; -/
def k21 : Class := { plain "[Lcom/example/thing_access_ledger/thingaccessledger/PolicyState;" (some 0) with kind := .array 6 (.object "com/example/thing_access_ledger/thingaccessledger/PolicyState"), interfaces := #[11, 4], accessFlags := 1041 }

def heap : Heap := #[{ cls := 6, slots := #[.ref 4, .ref 5, .ref 6, .ref 7, .ref 3], vm := .statics 6 },
  { cls := 9, slots := #[.long 0, .int 1, .null, .int 0, .null, .int 0, .int 0], vm := .statics 9 },
  { cls := 13, slots := #[.null, .null, .null], vm := .statics 13 },
  { cls := 21, slots := #[.ref 4, .ref 5, .ref 6, .ref 7], vm := .none },
  { cls := 6, slots := #[.null, .int 0, .int 0, .ref 8], vm := .none },
  { cls := 6, slots := #[.null, .int 1, .int 0, .ref 9], vm := .none },
  { cls := 6, slots := #[.null, .int 2, .int 0, .ref 10], vm := .none },
  { cls := 6, slots := #[.null, .int 3, .int 0, .ref 11], vm := .none },
  { cls := 9, slots := #[.ref 12, .int 0, .int 0, .int 0], vm := .none },
  { cls := 9, slots := #[.ref 13, .int 0, .int 0, .int 0], vm := .none },
  { cls := 9, slots := #[.ref 14, .int 0, .int 0, .int 0], vm := .none },
  { cls := 9, slots := #[.ref 15, .int 0, .int 0, .int 0], vm := .none },
  { cls := 16, slots := #[.int 67, .int 114, .int 101, .int 97, .int 116, .int 101, .int 100], vm := .none },
  { cls := 16, slots := #[.int 69, .int 110, .int 97, .int 98, .int 108, .int 101, .int 100], vm := .none },
  { cls := 16, slots := #[.int 68, .int 105, .int 115, .int 97, .int 98, .int 108, .int 101, .int 100], vm := .none },
  { cls := 16, slots := #[.int 82, .int 101, .int 118, .int 111, .int 107, .int 101, .int 100], vm := .none }]
def classes : Array Class := #[k0, k1, k2, k3, k4, k5, k6, k7, k8, k9, k10, k11, k12, k13, k14, k15, k16, k17, k18, k19, k20, k21]
def interned : List (Array UInt16 × Addr) := []
def slotsUsed : Nat := 80
def theMethod : MethodId := ⟨1, 1⟩
def args0 : Array Value := #[.int 5]
def aboutOver (below : List Frame) : State where
  vm := { classes := classes, interned := interned.toArray }
  heap := heap
  slotsUsed := slotsUsed
  threads := #[{ frames := .invoking theMethod args0 :: below }]
def below0 : List Frame := [.native { method := ⟨0, 0⟩, args := #[] }]
def about1 : State := aboutOver below0
def p0 : Program := .bare "" "" ""
def e0 : Env := launch0.env 0 0 0
theorem w_frames : about1.frames = Frame.invoking theMethod args0 :: below0 := rfl
set_option maxRecDepth 65536 in
theorem w_args : argsFit about1.vm theMethod args0 = true := by decide +kernel
set_option maxRecDepth 65536 in
theorem w_heap : heapFits about1 = true := by decide +kernel
set_option maxRecDepth 65536 in
theorem w_runnable : about1.curStatus? = some .runnable := by decide +kernel
set_option maxRecDepth 65536 in
theorem w_alone : about1.alone = true := by decide +kernel
set_option maxRecDepth 65536 in
theorem w_named : about1.methodNamed? x = some theMethod := by decide +kernel
set_option maxRecDepth 65536 in
theorem w_hears : about1.hears theMethod below0 = true := by decide +kernel
set_option maxRecDepth 65536 in
theorem w_ripe : about1.ripe theMethod args0 below0 = true := by decide +kernel
theorem w_running : about1.status = .running := rfl
set_option maxRecDepth 65536 in
theorem w_room : about1.hasRoom e0.platform room_1 = true :=
  launch0.hasRoom_least _ room_1 (by decide +kernel) (by decide +kernel) (by decide +kernel) (by decide +kernel) (by decide +kernel) (by decide +kernel)
theorem allAtoms_all (ts : List Jvm.Cond) (a : Array Jvm.Value) (st : Jvm.State) : (allAtoms ts).before a st = ts.all (fun c => c.before a st) := by
  induction ts with
  | nil => rfl
  | cons c t ih =>
    show (Jvm.Cond.and c (allAtoms t)).before a st = _
    rw [Jvm.Cond.before_and, ih, List.all_cons]
def words1 : List Jvm.Cond := Jvm.Cond.code x code maxLocals ret :: tables_1
/-- a 'code' word, met by the world's own term for the bytes: nothing is compared byte by byte -/
theorem code_word {y : MethodName} {bytes : ByteArray} {mx : Nat} {rt : Option FieldType} {a : Array Value} {s : State} {m : MethodId} {meth : Method} {c : Code} (h1 : s.methodNamed? y = some m) (h2 : s.vm.method? m = some meth) (h3 : meth.code = some c) (h4 : c.code = bytes)
    (h5 : (c.maxLocals == mx && c.exceptionTable.isEmpty && decide (c.maxStack ≤ mostOperands) && decide (meth.sig.returnType = rt) && !meth.locks && decide (parseMethodDescriptor y.desc = some meth.sig)) = true) : (Jvm.Cond.code y bytes mx rt).before a s = true := by
  simp only [Bool.and_eq_true, beq_iff_eq, Bool.not_eq_true', decide_eq_true_eq] at h5
  obtain ⟨⟨⟨⟨⟨g1, g2⟩, g3⟩, g4⟩, g5⟩, g6⟩ := h5
  simp [Cond.before, Cond.holds, Cond.value, h1, h2, h3, h4, g1, g2, g3, g4, g5, g6]
def isCode : Jvm.Cond → Bool
  | .code _ _ _ _ => true
  | _ => false
theorem all_split {L : List Jvm.Cond} {P : Jvm.Cond → Bool} (h1 : L.all (fun c => isCode c || P c) = true) (h2 : ∀ c ∈ L.filter isCode, P c = true) : L.all P = true := by
  refine List.all_eq_true.mpr fun c hc => ?_
  have h := List.all_eq_true.mp h1 c hc
  rcases Bool.eq_false_or_eq_true (isCode c) with hi | hi
  · exact h2 c (List.mem_filter.mpr ⟨hc, hi⟩)
  · simpa [hi] using h
set_option maxRecDepth 65536 in
theorem w_c0 : (Jvm.Cond.code x code maxLocals ret).before args0 about1 = true := code_word (m := ⟨1, 1⟩) (meth := k1m1) (c := k1c1) (by decide +kernel) rfl rfl rfl (by decide +kernel)
set_option maxRecDepth 65536 in
theorem w_c1 : (Jvm.Cond.code ({ cls := "java/lang/String", name := "<init>", desc := "([C)V" } : Jvm.MethodName) jdk_42_method_3_code (2 : Nat) (Option.none : Option Jvm.ClassFile.FieldType)).before args0 about1 = true := code_word (m := ⟨9, 1⟩) (meth := k9m1) (c := k9c1) (by decide +kernel) rfl rfl rfl (by decide +kernel)
set_option maxRecDepth 65536 in
theorem w_c2 : (Jvm.Cond.code ({ cls := "java/lang/String", name := "<init>", desc := "([CIILjava/lang/Void;)V" } : Jvm.MethodName) jdk_42_method_149_code (6 : Nat) (Option.none : Option Jvm.ClassFile.FieldType)).before args0 about1 = true := code_word (m := ⟨9, 3⟩) (meth := k9m3) (c := k9c3) (by decide +kernel) rfl rfl rfl (by decide +kernel)
set_option maxRecDepth 65536 in
theorem w_c3 : (Jvm.Cond.code ({ cls := "java/lang/Object", name := "<init>", desc := "()V" } : Jvm.MethodName) object_method_1_code (1 : Nat) (Option.none : Option Jvm.ClassFile.FieldType)).before args0 about1 = true := code_word (m := ⟨0, 0⟩) (meth := k0m0) (c := k0c0) (by decide +kernel) rfl rfl rfl (by decide +kernel)
set_option maxRecDepth 65536 in
theorem w_c4 : (Jvm.Cond.code ({ cls := "java/lang/StringUTF16", name := "compress", desc := "([CII)[B" } : Jvm.MethodName) jdk_52_method_16_code (6 : Nat) (Option.some (Jvm.ClassFile.FieldType.array Jvm.ClassFile.FieldType.byte))).before args0 about1 = true := code_word (m := ⟨10, 2⟩) (meth := k10m2) (c := k10c2) (by decide +kernel) rfl rfl rfl (by decide +kernel)
set_option maxRecDepth 65536 in
theorem w_c5 : (Jvm.Cond.code ({ cls := "java/lang/StringUTF16", name := "compress", desc := "([CI[BII)I" } : Jvm.MethodName) jdk_52_method_21_code (7 : Nat) (Option.some Jvm.ClassFile.FieldType.int)).before args0 about1 = true := code_word (m := ⟨10, 3⟩) (meth := k10m3) (c := k10c3) (by decide +kernel) rfl rfl rfl (by decide +kernel)
set_option maxRecDepth 65536 in
theorem w_c6 : (Jvm.Cond.code ({ cls := "java/lang/StringUTF16", name := "coderFromArrayLen", desc := "([BI)B" } : Jvm.MethodName) jdk_52_method_15_code (2 : Nat) (Option.some Jvm.ClassFile.FieldType.byte)).before args0 about1 = true := code_word (m := ⟨10, 1⟩) (meth := k10m1) (c := k10c1) (by decide +kernel) rfl rfl rfl (by decide +kernel)
set_option maxRecDepth 65536 in
theorem w_c7 : (Jvm.Cond.code ({ cls := "com/example/thing_access_ledger/thingaccessledger/PolicyState", name := "of", desc := "(Ljava/lang/String;)Lcom/example/thing_access_ledger/thingaccessledger/PolicyState;" } : Jvm.MethodName) prog_19_method_4_code (5 : Nat) (Option.some (Jvm.ClassFile.FieldType.object "com/example/thing_access_ledger/thingaccessledger/PolicyState"))).before args0 about1 = true := code_word (m := ⟨6, 1⟩) (meth := k6m1) (c := k6c1) (by decide +kernel) rfl rfl rfl (by decide +kernel)
set_option maxRecDepth 65536 in
theorem w_c8 : (Jvm.Cond.code ({ cls := "com/example/thing_access_ledger/thingaccessledger/PolicyState", name := "values", desc := "()[Lcom/example/thing_access_ledger/thingaccessledger/PolicyState;" } : Jvm.MethodName) prog_19_method_1_code (0 : Nat) (Option.some (Jvm.ClassFile.FieldType.array (Jvm.ClassFile.FieldType.object "com/example/thing_access_ledger/thingaccessledger/PolicyState")))).before args0 about1 = true := code_word (m := ⟨6, 0⟩) (meth := k6m0) (c := k6c0) (by decide +kernel) rfl rfl rfl (by decide +kernel)
set_option maxRecDepth 65536 in
theorem w_c9 : (Jvm.Cond.code ({ cls := "java/lang/String", name := "equals", desc := "(Ljava/lang/Object;)Z" } : Jvm.MethodName) jdk_42_method_66_code (3 : Nat) (Option.some Jvm.ClassFile.FieldType.boolean)).before args0 about1 = true := code_word (m := ⟨9, 2⟩) (meth := k9m2) (c := k9c2) (by decide +kernel) rfl rfl rfl (by decide +kernel)
set_option maxRecDepth 65536 in
theorem w_c10 : (Jvm.Cond.code ({ cls := "java/lang/StringLatin1", name := "equals", desc := "([B[B)Z" } : Jvm.MethodName) jdk_43_method_13_code (3 : Nat) (Option.some Jvm.ClassFile.FieldType.boolean)).before args0 about1 = true := code_word (m := ⟨12, 1⟩) (meth := k12m1) (c := k12c1) (by decide +kernel) rfl rfl rfl (by decide +kernel)
def codes1 : List Jvm.Cond := [Jvm.Cond.code x code maxLocals ret, Jvm.Cond.code ({ cls := "java/lang/String", name := "<init>", desc := "([C)V" } : Jvm.MethodName) jdk_42_method_3_code (2 : Nat) (Option.none : Option Jvm.ClassFile.FieldType), Jvm.Cond.code ({ cls := "java/lang/String", name := "<init>", desc := "([CIILjava/lang/Void;)V" } : Jvm.MethodName) jdk_42_method_149_code (6 : Nat) (Option.none : Option Jvm.ClassFile.FieldType), Jvm.Cond.code ({ cls := "java/lang/Object", name := "<init>", desc := "()V" } : Jvm.MethodName) object_method_1_code (1 : Nat) (Option.none : Option Jvm.ClassFile.FieldType), Jvm.Cond.code ({ cls := "java/lang/StringUTF16", name := "compress", desc := "([CII)[B" } : Jvm.MethodName) jdk_52_method_16_code (6 : Nat) (Option.some (Jvm.ClassFile.FieldType.array Jvm.ClassFile.FieldType.byte)), Jvm.Cond.code ({ cls := "java/lang/StringUTF16", name := "compress", desc := "([CI[BII)I" } : Jvm.MethodName) jdk_52_method_21_code (7 : Nat) (Option.some Jvm.ClassFile.FieldType.int), Jvm.Cond.code ({ cls := "java/lang/StringUTF16", name := "coderFromArrayLen", desc := "([BI)B" } : Jvm.MethodName) jdk_52_method_15_code (2 : Nat) (Option.some Jvm.ClassFile.FieldType.byte), Jvm.Cond.code ({ cls := "com/example/thing_access_ledger/thingaccessledger/PolicyState", name := "of", desc := "(Ljava/lang/String;)Lcom/example/thing_access_ledger/thingaccessledger/PolicyState;" } : Jvm.MethodName) prog_19_method_4_code (5 : Nat) (Option.some (Jvm.ClassFile.FieldType.object "com/example/thing_access_ledger/thingaccessledger/PolicyState")), Jvm.Cond.code ({ cls := "com/example/thing_access_ledger/thingaccessledger/PolicyState", name := "values", desc := "()[Lcom/example/thing_access_ledger/thingaccessledger/PolicyState;" } : Jvm.MethodName) prog_19_method_1_code (0 : Nat) (Option.some (Jvm.ClassFile.FieldType.array (Jvm.ClassFile.FieldType.object "com/example/thing_access_ledger/thingaccessledger/PolicyState"))), Jvm.Cond.code ({ cls := "java/lang/String", name := "equals", desc := "(Ljava/lang/Object;)Z" } : Jvm.MethodName) jdk_42_method_66_code (3 : Nat) (Option.some Jvm.ClassFile.FieldType.boolean), Jvm.Cond.code ({ cls := "java/lang/StringLatin1", name := "equals", desc := "([B[B)Z" } : Jvm.MethodName) jdk_43_method_13_code (3 : Nat) (Option.some Jvm.ClassFile.FieldType.boolean)]
set_option maxRecDepth 65536 in
theorem codes_eq : words1.filter isCode = codes1 := rfl
theorem w_codes : ∀ c ∈ words1.filter isCode, c.before args0 about1 = true := by
  rw [codes_eq]
  intro c hc
  simp only [codes1, List.mem_cons, List.not_mem_nil, or_false] at hc
  rcases hc with rfl | rfl | rfl | rfl | rfl | rfl | rfl | rfl | rfl | rfl | rfl
  · exact w_c0
  · exact w_c1
  · exact w_c2
  · exact w_c3
  · exact w_c4
  · exact w_c5
  · exact w_c6
  · exact w_c7
  · exact w_c8
  · exact w_c9
  · exact w_c10
set_option maxRecDepth 65536 in
theorem w_t1 : (words1.take 24).all (fun c => isCode c || c.before args0 about1) = true := by decide +kernel
set_option maxRecDepth 65536 in
theorem w_t2 : ((words1.drop 24).take 24).all (fun c => isCode c || c.before args0 about1) = true := by decide +kernel
set_option maxRecDepth 65536 in
theorem w_t3 : ((words1.drop 24).drop 24).all (fun c => isCode c || c.before args0 about1) = true := by decide +kernel
theorem w_tables : (allAtoms (Jvm.Cond.code x code maxLocals ret :: tables_1)).before args0 about1 = true := by
  rw [allAtoms_all]
  show words1.all (fun c => c.before args0 about1) = true
  refine all_split ?_ w_codes
  rw [← List.take_append_drop 24 words1, List.all_append, w_t1, ← List.take_append_drop 24 (words1.drop 24), List.all_append, w_t2, w_t3]
  rfl
set_option maxRecDepth 65536 in
theorem w_rest : rest_1_c.before args0 about1 = true := by decide +kernel
set_option maxRecDepth 65536 in
theorem w_case : (Jvm.Cond.and given_1 narrow_1).before args0 about1 = true := by decide +kernel
theorem w_applies : (headSpec (Jvm.Cond.code x code maxLocals ret :: tables_1) room_1).applies x e0.platform about1 = true :=
  (Spec.applies_iff w_frames).mpr ⟨w_running, w_runnable, w_alone, w_named, w_hears, w_ripe, w_room, w_tables⟩
theorem atStart : AtStart classFile x code maxLocals ret World_1 tables_1 room_1 Calls_1 rest_1 Pre_1 launch0 p0 e0 about1 theMethod args0 below0 :=
  ⟨lists_1, trivial, launch0.admits_env _ _ _, launch0.least_env, fairChoices_fair.cas, fairChoices_fair.clock, w_frames, w_args, w_heap, w_applies, trivial, w_rest, w_case⟩
end start1
theorem witness_1 : WitnessClaimed_1 := ⟨start1.p0, start1.e0, start1.about1, start1.theMethod, start1.args0, start1.below0, start1.atStart⟩
end Jvm.Pilot.@@N@@
