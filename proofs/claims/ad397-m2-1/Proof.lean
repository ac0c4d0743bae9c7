import JvmDerived
import JvmDerived.Pilot.@@N@@Statement
import JvmDerived.Pilot.@@N@@Code
set_option linter.unusedVariables false
set_option linter.unusedSimpArgs false
namespace Jvm.RoadKit
open Sem ClassFile Op Lib Jvm.Stand Jvm.Free Jvm.LawKit
section New
variable {p : Program} {l : Launch} {e : Env} {R : Room} {s : State} {m : MethodId} {args : Array Value} {below : List Frame} {meth : Method} {c : Code} {T : State} {locs : List Loc} {cells slots : Nat}
theorem retI (X : Stand p l e R s m args below meth c T locs cells slots) (hx : p.tables.exec = Jvm.exec) {pc : Nat} {Ls : Array Slot} {z : Int32} {rest : List Value} (hret : meth.sig.returnType = some .int) (hd : decode c.code pc = .ok (.ireturn, 1)) {fs : List Frame}
    (hl : ∀ (f : JFrame) (acts : List Action), f.method = m → f.locked = none → f.entered = [] → (doReturn e (T.setTop f) acts (some (.int z))).1 = T.setFrames fs) : Steps p.tables e below (T.setTop (mkF m pc Ls (.int z :: rest))) (T.setFrames fs) := by
  have hm' : T.vm.method? m = some meth := X.method'
  have hn : narrow .int (.int z) = .int z := rfl
  show Steps p.tables e below (T.setTop { method := m, pc := pc, locals := Ls, stack := _ :: rest, locked := none }) _
  jvm_step X.here [X.here.top, hx, hd, hm', hret, hn]
  first | (intro acts; rw [hl _ acts rfl rfl rfl]) | rw [hl _ _ rfl rfl rfl]
  exact Steps.refl _
end New
end Jvm.RoadKit
namespace Jvm.RoadKit
open Sem ClassFile Op Lib Jvm.Stand Jvm.Free Jvm.LawKit
section Own
variable {p : Program} {l : Launch} {e : Env} {R : Room} {s : State} {m : MethodId} {args : Array Value} {below : List Frame} {meth : Method} {c : Code} {T T' : State} {locs : List Loc} {cells slots : Nat} {Q : Option Value → Heap → List Loc → Prop} {F : Option Value → State → Prop} {kc ks : Nat} {g g' : JFrame} {Z : State} {a0 : Array Value} {h : Heap}
/-- the body that stands at T with the frame g comes to its end, and leaves what F says -/
def Goes (p : Program) (e : Env) (below : List Frame) (F : Option Value → State → Prop) (T : State) (g : JFrame) : Prop :=
  ∃ s₂ o, Steps p.tables e below (T.setTop g) s₂ ∧ s₂.status = .running ∧ Ended s₂ below o ∧ ∃ v, o = .returned v ∧ F v s₂
def EndQ (s : State) (Q : Option Value → Heap → List Loc → Prop) (kc ks : Nat) (v : Option Value) (t : State) : Prop := ∃ L, Q v t.heap L ∧ FrameEnd s (.returned v) t L kc ks
theorem Goes.give (h : Goes p e below (EndQ s Q kc ks) T g) : ∃ s₂ o, Steps p.tables e below (T.setTop g) s₂ ∧ s₂.status = .running ∧ Ended s₂ below o ∧ ∃ v L, o = .returned v ∧ Q v s₂.heap L ∧ FrameEnd s o s₂ L kc ks := by
  obtain ⟨s2, o, h1, h2, h3, v, rfl, L, h4, h5⟩ := h
  exact ⟨s2, _, h1, h2, h3, v, L, rfl, h4, h5⟩
theorem Goes.step (k : ∀ t, Steps p.tables e below (T'.setTop g') t → Steps p.tables e below (T.setTop g) t) (h : Goes p e below F T' g') : Goes p e below F T g := by
  obtain ⟨s2, o, h1, r⟩ := h
  exact ⟨s2, o, k _ h1, r⟩
theorem Goes.out {v : Option Value} (X : Stand p l e R s m args below meth c T locs cells slots) (hlk : meth.locks = false) (hv : meth.sig.returnType = none → v = none) (hq : Q v T.heap locs) (hc : cells ≤ kc) (hs : slots ≤ ks)
    (k : ∀ fs, (∀ (f : JFrame) (acts : List Action), f.method = m → f.locked = none → f.entered = [] → (doReturn e (T.setTop f) acts v).1 = T.setFrames fs) → Steps p.tables e below (T.setTop g) (T.setFrames fs)) : Goes p e below (EndQ s Q kc ks) T g := by
  obtain ⟨fs, hr, hrun, hended, hW, hsame⟩ := X.leave (v := v) hv hlk
  exact ⟨_, _, k fs hr, hrun, hended, _, rfl, _, hq, ⟨_, rfl⟩, hW, hsame.mono hc hs⟩
theorem Goes.retI (X : Stand p l e R s m args below meth c T locs cells slots) (hx : p.tables.exec = Jvm.exec) (hlk : meth.locks = false) {pc : Nat} {Ls : Array Slot} {z : Int32} {rest : List Value} (hret : meth.sig.returnType = some .int) (hd : decode c.code pc = .ok (.ireturn, 1))
    (hc : cells ≤ kc) (hs : slots ≤ ks) (hq : Q (some (.int z)) T.heap locs) : Goes p e below (EndQ s Q kc ks) T (mkF m pc Ls (.int z :: rest)) :=
  Goes.out X hlk (fun h => by rw [hret] at h; cases h) hq hc hs fun fs hr => RoadKit.retI X hx hret hd hr
theorem Goes.retN (X : Stand p l e R s m args below meth c T locs cells slots) (hx : p.tables.exec = Jvm.exec) (hlk : meth.locks = false) {pc : Nat} {Ls : Array Slot} {z : Int32} {t : FieldType} {rest : List Value} (hret : meth.sig.returnType = some t) (ht : t = .boolean ∨ t = .byte ∨ t = .char ∨ t = .short) (hd : decode c.code pc = .ok (.ireturn, 1))
    (hc : cells ≤ kc) (hs : slots ≤ ks) (hq : Q (some (.int (nar t z))) T.heap locs) : Goes p e below (EndQ s Q kc ks) T (mkF m pc Ls (.int z :: rest)) :=
  Goes.out X hlk (fun h => by rw [hret] at h; cases h) hq hc hs fun fs hr => RoadKit.retN X hx hret ht hd hr
theorem Goes.retA (X : Stand p l e R s m args below meth c T locs cells slots) (hx : p.tables.exec = Jvm.exec) (hlk : meth.locks = false) {pc : Nat} {Ls : Array Slot} {w : Value} {t : FieldType} {rest : List Value} (hret : meth.sig.returnType = some t) (ht : t.isReference = true) (hw : w.isRef = true) (hd : decode c.code pc = .ok (.areturn, 1))
    (hc : cells ≤ kc) (hs : slots ≤ ks) (hq : Q (some w) T.heap locs) : Goes p e below (EndQ s Q kc ks) T (mkF m pc Ls (w :: rest)) :=
  Goes.out X hlk (fun h => by rw [hret] at h; cases h) hq hc hs fun fs hr => RoadKit.retOut X hx hret (by cases w <;> cases t <;> first | rfl | (simp [FieldType.isReference] at ht) | (simp [Value.isRef] at hw)) (Or.inr (Or.inr (Or.inr (Or.inr ⟨rfl, ht, hw⟩)))) hd hr
theorem Goes.retJ (X : Stand p l e R s m args below meth c T locs cells slots) (hx : p.tables.exec = Jvm.exec) (hlk : meth.locks = false) {pc : Nat} {Ls : Array Slot} {z : Int64} {rest : List Value} (hret : meth.sig.returnType = some .long) (hd : decode c.code pc = .ok (.lreturn, 1))
    (hc : cells ≤ kc) (hs : slots ≤ ks) (hq : Q (some (.long z)) T.heap locs) : Goes p e below (EndQ s Q kc ks) T (mkF m pc Ls (.long z :: rest)) :=
  Goes.out X hlk (fun h => by rw [hret] at h; cases h) hq hc hs fun fs hr => RoadKit.retOut X hx hret rfl (Or.inr (Or.inl ⟨rfl, rfl, _, rfl⟩)) hd hr
theorem Goes.retV (X : Stand p l e R s m args below meth c T locs cells slots) (hx : p.tables.exec = Jvm.exec) (hlk : meth.locks = false) {pc : Nat} {Ls : Array Slot} (hret : meth.sig.returnType = none) (hd : decode c.code pc = .ok (.return_, 1))
    (hc : cells ≤ kc) (hs : slots ≤ ks) (hq : Q none T.heap locs) : Goes p e below (EndQ s Q kc ks) T (mkF m pc Ls []) :=
  Goes.out X hlk (fun _ => rfl) hq hc hs fun fs hr => X.returnOut hx hret hd hr
/-- a static call, by its callee's contract -/
theorem Goes.callS (X : Stand p l e R s m args below meth c T locs cells slots) (hx : p.tables.exec = Jvm.exec) {own : String} {index : Nat} {y : MethodName} {bytes : ByteArray} {maxL : Nat} {ret : Option FieldType}
    (hown : s.vm.findClass own = some m.cls) (hlink : (Cond.methodLink own index y).before args s = true) (hstat : (Cond.static y).before args s = true) (hinit : (Cond.initialized y.cls).before args s = true)
    (hcode : (Cond.code y bytes maxL ret).before args s = true) (hy : y.cls ≠ "java/lang/invoke/MethodHandle" ∧ y.cls ≠ "java/lang/invoke/VarHandle")
    {W : Nat} {as' : Array Value} {Qc : Option Value → Heap → List Loc → Prop} {kc' ks' : Nat}
    (hK : Back l R p e below s args y 3 W (fun A a => a = as' ∧ A.U.heap = h ∧ A.cells + kc' ≤ R.cells ∧ A.slots + ks' ≤ R.slots) (fun A _ v B => ∃ L, Qc v B.U.heap L ∧ B.locs = A.locs ++ L ∧ B.cells = A.cells + kc' ∧ B.slots = A.slots + ks'))
    (hg : g.method = m) (hsize : g.locals.size = c.maxLocals) {argsL rest : List Value} (hlen : ∀ sig, parseMethodDescriptor y.desc = some sig → argsL.length = sig.parameters.length)
    (hstack : g.stack = argsL.reverse ++ rest) (hW : 2 * g.monitorRoom + (rest.map fun v => v.category).sum ≤ W) (hdg : decode c.code g.pc = .ok (.invokestatic index, 3)) (ha : argsL.toArray = as') (eT : T.heap = h) (hc : cells + kc' ≤ R.cells) (hs : slots + ks' ≤ R.slots)
    (k : ∀ (v : Option Value) (T' : State) (L : List Loc), Qc v T'.heap L → Stand p l e R s m args below meth c T' (locs ++ L) (cells + kc') (slots + ks') → Goes p e below F T' { g with pc := g.pc + 3, stack := v.toList ++ rest }) : Goes p e below F T g := by
  obtain ⟨v, vm₁, ⟨T', L', k', n'⟩, -, X', ⟨L, hQ, h1, h2, h3⟩, st⟩ := Jvm.LawKit.callS X hx hown hlink hstat hinit hcode hy hK hg hsize hlen hstack hW hdg (fun _ _ => ⟨ha, eT, hc, hs⟩)
  dsimp only [Pt.U, Pt.locs, Pt.cells, Pt.slots] at X' h1 h2 h3 st hQ
  subst h1 h2 h3
  exact Goes.step st (k v T' L hQ X')
/-- a constructor, by its contract -/
theorem Goes.callC (X : Stand p l e R s m args below meth c T locs cells slots) (hx : p.tables.exec = Jvm.exec) {own : String} {index : Nat} {y : MethodName} {bytes : ByteArray} {maxL : Nat} (hy1 : y.name = "<init>")
    (hown : s.vm.findClass own = some m.cls) (hlink : (Cond.methodLink own index y).before args s = true) (hinst : (Cond.instanceMethod y).before args s = true) (hcode : (Cond.code y bytes maxL none).before args s = true)
    (hy : y.cls ≠ "java/lang/invoke/MethodHandle" ∧ y.cls ≠ "java/lang/invoke/VarHandle")
    {W : Nat} {as' : Array Value} {Qc : Option Value → Heap → List Loc → Prop} {kc' ks' : Nat}
    (hK : Back l R p e below s args y 3 W (fun A a => a = as' ∧ A.U.heap = h ∧ A.cells + kc' ≤ R.cells ∧ A.slots + ks' ≤ R.slots) (fun A _ v B => ∃ L, Qc v B.U.heap L ∧ B.locs = A.locs ++ L ∧ B.cells = A.cells + kc' ∧ B.slots = A.slots + ks'))
    (hg : g.method = m) (hsize : g.locals.size = c.maxLocals) {a : Addr} {argsL rest : List Value} (hlen : ∀ sig, parseMethodDescriptor y.desc = some sig → argsL.length = sig.parameters.length)
    (hstack : g.stack = argsL.reverse ++ .ref a :: rest) (hW : 2 * g.monitorRoom + (rest.map fun v => v.category).sum ≤ W) (hdg : decode c.code g.pc = .ok (.invokespecial index, 3)) (ha : (.ref a :: argsL).toArray = as') (eT : T.heap = h) (hc : cells + kc' ≤ R.cells) (hs : slots + ks' ≤ R.slots)
    (k : ∀ (v : Option Value) (T' : State) (L : List Loc), Qc v T'.heap L → Stand p l e R s m args below meth c T' (locs ++ L) (cells + kc') (slots + ks') → Goes p e below F T' { g with pc := g.pc + 3, stack := v.toList ++ rest }) : Goes p e below F T g := by
  obtain ⟨v, vm₁, ⟨T', L', k', n'⟩, -, X', ⟨L, hQ, h1, h2, h3⟩, st⟩ := X.specialBack hx hy1 hown hlink hinst hcode hy hK hg hsize (Steps.refl _) hlen hstack hW hdg (fun _ _ => ⟨ha, eT, hc, hs⟩)
  dsimp only [Pt.U, Pt.locs, Pt.cells, Pt.slots] at X' h1 h2 h3 st hQ
  subst h1 h2 h3
  exact Goes.step (fun t q => st.trans q) (k v T' L hQ X')
/-- an instance method, by the contract of the body that is selected -/
theorem Goes.callV (X : Stand p l e R s m args below meth c T locs cells slots) (hx : p.tables.exec = Jvm.exec) (hZ : Z.Warmed39 s.vm) {own C : String} {index : Nat} {y z : MethodName}
    (hown : s.vm.findClass own = some m.cls) (hlink : (Cond.methodLink own index y).before args s = true) (hdecl : (Cond.declares y).before args s = true) (hnf : NotFace s y)
    (hsel : (Cond.selects C y z).before args s = true) (hinst : (Cond.instanceMethod z).before args s = true)
    (hy : y.cls ≠ "java/lang/invoke/MethodHandle" ∧ y.cls ≠ "java/lang/invoke/VarHandle")
    {W : Nat} {as' : Array Value} {Qc : Option Value → Heap → List Loc → Prop} {kc' ks' : Nat}
    (hK : Back l R p e below s args z 3 W (fun A a => a = as' ∧ A.U.heap = h ∧ A.cells + kc' ≤ R.cells ∧ A.slots + ks' ≤ R.slots) (fun A _ v B => ∃ L, Qc v B.U.heap L ∧ B.locs = A.locs ++ L ∧ B.cells = A.cells + kc' ∧ B.slots = A.slots + ks'))
    {b : Addr} (eT : T.heap = h) (E : Exa Z h b C)
    (hg : g.method = m) (hsize : g.locals.size = c.maxLocals) {argsL rest : List Value} (hlen : ∀ sig, parseMethodDescriptor y.desc = some sig → argsL.length = sig.parameters.length)
    (hstack : g.stack = argsL.reverse ++ .ref b :: rest) (hW : 2 * g.monitorRoom + (rest.map fun v => v.category).sum ≤ W) (hdg : decode c.code g.pc = .ok (.invokevirtual index, 3)) (ha : (.ref b :: argsL).toArray = as') (hc : cells + kc' ≤ R.cells) (hs : slots + ks' ≤ R.slots)
    (k : ∀ (v : Option Value) (T' : State) (L : List Loc), Qc v T'.heap L → Stand p l e R s m args below meth c T' (locs ++ L) (cells + kc') (slots + ks') → Goes p e below F T' { g with pc := g.pc + 3, stack := v.toList ++ rest }) : Goes p e below F T g := by
  obtain ⟨cq, kq, qa, qb, qc⟩ := isOf hZ eT E
  obtain ⟨v, vm₁, ⟨T', L', k', n'⟩, -, X', ⟨L, hQ, h1, h2, h3⟩, st⟩ := X.virtualBack hx hown hlink hdecl hnf hsel hinst hy hK qa qc hg hsize (Steps.refl _) hlen hstack hW hdg (fun _ _ => ⟨ha, eT, hc, hs⟩)
  dsimp only [Pt.U, Pt.locs, Pt.cells, Pt.slots] at X' h1 h2 h3 st hQ
  subst h1 h2 h3
  exact Goes.step (fun t q => st.trans q) (k v T' L hQ X')
/-- a private method called by invokevirtual -/
theorem Goes.callP (X : Stand p l e R s m args below meth c T locs cells slots) (hx : p.tables.exec = Jvm.exec) {own C : String} {index : Nat} {y : MethodName} {bytes : ByteArray} {maxL : Nat} {ret : Option FieldType}
    (hown : s.vm.findClass own = some m.cls) (hlink : (Cond.methodLink own index y).before args s = true) (hinst : (Cond.instanceMethod y).before args s = true) (hsel : (Cond.selects y.cls y y).before args s = true)
    (hpriv : s.PrivateAt y) (hcode : (Cond.code y bytes maxL ret).before args s = true)
    (hy : y.cls ≠ "java/lang/invoke/MethodHandle" ∧ y.cls ≠ "java/lang/invoke/VarHandle")
    {W : Nat} {as' : Array Value} {Qc : Option Value → Heap → List Loc → Prop} {kc' ks' : Nat}
    (hK : Back l R p e below s args y 3 W (fun A a => a = as' ∧ A.U.heap = h ∧ A.cells + kc' ≤ R.cells ∧ A.slots + ks' ≤ R.slots) (fun A _ v B => ∃ L, Qc v B.U.heap L ∧ B.locs = A.locs ++ L ∧ B.cells = A.cells + kc' ∧ B.slots = A.slots + ks'))
    {b : Addr} (eT : T.heap = h) (E : Exa Z h b C)
    (hg : g.method = m) (hsize : g.locals.size = c.maxLocals) {argsL rest : List Value} (hlen : ∀ sig, parseMethodDescriptor y.desc = some sig → argsL.length = sig.parameters.length)
    (hstack : g.stack = argsL.reverse ++ .ref b :: rest) (hW : 2 * g.monitorRoom + (rest.map fun v => v.category).sum ≤ W) (hdg : decode c.code g.pc = .ok (.invokevirtual index, 3)) (ha : (.ref b :: argsL).toArray = as') (hc : cells + kc' ≤ R.cells) (hs : slots + ks' ≤ R.slots)
    (k : ∀ (v : Option Value) (T' : State) (L : List Loc), Qc v T'.heap L → Stand p l e R s m args below meth c T' (locs ++ L) (cells + kc') (slots + ks') → Goes p e below F T' { g with pc := g.pc + 3, stack := v.toList ++ rest }) : Goes p e below F T g := by
  obtain ⟨cq, q1, q2⟩ := E.cell
  obtain ⟨v, vm₁, ⟨T', L', k', n'⟩, -, X', ⟨L, hQ, h1, h2, h3⟩, st⟩ := X.privateBack hx hown hlink hinst hsel hpriv hcode hy hK hg hsize (Steps.refl _) (by rw [eT]; exact q1) q2 hlen hstack hW hdg (fun _ _ => ⟨ha, eT, hc, hs⟩)
  dsimp only [Pt.U, Pt.locs, Pt.cells, Pt.slots] at X' h1 h2 h3 st hQ
  subst h1 h2 h3
  exact Goes.step (fun t q => st.trans q) (k v T' L hQ X')
/-- clone() of an array whose elements are known -/
theorem cloneV {a : Addr} {ty : FieldType} (X : Stand p l e R s m args below meth c T locs cells slots) (hx : p.tables.exec = Jvm.exec) (hZ : Z.Warmed39 s.vm) {own ad : String} {index : Nat} (hown : s.vm.findClass own = some m.cls)
    (w1 : (Cond.methodLink own index ⟨ad, "clone", "()Ljava/lang/Object;"⟩).before a0 Z = true) (w2 : (Cond.sameMethod ad "java/lang/Object" "clone" "()Ljava/lang/Object;").before a0 Z = true) (w3 : (Cond.native ⟨"java/lang/Object", "clone", "()Ljava/lang/Object;"⟩).before a0 Z = true)
    (w4 : (Cond.instanceMethod ⟨"java/lang/Object", "clone", "()Ljava/lang/Object;"⟩).before a0 Z = true) (w5 : (Cond.selects ad ⟨ad, "clone", "()Ljava/lang/Object;"⟩ ⟨"java/lang/Object", "clone", "()Ljava/lang/Object;"⟩).before a0 Z = true) (w6 : (Cond.castable ad "java/lang/Cloneable").before a0 Z = true)
    (eT : T.heap = h) {k : ClassId} {z : Int32} {vs : List Value} {dv : Value} (FA : Arv Z h a k ty z vs dv) (E : Exa Z h a ad) {g : JFrame} (hg : g.method = m) (hsize : g.locals.size = c.maxLocals) {rest : List Value} (hst : g.stack = .ref a :: rest) (hd : decode c.code g.pc = .ok (.invokevirtual index, 3))
    (hf : 1 ≤ R.frames) {W cap : Nat} (hW : 2 * g.monitorRoom + (rest.map fun v => v.category).sum ≤ W) (hl : W + 14 ≤ R.locals) (hcap : z.toNatClampNeg ≤ cap) (hc : cells + 1 ≤ R.cells) (hsl : slots + cap ≤ R.slots) :
    ∃ T' h', Stand p l e R s m args below meth c T' locs (cells + 1) (slots + cap) ∧ T'.heap = h' ∧ Ext h h' ∧ Arv Z h' h.size k ty z vs dv ∧ Exa Z h' h.size ad ∧
      ∀ target, Steps p.tables e below (T'.setTop { g with pc := g.pc + 3, stack := .ref h.size :: rest }) target → Steps p.tables e below (T.setTop g) target := by
  obtain ⟨cl, A, q1, S, q3, H, G⟩ := FA
  have FC : FitC Z cl := fitC_of A fun i hi v hv => by rw [H i hi] at hv; cases hv; exact G i hi
  obtain ⟨T', h', X', e', ex, A', E', st⟩ := cloneA X hx hZ hown w1 w2 w3 w4 w5 w6 eT A E FC hg hsize hst hd hf hW hl (by rw [S]; exact hcap) hc hsl
  exact ⟨T', h', X', e', ex, ⟨cloneOf cl, A', q1, S, q3, H, G⟩, E', st⟩
end Own
end Jvm.RoadKit
namespace Jvm.RoadKit
open Sem ClassFile Op Lib Jvm.Stand Jvm.Free Jvm.LawKit
namespace P1
section P1
variable {p : Program} {e : Env} {below : List Frame} {F : Option Value → State → Prop} {T : State} {m : MethodId} {c : Code} {pc : Nat} {Ls : Array Slot} {S : List Value}
theorem aloadN (h : At T m c below) (hx : p.tables.exec = Jvm.exec) {k : Fin 4} {v : Value} (hd : decode c.code pc = .ok (.aload_n k, 1)) (hl : Ls[k.val]? = some (.val v)) (hv : v.isRef = true) (hr : Goes p e below F T (mkF m (pc + 1) Ls (v :: S))) : Goes p e below F T (mkF m pc Ls (S)) := Goes.step (fun t k => XS.aloadN h hx rfl hd hl hv k) hr
theorem aload (h : At T m c below) (hx : p.tables.exec = Jvm.exec) {k : Nat} {v : Value} (hd : decode c.code pc = .ok (.aload k, 2)) (hl : Ls[k]? = some (.val v)) (hv : v.isRef = true) (hr : Goes p e below F T (mkF m (pc + 2) Ls (v :: S))) : Goes p e below F T (mkF m pc Ls (S)) := Goes.step (fun t k => XS.aload h hx rfl hd hl hv k) hr
theorem iloadN (h : At T m c below) (hx : p.tables.exec = Jvm.exec) {k : Fin 4} {v : Int32} (hd : decode c.code pc = .ok (.iload_n k, 1)) (hl : Ls[k.val]? = some (.val (.int v))) (hr : Goes p e below F T (mkF m (pc + 1) Ls ((.int v) :: S))) : Goes p e below F T (mkF m pc Ls (S)) := Goes.step (fun t k => XS.iloadN h hx rfl hd hl k) hr
theorem iload (h : At T m c below) (hx : p.tables.exec = Jvm.exec) {k : Nat} {v : Int32} (hd : decode c.code pc = .ok (.iload k, 2)) (hl : Ls[k]? = some (.val (.int v))) (hr : Goes p e below F T (mkF m (pc + 2) Ls ((.int v) :: S))) : Goes p e below F T (mkF m pc Ls (S)) := Goes.step (fun t k => XS.iload h hx rfl hd hl k) hr
theorem lloadN (h : At T m c below) (hx : p.tables.exec = Jvm.exec) {k : Fin 4} {v : Int64} (hd : decode c.code pc = .ok (.lload_n k, 1)) (hl : Ls[k.val]? = some (.val (.long v))) (hr : Goes p e below F T (mkF m (pc + 1) Ls ((.long v) :: S))) : Goes p e below F T (mkF m pc Ls (S)) := Goes.step (fun t k => XS.lloadN h hx rfl hd hl k) hr
theorem lload (h : At T m c below) (hx : p.tables.exec = Jvm.exec) {k : Nat} {v : Int64} (hd : decode c.code pc = .ok (.lload k, 2)) (hl : Ls[k]? = some (.val (.long v))) (hr : Goes p e below F T (mkF m (pc + 2) Ls ((.long v) :: S))) : Goes p e below F T (mkF m pc Ls (S)) := Goes.step (fun t k => XS.lload h hx rfl hd hl k) hr
theorem astoreN (h : At T m c below) (hx : p.tables.exec = Jvm.exec) {k : Fin 4} {x : Value} (l' : Array Slot) (hd : decode c.code pc = .ok (.astore_n k, 1)) (hv : x.isRef = true) (hl : storeLocals Ls k.val x = some l') (hr : Goes p e below F T (mkF m (pc + 1) l' (S))) : Goes p e below F T (mkF m pc Ls (x :: S)) := Goes.step (fun t k => XS.astoreN h hx rfl hd rfl hv hl k) hr
theorem astore (h : At T m c below) (hx : p.tables.exec = Jvm.exec) {k : Nat} {x : Value} (l' : Array Slot) (hd : decode c.code pc = .ok (.astore k, 2)) (hv : x.isRef = true) (hl : storeLocals Ls k x = some l') (hr : Goes p e below F T (mkF m (pc + 2) l' (S))) : Goes p e below F T (mkF m pc Ls (x :: S)) := Goes.step (fun t k => XS.astore h hx rfl hd rfl hv hl k) hr
theorem istoreN (h : At T m c below) (hx : p.tables.exec = Jvm.exec) {k : Fin 4} {x : Int32} (l' : Array Slot) (hd : decode c.code pc = .ok (.istore_n k, 1)) (hl : storeLocals Ls k.val (.int x) = some l') (hr : Goes p e below F T (mkF m (pc + 1) l' (S))) : Goes p e below F T (mkF m pc Ls ((.int x) :: S)) := Goes.step (fun t k => XS.istoreN h hx rfl hd rfl hl k) hr
theorem istore (h : At T m c below) (hx : p.tables.exec = Jvm.exec) {k : Nat} {x : Int32} (l' : Array Slot) (hd : decode c.code pc = .ok (.istore k, 2)) (hl : storeLocals Ls k (.int x) = some l') (hr : Goes p e below F T (mkF m (pc + 2) l' (S))) : Goes p e below F T (mkF m pc Ls ((.int x) :: S)) := Goes.step (fun t k => XS.istore h hx rfl hd rfl hl k) hr
theorem lstoreN (h : At T m c below) (hx : p.tables.exec = Jvm.exec) {k : Fin 4} {x : Int64} (l' : Array Slot) (hd : decode c.code pc = .ok (.lstore_n k, 1)) (hl : storeLocals Ls k.val (.long x) = some l') (hr : Goes p e below F T (mkF m (pc + 1) l' (S))) : Goes p e below F T (mkF m pc Ls ((.long x) :: S)) := Goes.step (fun t k => XS.lstoreN h hx rfl hd rfl hl k) hr
theorem lstore (h : At T m c below) (hx : p.tables.exec = Jvm.exec) {k : Nat} {x : Int64} (l' : Array Slot) (hd : decode c.code pc = .ok (.lstore k, 2)) (hl : storeLocals Ls k (.long x) = some l') (hr : Goes p e below F T (mkF m (pc + 2) l' (S))) : Goes p e below F T (mkF m pc Ls ((.long x) :: S)) := Goes.step (fun t k => XS.lstore h hx rfl hd rfl hl k) hr
theorem iconst (h : At T m c below) (hx : p.tables.exec = Jvm.exec) (z : Int32) {i : Int} (hd : decode c.code pc = .ok (.iconst i, 1)) (hz : Int32.ofInt i = z) (hr : Goes p e below F T (mkF m (pc + 1) Ls (.int z :: S))) : Goes p e below F T (mkF m pc Ls S) := by subst hz; exact Goes.step (fun t k => XS.iconst h hx rfl hd k) hr
theorem bipush (h : At T m c below) (hx : p.tables.exec = Jvm.exec) (z : Int32) {i : Int} (hd : decode c.code pc = .ok (.bipush i, 2)) (hz : (Int8.ofInt i).toInt32 = z) (hr : Goes p e below F T (mkF m (pc + 2) Ls (.int z :: S))) : Goes p e below F T (mkF m pc Ls S) := by subst hz; exact Goes.step (fun t k => XS.bipush h hx rfl hd k) hr
theorem sipush (h : At T m c below) (hx : p.tables.exec = Jvm.exec) (z : Int32) {i : Int} (hd : decode c.code pc = .ok (.sipush i, 3)) (hz : (Int16.ofInt i).toInt32 = z) (hr : Goes p e below F T (mkF m (pc + 3) Ls (.int z :: S))) : Goes p e below F T (mkF m pc Ls S) := by subst hz; exact Goes.step (fun t k => XS.sipush h hx rfl hd k) hr
theorem aconstNull (h : At T m c below) (hx : p.tables.exec = Jvm.exec)  (hd : decode c.code pc = .ok (.aconst_null, 1)) (hr : Goes p e below F T (mkF m (pc + 1) Ls (.null :: S))) : Goes p e below F T (mkF m pc Ls (S)) := Goes.step (fun t k => XS.aconstNull h hx rfl hd k) hr
theorem dup (h : At T m c below) (hx : p.tables.exec = Jvm.exec) {x : Value} (hd : decode c.code pc = .ok (.dup, 1)) (hc : x.category = 1) (hr : Goes p e below F T (mkF m (pc + 1) Ls (x :: x :: S))) : Goes p e below F T (mkF m pc Ls (x :: S)) := Goes.step (fun t k => XS.dup h hx rfl hd rfl hc k) hr
theorem pop (h : At T m c below) (hx : p.tables.exec = Jvm.exec) {x : Value} (hd : decode c.code pc = .ok (.pop, 1)) (hc : x.category = 1) (hr : Goes p e below F T (mkF m (pc + 1) Ls (S))) : Goes p e below F T (mkF m pc Ls (x :: S)) := Goes.step (fun t k => XS.pop h hx rfl hd rfl hc k) hr
theorem goto (h : At T m c below) (hx : p.tables.exec = Jvm.exec) {o : Int} (pc' : Nat) (hd : decode c.code pc = .ok (.goto o, 3)) (ho : 0 ≤ (pc : Int) + o) (hp : ((pc : Int) + o).toNat = pc') (hr : Goes p e below F T (mkF m pc' Ls (S))) : Goes p e below F T (mkF m pc Ls (S)) := Goes.step (fun t k => XS.goto h hx rfl (pc0 := pc) rfl hd ho hp k) hr
theorem iadd (h : At T m c below) (hx : p.tables.exec = Jvm.exec) {x y : Int32} (hd : decode c.code pc = .ok (.iadd, 1)) (hr : Goes p e below F T (mkF m (pc + 1) Ls (.int (x + y) :: S))) : Goes p e below F T (mkF m pc Ls (.int y :: .int x :: S)) := Goes.step (fun t k => XS.iadd h hx rfl hd rfl k) hr
theorem isub (h : At T m c below) (hx : p.tables.exec = Jvm.exec) {x y : Int32} (hd : decode c.code pc = .ok (.isub, 1)) (hr : Goes p e below F T (mkF m (pc + 1) Ls (.int (x - y) :: S))) : Goes p e below F T (mkF m pc Ls (.int y :: .int x :: S)) := Goes.step (fun t k => XS.isub h hx rfl hd rfl k) hr
theorem imul (h : At T m c below) (hx : p.tables.exec = Jvm.exec) {x y : Int32} (hd : decode c.code pc = .ok (.imul, 1)) (hr : Goes p e below F T (mkF m (pc + 1) Ls (.int (x * y) :: S))) : Goes p e below F T (mkF m pc Ls (.int y :: .int x :: S)) := Goes.step (fun t k => XS.imul h hx rfl hd rfl k) hr
theorem iand (h : At T m c below) (hx : p.tables.exec = Jvm.exec) {x y : Int32} (hd : decode c.code pc = .ok (.iand, 1)) (hr : Goes p e below F T (mkF m (pc + 1) Ls (.int (x &&& y) :: S))) : Goes p e below F T (mkF m pc Ls (.int y :: .int x :: S)) := Goes.step (fun t k => XS.iand h hx rfl hd rfl k) hr
theorem ior (h : At T m c below) (hx : p.tables.exec = Jvm.exec) {x y : Int32} (hd : decode c.code pc = .ok (.ior, 1)) (hr : Goes p e below F T (mkF m (pc + 1) Ls (.int (x ||| y) :: S))) : Goes p e below F T (mkF m pc Ls (.int y :: .int x :: S)) := Goes.step (fun t k => XS.ior h hx rfl hd rfl k) hr
theorem ixor (h : At T m c below) (hx : p.tables.exec = Jvm.exec) {x y : Int32} (hd : decode c.code pc = .ok (.ixor, 1)) (hr : Goes p e below F T (mkF m (pc + 1) Ls (.int (x ^^^ y) :: S))) : Goes p e below F T (mkF m pc Ls (.int y :: .int x :: S)) := Goes.step (fun t k => XS.ixor h hx rfl hd rfl k) hr
end P1
end P1
end Jvm.RoadKit
namespace Jvm.RoadKit
open Sem ClassFile Op Lib Jvm.Stand Jvm.Free Jvm.LawKit
section OwnStart
variable {Z : State} {args : Array Value} {t u : Term} {a : Addr} {cl : Cell} {ty : FieldType} {v : Value}
theorem own_eqV (h : (Cond.eq t u).value args Z none Z [] = some true) (hu : u.eval args Z none [] Z = some v) (hv : (∃ z, v = .int z) ∨ v.isRef = true) : t.eval args Z none [] Z = some v := by
  cases ht : t.eval args Z none [] Z with
  | none => simp [Cond.value, ht] at h
  | some x =>
    rcases hv with ⟨z, rfl⟩ | hv
    · cases x <;> simp_all [Cond.value, Value.isRef]
    · cases x <;> cases v <;> simp_all [Cond.value, Value.isRef]
theorem own_len {n : Int32} (A : Arr Z Z.heap a cl ty) (ev : t.eval args Z none [] Z = some (.ref a)) (h : (Cond.eq (.length t) (.int n)).value args Z none Z [] = some true) : cl.slots.size < 2 ^ 31 ∧ cl.slots.size.toInt32 = n := by
  have q := own_eqV h (Term.int_eval n) (Or.inl ⟨_, rfl⟩)
  have harr := Arr.fin (U := Z) (Vm.Alike.refl _) A
  by_cases hl : cl.slots.size < 2 ^ 31
  · rw [len_f ev harr hl] at q
    exact ⟨hl, Value.int.inj (Option.some.inj q)⟩
  · simp [Term.eval, ev, harr, hl] at q
theorem own_elem {j : Int32} (A : Arr Z Z.heap a cl ty) (ev : t.eval args Z none [] Z = some (.ref a)) (h : (Term.elem t (.int j)).eval args Z none [] Z = some v) : cl.slots[j.toNatClampNeg]? = some v := (elem_in h ev (Term.int_eval j) A.1).2
theorem own_fld {C n d : String} (ev : t.eval args Z none [] Z = some (.ref a)) (h : (Term.field t C n d).eval args Z none [] Z = some v) : Fld Z Z.heap a C n d v := Fld.start ((fld_at ev).symm.trans h)
end OwnStart
end Jvm.RoadKit
/- laws to paste: Road.backV, Road.eqW, Road.codOf (cut by pick.py; bodies as the Statement names them) -/
namespace Jvm.Pilot.@@N@@
namespace StrChars
open Jvm Sem ClassFile Op Lib Jvm.Stand Jvm.Free.XT Jvm.Free.ALB Jvm.Free.JM Jvm.Free
open Jvm.Lib.Cold (StaticIs)
/-- a char array whose places are chars -/
def Ch (a : Addr) (A : Cell) (U : State) : Prop := Arr .char a A U ∧ Typed .char A
theorem Ch.mv {a : Addr} {A : Cell} {U U' : State} (h : Ch a A U) (hal : U.vm.Alike U'.vm) (hh : U'.heap = U.heap) : Ch a A U' := ⟨h.1.mv hal hh, h.2⟩
theorem Ch.keep {a : Addr} {A : Cell} {U U' : State} (h : Ch a A U) (hal : U.vm.Alike U'.vm) (hk : U'.heap[a]? = some A) : Ch a A U' := ⟨h.1.keep hal hk, h.2⟩
/-- what place i of a char[]'s cell holds -/
def cv (A : Cell) (i : Nat) : Int32 := match A.slots[i]? with | some (.int x) => x | _ => 0
theorem Ch.get {a : Addr} {A : Cell} {U : State} (h : Ch a A U) {i : Nat} (hi : i < A.slots.size) : A.slots[i]? = some (.int (cv A i)) := by
  have e := Array.getElem?_eq_getElem hi
  have f := h.2 i _ e
  unfold cv; rw [e]
  generalize A.slots[i] = v at f
  cases v <;> simp [fits] at f ⊢
/-- the byte that i2b leaves of a char -/
def lo8 (x : Int32) : Int32 := x.toInt8.toInt32
theorem fits_lo8 (y : Int32) : fits .byte (.int (lo8 y)) = true := by
  have h1 := y.toInt8.le_toInt
  have h2 := y.toInt8.toInt_lt
  simp only [lo8, fits, Bool.and_eq_true, decide_eq_true_eq, Int32.le_iff_toInt_le, Int8.toInt_toInt32, show (-128 : Int32).toInt = -128 from by decide, show (127 : Int32).toInt = 127 from by decide]
  omega
/-- A' is A but that each place j of lo .. hi - 1 holds f j -/
def Laid (A A' : Cell) (lo hi : Nat) (f : Nat → Value) : Prop := A'.cls = A.cls ∧ A'.vm = A.vm ∧ A'.slots.size = A.slots.size ∧ ∀ i, A'.slots[i]? = if lo ≤ i ∧ i < hi then some (f i) else A.slots[i]?
theorem Laid.zero (A : Cell) (lo : Nat) (f : Nat → Value) : Laid A A lo (lo + 0) f := ⟨rfl, rfl, rfl, fun i => by rw [if_neg (by omega)]⟩
theorem Laid.step {A Ak : Cell} {lo k : Nat} {f : Nat → Value} {v : Value} (h : Laid A Ak lo k f) (hlo : lo ≤ k) (hk : k < Ak.slots.size) (hv : v = f k) : Laid A (Ak.setSlot k v) lo (k + 1) f := by
  refine ⟨h.1, h.2.1, by simpa [Cell.setSlot] using h.2.2.1, fun i => ?_⟩
  by_cases e : k = i
  · subst e; rw [Cell.slots_setSlot_self v hk, if_pos (by omega), hv]
  · rw [Cell.slots_setSlot_ne v e, h.2.2.2 i]
    by_cases q : lo ≤ i ∧ i < k
    · rw [if_pos q, if_pos (by omega)]
    · rw [if_neg q, if_neg (by omega)]
def U16 : String := "java/lang/StringUTF16"
namespace Cmp5
def yN : MethodName := ⟨"java/lang/StringUTF16", "compress", "([CI[BII)I"⟩
abbrev yB : ByteArray := jdk_52_method_21_code
theorem d0 : decode yB 0 = .ok (.iconst 0, 1) := by decide +kernel
theorem d1 : decode yB 1 = .ok (.istore 5, 2) := by decide +kernel
theorem d3 : decode yB 3 = .ok (.iload 5, 2) := by decide +kernel
theorem d5 : decode yB 5 = .ok (.iload 4, 2) := by decide +kernel
theorem d7 : decode yB 7 = .ok (.if_icmp (.ge) 37, 3) := by decide +kernel
theorem d10 : decode yB 10 = .ok (.aload_n 0, 1) := by decide +kernel
theorem d11 : decode yB 11 = .ok (.iload_n 1, 1) := by decide +kernel
theorem d12 : decode yB 12 = .ok (.caload, 1) := by decide +kernel
theorem d13 : decode yB 13 = .ok (.istore 6, 2) := by decide +kernel
theorem d15 : decode yB 15 = .ok (.iload 6, 2) := by decide +kernel
theorem d17 : decode yB 17 = .ok (.sipush 255, 3) := by decide +kernel
theorem d20 : decode yB 20 = .ok (.if_icmp (.le) 6, 3) := by decide +kernel
theorem d26 : decode yB 26 = .ok (.aload_n 2, 1) := by decide +kernel
theorem d27 : decode yB 27 = .ok (.iload_n 3, 1) := by decide +kernel
theorem d28 : decode yB 28 = .ok (.iload 6, 2) := by decide +kernel
theorem d30 : decode yB 30 = .ok (.i2b, 1) := by decide +kernel
theorem d31 : decode yB 31 = .ok (.bastore, 1) := by decide +kernel
theorem d32 : decode yB 32 = .ok (.iinc 1 1, 3) := by decide +kernel
theorem d35 : decode yB 35 = .ok (.iinc 3 1, 3) := by decide +kernel
theorem d38 : decode yB 38 = .ok (.iinc 5 1, 3) := by decide +kernel
theorem d41 : decode yB 41 = .ok (.goto (-38), 3) := by decide +kernel
theorem d44 : decode yB 44 = .ok (.iload 4, 2) := by decide +kernel
theorem d46 : decode yB 46 = .ok (.ireturn, 1) := by decide +kernel
def site : List Cond := []
def tab : Cond := tabOf yN yB 7 (some .int) site
def P (b : Addr) (A : Cell) (d : Addr) (B : Cell) (o q len : Nat) (args : Array Value) (s : State) : Prop := args = #[.ref b, .int (Int32.ofNat o), .ref d, .int (Int32.ofNat q), .int (Int32.ofNat len)] ∧ Ch b A s ∧ Arr .byte d B s ∧ b ≠ d ∧ o + len ≤ A.slots.size ∧ q + len ≤ B.slots.size ∧ ∀ i, i < len → ¬ 255 < cv A (o + i)
def E (b : Addr) (A : Cell) (d : Addr) (B : Cell) (o q len : Nat) (r : Option Value) (s u : State) : Prop := r = some (.int (Int32.ofNat len)) ∧ ∃ B', Put d B' s u ∧ Laid B B' q (q + len) (fun j => Value.int (lo8 (cv A (o + (j - q)))))
/-- no char of the range above 255: len; the places written hold each char's low byte -/
theorem law (l : Launch) (b : Addr) (A : Cell) (d : Addr) (B : Cell) (o q len : Nat) : Law l yN 5 5 0 0 yB 7 (some .int) site (P b A d B o q len) (E b A d B o q len) (copyLocs d q len) 0 0 := by
  refine Law.of_walk (plainFor_of_name (by decide +kernel)) (by decide +kernel) (by decide +kernel) (by decide) (fun _ _ h => by rw [h.1]; rfl) (fun _ U U' hal hh h => ⟨h.1, h.2.1.mv hal hh, h.2.2.1.mv hal hh, h.2.2.2⟩) (fun r U U' V V' h1 hal h2 h => ⟨h.1, h.2.elim fun B' q => ⟨B', q.1.mv h1 h2, q.2⟩⟩) ?_
  intro p e s m args below meth c s₁ X0 hexec hbytes hml hret hlk hnm hown hh0 W hP
  obtain ⟨rfl, hA, hB, hne, l1, l2, hp⟩ := hP
  have c1 : Steps p.tables e below (s₁.setTop (entryFrame m #[.ref b, .int (Int32.ofNat o), .ref d, .int (Int32.ofNat q), .int (Int32.ofNat len)] 7)) (s₁.setTop (mkF m 0 #[.val (.ref b), .val (.int (Int32.ofNat o)), .val (.ref d), .val (.int (Int32.ofNat q)), .val (.int (Int32.ofNat len)), .unset, .unset] [])) := entry rfl
  have hA0 := hA.1.mv X0.warmed.alike hh0
  have hB0 := hB.mv X0.warmed.alike hh0
  have a31 := hA.1.2.2.2
  have c2 : Steps p.tables e below (s₁.setTop (entryFrame m #[.ref b, .int (Int32.ofNat o), .ref d, .int (Int32.ofNat q), .int (Int32.ofNat len)] 7)) (s₁.setTop (mkF m 3 #[.val (.ref b), .val (.int (Int32.ofNat o)), .val (.ref d), .val (.int (Int32.ofNat q)), .val (.int (Int32.ofNat len)), .val (.int 0), .unset] [])) := c1.trans (by
    refine iconstV X0.here hexec rfl 0 (hb hbytes d0) (by decide) ?_
    refine XS.istore X0.here hexec rfl (hb hbytes d1) rfl rfl ?_
    exact Steps.refl _)
  have loop : ∀ (r i : Nat), i + r = len → ∀ (z : Slot), (z = .unset ∨ ∃ w, z = .val w ∧ w.category = 1) → ∀ (Tl : State) (Bk : Cell), Stand p l e { frames := 0, locals := 0, cells := 0, slots := 0 } s m #[.ref b, .int (Int32.ofNat o), .ref d, .int (Int32.ofNat q), .int (Int32.ofNat len)] below meth c Tl ([] ++ copyLocs d q i) 0 0 → Put d Bk s₁ Tl → Laid B Bk q (q + i) (fun j => Value.int (lo8 (cv A (o + (j - q))))) →
      Steps p.tables e below (s₁.setTop (entryFrame m #[.ref b, .int (Int32.ofNat o), .ref d, .int (Int32.ofNat q), .int (Int32.ofNat len)] 7)) (Tl.setTop (mkF m 3 #[.val (.ref b), .val (.int (Int32.ofNat (o + i))), .val (.ref d), .val (.int (Int32.ofNat (q + i))), .val (.int (Int32.ofNat len)), .val (.int (Int32.ofNat i)), z] [])) → ∃ (T' : State) (B' : Cell) (z' : Slot), Stand p l e { frames := 0, locals := 0, cells := 0, slots := 0 } s m #[.ref b, .int (Int32.ofNat o), .ref d, .int (Int32.ofNat q), .int (Int32.ofNat len)] below meth c T' ([] ++ copyLocs d q len) 0 0 ∧ Put d B' s₁ T' ∧ Laid B B' q (q + len) (fun j => Value.int (lo8 (cv A (o + (j - q))))) ∧
      Steps p.tables e below (s₁.setTop (entryFrame m #[.ref b, .int (Int32.ofNat o), .ref d, .int (Int32.ofNat q), .int (Int32.ofNat len)] 7)) (T'.setTop (mkF m 3 #[.val (.ref b), .val (.int (Int32.ofNat (o + len))), .val (.ref d), .val (.int (Int32.ofNat (q + len))), .val (.int (Int32.ofNat len)), .val (.int (Int32.ofNat len)), z'] [])) := by
    intro r
    induction r with
    | zero =>
      intro i hi z hz Tl Bk Xl pl fl cl
      have hil : i = len := by omega
      rw [hil] at Xl fl cl
      exact ⟨Tl, Bk, z, Xl, pl, fl, cl⟩
    | succ r ih =>
      intro i hi z hz Tl Bk Xl pl fl cl
      have all := X0.warmed.alike.symm.trans Xl.warmed.alike
      have hAl := hA0.keep all (pl.other hne hA0.1)
      have hBk := hB0.like all pl.1 fl.1 fl.2.1 fl.2.2.1
      have hlt : q + i < Bk.slots.size := by rw [fl.2.2.1]; omega
      have c3 : Steps p.tables e below (s₁.setTop (entryFrame m #[.ref b, .int (Int32.ofNat o), .ref d, .int (Int32.ofNat q), .int (Int32.ofNat len)] 7)) (Tl.setTop (mkF m 12 #[.val (.ref b), .val (.int (Int32.ofNat (o + i))), .val (.ref d), .val (.int (Int32.ofNat (q + i))), .val (.int (Int32.ofNat len)), .val (.int (Int32.ofNat i)), z] [.int (Int32.ofNat (o + i)), .ref b])) := cl.trans (by
        refine XS.iload Xl.here hexec rfl (hb hbytes d3) rfl ?_
        refine XS.iload Xl.here hexec rfl (hb hbytes d5) rfl ?_
        refine XS.icmpNo Xl.here hexec rfl (hb hbytes d7) rfl (ii_ge_f (lt32 (by omega) (by omega))) ?_
        refine XS.aloadN Xl.here hexec rfl (hb hbytes d10) rfl rfl ?_
        refine XS.iloadN Xl.here hexec rfl (hb hbytes d11) rfl ?_
        exact Steps.refl _)
      have c4 : Steps p.tables e below (s₁.setTop (entryFrame m #[.ref b, .int (Int32.ofNat o), .ref d, .int (Int32.ofNat q), .int (Int32.ofNat len)] 7)) (Tl.setTop (mkF m 13 #[.val (.ref b), .val (.int (Int32.ofNat (o + i))), .val (.ref d), .val (.int (Int32.ofNat (q + i))), .val (.int (Int32.ofNat len)), .val (.int (Int32.ofNat i)), z] [.int (cv A (o + i))])) := c3.trans (by
        refine Xl.aget hexec hAl rfl (hA.get (i := o + i) (by omega)) rfl rfl (hb hbytes d12) ?_
        exact Steps.refl _)
      have c5 : Steps p.tables e below (s₁.setTop (entryFrame m #[.ref b, .int (Int32.ofNat o), .ref d, .int (Int32.ofNat q), .int (Int32.ofNat len)] 7)) (Tl.setTop (mkF m 15 #[.val (.ref b), .val (.int (Int32.ofNat (o + i))), .val (.ref d), .val (.int (Int32.ofNat (q + i))), .val (.int (Int32.ofNat len)), .val (.int (Int32.ofNat i)), .val (.int (cv A (o + i)))] [])) := c4.trans (by
        refine XS.istoreS Xl.here hexec rfl (hb hbytes d13) rfl rfl hz ?_
        exact Steps.refl _)
      have c6 : Steps p.tables e below (s₁.setTop (entryFrame m #[.ref b, .int (Int32.ofNat o), .ref d, .int (Int32.ofNat q), .int (Int32.ofNat len)] 7)) (Tl.setTop (mkF m 31 #[.val (.ref b), .val (.int (Int32.ofNat (o + i))), .val (.ref d), .val (.int (Int32.ofNat (q + i))), .val (.int (Int32.ofNat len)), .val (.int (Int32.ofNat i)), .val (.int (cv A (o + i)))] [.int (lo8 (cv A (o + i))), .int (Int32.ofNat (q + i)), .ref d])) := c5.trans (by
        refine XS.iload Xl.here hexec rfl (hb hbytes d15) rfl ?_
        refine sipushV Xl.here hexec rfl 255 (hb hbytes d17) (by decide) ?_
        refine XS.icmpYes Xl.here hexec rfl (pc0 := 20) rfl (hb hbytes d20) rfl (ii_le_t (hp i (by omega))) (by decide) rfl ?_
        refine XS.aloadN Xl.here hexec rfl (hb hbytes d26) rfl rfl ?_
        refine XS.iloadN Xl.here hexec rfl (hb hbytes d27) rfl ?_
        refine XS.iload Xl.here hexec rfl (hb hbytes d28) rfl ?_
        refine i2b Xl.here hexec rfl (hb hbytes d30) rfl ?_
        exact Steps.refl _)
      obtain ⟨T7, X7, p7, st7⟩ := Xl.aput hexec hBk rfl hlt rfl (fits_lo8 (cv A (o + i))) (g := (mkF m 31 #[.val (.ref b), .val (.int (Int32.ofNat (o + i))), .val (.ref d), .val (.int (Int32.ofNat (q + i))), .val (.int (Int32.ofNat len)), .val (.int (Int32.ofNat i)), .val (.int (cv A (o + i)))] [.int (lo8 (cv A (o + i))), .int (Int32.ofNat (q + i)), .ref d])) rfl (rest := []) rfl (hb hbytes d31)
      have c8 : Steps p.tables e below (s₁.setTop (entryFrame m #[.ref b, .int (Int32.ofNat o), .ref d, .int (Int32.ofNat q), .int (Int32.ofNat len)] 7)) (T7.setTop (mkF m 32 #[.val (.ref b), .val (.int (Int32.ofNat (o + i))), .val (.ref d), .val (.int (Int32.ofNat (q + i))), .val (.int (Int32.ofNat len)), .val (.int (Int32.ofNat i)), .val (.int (cv A (o + i)))] [])) := c6.trans (st7 _ (Steps.refl _))
      have c9 : Steps p.tables e below (s₁.setTop (entryFrame m #[.ref b, .int (Int32.ofNat o), .ref d, .int (Int32.ofNat q), .int (Int32.ofNat len)] 7)) (T7.setTop (mkF m 3 #[.val (.ref b), .val (.int (Int32.ofNat (o + i) + 1)), .val (.ref d), .val (.int (Int32.ofNat (q + i) + 1)), .val (.int (Int32.ofNat len)), .val (.int (Int32.ofNat i + 1)), .val (.int (cv A (o + i)))] [])) := c8.trans (by
        refine iincV X7.here hexec rfl 1 (hb hbytes d32) (by decide) rfl rfl ?_
        refine iincV X7.here hexec rfl 1 (hb hbytes d35) (by decide) rfl rfl ?_
        refine iincV X7.here hexec rfl 1 (hb hbytes d38) (by decide) rfl rfl ?_
        refine XS.goto X7.here hexec rfl (pc0 := 41) rfl (hb hbytes d41) (by decide) rfl ?_
        exact Steps.refl _)
      have c10 : Steps p.tables e below (s₁.setTop (entryFrame m #[.ref b, .int (Int32.ofNat o), .ref d, .int (Int32.ofNat q), .int (Int32.ofNat len)] 7)) (T7.setTop (mkF m 3 #[.val (.ref b), .val (.int (Int32.ofNat (o + (i + 1)))), .val (.ref d), .val (.int (Int32.ofNat (q + (i + 1)))), .val (.int (Int32.ofNat len)), .val (.int (Int32.ofNat (i + 1))), .val (.int (cv A (o + i)))] [])) := by
        have := c9
        rw [succ32, succ32, succ32] at this
        exact this
      exact ih (i + 1) (by omega) _ (Or.inr ⟨_, rfl, rfl⟩) T7 _ (by rw [copyLocs_step, ← List.append_assoc]; exact X7) (pl.trans p7) (fl.step (by omega) hlt (by simp)) c10
  obtain ⟨T9, B9, z9, X9, p9, f9, g9⟩ := loop len 0 (by omega) .unset (Or.inl rfl) s₁ B (by simpa [copyLocs] using X0) ⟨hB0.1, fun _ _ => rfl, rfl⟩ (Laid.zero _ _ _) c2
  have c11 : Steps p.tables e below (s₁.setTop (entryFrame m #[.ref b, .int (Int32.ofNat o), .ref d, .int (Int32.ofNat q), .int (Int32.ofNat len)] 7)) (T9.setTop (mkF m 46 #[.val (.ref b), .val (.int (Int32.ofNat (o + len))), .val (.ref d), .val (.int (Int32.ofNat (q + len))), .val (.int (Int32.ofNat len)), .val (.int (Int32.ofNat len)), z9] [.int (Int32.ofNat len)])) := g9.trans (by
    refine XS.iload X9.here hexec rfl (hb hbytes d3) rfl ?_
    refine XS.iload X9.here hexec rfl (hb hbytes d5) rfl ?_
    refine XS.icmpYes X9.here hexec rfl (pc0 := 7) rfl (hb hbytes d7) rfl (ii_ge_t (nlt32 (by omega) (Nat.le_refl _))) (by decide) rfl ?_
    refine XS.iload X9.here hexec rfl (hb hbytes d44) rfl ?_
    exact Steps.refl _)
  exact ⟨T9, some (.int (Int32.ofNat len)), _, _, _, X9, by simp, rfl, rfl, (fun h => by cases h), ⟨rfl, B9, p9.from hh0, f9⟩, fun fs hl => c11.trans (X9.ireturnOut hexec hret rfl (Or.inl rfl) (hb hbytes d46) hl)⟩
end Cmp5
namespace Cmp3
def yN : MethodName := ⟨"java/lang/StringUTF16", "compress", "([CII)[B"⟩
abbrev yB : ByteArray := jdk_52_method_16_code
theorem d0 : decode yB 0 = .ok (.iload_n 2, 1) := by decide +kernel
theorem d1 : decode yB 1 = .ok (.newarray .byte, 2) := by decide +kernel
theorem d3 : decode yB 3 = .ok (.astore_n 3, 1) := by decide +kernel
theorem d4 : decode yB 4 = .ok (.aload_n 0, 1) := by decide +kernel
theorem d5 : decode yB 5 = .ok (.iload_n 1, 1) := by decide +kernel
theorem d6 : decode yB 6 = .ok (.aload_n 3, 1) := by decide +kernel
theorem d7 : decode yB 7 = .ok (.iconst 0, 1) := by decide +kernel
theorem d8 : decode yB 8 = .ok (.iload_n 2, 1) := by decide +kernel
theorem d9 : decode yB 9 = .ok (.invokestatic 115, 3) := by decide +kernel
theorem d12 : decode yB 12 = .ok (.istore 4, 2) := by decide +kernel
theorem d14 : decode yB 14 = .ok (.iload 4, 2) := by decide +kernel
theorem d16 : decode yB 16 = .ok (.iload_n 2, 1) := by decide +kernel
theorem d17 : decode yB 17 = .ok (.if_icmp (.eq) 40, 3) := by decide +kernel
theorem d57 : decode yB 57 = .ok (.aload_n 3, 1) := by decide +kernel
theorem d58 : decode yB 58 = .ok (.areturn, 1) := by decide +kernel
def site : List Cond := [.arrayClass .byte, Cmp5.tab] ++ staticW U16 115 Cmp5.yN
def tab : Cond := tabOf yN yB 6 (some (.array .byte)) site
def P (b : Addr) (A : Cell) (o len : Nat) (args : Array Value) (s : State) : Prop := args = #[.ref b, .int (Int32.ofNat o), .int (Int32.ofNat len)] ∧ Ch b A s ∧ o + len ≤ A.slots.size ∧ len ≤ 536870912 ∧ ∀ i, i < len → ¬ 255 < cv A (o + i)
def E (b : Addr) (A : Cell) (o len : Nat) (r : Option Value) (s u : State) : Prop := NewArr .byte "[B" len (fun j => .int (lo8 (cv A (o + j)))) r s u ∧ u.heap.size = s.heap.size + 1
/-- no char of the range above 255: a new byte[] of their low bytes -/
theorem law (l : Launch) (b : Addr) (A : Cell) (o len : Nat) : Law l yN 3 3 1 18 yB 6 (some (.array .byte)) site (P b A o len) (E b A o len) [] 1 len := by
  refine Law.of_walk (plainFor_of_name (by decide +kernel)) (by decide +kernel) (by decide +kernel) (by decide) (fun _ _ h => by rw [h.1]; rfl) (fun _ U U' hal hh h => ⟨h.1, h.2.1.mv hal hh, h.2.2⟩) (fun r U U' V V' h1 hal h2 h => ⟨NewArr.mv r U U' V V' h1 hal h2 h.1, by rw [h1, h2]; exact h.2⟩) ?_
  intro p e s m args below meth c s₁ X0 hexec hbytes hml hret hlk hnm hown hh0 W hP
  obtain ⟨rfl, hA, l1, l2, hp⟩ := hP
  have a31 := hA.1.2.2.2
  have c1 : Steps p.tables e below (s₁.setTop (entryFrame m #[.ref b, .int (Int32.ofNat o), .int (Int32.ofNat len)] 6)) (s₁.setTop (mkF m 0 #[.val (.ref b), .val (.int (Int32.ofNat o)), .val (.int (Int32.ofNat len)), .unset, .unset, .unset] [])) := entry rfl
  have c2 : Steps p.tables e below (s₁.setTop (entryFrame m #[.ref b, .int (Int32.ofNat o), .int (Int32.ofNat len)] 6)) (s₁.setTop (mkF m 1 #[.val (.ref b), .val (.int (Int32.ofNat o)), .val (.int (Int32.ofNat len)), .unset, .unset, .unset] [.int (Int32.ofNat len)])) := c1.trans (by
    refine XS.iloadN X0.here hexec rfl (hb hbytes d0) rfl ?_
    exact Steps.refl _)
  obtain ⟨T3, B3, X3, ba3, bs3, bv3, bh3, bf3, st3⟩ := X0.anew hexec (atype := .byte) (wk W (.arrayClass .byte)) rfl (by show len * 1 ≤ _; omega) (by omega) (g := (mkF m 1 #[.val (.ref b), .val (.int (Int32.ofNat o)), .val (.int (Int32.ofNat len)), .unset, .unset, .unset] [.int (Int32.ofNat len)])) rfl (hb hbytes d1) (rest := []) rfl (Nat.le_refl _) (by show 0 + len ≤ len; omega)
  rw [hh0] at ba3 st3
  have kp3 : XT.Kept s T3 := (XT.Kept.of_eq hh0).push bh3
  have hA3 := hA.keep X3.warmed.alike (kp3 _ _ hA.1.1)
  have hne : b ≠ s.heap.size := hA.1.ne
  have c4 : Steps p.tables e below (s₁.setTop (entryFrame m #[.ref b, .int (Int32.ofNat o), .int (Int32.ofNat len)] 6)) (T3.setTop (mkF m 3 #[.val (.ref b), .val (.int (Int32.ofNat o)), .val (.int (Int32.ofNat len)), .unset, .unset, .unset] [.ref s.heap.size])) := c2.trans (st3 _ (Steps.refl _))
  have c5 : Steps p.tables e below (s₁.setTop (entryFrame m #[.ref b, .int (Int32.ofNat o), .int (Int32.ofNat len)] 6)) (T3.setTop (mkF m 9 #[.val (.ref b), .val (.int (Int32.ofNat o)), .val (.int (Int32.ofNat len)), .val (.ref s.heap.size), .unset, .unset] [.int (Int32.ofNat len), .int 0, .ref s.heap.size, .int (Int32.ofNat o), .ref b])) := c4.trans (by
    refine XS.astoreN X3.here hexec rfl (hb hbytes d3) rfl rfl rfl ?_
    refine XS.aloadN X3.here hexec rfl (hb hbytes d4) rfl rfl ?_
    refine XS.iloadN X3.here hexec rfl (hb hbytes d5) rfl ?_
    refine XS.aloadN X3.here hexec rfl (hb hbytes d6) rfl rfl ?_
    refine iconstV X3.here hexec rfl 0 (hb hbytes d7) (by decide) ?_
    refine XS.iloadN X3.here hexec rfl (hb hbytes d8) rfl ?_
    exact Steps.refl _)
  obtain ⟨v6, T6, X6, E6, g6⟩ := X3.callS hexec (Cmp5.law l b A s.heap.size B3 o 0 len) hown (wks W (staticW U16 115 Cmp5.yN)) (wk W Cmp5.tab) (W := 0) (Nat.le_of_ble_eq_true rfl) (Nat.le_of_ble_eq_true rfl) (Nat.le_refl _) (by show 0 + len + 0 ≤ len; omega) (g := (mkF m 9 #[.val (.ref b), .val (.int (Int32.ofNat o)), .val (.int (Int32.ofNat len)), .val (.ref s.heap.size), .unset, .unset] [.int (Int32.ofNat len), .int (Int32.ofNat 0), .ref s.heap.size, .int (Int32.ofNat o), .ref b])) rfl (by rw [hml]; rfl) c5 (argsL := [.ref b, .int (Int32.ofNat o), .ref s.heap.size, .int (Int32.ofNat 0), .int (Int32.ofNat len)]) (rest := []) rfl rfl (by show 2 * 0 + 0 ≤ _; decide) (hb hbytes d9) (⟨rfl, hA3, ba3, hne, l1, by rw [bs3]; simp, hp⟩)
  obtain ⟨rfl, B6, p6, f6⟩ := E6
  have c7 : Steps p.tables e below (s₁.setTop (entryFrame m #[.ref b, .int (Int32.ofNat o), .int (Int32.ofNat len)] 6)) (T6.setTop (mkF m 12 #[.val (.ref b), .val (.int (Int32.ofNat o)), .val (.int (Int32.ofNat len)), .val (.ref s.heap.size), .unset, .unset] [.int (Int32.ofNat len)])) := g6
  have c8 : Steps p.tables e below (s₁.setTop (entryFrame m #[.ref b, .int (Int32.ofNat o), .int (Int32.ofNat len)] 6)) (T6.setTop (mkF m 58 #[.val (.ref b), .val (.int (Int32.ofNat o)), .val (.int (Int32.ofNat len)), .val (.ref s.heap.size), .val (.int (Int32.ofNat len)), .unset] [.ref s.heap.size])) := c7.trans (by
    refine XS.istore X6.here hexec rfl (hb hbytes d12) rfl rfl ?_
    refine XS.iload X6.here hexec rfl (hb hbytes d14) rfl ?_
    refine XS.iloadN X6.here hexec rfl (hb hbytes d16) rfl ?_
    refine XS.icmpYes X6.here hexec rfl (pc0 := 17) rfl (hb hbytes d17) rfl (ii_eq_t rfl) (by decide) rfl ?_
    refine XS.aloadN X6.here hexec rfl (hb hbytes d57) rfl rfl ?_
    exact Steps.refl _)
  have X8 := X6.wide (L' := []) (cells' := 1) (slots' := len) (fun x hx hlt => by
    simp only [List.nil_append, copyLocs, List.mem_map, List.mem_range] at hx
    obtain ⟨i, -, rfl⟩ := hx
    exact absurd hlt (Nat.lt_irrefl _)) (Nat.le_refl _) (by omega)
  exact ⟨T6, some (.ref s.heap.size), _, _, _, X8, rfl, rfl, rfl, (fun h => by cases h), ⟨⟨rfl, B6, ba3.like (X3.warmed.alike.symm.trans X6.warmed.alike) p6.1 f6.1 f6.2.1 f6.2.2.1, f6.2.1.trans bv3, by rw [X6.warmed.alike.findClass, f6.1]; exact bf3, by rw [f6.2.2.1, bs3]; simp, fun j hj => by rw [f6.2.2.2 j, if_pos (by omega)]; rfl, kp3.put p6 (Nat.le_refl _)⟩, by rw [p6.2.2, bh3, hh0]; simp⟩, fun fs hl => c8.trans (X8.areturnOut hexec rfl hret rfl (hb hbytes d58) hl)⟩
end Cmp3
namespace CodL
def yN : MethodName := ⟨"java/lang/StringUTF16", "coderFromArrayLen", "([BI)B"⟩
abbrev yB : ByteArray := jdk_52_method_15_code
theorem d0 : decode yB 0 = .ok (.iload_n 1, 1) := by decide +kernel
theorem d1 : decode yB 1 = .ok (.aload_n 0, 1) := by decide +kernel
theorem d2 : decode yB 2 = .ok (.arraylength, 1) := by decide +kernel
theorem d3 : decode yB 3 = .ok (.isub, 1) := by decide +kernel
theorem d4 : decode yB 4 = .ok (.bipush 31, 2) := by decide +kernel
theorem d6 : decode yB 6 = .ok (.iushr, 1) := by decide +kernel
theorem d7 : decode yB 7 = .ok (.i2b, 1) := by decide +kernel
theorem d8 : decode yB 8 = .ok (.ireturn, 1) := by decide +kernel
def site : List Cond := []
def tab : Cond := tabOf yN yB 2 (some .byte) site
def P (d : Addr) (B : Cell) (args : Array Value) (s : State) : Prop := args = #[.ref d, .int (Int32.ofNat B.slots.size)] ∧ Arr .byte d B s
def E (r : Option Value) (s u : State) : Prop := XT.PureE (some (.int 0)) r s u
/-- an array as long as the number of chars: LATIN1 -/
theorem law (l : Launch) (d : Addr) (B : Cell) : Law l yN 2 2 0 0 yB 2 (some .byte) site (P d B) E [] 0 0 := by
  refine Law.of_walk (plainFor_of_name (by decide +kernel)) (by decide +kernel) (by decide +kernel) (by decide) (fun _ _ h => by rw [h.1]; rfl) (fun _ U U' hal hh h => ⟨h.1, h.2.mv hal hh⟩) (fun r U U' V V' h1 hal h2 h => XT.PureE.mv r U U' V V' h1 hal h2 h) ?_
  intro p e s m args below meth c s₁ X0 hexec hbytes hml hret hlk hnm hown hh0 W hP
  obtain ⟨rfl, hB⟩ := hP
  have hB0 := hB.mv X0.warmed.alike hh0
  have c1 : Steps p.tables e below (s₁.setTop (entryFrame m #[.ref d, .int (Int32.ofNat B.slots.size)] 2)) (s₁.setTop (mkF m 0 #[.val (.ref d), .val (.int (Int32.ofNat B.slots.size))] [])) := entry rfl
  have c2 : Steps p.tables e below (s₁.setTop (entryFrame m #[.ref d, .int (Int32.ofNat B.slots.size)] 2)) (s₁.setTop (mkF m 2 #[.val (.ref d), .val (.int (Int32.ofNat B.slots.size))] [.ref d, .int (Int32.ofNat B.slots.size)])) := c1.trans (by
    refine XS.iloadN X0.here hexec rfl (hb hbytes d0) rfl ?_
    refine XS.aloadN X0.here hexec rfl (hb hbytes d1) rfl rfl ?_
    exact Steps.refl _)
  have c3 : Steps p.tables e below (s₁.setTop (entryFrame m #[.ref d, .int (Int32.ofNat B.slots.size)] 2)) (s₁.setTop (mkF m 8 #[.val (.ref d), .val (.int (Int32.ofNat B.slots.size))] [.int (lo8 (ushr (Int32.ofNat B.slots.size - Int32.ofNat B.slots.size) 31))])) := c2.trans (by
    refine X0.alen hexec hB0 rfl rfl (hb hbytes d2) ?_
    refine XS.isub X0.here hexec rfl (hb hbytes d3) rfl ?_
    refine bipushV X0.here hexec rfl 31 (hb hbytes d4) (by decide) ?_
    refine iushr X0.here hexec rfl (hb hbytes d6) rfl ?_
    refine i2b X0.here hexec rfl (hb hbytes d7) rfl ?_
    exact Steps.refl _)
  have e0 : lo8 (ushr (Int32.ofNat B.slots.size - Int32.ofNat B.slots.size) 31) = 0 := by rw [Int32.sub_self]; decide
  rw [e0] at c3
  exact ⟨s₁, some (.int 0), _, _, _, X0, rfl, rfl, rfl, (fun h => by cases h), ⟨rfl, hh0⟩, fun fs hl => c3.trans (X0.ireturnOut hexec hret rfl (Or.inr (Or.inr (Or.inl rfl))) (hb hbytes d8) hl)⟩
end CodL
/-- the String at a is Latin-1 over a new byte[] (the heap's one new cell): the low bytes of the len chars of A from o on; every cell but a is kept -/
def Got (a : Addr) (D : Cell) (fV fC : Field) (A : Cell) (o len : Nat) (r : Option Value) (s u : State) : Prop := r = none ∧ ∃ D' V : Cell, Blank "java/lang/String" a D' u ∧ Same D D' [fV.slot, fC.slot] ∧ D'.slots[fV.slot]? = some (.ref s.heap.size) ∧ D'.slots[fC.slot]? = some (.int 0) ∧ Arr .byte s.heap.size V u ∧ V.vm = .none ∧ u.vm.findClass "[B" = some V.cls ∧ V.slots.size = len ∧ (∀ j, j < len → V.slots[j]? = some (.int (lo8 (cv A (o + j))))) ∧ (∀ (y : Addr) (c : Cell), y ≠ a → s.heap[y]? = some c → u.heap[y]? = some c) ∧ u.heap.size = s.heap.size + 1
theorem Got.mv {a : Addr} {D A : Cell} {fV fC : Field} {o len : Nat} : ∀ r (U U' V V' : State), U'.heap = U.heap → V.vm.Alike V'.vm → V'.heap = V.heap → Got a D fV fC A o len r U V → Got a D fV fC A o len r U' V' :=
  fun r U U' V V' h1 hal h2 ⟨e0, D', X, a1, a2, a3, a4, a5, a6, a7, a8, a9, a10, a11⟩ => ⟨e0, D', X, a1.mv hal h2, a2, by rw [h1]; exact a3, a4, by rw [h1]; exact a5.mv hal h2, a6, by rw [hal.findClass]; exact a7, a8, a9, by rw [h1, h2]; exact a10, by rw [h1, h2]; exact a11⟩
namespace New4
def yN : MethodName := ⟨"java/lang/String", "<init>", "([CIILjava/lang/Void;)V"⟩
abbrev yB : ByteArray := jdk_42_method_149_code
theorem d0 : decode yB 0 = .ok (.aload_n 0, 1) := by decide +kernel
theorem d1 : decode yB 1 = .ok (.invokespecial 1, 3) := by decide +kernel
theorem d4 : decode yB 4 = .ok (.iload_n 3, 1) := by decide +kernel
theorem d5 : decode yB 5 = .ok (.ifCond (.ne) 22, 3) := by decide +kernel
theorem d27 : decode yB 27 = .ok (.getstatic 38, 3) := by decide +kernel
theorem d30 : decode yB 30 = .ok (.ifCond (.eq) 28, 3) := by decide +kernel
theorem d33 : decode yB 33 = .ok (.aload_n 1, 1) := by decide +kernel
theorem d34 : decode yB 34 = .ok (.iload_n 2, 1) := by decide +kernel
theorem d35 : decode yB 35 = .ok (.iload_n 3, 1) := by decide +kernel
theorem d36 : decode yB 36 = .ok (.invokestatic 177, 3) := by decide +kernel
theorem d39 : decode yB 39 = .ok (.astore 5, 2) := by decide +kernel
theorem d41 : decode yB 41 = .ok (.aload_n 0, 1) := by decide +kernel
theorem d42 : decode yB 42 = .ok (.aload 5, 2) := by decide +kernel
theorem d44 : decode yB 44 = .ok (.iload_n 3, 1) := by decide +kernel
theorem d45 : decode yB 45 = .ok (.invokestatic 47, 3) := by decide +kernel
theorem d48 : decode yB 48 = .ok (.putfield 15, 3) := by decide +kernel
theorem d51 : decode yB 51 = .ok (.aload_n 0, 1) := by decide +kernel
theorem d52 : decode yB 52 = .ok (.aload 5, 2) := by decide +kernel
theorem d54 : decode yB 54 = .ok (.putfield 9, 3) := by decide +kernel
theorem d57 : decode yB 57 = .ok (.return_, 1) := by decide +kernel
def site : List Cond := [.fieldLink "java/lang/String" 38 "java/lang/String" "COMPACT_STRINGS" "Z", Cmp3.tab, CodL.tab, .laysFinal "java/lang/String" "java/lang/String" "value" "[B", .fieldLink "java/lang/String" 9 "java/lang/String" "value" "[B", .laysFinal "java/lang/String" "java/lang/String" "coder" "B", .fieldLink "java/lang/String" 15 "java/lang/String" "coder" "B"] ++ objW "java/lang/String" 1 ++ staticW "java/lang/String" 177 Cmp3.yN ++ staticW "java/lang/String" 47 CodL.yN
def tab : Cond := tabOf yN yB 6 none site
def P (a : Addr) (D : Cell) (fV fC : Field) (b : Addr) (A : Cell) (z : Int32) (o len : Nat) (args : Array Value) (s : State) : Prop := args = #[.ref a, .ref b, .int (Int32.ofNat o), .int (Int32.ofNat len), .null] ∧ Blank "java/lang/String" a D s ∧ Found "java/lang/String" "value" "[B" fV s ∧ Found "java/lang/String" "coder" "B" fC s ∧ Ch b A s ∧ StaticIs s "java/lang/String" "COMPACT_STRINGS" "Z" (.int z) ∧ ¬ z = 0 ∧ 0 < len ∧ o + len ≤ A.slots.size ∧ len ≤ 536870912 ∧ ∀ i, i < len → ¬ 255 < cv A (o + i)
def E (a : Addr) (D : Cell) (fV fC : Field) (A : Cell) (o len : Nat) (r : Option Value) (s u : State) : Prop := Got a D fV fC A o len r s u
/-- len > 0, no char of the range above 255: a Latin-1 String of their low bytes -/
theorem law (l : Launch) (a : Addr) (D : Cell) (fV fC : Field) (b : Addr) (A : Cell) (z : Int32) (o len : Nat) : Law l yN 5 4 2 35 yB 6 none site (P a D fV fC b A z o len) (E a D fV fC A o len) [⟨a, fC.slot⟩, ⟨a, fV.slot⟩] 1 len := by
  refine Law.of_walk (plainFor_of_name (by decide +kernel)) (by decide +kernel) (by decide +kernel) (by decide) (fun _ _ h => by rw [h.1]; rfl) (fun _ U U' hal hh h => ⟨h.1, h.2.1.mv hal hh, h.2.2.1.al hal, h.2.2.2.1.al hal, h.2.2.2.2.1.mv hal hh, h.2.2.2.2.2.1.there hal hh, h.2.2.2.2.2.2⟩) (fun r U U' V V' h1 hal h2 h => Got.mv r U U' V V' h1 hal h2 h) ?_
  intro p e s m args below meth c s₁ X0 hexec hbytes hml hret hlk hnm hown hh0 W hP
  obtain ⟨rfl, hB, f1, f2, hA, s1, hz, l0, l1, l2, hp⟩ := hP
  have a31 := hA.1.2.2.2
  have c1 : Steps p.tables e below (s₁.setTop (entryFrame m #[.ref a, .ref b, .int (Int32.ofNat o), .int (Int32.ofNat len), .null] 6)) (s₁.setTop (mkF m 0 #[.val (.ref a), .val (.ref b), .val (.int (Int32.ofNat o)), .val (.int (Int32.ofNat len)), .val .null, .unset] [])) := entry rfl
  have c2 : Steps p.tables e below (s₁.setTop (entryFrame m #[.ref a, .ref b, .int (Int32.ofNat o), .int (Int32.ofNat len), .null] 6)) (s₁.setTop (mkF m 1 #[.val (.ref a), .val (.ref b), .val (.int (Int32.ofNat o)), .val (.int (Int32.ofNat len)), .val .null, .unset] [.ref a])) := c1.trans (by
    refine XS.aloadN X0.here hexec rfl (hb hbytes d0) rfl rfl ?_
    exact Steps.refl _)
  obtain ⟨T3, X3, q3, st3⟩ := X0.oinit hexec hown (wks W (objW "java/lang/String" 1)) (g := (mkF m 1 #[.val (.ref a), .val (.ref b), .val (.int (Int32.ofNat o)), .val (.int (Int32.ofNat len)), .val .null, .unset] [.ref a])) rfl (by rw [hml]; rfl) (rest := []) rfl (hb hbytes d1) (W := 0) (by show 2 * 0 + 0 ≤ _; decide) (Nat.le_of_ble_eq_true rfl) (Nat.le_of_ble_eq_true rfl)
  have hh3 := q3.trans hh0
  have c4 : Steps p.tables e below (s₁.setTop (entryFrame m #[.ref a, .ref b, .int (Int32.ofNat o), .int (Int32.ofNat len), .null] 6)) (T3.setTop (mkF m 27 #[.val (.ref a), .val (.ref b), .val (.int (Int32.ofNat o)), .val (.int (Int32.ofNat len)), .val .null, .unset] [])) := (c2.trans (st3 _ (Steps.refl _))).trans (by
    refine XS.iloadN X3.here hexec rfl (hb hbytes d4) rfl ?_
    refine XS.ifYes X3.here hexec rfl (pc0 := 5) rfl (hb hbytes d5) rfl (i0_ne_t (nz32 (by omega) l0)) (by decide) rfl ?_
    exact Steps.refl _)
  obtain ⟨T5, X5, q5, st5⟩ := X3.sget hexec hown (wk W (.fieldLink "java/lang/String" 38 "java/lang/String" "COMPACT_STRINGS" "Z")) s1 (fun _ _ h => by rw [hh3]; exact h) (g := (mkF m 27 #[.val (.ref a), .val (.ref b), .val (.int (Int32.ofNat o)), .val (.int (Int32.ofNat len)), .val .null, .unset] [])) rfl (hb hbytes d27)
  have hh5 := q5.trans hh3
  have c6 : Steps p.tables e below (s₁.setTop (entryFrame m #[.ref a, .ref b, .int (Int32.ofNat o), .int (Int32.ofNat len), .null] 6)) (T5.setTop (mkF m 30 #[.val (.ref a), .val (.ref b), .val (.int (Int32.ofNat o)), .val (.int (Int32.ofNat len)), .val .null, .unset] [.int z])) := c4.trans (st5 _ (Steps.refl _))
  have c7 : Steps p.tables e below (s₁.setTop (entryFrame m #[.ref a, .ref b, .int (Int32.ofNat o), .int (Int32.ofNat len), .null] 6)) (T5.setTop (mkF m 36 #[.val (.ref a), .val (.ref b), .val (.int (Int32.ofNat o)), .val (.int (Int32.ofNat len)), .val .null, .unset] [.int (Int32.ofNat len), .int (Int32.ofNat o), .ref b])) := c6.trans (by
    refine XS.ifNo X5.here hexec rfl (hb hbytes d30) rfl (i0_eq_f hz) ?_
    refine XS.aloadN X5.here hexec rfl (hb hbytes d33) rfl rfl ?_
    refine XS.iloadN X5.here hexec rfl (hb hbytes d34) rfl ?_
    refine XS.iloadN X5.here hexec rfl (hb hbytes d35) rfl ?_
    exact Steps.refl _)
  obtain ⟨v8, T8, X8, E8, g8⟩ := X5.callS hexec (Cmp3.law l b A o len) hown (wks W (staticW "java/lang/String" 177 Cmp3.yN)) (wk W Cmp3.tab) (W := 0) (Nat.le_of_ble_eq_true rfl) (Nat.le_of_ble_eq_true rfl) (Nat.le_refl _) (by show 0 + len ≤ len; omega) (g := (mkF m 36 #[.val (.ref a), .val (.ref b), .val (.int (Int32.ofNat o)), .val (.int (Int32.ofNat len)), .val .null, .unset] [.int (Int32.ofNat len), .int (Int32.ofNat o), .ref b])) rfl (by rw [hml]; rfl) c7 (argsL := [.ref b, .int (Int32.ofNat o), .int (Int32.ofNat len)]) (rest := []) rfl rfl (by show 2 * 0 + 0 ≤ _; decide) (hb hbytes d36) (⟨rfl, hA.mv X5.warmed.alike hh5, l1, l2, hp⟩)
  obtain ⟨e8, z8⟩ := E8
  obtain ⟨rfl, N, n1, n2, n3, n4, n5, n6⟩ := NewArr.mv _ T5 s _ _ hh5.symm (Vm.Alike.refl _) rfl e8
  rw [hh5] at z8
  have hB1 := hB.keep X8.warmed.alike (n6 _ _ hB.1)
  have hne : s.heap.size ≠ a := (Nat.ne_of_lt (Array.getElem?_eq_some_iff.mp hB.1).1).symm
  have c9 : Steps p.tables e below (s₁.setTop (entryFrame m #[.ref a, .ref b, .int (Int32.ofNat o), .int (Int32.ofNat len), .null] 6)) (T8.setTop (mkF m 39 #[.val (.ref a), .val (.ref b), .val (.int (Int32.ofNat o)), .val (.int (Int32.ofNat len)), .val .null, .unset] [.ref s.heap.size])) := g8
  have c10 : Steps p.tables e below (s₁.setTop (entryFrame m #[.ref a, .ref b, .int (Int32.ofNat o), .int (Int32.ofNat len), .null] 6)) (T8.setTop (mkF m 45 #[.val (.ref a), .val (.ref b), .val (.int (Int32.ofNat o)), .val (.int (Int32.ofNat len)), .val .null, .val (.ref s.heap.size)] [.int (Int32.ofNat N.slots.size), .ref s.heap.size, .ref a])) := by
    have hc : Steps p.tables e below (s₁.setTop (entryFrame m #[.ref a, .ref b, .int (Int32.ofNat o), .int (Int32.ofNat len), .null] 6)) (T8.setTop (mkF m 45 #[.val (.ref a), .val (.ref b), .val (.int (Int32.ofNat o)), .val (.int (Int32.ofNat len)), .val .null, .val (.ref s.heap.size)] [.int (Int32.ofNat len), .ref s.heap.size, .ref a])) := c9.trans (by
      refine XS.astore X8.here hexec rfl (hb hbytes d39) rfl rfl rfl ?_
      refine XS.aloadN X8.here hexec rfl (hb hbytes d41) rfl rfl ?_
      refine XS.aload X8.here hexec rfl (hb hbytes d42) rfl rfl ?_
      refine XS.iloadN X8.here hexec rfl (hb hbytes d44) rfl ?_
      exact Steps.refl _)
    rw [n4]; exact hc
  obtain ⟨v11, T11, X11, E11, g11⟩ := X8.callS hexec (CodL.law l s.heap.size N) hown (wks W (staticW "java/lang/String" 47 CodL.yN)) (wk W CodL.tab) (W := 1) (Nat.le_of_ble_eq_true rfl) (Nat.le_of_ble_eq_true rfl) (Nat.le_refl _) (by show 0 + len + 0 ≤ len; omega) (g := (mkF m 45 #[.val (.ref a), .val (.ref b), .val (.int (Int32.ofNat o)), .val (.int (Int32.ofNat len)), .val .null, .val (.ref s.heap.size)] [.int (Int32.ofNat N.slots.size), .ref s.heap.size, .ref a])) rfl (by rw [hml]; rfl) c10 (argsL := [.ref s.heap.size, .int (Int32.ofNat N.slots.size)]) (rest := [.ref a]) rfl rfl (by show 2 * 0 + (1 + 0) ≤ _; decide) (hb hbytes d45) (⟨rfl, n1⟩)
  obtain ⟨rfl, q11⟩ := E11
  have hB11 := hB1.mv (X8.warmed.alike.symm.trans X11.warmed.alike) q11
  have c12 : Steps p.tables e below (s₁.setTop (entryFrame m #[.ref a, .ref b, .int (Int32.ofNat o), .int (Int32.ofNat len), .null] 6)) (T11.setTop (mkF m 48 #[.val (.ref a), .val (.ref b), .val (.int (Int32.ofNat o)), .val (.int (Int32.ofNat len)), .val .null, .val (.ref s.heap.size)] [.int 0, .ref a])) := g11
  obtain ⟨T13, X13, p13, bl13, sl13, st13⟩ := X11.finit hexec hown (wk W (.fieldLink "java/lang/String" 15 "java/lang/String" "coder" "B")) (Or.inr ⟨_, (wk W (.laysFinal "java/lang/String" "java/lang/String" "coder" "B"))⟩) (Or.inl ⟨rfl, hnm⟩) f2 (Or.inl rfl) hB11 (t := .byte) (by decide +kernel) rfl (g := (mkF m 48 #[.val (.ref a), .val (.ref b), .val (.int (Int32.ofNat o)), .val (.int (Int32.ofNat len)), .val .null, .val (.ref s.heap.size)] [.int 0, .ref a])) rfl (rest := []) rfl (hb hbytes d48)
  have c14 : Steps p.tables e below (s₁.setTop (entryFrame m #[.ref a, .ref b, .int (Int32.ofNat o), .int (Int32.ofNat len), .null] 6)) (T13.setTop (mkF m 54 #[.val (.ref a), .val (.ref b), .val (.int (Int32.ofNat o)), .val (.int (Int32.ofNat len)), .val .null, .val (.ref s.heap.size)] [.ref s.heap.size, .ref a])) := (c12.trans (st13 _ (Steps.refl _))).trans (by
    refine XS.aloadN X13.here hexec rfl (hb hbytes d51) rfl rfl ?_
    refine XS.aload X13.here hexec rfl (hb hbytes d52) rfl rfl ?_
    exact Steps.refl _)
  obtain ⟨T15, X15, p15, bl15, sl15, st15⟩ := X13.finit hexec hown (wk W (.fieldLink "java/lang/String" 9 "java/lang/String" "value" "[B")) (Or.inr ⟨_, (wk W (.laysFinal "java/lang/String" "java/lang/String" "value" "[B"))⟩) (Or.inl ⟨rfl, hnm⟩) f1 (Or.inl rfl) bl13 (t := (.array .byte)) (by decide +kernel) rfl (g := (mkF m 54 #[.val (.ref a), .val (.ref b), .val (.int (Int32.ofNat o)), .val (.int (Int32.ofNat len)), .val .null, .val (.ref s.heap.size)] [.ref s.heap.size, .ref a])) rfl (rest := []) rfl (hb hbytes d54)
  have c16 : Steps p.tables e below (s₁.setTop (entryFrame m #[.ref a, .ref b, .int (Int32.ofNat o), .int (Int32.ofNat len), .null] 6)) (T15.setTop (mkF m 57 #[.val (.ref a), .val (.ref b), .val (.int (Int32.ofNat o)), .val (.int (Int32.ofNat len)), .val .null, .val (.ref s.heap.size)] [])) := c14.trans (st15 _ (Steps.refl _))
  have ap := apart (Or.inr ⟨_, (wk W (.laysFinal "java/lang/String" "java/lang/String" "value" "[B"))⟩) (Or.inr ⟨_, (wk W (.laysFinal "java/lang/String" "java/lang/String" "coder" "B"))⟩) f1 f2 (t₁ := .array .byte) (t₂ := .byte) (by decide +kernel) (by decide +kernel) (by decide)
  have al := X8.warmed.alike.symm.trans X15.warmed.alike
  have n7 : T11.heap[s.heap.size]? = some N := by rw [q11]; exact n1.1
  exact ⟨T15, none, _, _, _, X15, by simp, rfl, by omega, (fun _ => rfl), ⟨rfl, _, N, bl15, ((Same.refl D _).set _ (by simp)).set _ (by simp), sl15, (Cell.slots_setSlot_ne _ ap).trans sl13, n1.keep al (p15.other hne (p13.other hne n7)), n2, by rw [al.findClass]; exact n3, n4, n5, fun y c h1 h2 => p15.other h1 (p13.other h1 (by rw [q11]; exact n6 y c h2)), by rw [p15.2.2, p13.2.2, q11]; exact z8⟩, fun fs hl => c16.trans (X15.returnOut hexec hret (hb hbytes d57) hl)⟩
end New4
namespace New1
def yN : MethodName := ⟨"java/lang/String", "<init>", "([C)V"⟩
abbrev yB : ByteArray := jdk_42_method_3_code
theorem d0 : decode yB 0 = .ok (.aload_n 0, 1) := by decide +kernel
theorem d1 : decode yB 1 = .ok (.aload_n 1, 1) := by decide +kernel
theorem d2 : decode yB 2 = .ok (.iconst 0, 1) := by decide +kernel
theorem d3 : decode yB 3 = .ok (.aload_n 1, 1) := by decide +kernel
theorem d4 : decode yB 4 = .ok (.arraylength, 1) := by decide +kernel
theorem d5 : decode yB 5 = .ok (.aconst_null, 1) := by decide +kernel
theorem d6 : decode yB 6 = .ok (.invokespecial 27, 3) := by decide +kernel
theorem d9 : decode yB 9 = .ok (.return_, 1) := by decide +kernel
def site : List Cond := [New4.tab] ++ initW "java/lang/String" 27 New4.yN
def tab : Cond := tabOf yN yB 2 none site
def P (a : Addr) (D : Cell) (fV fC : Field) (b : Addr) (A : Cell) (z : Int32) (args : Array Value) (s : State) : Prop := args = #[.ref a, .ref b] ∧ Blank "java/lang/String" a D s ∧ Found "java/lang/String" "value" "[B" fV s ∧ Found "java/lang/String" "coder" "B" fC s ∧ Ch b A s ∧ StaticIs s "java/lang/String" "COMPACT_STRINGS" "Z" (.int z) ∧ ¬ z = 0 ∧ 0 < A.slots.size ∧ A.slots.size ≤ 536870912 ∧ ∀ i, i < A.slots.size → ¬ 255 < cv A i
def E (a : Addr) (D : Cell) (fV fC : Field) (A : Cell) (r : Option Value) (s u : State) : Prop := Got a D fV fC A 0 A.slots.size r s u
/-- new String(chars), not empty, no char above 255: a Latin-1 String of their low bytes -/
theorem law (l : Launch) (a : Addr) (D : Cell) (fV fC : Field) (b : Addr) (A : Cell) (z : Int32) : Law l yN 2 1 3 52 yB 2 none site (P a D fV fC b A z) (E a D fV fC A) [⟨a, fC.slot⟩, ⟨a, fV.slot⟩] 1 A.slots.size := by
  refine Law.of_walk (plainFor_of_name (by decide +kernel)) (by decide +kernel) (by decide +kernel) (by decide) (fun _ _ h => by rw [h.1]; rfl) (fun _ U U' hal hh h => ⟨h.1, h.2.1.mv hal hh, h.2.2.1.al hal, h.2.2.2.1.al hal, h.2.2.2.2.1.mv hal hh, h.2.2.2.2.2.1.there hal hh, h.2.2.2.2.2.2⟩) (fun r U U' V V' h1 hal h2 h => Got.mv r U U' V V' h1 hal h2 h) ?_
  intro p e s m args below meth c s₁ X0 hexec hbytes hml hret hlk hnm hown hh0 W hP
  obtain ⟨rfl, hB, f1, f2, hA, s1, hz, l0, l2, hp⟩ := hP
  have c1 : Steps p.tables e below (s₁.setTop (entryFrame m #[.ref a, .ref b] 2)) (s₁.setTop (mkF m 0 #[.val (.ref a), .val (.ref b)] [])) := entry rfl
  have c2 : Steps p.tables e below (s₁.setTop (entryFrame m #[.ref a, .ref b] 2)) (s₁.setTop (mkF m 6 #[.val (.ref a), .val (.ref b)] [.null, .int (Int32.ofNat A.slots.size), .int 0, .ref b, .ref a])) := c1.trans (by
    refine XS.aloadN X0.here hexec rfl (hb hbytes d0) rfl rfl ?_
    refine XS.aloadN X0.here hexec rfl (hb hbytes d1) rfl rfl ?_
    refine iconstV X0.here hexec rfl 0 (hb hbytes d2) (by decide) ?_
    refine XS.aloadN X0.here hexec rfl (hb hbytes d3) rfl rfl ?_
    refine X0.alen hexec (hA.1.mv X0.warmed.alike hh0) rfl rfl (hb hbytes d4) ?_
    refine XS.aconstNull X0.here hexec rfl (hb hbytes d5) ?_
    exact Steps.refl _)
  obtain ⟨v3, T3, X3, E3, g3⟩ := X0.callN hexec (New4.law l a D fV fC b A z 0 A.slots.size) rfl hown (wks W (initW "java/lang/String" 27 New4.yN)) (W New4.tab (by simp only [site, List.mem_cons, List.mem_append, true_or, or_true])) (W := 0) (Nat.le_of_ble_eq_true rfl) (Nat.le_of_ble_eq_true rfl) (Nat.le_refl _) (by show 0 + A.slots.size ≤ A.slots.size; omega) (g := (mkF m 6 #[.val (.ref a), .val (.ref b)] [.null, .int (Int32.ofNat A.slots.size), .int (Int32.ofNat 0), .ref b, .ref a])) rfl (by rw [hml]; rfl) c2 (argsL := [.ref b, .int (Int32.ofNat 0), .int (Int32.ofNat A.slots.size), .null]) (rest := []) rfl rfl (by show 2 * 0 + 0 ≤ _; decide) (hb hbytes d6) (⟨rfl, hB.mv X0.warmed.alike hh0, f1.al X0.warmed.alike, f2.al X0.warmed.alike, hA.mv X0.warmed.alike hh0, s1.there X0.warmed.alike hh0, hz, l0, by omega, l2, fun i hi => by rw [Nat.zero_add]; exact hp i hi⟩)
  have e0 := Got.mv _ s₁ s _ _ hh0.symm (Vm.Alike.refl _) rfl E3
  obtain rfl := e0.1
  have c4 : Steps p.tables e below (s₁.setTop (entryFrame m #[.ref a, .ref b] 2)) (T3.setTop (mkF m 9 #[.val (.ref a), .val (.ref b)] [])) := g3
  exact ⟨T3, none, _, _, _, X3, by simp, rfl, by omega, (fun _ => rfl), e0, fun fs hl => c4.trans (X3.returnOut hexec hret (hb hbytes d9) hl)⟩
theorem pays {l : Launch} {R : Room} {p : Program} {e : Env} {below : List Frame} {s : State} {sargs : Array Value} {len W : Nat} (a : Addr) (D : Cell) (fV fC : Field) (b : Addr) (A : Cell) (z : Int32) (htab : tab.before sargs s = true) (hfr : 4 ≤ R.frames) (hlo : W + 65 ≤ R.locals) :
    Back l R p e below s sargs yN len W (fun A₁ a₁ => A₁.cells + 1 ≤ R.cells ∧ A₁.slots + A.slots.size ≤ R.slots ∧ P a D fV fC b A z a₁ A₁.U) (fun A₁ _ v₁ B₁ => E a D fV fC A v₁ A₁.U B₁.U ∧ B₁.locs = A₁.locs ++ [⟨a, fC.slot⟩, ⟨a, fV.slot⟩] ∧ B₁.cells = A₁.cells + 1 ∧ B₁.slots = A₁.slots + A.slots.size) :=
  (law l a D fV fC b A z).pays htab hfr (by omega)
end New1
/-- the byte, read back as charAt reads it, is the char -/
theorem lo8_mask {x : Int32} (h0 : ¬ x < 0) (h1 : ¬ 255 < x) : lo8 x &&& 255 = x := by
  have t : ∀ k : Fin 256, lo8 (Int32.ofNat k.val) &&& 255 = Int32.ofNat k.val := by decide +kernel
  rw [Int32.lt_iff_toInt_lt] at h0 h1
  have e0 : (0 : Int32).toInt = 0 := rfl
  have e1 : (255 : Int32).toInt = 255 := rfl
  obtain ⟨k, hk⟩ : ∃ k : Nat, x.toInt = k := ⟨x.toInt.toNat, by omega⟩
  have hx : x = Int32.ofNat k := Int32.toInt_inj.mp (by rw [hk, Int32.toInt_ofNat_small (by omega)])
  rw [hx]
  exact t ⟨k, by omega⟩
end StrChars
namespace StrChars.Road
open Jvm Sem ClassFile Op Lib Jvm.Stand Jvm.Free Jvm.Free.XT
open Jvm.Lib.Cold (StaticIs)
abbrev ST : String := "java/lang/String"
/-- every table word that New1's law asks, flat -/
abbrev words : List Jvm.Cond := [.code New1.yN New1.yB 2 none, .initialized ST, .methodLink ST 27 New4.yN, .instanceMethod New4.yN,
  .code New4.yN New4.yB 6 none, .fieldLink ST 38 ST "COMPACT_STRINGS" "Z", .laysFinal ST ST "value" "[B", .fieldLink ST 9 ST "value" "[B", .laysFinal ST ST "coder" "B", .fieldLink ST 15 ST "coder" "B",
  .methodLink ST 1 Lib.objectInit, .instanceMethod Lib.objectInit, .code Lib.objectInit ⟨#[0xb1]⟩ 1 none, .methodLink ST 177 Cmp3.yN, .static Cmp3.yN, .methodLink ST 47 CodL.yN, .static CodL.yN,
  .code Cmp3.yN Cmp3.yB 6 (some (.array .byte)), .initialized U16, .arrayClass .byte, .methodLink U16 115 Cmp5.yN, .static Cmp5.yN, .code Cmp5.yN Cmp5.yB 7 (some .int), .code CodL.yN CodL.yB 2 (some .byte)]
theorem tab_of {a : Array Value} {s : State} (h : ∀ w ∈ words, w.before a s = true) : New1.tab.before a s = true := by
  have h5 : Cmp5.tab.before a s = true := unparts (wk h (.code Cmp5.yN Cmp5.yB 7 (some .int))) (wks h (.initialized Cmp5.yN.cls :: Cmp5.site))
  have hc : CodL.tab.before a s = true := unparts (wk h (.code CodL.yN CodL.yB 2 (some .byte))) (wks h (.initialized CodL.yN.cls :: CodL.site))
  have q5 : ∀ w ∈ Cmp5.tab :: words, w.before a s = true := fun w hw => (List.mem_cons.mp hw).elim (fun e => e ▸ h5) (h w)
  have h3 : Cmp3.tab.before a s = true := unparts (wk q5 (.code Cmp3.yN Cmp3.yB 6 (some (.array .byte)))) (wks q5 (.initialized Cmp3.yN.cls :: Cmp3.site))
  have q3 : ∀ w ∈ Cmp3.tab :: CodL.tab :: words, w.before a s = true := fun w hw => (List.mem_cons.mp hw).elim (fun e => e ▸ h3) fun hw => (List.mem_cons.mp hw).elim (fun e => e ▸ hc) (h w)
  have h4 : New4.tab.before a s = true := unparts (wk q3 (.code New4.yN New4.yB 6 none)) (wks q3 (.initialized New4.yN.cls :: New4.site))
  have q4 : ∀ w ∈ New4.tab :: words, w.before a s = true := fun w hw => (List.mem_cons.mp hw).elim (fun e => e ▸ h4) (h w)
  exact unparts (wk q4 (.code New1.yN New1.yB 2 none)) (wks q4 (.initialized New1.yN.cls :: New1.site))
/-- the words ride from the start Z to the walk's own state -/
theorem moved {Z s : State} {a0 args : Array Value} (hZ : Z.Warmed39 s.vm) (hw : ∀ d ∈ words, d.before a0 Z = true) : ∀ d ∈ words, d.before args s = true := fun d hd => by
  have q := hw d hd
  have t : ∀ d ∈ words, d = .arrayClass .byte ∨ (d.onTables && d.keepsFace) = true := by decide +kernel
  rcases t d hd with rfl | t
  · exact RoadKit.mvA hZ q
  · exact RoadKit.mv hZ q t
/-- WHAT COMES BACK, over the tables of the start Z: h the heap at the call, h' behind it -/
def Q (Z : State) (x : Addr) (A : Cell) (h : Heap) (v : Option Value) (h' : Heap) (L : List Loc) : Prop := v = none ∧ (∀ y ∈ L, y.base = x) ∧ RoadKit.Keep h h' [x] ∧ h'.size = h.size + 1 ∧ RoadKit.Exa Z h' x ST ∧ RoadKit.Fld Z h' x ST "value" "[B" (.ref h.size) ∧ RoadKit.Fld Z h' x ST "coder" "B" (.int 0) ∧
  (∃ V : Cell, RoadKit.Arr Z h' h.size V .byte ∧ V.vm = .none ∧ Z.vm.findClass "[B" = some V.cls ∧ V.slots.size = A.slots.size ∧ ∀ j, j < A.slots.size → V.slots[j]? = some (.int (lo8 (cv A j)))) ∧
  ∀ (O n d : String) (w : Value), RoadKit.Fld Z h x O n d w → RoadKit.slotOf Z O n d ≠ RoadKit.slotOf Z ST "value" "[B" → RoadKit.slotOf Z O n d ≠ RoadKit.slotOf Z ST "coder" "B" → RoadKit.Fld Z h' x O n d w
/-- **new String(chars) AT A CALL, IN THE ROAD'S FORM**: for specialBack behind newO: x the fresh String, b the char[] with the cell A -/
theorem back {p : Program} {l : Launch} {e : Env} {R : Room} {s : State} {args : Array Value} {below : List Frame} {len W : Nat} {Z : State} {a0 : Array Value} {h : Heap} (hZ : Z.Warmed39 s.vm) (hw : ∀ d ∈ words, d.before a0 Z = true) {kI : Nat} (wi : (Jvm.Cond.instantiable ST kI).before a0 Z = true)
    {x b : Addr} {A : Cell} {z : Int32} {v0 c0 : Value} (E : RoadKit.Exa Z h x ST) (V : RoadKit.Fld Z h x ST "value" "[B" v0) (C : RoadKit.Fld Z h x ST "coder" "B" c0) (K : RoadKit.Arr Z h b A .char) (hty : Typed .char A) (S : RoadKit.Sta Z h ST "COMPACT_STRINGS" "Z" (.int z)) (hz : ¬ z = 0)
    (l0 : 0 < A.slots.size) (l2 : A.slots.size ≤ 536870912) (hp : ∀ i, i < A.slots.size → ¬ 255 < cv A i) (hfr : 4 ≤ R.frames) (hlo : W + 65 ≤ R.locals) :
    Back l R p e below s args New1.yN len W (fun P a => a = #[.ref x, .ref b] ∧ P.U.heap = h ∧ P.cells + 1 ≤ R.cells ∧ P.slots + A.slots.size ≤ R.slots)
      (fun P _ v B => ∃ L, Q Z x A h v B.U.heap L ∧ B.locs = P.locs ++ L ∧ B.cells = P.cells + 1 ∧ B.slots = P.slots + A.slots.size) := by
  intro m meth c P g ig mk a X hg hsize hdg hW hn hp'
  obtain ⟨rfl, rfl, r1, r2⟩ := hp'
  have al : Z.vm.Alike P.U.vm := hZ.alike.trans X.warmed.alike
  obtain ⟨D, cfV, kV, iV, fV, hD, gV, stV, knV, obV, asV, slV⟩ := id V
  obtain ⟨D', cfC, kC, iC, fC, hD', gC, stC, -, -, asC, slC⟩ := id C
  cases hD.symm.trans hD'
  obtain ⟨D2, kD, e1, e2, e3, e4, e5⟩ := id E
  cases hD.symm.trans e1
  obtain ⟨c2, k2, i1, i2, i3, -⟩ := Cond.instantiable_spec wi
  cases e2.symm.trans i1
  cases e3.symm.trans i2
  obtain ⟨kU, u1, u2⟩ := al.2.2 _ _ e3
  have hB : Blank ST x D P.U := ⟨hD, ⟨knV, fun q hq => by rw [hq] at obV; cases obV⟩, by rw [al.findClass]; exact e2, kU, u1, by rw [u2]; exact i3, by rw [u2]; exact e5 i3⟩
  have F1 : Found ST "value" "[B" fV P.U := ⟨SBG.found_only al ⟨cfV, kV, iV, gV⟩, stV⟩
  have F2 : Found ST "coder" "B" fC P.U := ⟨SBG.found_only al ⟨cfC, kC, iC, gC⟩, stC⟩
  have hA : Ch b A P.U := ⟨⟨K.1, State.isArrayOf_alike al K.2.1, K.2.2, by omega⟩, hty⟩
  have hS : StaticIs P.U ST "COMPACT_STRINGS" "Z" (.int z) := by
    obtain ⟨cfS, iS, kS, fS, st, cS, t1, t2, t3, t4, t5, t6, t7⟩ := S
    exact StaticIs.there (s := { Z with heap := P.U.heap }) ⟨cfS, iS, kS, fS, st, cS, t1, t2, t3, t4, t5, (fun q => by rw [q] at t6; cases t6), t7⟩ al rfl
  obtain ⟨v, B, X', ⟨⟨hv, E', V', q1, q2, q3, q4, q5, q6, q7, q8, q9, q10, q11⟩, hl, hc, hs⟩, st⟩ := New1.pays x D fV fC b A z (tab_of (moved hZ hw)) hfr hlo m meth c P g ig mk _ X hg hsize hdg hW hn ⟨r1, r2, rfl, hB, F1, F2, hA, hS, hz, l0, l2, hp⟩
  have al' : Z.vm.Alike B.U.vm := hZ.alike.trans X'.warmed.alike
  have hsz : E'.slots.size = D.slots.size := by
    obtain ⟨-, -, -, kB, w1, w2, w3⟩ := q1
    obtain ⟨kB', y1, y2⟩ := al'.2.2 _ _ e3
    rw [q2.2.1] at w1
    cases w1.symm.trans y1
    rw [w3, e5 i3, y2]
  refine ⟨v, B, X', ⟨_, ⟨hv, ?_, ⟨by omega, fun y cy hy hn' => q10 y cy (by simpa using hn') hy, fun y cy hy => ?_⟩, q11, ⟨E', _, q1.1, by rw [q2.2.1]; exact e2, by rw [q2.2.1]; exact e3, by rw [q2.1]; exact obV, fun _ => by rw [hsz]; exact e5 i3⟩,
    ⟨E', cfV, kV, iV, fV, q1.1, gV, stV, by rw [q2.1]; exact knV, by rw [q2.1]; exact obV, by rw [q2.2.1]; exact asV, q3⟩, ⟨E', cfC, kC, iC, fC, q1.1, gC, stC, by rw [q2.1]; exact knV, by rw [q2.1]; exact obV, by rw [q2.2.1]; exact asC, q4⟩,
    ⟨V', ⟨q5.1, State.isArrayOf_alike al'.symm q5.2.1, q5.2.2.1⟩, q6, by rw [← al'.findClass]; exact q7, q8, fun j hj => by have := q9 j hj; rwa [Nat.zero_add] at this⟩, fun O n d w F n1 n2 => ?_⟩, hl, hc, hs⟩, st⟩
  · intro y hy
    simp only [List.mem_cons, List.not_mem_nil, or_false] at hy
    rcases hy with rfl | rfl <;> rfl
  · by_cases q : y = x
    · subst q
      cases hD.symm.trans hy
      exact ⟨E', q1.1, q2.2.1, q2.1, hsz⟩
    · exact ⟨cy, q10 y cy q hy, rfl, rfl, rfl⟩
  · obtain ⟨D3, cf, k, i, f, g1, g2, g3, g4, g5, g6, g7⟩ := F
    cases hD.symm.trans g1
    simp only [RoadKit.slotOf, g2, gV, gC, Option.map_some, Option.getD_some] at n1 n2
    exact ⟨E', cf, k, i, f, q1.1, g2, g3, by rw [q2.1]; exact g4, by rw [q2.1]; exact g5, by rw [q2.2.1]; exact g6, by rw [q2.2.2 f.slot (by simp [n1, n2])]; exact g7⟩
end StrChars.Road
namespace StrChars.Road
open Jvm Sem ClassFile Op Lib Jvm.Stand Jvm.Free Jvm.Free.XT
/-- WHAT COMES BACK, the byte[] as a list of values -/
def QA (Z : State) (x : Addr) (zn : Int32) (cs : List Int32) (h : Heap) (v : Option Value) (h' : Heap) (L : List Loc) : Prop := v = none ∧ (∀ y ∈ L, y.base = x) ∧ RoadKit.Keep h h' [x] ∧ h'.size = h.size + 1 ∧ RoadKit.Exa Z h' x ST ∧ RoadKit.Fld Z h' x ST "value" "[B" (.ref h.size) ∧ RoadKit.Fld Z h' x ST "coder" "B" (.int 0) ∧
  (∃ kb, Z.vm.findClass "[B" = some kb ∧ RoadKit.Arv Z h' h.size kb .byte zn (cs.map fun c => .int (lo8 c)) (.int 0)) ∧
  ∀ (O n d : String) (w : Value), RoadKit.Fld Z h x O n d w → RoadKit.slotOf Z O n d ≠ RoadKit.slotOf Z ST "value" "[B" → RoadKit.slotOf Z O n d ≠ RoadKit.slotOf Z ST "coder" "B" → RoadKit.Fld Z h' x O n d w
/-- **new String(chars) AT A CALL, THE ARRAYS AS LISTS**: the char[] at b holds cs, not empty, no char above 255 -/
theorem backArv {p : Program} {l : Launch} {e : Env} {R : Room} {s : State} {args : Array Value} {below : List Frame} {len W : Nat} {Z : State} {a0 : Array Value} {h : Heap} (hZ : Z.Warmed39 s.vm) (hw : ∀ d ∈ words, d.before a0 Z = true) {kI : Nat} (wi : (Jvm.Cond.instantiable ST kI).before a0 Z = true)
    {x b : Addr} {k : ClassId} {zn z : Int32} {cs : List Int32} {dv v0 c0 : Value} (E : RoadKit.Exa Z h x ST) (V : RoadKit.Fld Z h x ST "value" "[B" v0) (C : RoadKit.Fld Z h x ST "coder" "B" c0) (K : RoadKit.Arv Z h b k .char zn (cs.map Value.int) dv) (S : RoadKit.Sta Z h ST "COMPACT_STRINGS" "Z" (.int z)) (hz : ¬ z = 0)
    (hlen : zn.toNatClampNeg = cs.length) (h0 : 0 < cs.length) (hbig : cs.length ≤ 536870912) (hall : ∀ c ∈ cs, ¬ 255 < c) (hfr : 4 ≤ R.frames) (hlo : W + 65 ≤ R.locals) :
    Back l R p e below s args New1.yN len W (fun P a => a = #[.ref x, .ref b] ∧ P.U.heap = h ∧ P.cells + 1 ≤ R.cells ∧ P.slots + cs.length ≤ R.slots)
      (fun P _ v B => ∃ L, QA Z x zn cs h v B.U.heap L ∧ B.locs = P.locs ++ L ∧ B.cells = P.cells + 1 ∧ B.slots = P.slots + cs.length) := by
  obtain ⟨A, K1, K2, K3, K4, K5, K6⟩ := K
  have e : A.slots.size = cs.length := K3.trans hlen
  have hat : ∀ (i : Nat) (hi : i < cs.length), A.slots[i]? = some (.int cs[i]) := fun i hi => by rw [K5 i (by omega)]; simp [List.getD_eq_getElem?_getD, hi]
  have hcv : ∀ (i : Nat) (hi : i < cs.length), cv A i = cs[i] := fun i hi => by unfold cv; rw [hat i hi]
  have hty : Typed .char A := fun i v hv => by
    have hi : i < A.slots.size := (Array.getElem?_eq_some_iff.mp hv).1
    have q := K5 i hi
    rw [hv] at q
    rw [Option.some.inj q]
    exact K6 i hi
  refine Back.mono (back hZ hw wi E V C K1 hty S hz (by omega) (by omega) (fun i hi => by rw [hcv i (by omega)]; exact hall _ (List.getElem_mem _)) hfr hlo) (fun P a hp => ⟨hp.1, hp.2.1, hp.2.2.1, by rw [e]; exact hp.2.2.2⟩) (fun P a v B hp hq => ?_)
  obtain ⟨L, ⟨q1, q2, q3, q4, q5, q6, q7, ⟨V', v1, v2, v3, v4, v5⟩, q9⟩, hl, hc, hs⟩ := hq
  refine ⟨L, ⟨q1, q2, q3, q4, q5, q6, q7, ⟨V'.cls, v3, V', v1, rfl, by rw [v4, e, hlen], K4, fun i hi => ?_, fun i hi => ?_⟩, q9⟩, hl, hc, by rw [hs, e]⟩
  · have hi' : i < cs.length := by omega
    rw [v5 i (by omega), hcv i hi']; simp [List.getD_eq_getElem?_getD, hi']
  · have hi' : i < cs.length := by omega
    simp only [List.getD_eq_getElem?_getD, List.getElem?_map, List.getElem?_eq_getElem hi', Option.map_some, Option.getD_some]
    exact fits_lo8 _
end StrChars.Road
namespace StrChars.Road
open Jvm Sem ClassFile Op Lib Jvm.Stand Jvm.Free Jvm.Free.XT
/-- WHAT COMES BACK, in the writer's own shape -/
def QV (Z : State) (x : Addr) (N : Int32) (bs : List Int32) (h : Heap) (n0 : Nat) (v : Option Value) (h' : Heap) (L : List Loc) : Prop := v = none ∧ RoadKit.Fr n0 L ∧ RoadKit.Keep h h' [x] ∧ RoadKit.Exa Z h' x ST ∧ RoadKit.Fld Z h' x ST "coder" "B" (.int 0) ∧
  ∃ (t : Addr) (kb : ClassId), n0 ≤ t ∧ h.size ≤ t ∧ ¬ t = x ∧ RoadKit.Fld Z h' x ST "value" "[B" (.ref t) ∧ RoadKit.Arv Z h' t kb .byte N (bs.map Value.int) (.int 0)
/-- **new String(chars) AT A CALL, FOR THE WRITER**: a char[] of n known ints, each 0 to 255 -/
theorem backV {p : Program} {l : Launch} {e : Env} {R : Room} {s : State} {args : Array Value} {below : List Frame} {len W : Nat} {Z : State} {a0 : Array Value} {h : Heap} (hZ : Z.Warmed39 s.vm) (hw : ∀ d ∈ words, d.before a0 Z = true) {kI : Nat} (wi : (Jvm.Cond.instantiable ST kI).before a0 Z = true)
    {x b : Addr} {kC : ClassId} {cs bs : List Int32} {d v0 c0 : Value} {z N : Int32} {n n0 : Nat} (hx0 : n0 ≤ x) (hh0 : n0 ≤ h.size) (E : RoadKit.Exa Z h x ST) (V : RoadKit.Fld Z h x ST "value" "[B" v0) (C : RoadKit.Fld Z h x ST "coder" "B" c0) (K : RoadKit.Arv Z h b kC .char N (cs.map Value.int) d) (S : RoadKit.Sta Z h ST "COMPACT_STRINGS" "Z" (.int z)) (hz : ¬ z = 0)
    (hn : cs.length = n) (hN : N = Int32.ofNat n) (l0 : 0 < n) (l2 : n ≤ 4000) (hp : ∀ c ∈ cs, ¬ c < 0 ∧ ¬ (255 : Int32) < c) (hb : bs = cs.map (fun c => c.toInt8.toInt32)) (hfr : 4 ≤ R.frames) (hlo : W + 65 ≤ R.locals) :
    Back l R p e below s args (⟨"java/lang/String", "<init>", "([C)V"⟩ : MethodName) len W (fun P a => a = #[.ref x, .ref b] ∧ P.U.heap = h ∧ P.cells + 1 ≤ R.cells ∧ P.slots + n ≤ R.slots)
      (fun P _ v B => ∃ L, QV Z x N bs h n0 v B.U.heap L ∧ B.locs = P.locs ++ L ∧ B.cells = P.cells + 1 ∧ B.slots = P.slots + n) := by
  subst hn hN hb
  refine Back.mono (backArv hZ hw wi E V C K S hz (n32 (by omega)) l0 (by omega) (fun c hc => (hp c hc).2) hfr hlo) (fun P a hp => hp) (fun P a v B hp hq => ?_)
  obtain ⟨L, ⟨q1, q2, q3, q4, q5, q6, q7, ⟨kb, v1, v2⟩, q9⟩, hl, hc, hs⟩ := hq
  exact ⟨L, ⟨q1, fun y hy => by rw [q2 y hy]; exact hx0, q3, q5, q7, h.size, kb, hh0, Nat.le_refl _, Nat.ne_of_gt E.lt, q6, by rw [List.map_map]; exact v2⟩, hl, hc, hs⟩
end StrChars.Road
namespace StrChars
open Jvm Sem ClassFile Op Lib Jvm.Stand Jvm.Free.XT Jvm.Free.ALB Jvm.Free.JM Jvm.Free
open Jvm.Lib.Cold (StaticIs)
def hi8 (x : Int32) : Int32 := lo8 (x >>> ((8 : Int32) &&& 31))
/-- what StringUTF16.getChar makes of two bytes -/
def pairCh (u v : Int32) : Int32 := (((u &&& 255) <<< ((0 : Int32) &&& 31)) ||| ((v &&& 255) <<< ((8 : Int32) &&& 31))).toUInt32.toUInt16.toUInt32.toInt32
theorem lo8_and (x : Int32) : (lo8 x &&& 255).toBitVec.toNat = x.toBitVec.toNat % 256 := by
  have h : (lo8 x).toBitVec = (x.toBitVec.signExtend 8).signExtend 32 := by rw [lo8, Int8.toBitVec_toInt32, Int32.toBitVec_toInt8]
  rw [Int32.toBitVec_and, BitVec.toNat_and, h]
  have e : ((x.toBitVec.signExtend 8).signExtend 32).toNat % 256 = x.toBitVec.toNat % 256 := by
    rw [BitVec.toNat_signExtend]
    have hlt := x.toBitVec.isLt
    simp only [BitVec.toNat_setWidth, BitVec.toNat_signExtend]
    split <;> split <;> omega
  rw [← e]
  exact Nat.and_two_pow_sub_one_eq_mod _ 8
theorem pair_says {c : Int32} (h0 : ¬ c < 0) (h1 : ¬ 65535 < c) : pairCh (lo8 c) (hi8 c) = c := by
  rw [Int32.lt_iff_toInt_lt] at h0 h1
  have e0 : (0 : Int32).toInt = 0 := rfl
  have e1 : (65535 : Int32).toInt = 65535 := rfl
  have hc : c.toInt = c.toBitVec.toNat := by
    have := c.toBitVec.isLt
    have e : c.toInt = c.toBitVec.toInt := rfl
    rw [e] at h0 h1
    rw [e]
    rw [BitVec.toInt_eq_toNat_cond] at h0 h1 ⊢
    split at h0 <;> split <;> omega
  have hn : c.toBitVec.toNat < 65536 := by omega
  have a1 := lo8_and c
  have a2 : (hi8 c &&& 255).toBitVec.toNat = c.toBitVec.toNat / 256 := by
    rw [hi8, lo8_and]
    have e : ((8 : Int32) &&& 31) = 8 := by decide
    rw [e, Int32.toBitVec_shiftRight]
    have e2 : ((8 : Int32).toBitVec.smod 32) = 8#32 := by decide
    rw [e2, BitVec.sshiftRight_eq', BitVec.toNat_sshiftRight_of_msb_false (by rw [BitVec.msb_eq_false_iff_two_mul_lt]; omega)]
    show c.toBitVec.toNat >>> 8 % 256 = _
    rw [Nat.shiftRight_eq_div_pow]
    omega
  unfold pairCh
  apply Int32.toBitVec_inj.mp
  apply BitVec.eq_of_toNat_eq
  have f0 : ((0 : Int32) &&& 31) = 0 := by decide
  have f8 : ((8 : Int32) &&& 31) = 8 := by decide
  rw [f0, f8]
  have g : (((lo8 c &&& 255) <<< (0 : Int32)) ||| ((hi8 c &&& 255) <<< (8 : Int32))).toBitVec.toNat = c.toBitVec.toNat := by
    rw [Int32.toBitVec_or, Int32.toBitVec_shiftLeft, Int32.toBitVec_shiftLeft]
    have s0 : ((0 : Int32).toBitVec.smod 32) = 0#32 := by decide
    have s8 : ((8 : Int32).toBitVec.smod 32) = 8#32 := by decide
    rw [s0, s8, BitVec.toNat_or]
    simp only [BitVec.shiftLeft_eq', BitVec.toNat_shiftLeft, a1, a2]
    show (c.toBitVec.toNat % 256) <<< 0 % 2 ^ 32 ||| (c.toBitVec.toNat / 256) <<< 8 % 2 ^ 32 = _
    rw [Nat.shiftLeft_zero, Nat.mod_eq_of_lt (show c.toBitVec.toNat % 256 < 2 ^ 32 by omega), Nat.mod_eq_of_lt (show (c.toBitVec.toNat / 256) <<< 8 < 2 ^ 32 by rw [Nat.shiftLeft_eq]; omega), Nat.or_comm, ← Nat.shiftLeft_add_eq_or_of_lt (by omega), Nat.shiftLeft_eq]
    omega
  show BitVec.toNat (((((lo8 c &&& 255) <<< (0 : Int32)) ||| ((hi8 c &&& 255) <<< (8 : Int32))).toBitVec.setWidth 16).setWidth 32) = _
  rw [BitVec.toNat_setWidth, BitVec.toNat_setWidth, g]
  omega
end StrChars
namespace StrChars
open Jvm Sem ClassFile Op Lib Jvm.Stand Jvm.Free.XT Jvm.Free.ALB Jvm.Free.JM Jvm.Free
open Jvm.Lib.Cold (StaticIs)
/-- the array's cell V codes the n chars f 0 .. f (n - 1) by the coder cd, as the JDK does: coder 1 just where some char is above 255 -/
def Cod (cd : Int32) (n : Nat) (f : Nat → Int32) (V : Cell) : Prop := (cd = 0 ∧ V.slots.size = n ∧ ∀ j, j < n → V.slots[j]? = some (.int (lo8 (f j))) ∧ ¬ 255 < f j) ∨ (cd = 1 ∧ V.slots.size = 2 * n ∧ (∀ j, j < n → V.slots[2 * j]? = some (.int (lo8 (f j))) ∧ V.slots[2 * j + 1]? = some (.int (hi8 (f j)))) ∧ ∃ j, j < n ∧ 255 < f j)
/-- **x is a String of the n chars f 0 .. f (n - 1)**, Latin-1 or UTF-16; its array at t has the cell V -/
def Txt (x t : Addr) (V : Cell) (cd : Int32) (n : Nat) (f : Nat → Int32) (U : State) : Prop := Exact "java/lang/String" x U ∧ Has x "java/lang/String" "value" "[B" (.ref t) U ∧ Has x "java/lang/String" "coder" "B" (.int cd) U ∧ XT.Arr .byte t V U ∧ Cod cd n f V ∧ ∀ j, j < n → ¬ f j < 0 ∧ ¬ 65535 < f j
theorem Txt.mv {x t : Addr} {V : Cell} {cd : Int32} {n : Nat} {f : Nat → Int32} {U U' : State} (h : Txt x t V cd n f U) (hal : U.vm.Alike U'.vm) (hh : U'.heap = U.heap) : Txt x t V cd n f U' := ⟨h.1.mv hal hh, h.2.1.mv hal hh, h.2.2.1.mv hal hh, h.2.2.2.1.mv hal hh, h.2.2.2.2⟩
end StrChars
namespace StrChars.Road
open Jvm Sem ClassFile Op Lib Jvm.Stand Jvm.Free Jvm.Free.XT
open Jvm.Lib.Cold (StaticIs)
theorem consq {a : Array Value} {s : State} {c : Jvm.Cond} {L : List Jvm.Cond} (h0 : c.before a s = true) (h : ∀ w ∈ L, w.before a s = true) : ∀ w ∈ c :: L, w.before a s = true := fun w hw => (List.mem_cons.mp hw).elim (fun e => e ▸ h0) (h w)
/-- the bytes of the chars cs, low before high -/
def wideBytes : List Int32 → List Value
  | [] => []
  | c :: cs => .int (lo8 c) :: .int (hi8 c) :: wideBytes cs
theorem wide_lo (d : Value) : ∀ (cs : List Int32) (j : Nat), j < cs.length → (wideBytes cs).getD (2 * j) d = .int (lo8 (cs.getD j 0))
  | [], j, h => absurd h (Nat.not_lt_zero j)
  | c :: cs, 0, _ => rfl
  | c :: cs, j + 1, h => by
    have q := wide_lo d cs j (by simpa using h)
    rw [show 2 * (j + 1) = 2 * j + 1 + 1 from by omega]
    simpa [wideBytes] using q
theorem wide_hi (d : Value) : ∀ (cs : List Int32) (j : Nat), j < cs.length → (wideBytes cs).getD (2 * j + 1) d = .int (hi8 (cs.getD j 0))
  | [], j, h => absurd h (Nat.not_lt_zero j)
  | c :: cs, 0, _ => rfl
  | c :: cs, j + 1, h => by
    have q := wide_hi d cs j (by simpa using h)
    rw [show 2 * (j + 1) + 1 = 2 * j + 1 + 1 + 1 from by omega]
    simpa [wideBytes] using q
theorem low_at (d : Value) (cs : List Int32) (j : Nat) (h : j < cs.length) : (cs.map fun c => Value.int (lo8 c)).getD j d = .int (lo8 (cs.getD j 0)) := by
  simp [List.getD_eq_getElem?_getD, h]
/-- an array of N2 bytes vs codes the chars cs by the coder cd -/
def CodA (cs : List Int32) (cd N2 : Int32) (vs : List Value) : Prop := (cd = 0 ∧ N2 = Int32.ofNat cs.length ∧ vs = (cs.map fun c => Value.int (lo8 c)) ∧ ∀ c ∈ cs, ¬ 255 < c) ∨ (cd = 1 ∧ N2 = Int32.ofNat (2 * cs.length) ∧ vs = wideBytes cs ∧ ∃ c ∈ cs, 255 < c)
theorem CodA.cod {cs : List Int32} {cd N2 : Int32} {vs : List Value} {V : Cell} (h : CodA cs cd N2 vs) (hn : 2 * cs.length < 2 ^ 31) (hs : V.slots.size = N2.toNatClampNeg) (hv : RoadKit.Has V vs (.int 0)) : Cod cd cs.length (fun j => cs.getD j 0) V := by
  rcases h with ⟨rfl, rfl, rfl, h⟩ | ⟨rfl, rfl, rfl, c, hc, hw⟩
  · rw [n32 (by omega)] at hs
    exact Or.inl ⟨rfl, hs, fun j hj => ⟨by rw [hv j (by omega), low_at _ _ _ hj], by
      have e : cs.getD j 0 = cs[j] := by simp [List.getD_eq_getElem?_getD, hj]
      show ¬ 255 < cs.getD j 0
      rw [e]; exact h _ (List.getElem_mem _)⟩⟩
  · rw [n32 (by omega)] at hs
    obtain ⟨j, hj, rfl⟩ := List.getElem_of_mem hc
    exact Or.inr ⟨rfl, hs, fun j hj => ⟨by rw [hv _ (by omega), wide_lo _ _ _ hj], by rw [hv _ (by omega), wide_hi _ _ _ hj]⟩, j, hj, by
      have e : cs.getD j 0 = cs[j] := by simp [List.getD_eq_getElem?_getD, hj]
      show 255 < cs.getD j 0
      rw [e]; exact hw⟩
/-- an object of exactly java/lang/String, its two fields found: as the laws ask it -/
theorem strObj {Z U : State} {a0 : Array Value} {kI : Nat} (wi : (Jvm.Cond.instantiable ST kI).before a0 Z = true) (al : Z.vm.Alike U.vm) {x : Addr} {v0 c0 : Value} (E : RoadKit.Exa Z U.heap x ST) (V : RoadKit.Fld Z U.heap x ST "value" "[B" v0) (C : RoadKit.Fld Z U.heap x ST "coder" "B" c0) :
    ∃ (D : Cell) (fV fC : Field), Blank ST x D U ∧ Found ST "value" "[B" fV U ∧ Found ST "coder" "B" fC U ∧ D.slots[fV.slot]? = some v0 ∧ D.slots[fC.slot]? = some c0 ∧ RoadKit.slotOf Z ST "value" "[B" = fV.slot ∧ RoadKit.slotOf Z ST "coder" "B" = fC.slot := by
  obtain ⟨D, cfV, kV, iV, fV, hD, gV, stV, knV, obV, asV, slV⟩ := V
  obtain ⟨D', cfC, kC, iC, fC, hD', gC, stC, -, -, asC, slC⟩ := C
  cases hD.symm.trans hD'
  obtain ⟨D2, kD, e1, e2, e3, e4, e5⟩ := E
  cases hD.symm.trans e1
  obtain ⟨c2, k2, i1, i2, i3, -⟩ := Cond.instantiable_spec wi
  cases e2.symm.trans i1
  cases e3.symm.trans i2
  obtain ⟨kU, u1, u2⟩ := al.2.2 _ _ e3
  exact ⟨D, fV, fC, ⟨hD, ⟨knV, fun q hq => by rw [hq] at obV; cases obV⟩, by rw [al.findClass]; exact e2, kU, u1, by rw [u2]; exact i3, by rw [u2]; exact e5 i3⟩, ⟨SBG.found_only al ⟨cfV, kV, iV, gV⟩, stV⟩, ⟨SBG.found_only al ⟨cfC, kC, iC, gC⟩, stC⟩, slV, slC, by simp [RoadKit.slotOf, gV], by simp [RoadKit.slotOf, gC]⟩
theorem sta_is {Z U : State} (al : Z.vm.Alike U.vm) {C n d : String} {v : Value} (S : RoadKit.Sta Z U.heap C n d v) : StaticIs U C n d v := by
  obtain ⟨cfS, iS, kS, fS, st, cS, t1, t2, t3, t4, t5, t6, t7⟩ := S
  exact StaticIs.there (s := { Z with heap := U.heap }) ⟨cfS, iS, kS, fS, st, cS, t1, t2, t3, t4, t5, (fun q => by rw [q] at t6; cases t6), t7⟩ al rfl
end StrChars.Road
namespace StrChars
open Jvm Sem ClassFile Op Lib Jvm.Stand Jvm.Free.XT Jvm.Free.ALB Jvm.Free.JM Jvm.Free
open Jvm.Lib.Cold (StaticIs)
/-- what place i of a byte[]'s cell holds -/
def yv (A : Cell) (i : Nat) : Int32 := match A.slots[i]? with | some (.int x) => x | _ => 0
theorem yv_get {a : Addr} {A : Cell} {U : State} (h : XT.Arr .byte a A U) (ht : Typed .byte A) {i : Nat} (hi : i < A.slots.size) : A.slots[i]? = some (.int (yv A i)) := by
  have e := Array.getElem?_eq_getElem hi
  have f := ht i _ e
  unfold yv; rw [e]
  generalize A.slots[i] = v at f
  cases v <;> simp [fits] at f ⊢
/-- the two arrays are equal, place for place -/
def EqC (A B : Cell) : Prop := A.slots.size = B.slots.size ∧ ∀ i, i < A.slots.size → yv A i = yv B i
/-- a boolean that says whether p -/
def Says01 (q : Prop) (r : Option Value) (s u : State) : Prop := ∃ v : Int32, r = some (.int v) ∧ u.heap = s.heap ∧ ((v = 1 ∧ q) ∨ (v = 0 ∧ ¬ q))
theorem Says01.mv {q : Prop} : ∀ r (U U' V V' : State), U'.heap = U.heap → V.vm.Alike V'.vm → V'.heap = V.heap → Says01 q r U V → Says01 q r U' V' :=
  fun r U U' V V' h1 _ h2 ⟨v, a, b, c⟩ => ⟨v, a, by rw [h1, h2]; exact b, c⟩
namespace LEq
def yN : MethodName := ⟨"java/lang/StringLatin1", "equals", "([B[B)Z"⟩
abbrev yB : ByteArray := jdk_43_method_13_code
theorem d0 : decode yB 0 = .ok (.aload_n 0, 1) := by decide +kernel
theorem d1 : decode yB 1 = .ok (.arraylength, 1) := by decide +kernel
theorem d2 : decode yB 2 = .ok (.aload_n 1, 1) := by decide +kernel
theorem d3 : decode yB 3 = .ok (.arraylength, 1) := by decide +kernel
theorem d4 : decode yB 4 = .ok (.if_icmp (.ne) 30, 3) := by decide +kernel
theorem d7 : decode yB 7 = .ok (.iconst 0, 1) := by decide +kernel
theorem d8 : decode yB 8 = .ok (.istore_n 2, 1) := by decide +kernel
theorem d9 : decode yB 9 = .ok (.iload_n 2, 1) := by decide +kernel
theorem d10 : decode yB 10 = .ok (.aload_n 0, 1) := by decide +kernel
theorem d11 : decode yB 11 = .ok (.arraylength, 1) := by decide +kernel
theorem d12 : decode yB 12 = .ok (.if_icmp (.ge) 20, 3) := by decide +kernel
theorem d15 : decode yB 15 = .ok (.aload_n 0, 1) := by decide +kernel
theorem d16 : decode yB 16 = .ok (.iload_n 2, 1) := by decide +kernel
theorem d17 : decode yB 17 = .ok (.baload, 1) := by decide +kernel
theorem d18 : decode yB 18 = .ok (.aload_n 1, 1) := by decide +kernel
theorem d19 : decode yB 19 = .ok (.iload_n 2, 1) := by decide +kernel
theorem d20 : decode yB 20 = .ok (.baload, 1) := by decide +kernel
theorem d21 : decode yB 21 = .ok (.if_icmp (.eq) 5, 3) := by decide +kernel
theorem d24 : decode yB 24 = .ok (.iconst 0, 1) := by decide +kernel
theorem d25 : decode yB 25 = .ok (.ireturn, 1) := by decide +kernel
theorem d26 : decode yB 26 = .ok (.iinc 2 1, 3) := by decide +kernel
theorem d29 : decode yB 29 = .ok (.goto (-20), 3) := by decide +kernel
theorem d32 : decode yB 32 = .ok (.iconst 1, 1) := by decide +kernel
theorem d33 : decode yB 33 = .ok (.ireturn, 1) := by decide +kernel
theorem d34 : decode yB 34 = .ok (.iconst 0, 1) := by decide +kernel
theorem d35 : decode yB 35 = .ok (.ireturn, 1) := by decide +kernel
def site : List Cond := []
def tab : Cond := tabOf yN yB 3 (some .boolean) site
def P (a : Addr) (A : Cell) (b : Addr) (B : Cell) (args : Array Value) (s : State) : Prop := args = #[.ref a, .ref b] ∧ XT.Arr .byte a A s ∧ Typed .byte A ∧ XT.Arr .byte b B s ∧ Typed .byte B
/-- whether two byte[] are equal, place for place -/
theorem law (l : Launch) (a : Addr) (A : Cell) (b : Addr) (B : Cell) : Law l yN 2 2 0 0 yB 3 (some .boolean) site (P a A b B) (Says01 (EqC A B)) [] 0 0 := by
  refine Law.of_walk (plainFor_of_name (by decide +kernel)) (by decide +kernel) (by decide +kernel) (by decide) (fun _ _ h => by rw [h.1]; rfl) (fun _ U U' hal hh h => ⟨h.1, h.2.1.mv hal hh, h.2.2.1, h.2.2.2.1.mv hal hh, h.2.2.2.2⟩) (fun r U U' V V' h1 hal h2 h => Says01.mv r U U' V V' h1 hal h2 h) ?_
  intro p e s m args below meth c s₁ X0 hexec hbytes hml hret hlk hnm hown hh0 W hP
  obtain ⟨rfl, hA, tA, hB, tB⟩ := hP
  have a31 := hA.2.2.2
  have b31 := hB.2.2.2
  have hA0 := hA.mv X0.warmed.alike hh0
  have hB0 := hB.mv X0.warmed.alike hh0
  have c1 : Steps p.tables e below (s₁.setTop (entryFrame m #[.ref a, .ref b] 3)) (s₁.setTop (mkF m 0 #[.val (.ref a), .val (.ref b), .unset] [])) := entry rfl
  have c2 : Steps p.tables e below (s₁.setTop (entryFrame m #[.ref a, .ref b] 3)) (s₁.setTop (mkF m 4 #[.val (.ref a), .val (.ref b), .unset] [.int (Int32.ofNat B.slots.size), .int (Int32.ofNat A.slots.size)])) := c1.trans (by
    refine XS.aloadN X0.here hexec rfl (hb hbytes d0) rfl rfl ?_
    refine X0.alen hexec hA0 rfl rfl (hb hbytes d1) ?_
    refine XS.aloadN X0.here hexec rfl (hb hbytes d2) rfl rfl ?_
    refine X0.alen hexec hB0 rfl rfl (hb hbytes d3) ?_
    exact Steps.refl _)
  by_cases hs : A.slots.size = B.slots.size
  · have c3 : Steps p.tables e below (s₁.setTop (entryFrame m #[.ref a, .ref b] 3)) (s₁.setTop (mkF m 9 #[.val (.ref a), .val (.ref b), .val (.int 0)] [])) := c2.trans (by
      refine XS.icmpNo X0.here hexec rfl (hb hbytes d4) rfl (ii_ne_f (by rw [hs])) ?_
      refine iconstV X0.here hexec rfl 0 (hb hbytes d7) (by decide) ?_
      refine XS.istoreN X0.here hexec rfl (hb hbytes d8) rfl rfl ?_
      exact Steps.refl _)
    have loop : ∀ (r i : Nat), i + r = A.slots.size → (∀ j, j < i → yv A j = yv B j) → Steps p.tables e below (s₁.setTop (entryFrame m #[.ref a, .ref b] 3)) (s₁.setTop (mkF m 9 #[.val (.ref a), .val (.ref b), .val (.int (Int32.ofNat i))] [])) → ∃ (pc : Nat) (Ls : Array Slot) (v : Int32), (pc = 25 ∨ pc = 33) ∧ ((v = 1 ∧ EqC A B) ∨ (v = 0 ∧ ¬ EqC A B)) ∧ Steps p.tables e below (s₁.setTop (entryFrame m #[.ref a, .ref b] 3)) (s₁.setTop (mkF m pc Ls [.int v])) := by
      intro r
      induction r with
      | zero =>
        intro i hi he cl
        exact ⟨33, _, 1, Or.inr rfl, Or.inl ⟨rfl, hs, fun j hj => he j (by omega)⟩, cl.trans (by
          refine XS.iloadN X0.here hexec rfl (hb hbytes d9) rfl ?_
          refine XS.aloadN X0.here hexec rfl (hb hbytes d10) rfl rfl ?_
          refine X0.alen hexec hA0 rfl rfl (hb hbytes d11) ?_
          refine XS.icmpYes X0.here hexec rfl (pc0 := 12) rfl (hb hbytes d12) rfl (ii_ge_t (nlt32 (by omega) (by omega))) (by decide) rfl ?_
          refine iconstV X0.here hexec rfl 1 (hb hbytes d32) (by decide) ?_
          exact Steps.refl _)⟩
      | succ r ih =>
        intro i hi he cl
        have c4 : Steps p.tables e below (s₁.setTop (entryFrame m #[.ref a, .ref b] 3)) (s₁.setTop (mkF m 21 #[.val (.ref a), .val (.ref b), .val (.int (Int32.ofNat i))] [.int (yv B i), .int (yv A i)])) := cl.trans (by
          refine XS.iloadN X0.here hexec rfl (hb hbytes d9) rfl ?_
          refine XS.aloadN X0.here hexec rfl (hb hbytes d10) rfl rfl ?_
          refine X0.alen hexec hA0 rfl rfl (hb hbytes d11) ?_
          refine XS.icmpNo X0.here hexec rfl (hb hbytes d12) rfl (ii_ge_f (lt32 (by omega) (by omega))) ?_
          refine XS.aloadN X0.here hexec rfl (hb hbytes d15) rfl rfl ?_
          refine XS.iloadN X0.here hexec rfl (hb hbytes d16) rfl ?_
          refine X0.aget hexec hA0 rfl (yv_get hA tA (i := i) (by omega)) rfl rfl (hb hbytes d17) ?_
          refine XS.aloadN X0.here hexec rfl (hb hbytes d18) rfl rfl ?_
          refine XS.iloadN X0.here hexec rfl (hb hbytes d19) rfl ?_
          refine X0.aget hexec hB0 rfl (yv_get hB tB (i := i) (by omega)) rfl rfl (hb hbytes d20) ?_
          exact Steps.refl _)
        by_cases hv : yv A i = yv B i
        · have c5 : Steps p.tables e below (s₁.setTop (entryFrame m #[.ref a, .ref b] 3)) (s₁.setTop (mkF m 9 #[.val (.ref a), .val (.ref b), .val (.int (Int32.ofNat i + 1))] [])) := c4.trans (by
            refine XS.icmpYes X0.here hexec rfl (pc0 := 21) rfl (hb hbytes d21) rfl (ii_eq_t hv) (by decide) rfl ?_
            refine iincV X0.here hexec rfl 1 (hb hbytes d26) (by decide) rfl rfl ?_
            refine XS.goto X0.here hexec rfl (pc0 := 29) rfl (hb hbytes d29) (by decide) rfl ?_
            exact Steps.refl _)
          rw [succ32] at c5
          exact ih (i + 1) (by omega) (fun j hj => by
            by_cases e : j = i
            · rw [e]; exact hv
            · exact he j (by omega)) c5
        · exact ⟨25, _, 0, Or.inl rfl, Or.inr ⟨rfl, fun q => hv (q.2 i (by omega))⟩, c4.trans (by
            refine XS.icmpNo X0.here hexec rfl (hb hbytes d21) rfl (ii_eq_f hv) ?_
            refine iconstV X0.here hexec rfl 0 (hb hbytes d24) (by decide) ?_
            exact Steps.refl _)⟩
    obtain ⟨pc, Ls, v, hpc, hv, cz⟩ := loop A.slots.size 0 (by omega) (fun j hj => absurd hj (Nat.not_lt_zero j)) c3
    have nv : narrow .boolean (.int v) = .int v := by rcases hv with ⟨rfl, -⟩ | ⟨rfl, -⟩ <;> rfl
    rcases hpc with rfl | rfl
    · exact ⟨s₁, some (.int v), _, _, _, X0, rfl, rfl, rfl, (fun h => by cases h), ⟨v, rfl, hh0, hv⟩, fun fs hl => cz.trans (X0.ireturnOut hexec hret nv (Or.inr (Or.inl rfl)) (hb hbytes d25) hl)⟩
    · exact ⟨s₁, some (.int v), _, _, _, X0, rfl, rfl, rfl, (fun h => by cases h), ⟨v, rfl, hh0, hv⟩, fun fs hl => cz.trans (X0.ireturnOut hexec hret nv (Or.inr (Or.inl rfl)) (hb hbytes d33) hl)⟩
  · have c3 : Steps p.tables e below (s₁.setTop (entryFrame m #[.ref a, .ref b] 3)) (s₁.setTop (mkF m 35 #[.val (.ref a), .val (.ref b), .unset] [.int 0])) := c2.trans (by
      refine XS.icmpYes X0.here hexec rfl (pc0 := 4) rfl (hb hbytes d4) rfl (ii_ne_t (ne32 a31 b31 hs)) (by decide) rfl ?_
      refine iconstV X0.here hexec rfl 0 (hb hbytes d34) (by decide) ?_
      exact Steps.refl _)
    exact ⟨s₁, some (.int 0), _, _, _, X0, rfl, rfl, rfl, (fun h => by cases h), ⟨0, rfl, hh0, Or.inr ⟨rfl, fun q => hs q.1⟩⟩, fun fs hl => c3.trans (X0.ireturnOut hexec hret rfl (Or.inr (Or.inl rfl)) (hb hbytes d35) hl)⟩
end LEq
theorem Cod.ty {cd : Int32} {n : Nat} {f : Nat → Int32} {V : Cell} (h : Cod cd n f V) : Typed .byte V := fun i v hv => by
  have hi : i < V.slots.size := (Array.getElem?_eq_some_iff.mp hv).1
  rcases h with ⟨-, k1, k2⟩ | ⟨-, k1, k2, -⟩
  · rw [(k2 i (by omega)).1] at hv; cases hv; exact fits_lo8 _
  · rcases Nat.mod_two_eq_zero_or_one i with e | e
    · obtain ⟨j, rfl⟩ : ∃ j, i = 2 * j := ⟨i / 2, by omega⟩
      rw [(k2 j (by omega)).1] at hv; cases hv; exact fits_lo8 _
    · obtain ⟨j, rfl⟩ : ∃ j, i = 2 * j + 1 := ⟨i / 2, by omega⟩
      rw [(k2 j (by omega)).2] at hv; cases hv; exact fits_lo8 _
/-- the same text -/
def SameT (n : Nat) (f : Nat → Int32) (k : Nat) (g : Nat → Int32) : Prop := n = k ∧ ∀ j, j < n → f j = g j
theorem lo8_inj {x y : Int32} (h0 : ¬ x < 0) (h1 : ¬ 255 < x) (k0 : ¬ y < 0) (k1 : ¬ 255 < y) (h : lo8 x = lo8 y) : x = y := by
  rw [← lo8_mask h0 h1, ← lo8_mask k0 k1, h]
/-- arrays coded by one coder are equal just where the texts are -/
theorem Cod.eqv {cd : Int32} {n k : Nat} {f g : Nat → Int32} {V V' : Cell} (h : Cod cd n f V) (h' : Cod cd k g V') (hf : ∀ j, j < n → ¬ f j < 0 ∧ ¬ 65535 < f j) (hg : ∀ j, j < k → ¬ g j < 0 ∧ ¬ 65535 < g j) : EqC V V' ↔ SameT n f k g := by
  have yvv : ∀ {W : Cell} {i : Nat} {x : Int32}, W.slots[i]? = some (.int x) → yv W i = x := fun q => by unfold yv; rw [q]
  rcases h with ⟨rfl, k1, k2⟩ | ⟨rfl, k1, k2, -⟩
  · rcases h' with ⟨-, m1, m2⟩ | ⟨e, -⟩
    · constructor
      · rintro ⟨e1, e2⟩
        refine ⟨by omega, fun j hj => ?_⟩
        have q := e2 j (by omega)
        rw [yvv (k2 j hj).1, yvv (m2 j (by omega)).1] at q
        exact lo8_inj (hf j hj).1 (k2 j hj).2 (hg j (by omega)).1 (m2 j (by omega)).2 q
      · rintro ⟨rfl, e2⟩
        refine ⟨by omega, fun j hj => ?_⟩
        rw [yvv (k2 j (by omega)).1, yvv (m2 j (by omega)).1, e2 j (by omega)]
    · exact absurd e (by decide)
  · rcases h' with ⟨e, -⟩ | ⟨-, m1, m2, -⟩
    · exact absurd e (by decide)
    · constructor
      · rintro ⟨e1, e2⟩
        refine ⟨by omega, fun j hj => ?_⟩
        have q1 := e2 (2 * j) (by omega)
        have q2 := e2 (2 * j + 1) (by omega)
        rw [yvv (k2 j hj).1, yvv (m2 j (by omega)).1] at q1
        rw [yvv (k2 j hj).2, yvv (m2 j (by omega)).2] at q2
        rw [← pair_says (hf j hj).1 (hf j hj).2, ← pair_says (hg j (by omega)).1 (hg j (by omega)).2, q1, q2]
      · rintro ⟨rfl, e2⟩
        refine ⟨by omega, fun i hi => ?_⟩
        rcases Nat.mod_two_eq_zero_or_one i with e | e
        · obtain ⟨j, rfl⟩ : ∃ j, i = 2 * j := ⟨i / 2, by omega⟩
          rw [yvv (k2 j (by omega)).1, yvv (m2 j (by omega)).1, e2 j (by omega)]
        · obtain ⟨j, rfl⟩ : ∃ j, i = 2 * j + 1 := ⟨i / 2, by omega⟩
          rw [yvv (k2 j (by omega)).2, yvv (m2 j (by omega)).2, e2 j (by omega)]
/-- two codings differ: so do the texts -/
theorem Cod.dif {cd cd' : Int32} {n k : Nat} {f g : Nat → Int32} {V V' : Cell} (h : Cod cd n f V) (h' : Cod cd' k g V') (hne : ¬ cd = cd') : ¬ SameT n f k g := by
  rintro ⟨rfl, e⟩
  rcases h with ⟨rfl, -, k2⟩ | ⟨rfl, -, -, j, hj, hw⟩
  · rcases h' with ⟨rfl, -⟩ | ⟨-, -, -, j, hj, hw⟩
    · exact hne rfl
    · exact (k2 j hj).2 (by rw [e j hj]; exact hw)
  · rcases h' with ⟨-, -, m2⟩ | ⟨rfl, -⟩
    · exact (m2 j hj).2 (by rw [← e j hj]; exact hw)
    · exact hne rfl
/-- an object of exactly C is an instance of C -/
theorem cinst {p : Program} {l : Launch} {e : Env} {R : Room} {s : State} {m : MethodId} {args : Array Value} {below : List Frame} {meth : Method} {c : Code} {T : State} {locs : List Loc} {cells slots : Nat} (X : Stand p l e R s m args below meth c T locs cells slots) (hexec : p.tables.exec = Jvm.exec) {own C : String} {index : Nat} (hown : s.vm.findClass own = some m.cls) (hlink : (Cond.classLink own index C).before args s = true) {a : Addr} (hE : Exact C a T)
    {g : JFrame} (hg : g.method = m) {rest : List Value} (hstack : g.stack = .ref a :: rest) (hdg : decode c.code g.pc = .ok (.instanceof index, 3)) :
    ∃ T', Stand p l e R s m args below meth c T' locs cells slots ∧ T'.heap = T.heap ∧ ∀ target, Steps p.tables e below (T'.setTop { g with pc := g.pc + 3, stack := .int 1 :: rest }) target → Steps p.tables e below (T.setTop g) target := by
  obtain ⟨cB, h1, D, h2, h3, h4⟩ := hE
  have h1' : s.vm.findClass C = some cB := by rw [← X.warmed.alike.findClass]; exact h1
  obtain ⟨vm', X', st⟩ := X.instanceofYes hexec hown hlink h2 h4 h1' (by rw [h3]; exact Jvm.Free.SB.assignable_self _ _) hg hstack hdg
  exact ⟨_, X', rfl, st⟩
theorem cself {p : Program} {l : Launch} {e : Env} {R : Room} {s : State} {m : MethodId} {args : Array Value} {below : List Frame} {meth : Method} {c : Code} {T : State} {locs : List Loc} {cells slots : Nat} (X : Stand p l e R s m args below meth c T locs cells slots) (hexec : p.tables.exec = Jvm.exec) {own C : String} {index : Nat} (hown : s.vm.findClass own = some m.cls) (hlink : (Cond.classLink own index C).before args s = true) {a : Addr} (hE : Exact C a T)
    {g : JFrame} (hg : g.method = m) {rest : List Value} (hstack : g.stack = .ref a :: rest) (hdg : decode c.code g.pc = .ok (.checkcast index, 3)) :
    ∃ T', Stand p l e R s m args below meth c T' locs cells slots ∧ T'.heap = T.heap ∧ ∀ target, Steps p.tables e below (T'.setTop { g with pc := g.pc + 3, stack := .ref a :: rest }) target → Steps p.tables e below (T.setTop g) target := by
  obtain ⟨cB, h1, D, h2, h3, h4⟩ := hE
  have h1' : s.vm.findClass C = some cB := by rw [← X.warmed.alike.findClass]; exact h1
  obtain ⟨vm', X', st⟩ := X.checkcastYes hexec hown hlink h2 h4 h1' (by rw [h3]; exact Jvm.Free.SB.assignable_self _ _) hg hstack hdg
  exact ⟨_, X', rfl, fun t h => st t (by rw [← hstack] at h; exact h)⟩
namespace SEq
def yN : MethodName := ⟨"java/lang/String", "equals", "(Ljava/lang/Object;)Z"⟩
abbrev yB : ByteArray := jdk_42_method_66_code
theorem d0 : decode yB 0 = .ok (.aload_n 0, 1) := by decide +kernel
theorem d1 : decode yB 1 = .ok (.aload_n 1, 1) := by decide +kernel
theorem d2 : decode yB 2 = .ok (.if_acmp (.ne) 5, 3) := by decide +kernel
theorem d5 : decode yB 5 = .ok (.iconst 1, 1) := by decide +kernel
theorem d6 : decode yB 6 = .ok (.ireturn, 1) := by decide +kernel
theorem d7 : decode yB 7 = .ok (.aload_n 1, 1) := by decide +kernel
theorem d8 : decode yB 8 = .ok (.instanceof 10, 3) := by decide +kernel
theorem d11 : decode yB 11 = .ok (.ifCond (.eq) 43, 3) := by decide +kernel
theorem d14 : decode yB 14 = .ok (.aload_n 1, 1) := by decide +kernel
theorem d15 : decode yB 15 = .ok (.checkcast 10, 3) := by decide +kernel
theorem d18 : decode yB 18 = .ok (.astore_n 2, 1) := by decide +kernel
theorem d19 : decode yB 19 = .ok (.getstatic 38, 3) := by decide +kernel
theorem d22 : decode yB 22 = .ok (.ifCond (.eq) 14, 3) := by decide +kernel
theorem d25 : decode yB 25 = .ok (.aload_n 0, 1) := by decide +kernel
theorem d26 : decode yB 26 = .ok (.getfield 15, 3) := by decide +kernel
theorem d29 : decode yB 29 = .ok (.aload_n 2, 1) := by decide +kernel
theorem d30 : decode yB 30 = .ok (.getfield 15, 3) := by decide +kernel
theorem d33 : decode yB 33 = .ok (.if_icmp (.ne) 21, 3) := by decide +kernel
theorem d36 : decode yB 36 = .ok (.aload_n 0, 1) := by decide +kernel
theorem d37 : decode yB 37 = .ok (.getfield 9, 3) := by decide +kernel
theorem d40 : decode yB 40 = .ok (.aload_n 2, 1) := by decide +kernel
theorem d41 : decode yB 41 = .ok (.getfield 9, 3) := by decide +kernel
theorem d44 : decode yB 44 = .ok (.invokestatic 541, 3) := by decide +kernel
theorem d47 : decode yB 47 = .ok (.ifCond (.eq) 7, 3) := by decide +kernel
theorem d50 : decode yB 50 = .ok (.iconst 1, 1) := by decide +kernel
theorem d51 : decode yB 51 = .ok (.goto 4, 3) := by decide +kernel
theorem d54 : decode yB 54 = .ok (.iconst 0, 1) := by decide +kernel
theorem d55 : decode yB 55 = .ok (.ireturn, 1) := by decide +kernel
def site : List Cond := [.classLink "java/lang/String" 10 "java/lang/String", .fieldLink "java/lang/String" 38 "java/lang/String" "COMPACT_STRINGS" "Z", .fieldLink "java/lang/String" 15 "java/lang/String" "coder" "B", .fieldLink "java/lang/String" 9 "java/lang/String" "value" "[B", LEq.tab] ++ staticW "java/lang/String" 541 LEq.yN
def tab : Cond := tabOf yN yB 3 (some .boolean) site
def P (x t : Addr) (V : Cell) (cd : Int32) (n : Nat) (f : Nat → Int32) (y t' : Addr) (V' : Cell) (cd' : Int32) (k : Nat) (g : Nat → Int32) (z : Int32) (args : Array Value) (s : State) : Prop := args = #[.ref x, .ref y] ∧ Txt x t V cd n f s ∧ Txt y t' V' cd' k g s ∧ StaticIs s "java/lang/String" "COMPACT_STRINGS" "Z" (.int z) ∧ ¬ z = 0
/-- equals(Object) of two Strings: whether the texts are the same -/
theorem law (l : Launch) (x t : Addr) (V : Cell) (cd : Int32) (n : Nat) (f : Nat → Int32) (y t' : Addr) (V' : Cell) (cd' : Int32) (k : Nat) (g : Nat → Int32) (z : Int32) : Law l yN 2 1 1 14 yB 3 (some .boolean) site (P x t V cd n f y t' V' cd' k g z) (Says01 (SameT n f k g)) [] 0 0 := by
  refine Law.of_walk (plainFor_of_name (by decide +kernel)) (by decide +kernel) (by decide +kernel) (by decide) (fun _ _ h => by rw [h.1]; rfl) (fun _ U U' hal hh h => ⟨h.1, h.2.1.mv hal hh, h.2.2.1.mv hal hh, h.2.2.2.1.there hal hh, h.2.2.2.2⟩) (fun r U U' V V' h1 hal h2 h => Says01.mv r U U' V V' h1 hal h2 h) ?_
  intro p e s m args below meth c s₁ X0 hexec hbytes hml hret hlk hnm hown hh0 W hP
  obtain ⟨rfl, hx, hy, s1, hz⟩ := hP
  have c1 : Steps p.tables e below (s₁.setTop (entryFrame m #[.ref x, .ref y] 3)) (s₁.setTop (mkF m 2 #[.val (.ref x), .val (.ref y), .unset] [.ref y, .ref x])) := Steps.trans (entry rfl) (by
    show Steps p.tables e below (s₁.setTop (mkF m 0 #[.val (.ref x), .val (.ref y), .unset] [])) _
    refine XS.aloadN X0.here hexec rfl (hb hbytes d0) rfl rfl ?_
    refine XS.aloadN X0.here hexec rfl (hb hbytes d1) rfl rfl ?_
    exact Steps.refl _)
  by_cases hxy : x = y
  · have c2 : Steps p.tables e below (s₁.setTop (entryFrame m #[.ref x, .ref y] 3)) (s₁.setTop (mkF m 6 #[.val (.ref x), .val (.ref y), .unset] [.int 1])) := c1.trans (by
      refine acmpNo X0.here hexec rfl (hb hbytes d2) rfl rfl rfl (by simp [acmp, hxy]) ?_
      refine iconstV X0.here hexec rfl 1 (hb hbytes d5) (by decide) ?_
      exact Steps.refl _)
    subst hxy
    have ec : cd = cd' := by
      obtain ⟨D, fd, a1, a2, a3⟩ := hx.2.2.1
      obtain ⟨D', fd', b1, b2, b3⟩ := hy.2.2.1
      cases a1.symm.trans b1
      obtain ⟨q1, q2, q3, q4⟩ := a2.1
      obtain ⟨r1, r2, r3, r4⟩ := b2.1
      cases q4.symm.trans r4
      cases a3.symm.trans b3; rfl
    have et : t = t' := by
      obtain ⟨D, fd, a1, a2, a3⟩ := hx.2.1
      obtain ⟨D', fd', b1, b2, b3⟩ := hy.2.1
      cases a1.symm.trans b1
      obtain ⟨q1, q2, q3, q4⟩ := a2.1
      obtain ⟨r1, r2, r3, r4⟩ := b2.1
      cases q4.symm.trans r4
      cases a3.symm.trans b3; rfl
    subst ec et
    have ev : V = V' := by cases hx.2.2.2.1.1.symm.trans hy.2.2.2.1.1; rfl
    subst ev
    have hs : SameT n f k g := (Cod.eqv hx.2.2.2.2.1 hy.2.2.2.2.1 hx.2.2.2.2.2 hy.2.2.2.2.2).mp ⟨rfl, fun _ _ => rfl⟩
    exact ⟨s₁, some (.int 1), _, _, _, X0, rfl, rfl, rfl, (fun h => by cases h), ⟨1, rfl, hh0, Or.inl ⟨rfl, hs⟩⟩, fun fs hl => c2.trans (X0.ireturnOut hexec hret rfl (Or.inr (Or.inl rfl)) (hb hbytes d6) hl)⟩
  · have c2 : Steps p.tables e below (s₁.setTop (entryFrame m #[.ref x, .ref y] 3)) (s₁.setTop (mkF m 8 #[.val (.ref x), .val (.ref y), .unset] [.ref y])) := c1.trans (by
      refine acmpYes X0.here hexec rfl (pc0 := 2) rfl (hb hbytes d2) rfl rfl rfl (by simp [acmp, hxy]) (by decide) rfl ?_
      refine XS.aloadN X0.here hexec rfl (hb hbytes d7) rfl rfl ?_
      exact Steps.refl _)
    obtain ⟨T3, X3, q3, st3⟩ := cinst X0 hexec hown (wk W (.classLink "java/lang/String" 10 "java/lang/String")) (hy.mv X0.warmed.alike hh0).1 (g := (mkF m 8 #[.val (.ref x), .val (.ref y), .unset] [.ref y])) rfl (rest := []) rfl (hb hbytes d8)
    have hh3 := q3.trans hh0
    have c4 : Steps p.tables e below (s₁.setTop (entryFrame m #[.ref x, .ref y] 3)) (T3.setTop (mkF m 15 #[.val (.ref x), .val (.ref y), .unset] [.ref y])) := (c2.trans (st3 _ (Steps.refl _))).trans (by
      refine XS.ifNo X3.here hexec rfl (hb hbytes d11) rfl (i0_eq_f (by decide)) ?_
      refine XS.aloadN X3.here hexec rfl (hb hbytes d14) rfl rfl ?_
      exact Steps.refl _)
    obtain ⟨T5, X5, q5, st5⟩ := cself X3 hexec hown (wk W (.classLink "java/lang/String" 10 "java/lang/String")) (hy.mv X3.warmed.alike hh3).1 (g := (mkF m 15 #[.val (.ref x), .val (.ref y), .unset] [.ref y])) rfl (rest := []) rfl (hb hbytes d15)
    have hh5 := q5.trans hh3
    have c6 : Steps p.tables e below (s₁.setTop (entryFrame m #[.ref x, .ref y] 3)) (T5.setTop (mkF m 19 #[.val (.ref x), .val (.ref y), .val (.ref y)] [])) := (c4.trans (st5 _ (Steps.refl _))).trans (by
      refine XS.astoreN X5.here hexec rfl (hb hbytes d18) rfl rfl rfl ?_
      exact Steps.refl _)
    obtain ⟨T7, X7, q7, st7⟩ := X5.sget hexec hown (wk W (.fieldLink "java/lang/String" 38 "java/lang/String" "COMPACT_STRINGS" "Z")) s1 (fun _ _ h => by rw [hh5]; exact h) (g := (mkF m 19 #[.val (.ref x), .val (.ref y), .val (.ref y)] [])) rfl (hb hbytes d19)
    have hh7 := q7.trans hh5
    have c8 : Steps p.tables e below (s₁.setTop (entryFrame m #[.ref x, .ref y] 3)) (T7.setTop (mkF m 26 #[.val (.ref x), .val (.ref y), .val (.ref y)] [.ref x])) := (c6.trans (st7 _ (Steps.refl _))).trans (by
      refine XS.ifNo X7.here hexec rfl (hb hbytes d22) rfl (i0_eq_f hz) ?_
      refine XS.aloadN X7.here hexec rfl (hb hbytes d25) rfl rfl ?_
      exact Steps.refl _)
    obtain ⟨T9, X9, q9, st9⟩ := X7.hget hexec hown (wk W (.fieldLink "java/lang/String" 15 "java/lang/String" "coder" "B")) (hx.mv X7.warmed.alike hh7).2.2.1 (g := (mkF m 26 #[.val (.ref x), .val (.ref y), .val (.ref y)] [.ref x])) rfl (rest := []) rfl (hb hbytes d26)
    have hh9 := q9.trans hh7
    have c10 : Steps p.tables e below (s₁.setTop (entryFrame m #[.ref x, .ref y] 3)) (T9.setTop (mkF m 30 #[.val (.ref x), .val (.ref y), .val (.ref y)] [.ref y, .int cd])) := (c8.trans (st9 _ (Steps.refl _))).trans (by
      refine XS.aloadN X9.here hexec rfl (hb hbytes d29) rfl rfl ?_
      exact Steps.refl _)
    obtain ⟨T11, X11, q11, st11⟩ := X9.hget hexec hown (wk W (.fieldLink "java/lang/String" 15 "java/lang/String" "coder" "B")) (hy.mv X9.warmed.alike hh9).2.2.1 (g := (mkF m 30 #[.val (.ref x), .val (.ref y), .val (.ref y)] [.ref y, .int cd])) rfl (rest := [.int cd]) rfl (hb hbytes d30)
    have hh11 := q11.trans hh9
    have c12 : Steps p.tables e below (s₁.setTop (entryFrame m #[.ref x, .ref y] 3)) (T11.setTop (mkF m 33 #[.val (.ref x), .val (.ref y), .val (.ref y)] [.int cd', .int cd])) := c10.trans (st11 _ (Steps.refl _))
    by_cases hcd : cd = cd'
    · subst hcd
      have c13 : Steps p.tables e below (s₁.setTop (entryFrame m #[.ref x, .ref y] 3)) (T11.setTop (mkF m 37 #[.val (.ref x), .val (.ref y), .val (.ref y)] [.ref x])) := c12.trans (by
        refine XS.icmpNo X11.here hexec rfl (hb hbytes d33) rfl (ii_ne_f rfl) ?_
        refine XS.aloadN X11.here hexec rfl (hb hbytes d36) rfl rfl ?_
        exact Steps.refl _)
      obtain ⟨T14, X14, q14, st14⟩ := X11.hget hexec hown (wk W (.fieldLink "java/lang/String" 9 "java/lang/String" "value" "[B")) (hx.mv X11.warmed.alike hh11).2.1 (g := (mkF m 37 #[.val (.ref x), .val (.ref y), .val (.ref y)] [.ref x])) rfl (rest := []) rfl (hb hbytes d37)
      have hh14 := q14.trans hh11
      have c15 : Steps p.tables e below (s₁.setTop (entryFrame m #[.ref x, .ref y] 3)) (T14.setTop (mkF m 41 #[.val (.ref x), .val (.ref y), .val (.ref y)] [.ref y, .ref t])) := (c13.trans (st14 _ (Steps.refl _))).trans (by
        refine XS.aloadN X14.here hexec rfl (hb hbytes d40) rfl rfl ?_
        exact Steps.refl _)
      obtain ⟨T16, X16, q16, st16⟩ := X14.hget hexec hown (wk W (.fieldLink "java/lang/String" 9 "java/lang/String" "value" "[B")) (hy.mv X14.warmed.alike hh14).2.1 (g := (mkF m 41 #[.val (.ref x), .val (.ref y), .val (.ref y)] [.ref y, .ref t])) rfl (rest := [.ref t]) rfl (hb hbytes d41)
      have hh16 := q16.trans hh14
      have c17 : Steps p.tables e below (s₁.setTop (entryFrame m #[.ref x, .ref y] 3)) (T16.setTop (mkF m 44 #[.val (.ref x), .val (.ref y), .val (.ref y)] [.ref t', .ref t])) := c15.trans (st16 _ (Steps.refl _))
      obtain ⟨v18, T18, X18, E18, g18⟩ := X16.callS hexec (LEq.law l t V t' V') hown (wks W (staticW "java/lang/String" 541 LEq.yN)) (wk W LEq.tab) (W := 0) (Nat.le_of_ble_eq_true rfl) (Nat.le_of_ble_eq_true rfl) (Nat.le_refl _) (Nat.le_refl _) (g := (mkF m 44 #[.val (.ref x), .val (.ref y), .val (.ref y)] [.ref t', .ref t])) rfl (by rw [hml]; rfl) c17 (argsL := [.ref t, .ref t']) (rest := []) rfl rfl (by show 2 * 0 + 0 ≤ _; decide) (hb hbytes d44) (⟨rfl, hx.2.2.2.1.mv X16.warmed.alike hh16, hx.2.2.2.2.1.ty, hy.2.2.2.1.mv X16.warmed.alike hh16, hy.2.2.2.2.1.ty⟩)
      obtain ⟨v, rfl, q18, hv⟩ := E18
      have iff := Cod.eqv hx.2.2.2.2.1 hy.2.2.2.2.1 hx.2.2.2.2.2 hy.2.2.2.2.2
      rcases hv with ⟨rfl, he⟩ | ⟨rfl, he⟩
      · have c19 : Steps p.tables e below (s₁.setTop (entryFrame m #[.ref x, .ref y] 3)) (T18.setTop (mkF m 55 #[.val (.ref x), .val (.ref y), .val (.ref y)] [.int 1])) := Steps.trans g18 (by
          refine XS.ifNo X18.here hexec rfl (hb hbytes d47) rfl (i0_eq_f (by decide)) ?_
          refine iconstV X18.here hexec rfl 1 (hb hbytes d50) (by decide) ?_
          refine XS.goto X18.here hexec rfl (pc0 := 51) rfl (hb hbytes d51) (by decide) rfl ?_
          exact Steps.refl _)
        exact ⟨T18, some (.int 1), _, _, _, X18, rfl, rfl, rfl, (fun h => by cases h), ⟨1, rfl, q18.trans hh16, Or.inl ⟨rfl, iff.mp he⟩⟩, fun fs hl => c19.trans (X18.ireturnOut hexec hret rfl (Or.inr (Or.inl rfl)) (hb hbytes d55) hl)⟩
      · have c19 : Steps p.tables e below (s₁.setTop (entryFrame m #[.ref x, .ref y] 3)) (T18.setTop (mkF m 55 #[.val (.ref x), .val (.ref y), .val (.ref y)] [.int 0])) := Steps.trans g18 (by
          refine XS.ifYes X18.here hexec rfl (pc0 := 47) rfl (hb hbytes d47) rfl (i0_eq_t rfl) (by decide) rfl ?_
          refine iconstV X18.here hexec rfl 0 (hb hbytes d54) (by decide) ?_
          exact Steps.refl _)
        exact ⟨T18, some (.int 0), _, _, _, X18, rfl, rfl, rfl, (fun h => by cases h), ⟨0, rfl, q18.trans hh16, Or.inr ⟨rfl, fun q => he (iff.mpr q)⟩⟩, fun fs hl => c19.trans (X18.ireturnOut hexec hret rfl (Or.inr (Or.inl rfl)) (hb hbytes d55) hl)⟩
    · have c13 : Steps p.tables e below (s₁.setTop (entryFrame m #[.ref x, .ref y] 3)) (T11.setTop (mkF m 55 #[.val (.ref x), .val (.ref y), .val (.ref y)] [.int 0])) := c12.trans (by
        refine XS.icmpYes X11.here hexec rfl (pc0 := 33) rfl (hb hbytes d33) rfl (ii_ne_t hcd) (by decide) rfl ?_
        refine iconstV X11.here hexec rfl 0 (hb hbytes d54) (by decide) ?_
        exact Steps.refl _)
      exact ⟨T11, some (.int 0), _, _, _, X11, rfl, rfl, rfl, (fun h => by cases h), ⟨0, rfl, hh11, Or.inr ⟨rfl, Cod.dif hx.2.2.2.2.1 hy.2.2.2.2.1 hcd⟩⟩, fun fs hl => c13.trans (X11.ireturnOut hexec hret rfl (Or.inr (Or.inl rfl)) (hb hbytes d55) hl)⟩
theorem pays {l : Launch} {R : Room} {p : Program} {e : Env} {below : List Frame} {s : State} {sargs : Array Value} {len W : Nat} (x t : Addr) (V : Cell) (cd : Int32) (n : Nat) (f : Nat → Int32) (y t' : Addr) (V' : Cell) (cd' : Int32) (k : Nat) (g : Nat → Int32) (z : Int32) (htab : tab.before sargs s = true) (hfr : 2 ≤ R.frames) (hlo : W + 28 ≤ R.locals) :
    Back l R p e below s sargs yN len W (fun A₁ a₁ => A₁.cells + 0 ≤ R.cells ∧ A₁.slots + 0 ≤ R.slots ∧ P x t V cd n f y t' V' cd' k g z a₁ A₁.U) (fun A₁ _ v₁ B₁ => Says01 (SameT n f k g) v₁ A₁.U B₁.U ∧ B₁.locs = A₁.locs ++ [] ∧ B₁.cells = A₁.cells + 0 ∧ B₁.slots = A₁.slots + 0) :=
  (law l x t V cd n f y t' V' cd' k g z).pays htab hfr (by omega)
end SEq
end StrChars
namespace StrChars.Road
open Jvm Sem ClassFile Op Lib Jvm.Stand Jvm.Free Jvm.Free.XT
open Jvm.Lib.Cold (StaticIs)
/-- the words of String.equals(Object) -/
abbrev wordsEq : List Jvm.Cond := [.code SEq.yN SEq.yB 3 (some .boolean), .initialized ST, .classLink ST 10 ST, .fieldLink ST 38 ST "COMPACT_STRINGS" "Z", .fieldLink ST 15 ST "coder" "B", .fieldLink ST 9 ST "value" "[B", .methodLink ST 541 LEq.yN, .static LEq.yN, .code LEq.yN LEq.yB 3 (some .boolean), .initialized "java/lang/StringLatin1"]
theorem tabEq_of {a : Array Value} {s : State} (h : ∀ w ∈ wordsEq, w.before a s = true) : SEq.tab.before a s = true := by
  have hl : LEq.tab.before a s = true := unparts (wk h (.code LEq.yN LEq.yB 3 (some .boolean))) (wks h (.initialized LEq.yN.cls :: LEq.site))
  have q := consq hl h
  exact unparts (wk q (.code SEq.yN SEq.yB 3 (some .boolean))) (wks q (.initialized SEq.yN.cls :: SEq.site))
theorem movedEq {Z s : State} {a0 args : Array Value} (hZ : Z.Warmed39 s.vm) (hw : ∀ d ∈ wordsEq, d.before a0 Z = true) : ∀ d ∈ wordsEq, d.before args s = true := fun d hd => by
  have t : ∀ d ∈ wordsEq, (d.onTables && d.keepsFace) = true := by decide +kernel
  exact RoadKit.mv hZ (hw d hd) (t d hd)
/-- the road's facts of a String, as the laws ask it -/
theorem txt_of {Z U : State} {a0 : Array Value} {kI : Nat} (wi : (Jvm.Cond.instantiable ST kI).before a0 Z = true) (al : Z.vm.Alike U.vm) {x t : Addr} {kb : ClassId} {cs : List Int32} {cd N2 : Int32} {vs : List Value} (E : RoadKit.Exa Z U.heap x ST) (V : RoadKit.Fld Z U.heap x ST "value" "[B" (.ref t)) (C : RoadKit.Fld Z U.heap x ST "coder" "B" (.int cd)) (K : RoadKit.Arv Z U.heap t kb .byte N2 vs (.int 0)) (hc : CodA cs cd N2 vs) (hb : ∀ c ∈ cs, ¬ c < 0 ∧ ¬ (65535 : Int32) < c) (l2 : cs.length ≤ 4000) :
    ∃ A, Txt x t A cd cs.length (fun j => cs.getD j 0) U := by
  obtain ⟨A, K1, K2, K3, K4, K5, K6⟩ := K
  have hcod := hc.cod (by omega) K3 K5
  obtain ⟨D, fV, fC, hB, F1, F2, g1, g2, -, -⟩ := strObj wi al E V C
  exact ⟨A, ⟨_, hB.2.2.1, D, hB.1, rfl, by cases q : D.vm <;> first | rfl | exact absurd q (hB.2.1.2 _)⟩, Has.of hB F1 g1, Has.of hB F2 g2, ⟨K1.1, State.isArrayOf_alike al K1.2.1, K1.2.2, by rcases hcod with ⟨-, q, -⟩ | ⟨-, q, -⟩ <;> omega⟩, hcod, fun j hj => by
    have e : cs.getD j 0 = cs[j] := by simp [List.getD_eq_getElem?_getD, hj]
    show ¬ cs.getD j 0 < 0 ∧ ¬ 65535 < cs.getD j 0
    rw [e]; exact hb _ (List.getElem_mem _)⟩
theorem same_list (cs ds : List Int32) : SameT cs.length (fun j => cs.getD j 0) ds.length (fun j => ds.getD j 0) ↔ cs = ds := by
  constructor
  · rintro ⟨e, q⟩
    refine List.ext_getElem e fun j h1 h2 => ?_
    have := q j h1
    simpa [List.getD_eq_getElem?_getD, h1, h2] using this
  · rintro rfl
    exact ⟨rfl, fun _ _ => rfl⟩
/-- **equals(Object) OF TWO SUCH STRINGS**: 1 just where the chars are the same -/
theorem eqW {p : Program} {l : Launch} {e : Env} {R : Room} {s : State} {args : Array Value} {below : List Frame} {len W : Nat} {Z : State} {a0 : Array Value} {h : Heap} (hZ : Z.Warmed39 s.vm) (hw : ∀ d ∈ wordsEq, d.before a0 Z = true) {kI : Nat} (wi : (Jvm.Cond.instantiable ST kI).before a0 Z = true)
    {x t : Addr} {kb : ClassId} {cs : List Int32} {cd N2 : Int32} {vs : List Value} (E : RoadKit.Exa Z h x ST) (V : RoadKit.Fld Z h x ST "value" "[B" (.ref t)) (C : RoadKit.Fld Z h x ST "coder" "B" (.int cd)) (K : RoadKit.Arv Z h t kb .byte N2 vs (.int 0)) (hc : CodA cs cd N2 vs) (hb : ∀ c ∈ cs, ¬ c < 0 ∧ ¬ (65535 : Int32) < c) (l2 : cs.length ≤ 4000)
    {y t' : Addr} {kb' : ClassId} {ds : List Int32} {cd' N2' : Int32} {vs' : List Value} (E' : RoadKit.Exa Z h y ST) (V' : RoadKit.Fld Z h y ST "value" "[B" (.ref t')) (C' : RoadKit.Fld Z h y ST "coder" "B" (.int cd')) (K' : RoadKit.Arv Z h t' kb' .byte N2' vs' (.int 0)) (hc' : CodA ds cd' N2' vs') (hb' : ∀ c ∈ ds, ¬ c < 0 ∧ ¬ (65535 : Int32) < c) (l2' : ds.length ≤ 4000)
    {z : Int32} (S : RoadKit.Sta Z h ST "COMPACT_STRINGS" "Z" (.int z)) (hz : ¬ z = 0) (hfr : 2 ≤ R.frames) (hlo : W + 28 ≤ R.locals) :
    Back l R p e below s args (⟨"java/lang/String", "equals", "(Ljava/lang/Object;)Z"⟩ : MethodName) len W (fun P a => a = #[.ref x, .ref y] ∧ P.U.heap = h ∧ P.cells + 0 ≤ R.cells ∧ P.slots + 0 ≤ R.slots)
      (fun P _ v B => ∃ L, (((v = some (.int 1) ∧ cs = ds) ∨ (v = some (.int 0) ∧ ¬ cs = ds)) ∧ L = [] ∧ B.U.heap = h) ∧ B.locs = P.locs ++ L ∧ B.cells = P.cells + 0 ∧ B.slots = P.slots + 0) := by
  intro m meth c P g ig mk a X hg hsize hdg hW hn hp'
  obtain ⟨rfl, rfl, r1, r2⟩ := hp'
  have al : Z.vm.Alike P.U.vm := hZ.alike.trans X.warmed.alike
  obtain ⟨A, hx⟩ := txt_of wi al E V C K hc hb l2
  obtain ⟨A', hy⟩ := txt_of wi al E' V' C' K' hc' hb' l2'
  obtain ⟨v, B, X', ⟨⟨w, hv, hh, hq⟩, hl, hk, hs⟩, st⟩ := SEq.pays x t A cd cs.length (fun j => cs.getD j 0) y t' A' cd' ds.length (fun j => ds.getD j 0) z (tabEq_of (movedEq hZ hw)) hfr hlo m meth c P g ig mk _ X hg hsize hdg hW hn ⟨r1, r2, rfl, hx, hy, sta_is al S, hz⟩
  refine ⟨v, B, X', ⟨[], ⟨?_, rfl, hh⟩, hl, hk, hs⟩, st⟩
  rcases hq with ⟨rfl, q⟩ | ⟨rfl, q⟩
  · exact Or.inl ⟨hv, (same_list cs ds).mp q⟩
  · exact Or.inr ⟨hv, fun e => q ((same_list cs ds).mpr e)⟩
end StrChars.Road
namespace StrChars.Road
open Jvm Sem ClassFile Op Lib Jvm.Stand Jvm.Free Jvm.Free.XT
open Jvm.Lib.Cold (StaticIs)
/-- what backV says of its String, as the contracts of this text ask it: cs's low bytes, coder 0 -/
theorem codOf {cs : List Int32} {n : Nat} (hn : cs.length = n) (hb : ∀ c ∈ cs, ¬ 255 < c) : CodA cs 0 (Int32.ofNat n) ((cs.map lo8).map Value.int) := Or.inl ⟨rfl, by rw [hn], by simp [List.map_map, Function.comp_def], hb⟩
end StrChars.Road
end Jvm.Pilot.@@N@@

namespace Jvm.Pilot.@@N@@
open Jvm Jvm.ClassFile Sem Op Lib Jvm.Free Jvm.Stand Jvm.LawKit Jvm.RoadKit Bundle Jvm.Pilot.@@N@@.Jvm.D
theorem own_w {Z : State} {a0 : Array Value} (hw : ∀ d ∈ tables_1, d.before a0 Z = true) (i : Nat) {d : Jvm.Cond} (h : tables_1[i]? = some d) : d.before a0 Z = true := hw d (List.mem_of_getElem? h)
theorem ok {a b : Nat} (h : Nat.ble a b = true) : a ≤ b := Nat.le_of_ble_eq_true h
abbrev y0_ : MethodName := ⟨"com/example/orderly_balancer/orderlybalancer/config/Mode", "configName", "()Ljava/lang/String;"⟩
abbrev y1_ : MethodName := ⟨"com/example/orderly_balancer/orderlybalancer/config/Mode", "named", "(Ljava/lang/String;)Lcom/example/orderly_balancer/orderlybalancer/config/Mode;"⟩
abbrev y2_ : MethodName := ⟨"com/example/orderly_balancer/orderlybalancer/config/Mode", "values", "()[Lcom/example/orderly_balancer/orderlybalancer/config/Mode;"⟩
abbrev y4_ : MethodName := ⟨"java/lang/String", "equals", "(Ljava/lang/Object;)Z"⟩
theorem own_up {cs : List Int32} (h : ∀ c ∈ cs, ¬ c < 0 ∧ ¬ (255 : Int32) < c) : ∀ c ∈ cs, ¬ c < 0 ∧ ¬ (65535 : Int32) < c := fun c hc => ⟨(h c hc).1, fun q => (h c hc).2 (by rw [Int32.lt_iff_toInt_lt] at q ⊢; have e1 : (65535 : Int32).toInt = 65535 := rfl; have e2 : (255 : Int32).toInt = 255 := rfl; omega)⟩
theorem d8_0 : decode prog_5_method_1_code 0 = .ok (.getstatic 10, 3) := by decide +kernel
theorem d8_3 : decode prog_5_method_1_code 3 = .ok (.invokevirtual 14, 3) := by decide +kernel
theorem d8_6 : decode prog_5_method_1_code 6 = .ok (.checkcast 15, 3) := by decide +kernel
theorem d8_9 : decode prog_5_method_1_code 9 = .ok (.areturn, 1) := by decide +kernel
theorem pn_com_example_orderly_balancer_orderlybalancer_config_Mode : plainName "com/example/orderly_balancer/orderlybalancer/config/Mode" = true := by first | (simp [plainName, overriddenIn]; done) | decide +kernel
theorem efVal (m : MethodId)  : entryFrame m #[] 0 = mkF m 0 #[] [] := by first | (simp [entryFrame, mkF, argsToLocals, Value.category]; done) | rfl
def QVal (Z : State) (tcp : Addr) (va : Addr) (http : Addr) (sa : Addr) (ba : Addr) (sb : Addr) (bb : Addr) (k_va : ClassId) (k_ba : ClassId) (k_bb : ClassId) (zc : Int32) (fm : Value) (h0 : Heap) (n0 : Nat) (v : Option Value) (h : Heap) (L : List Loc) : Prop := ∃ b, v = some (.ref b) ∧ Fr n0 L ∧ Arv Z h b k_va (.object "com/example/orderly_balancer/orderlybalancer/config/Mode") (2 : Int32) [(.ref tcp), (.ref http)] .null ∧ Ext h0 h ∧ b = h0.size
set_option maxRecDepth 65536 in
set_option maxHeartbeats 40000000 in
theorem rmVal (l : Launch) (Z : State) (a0 : Array Value) (hw : ∀ d ∈ tables_1, d.before a0 Z = true) (ws : List Jvm.Cond) (tcp : Addr) (va : Addr) (http : Addr) (sa : Addr) (ba : Addr) (sb : Addr) (bb : Addr) (k_va : ClassId) (k_ba : ClassId) (k_bb : ClassId) (zc : Int32) (fm : Value) (h0 : Heap) (n0 : Nat) (Z0 : n0 ≤ h0.size) (O0 : Old Z n0 h0) (S_TCP : Sta Z Z.heap "com/example/orderly_balancer/orderlybalancer/config/Mode" "TCP" "Lcom/example/orderly_balancer/orderlybalancer/config/Mode;" (.ref tcp)) (E_tcp : Exa Z Z.heap tcp "com/example/orderly_balancer/orderlybalancer/config/Mode") (S__VALUES : Sta Z Z.heap "com/example/orderly_balancer/orderlybalancer/config/Mode" "$VALUES" "[Lcom/example/orderly_balancer/orderlybalancer/config/Mode;" (.ref va)) (E_va : Exa Z Z.heap va "[Lcom/example/orderly_balancer/orderlybalancer/config/Mode;") (S_HTTP : Sta Z Z.heap "com/example/orderly_balancer/orderlybalancer/config/Mode" "HTTP" "Lcom/example/orderly_balancer/orderlybalancer/config/Mode;" (.ref http)) (E_http : Exa Z Z.heap http "com/example/orderly_balancer/orderlybalancer/config/Mode") (F_tcp_configName : Fld Z Z.heap tcp "com/example/orderly_balancer/orderlybalancer/config/Mode" "configName" "Ljava/lang/String;" (.ref sa)) (E_sa : Exa Z Z.heap sa "java/lang/String") (F_sa_coder : Fld Z Z.heap sa "java/lang/String" "coder" "B" (.int (0 : Int32))) (F_sa_value : Fld Z Z.heap sa "java/lang/String" "value" "[B" (.ref ba)) (F_http_configName : Fld Z Z.heap http "com/example/orderly_balancer/orderlybalancer/config/Mode" "configName" "Ljava/lang/String;" (.ref sb)) (E_sb : Exa Z Z.heap sb "java/lang/String") (F_sb_coder : Fld Z Z.heap sb "java/lang/String" "coder" "B" (.int (0 : Int32))) (F_sb_value : Fld Z Z.heap sb "java/lang/String" "value" "[B" (.ref bb)) (V_va : Arv Z Z.heap va k_va (.object "com/example/orderly_balancer/orderlybalancer/config/Mode") (2 : Int32) [(.ref tcp), (.ref http)] .null) (V_ba : Arv Z Z.heap ba k_ba .byte (3 : Int32) [(.int (116 : Int32)), (.int (99 : Int32)), (.int (112 : Int32))] (.int (0 : Int32))) (V_bb : Arv Z Z.heap bb k_bb .byte (4 : Int32) [(.int (104 : Int32)), (.int (116 : Int32)), (.int (116 : Int32)), (.int (112 : Int32))] (.int (0 : Int32))) (S_CS : Sta Z Z.heap "java/lang/String" "COMPACT_STRINGS" "Z" (.int zc)) (hzc : ¬ zc = 0) (S_FM : Sta Z Z.heap "jdk/internal/util/Preconditions" "SIOOBE_FORMATTER" "Ljava/util/function/BiFunction;" fm) (hfm : fm.isRef = true) :
    MetFree l y2_ (head1 (Jvm.Cond.code y2_ prog_5_method_1_code 0 (some (.array (.object "com/example/orderly_balancer/orderlybalancer/config/Mode"))) :: ws) ({ frames := 1, cells := 1, slots := 2, locals := 14 } : Room)) (fun aa U => aa = #[] ∧ Z.Warmed39 U.vm ∧ U.heap = h0) (fun _ _ _ _ _ => True) (fun _ U oo U' => ∃ vv LL, oo = .returned vv ∧ QVal Z tcp va http sa ba sb bb k_va k_ba k_bb zc fm h0 n0 vv U'.heap LL ∧ FrameEnd U oo U' LL ({ frames := 1, cells := 1, slots := 2, locals := 14 } : Room).cells ({ frames := 1, cells := 1, slots := 2, locals := 14 } : Room).slots) := by
  refine MetFree.of_bodySF (plainFor_of_name pn_com_example_orderly_balancer_orderlybalancer_config_Mode) hisR ?_
  intro p e s m args below meth c s₁ Bd hml0 hP hK
  obtain ⟨rfl, hZ, hh⟩ := hP
  have hx := Bd.exec
  have hby := Bd.bytes
  have hml : c.maxLocals = 0 := hml0
  have hown : s.vm.findClass "com/example/orderly_balancer/orderlybalancer/config/Mode" = some m.cls := findClass_of_methodNamed Bd.named
  have hnm := (name_of_methodNamed Bd.named Bd.method).1
  have X0 : Stand p l e ({ frames := 1, cells := 1, slots := 2, locals := 14 } : Room) s m #[] below meth c s₁ [] 0 0 := Stand.of_body Bd
  have e0 : s₁.heap = h0 := by rw [← hh, Bd.state]; rfl
  have N0 := Fr.nil n0
  refine Goes.give (Q := QVal Z tcp va http sa ba sb bb k_va k_ba k_bb zc fm h0 n0) ?_
  rw [efVal m ]
  have K0 : Keep h0 h0 [] := Keep.refl _ _
  obtain ⟨T1, X1, e1, st1⟩ := getS2 X0 hx hZ hown (host := "") (Or.inl (own_w hw 39 rfl)) Via.refl e0 (S__VALUES.ext O0.2) (g := (mkF m 0 #[] [])) rfl (hb hby d8_0)
  refine Goes.step (T' := T1) (g' := (mkF m 3 #[] [(.ref va)])) st1 ?_
  have V3 : Arv Z h0 va k_va (.object "com/example/orderly_balancer/orderlybalancer/config/Mode") (2 : Int32) [(.ref tcp), (.ref http)] .null := (V_va.ext O0.2)
  obtain ⟨T2, h2, X2, e2, E2, V2, A2, st2⟩ := cloneV X1 hx hZ hown (own_w hw 41 rfl) (own_w hw 42 rfl) (own_w hw 46 rfl) (own_w hw 44 rfl) (own_w hw 45 rfl) (own_w hw 47 rfl) e1 V3 (E_va.ext O0.2) (g := (mkF m 3 #[] [(.ref va)])) rfl (by rw [hml]; rfl) rfl (hb hby d8_3) (ok rfl) (W := 0) (cap := 2) (by show 2 * 0 + _ ≤ _; exact Nat.le_of_eq rfl) (ok rfl) (ok rfl) (ok rfl) (ok rfl)
  obtain ⟨b2, g2⟩ : ∃ z, z = h0.size := ⟨_, rfl⟩
  rw [← g2] at V2 A2 st2
  have ge_b2 : n0 ≤ b2 := Nat.le_trans Z0 (Nat.le_of_eq g2.symm)
  have sz_b2 : h0.size ≤ b2 := Nat.le_trans K0.1 (Nat.le_of_eq g2.symm)
  refine Goes.step (T' := T2) (g' := (mkF m 6 #[] [(.ref b2)])) st2 ?_
  obtain ⟨T4, X4, e4, st4⟩ := castY X2 hx hZ hown (own_w hw 50 rfl) e2 (Ins.self A2) (g := (mkF m 6 #[] [(.ref b2)])) rfl rfl (hb hby d8_6)
  refine Goes.step (T' := T4) (g' := (mkF m 9 #[] [(.ref b2)])) st4 ?_
  refine Goes.retA X4 hx Bd.notSynchronized Bd.returns rfl rfl (hb hby d8_9) (ok rfl) (ok rfl) ?_
  rw [e4]
  exact ⟨b2, rfl, N0, V2, E2, g2⟩
theorem d11_0 : decode prog_5_method_4_code 0 = .ok (.aload_n 0, 1) := by decide +kernel
theorem d11_1 : decode prog_5_method_4_code 1 = .ok (.getfield 29, 3) := by decide +kernel
theorem d11_4 : decode prog_5_method_4_code 4 = .ok (.areturn, 1) := by decide +kernel
theorem efCfg (m : MethodId) (a : Addr) : entryFrame m #[(.ref a)] 1 = mkF m 0 #[.val (.ref a)] [] := by first | (simp [entryFrame, mkF, argsToLocals, Value.category]; done) | rfl
def QCfg (Z : State) (a : Addr) (sx : Addr) (h0 : Heap) (n0 : Nat) (v : Option Value) (h : Heap) (L : List Loc) : Prop := v = some (.ref sx) ∧ Fr n0 L ∧ h = h0
set_option maxRecDepth 65536 in
set_option maxHeartbeats 40000000 in
theorem rmCfg (l : Launch) (Z : State) (a0 : Array Value) (hw : ∀ d ∈ tables_1, d.before a0 Z = true) (ws : List Jvm.Cond) (a : Addr) (sx : Addr) (h0 : Heap) (n0 : Nat) (Z0 : n0 ≤ h0.size) (O0 : Old Z n0 h0) (Fa : Fld Z Z.heap a "com/example/orderly_balancer/orderlybalancer/config/Mode" "configName" "Ljava/lang/String;" (.ref sx)) :
    MetFree l y0_ (head1 (Jvm.Cond.code y0_ prog_5_method_4_code 1 (some (.object "java/lang/String")) :: ws) ({ frames := 0, cells := 0, slots := 0, locals := 0 } : Room)) (fun aa U => aa = #[(.ref a)] ∧ Z.Warmed39 U.vm ∧ U.heap = h0) (fun _ _ _ _ _ => True) (fun _ U oo U' => ∃ vv LL, oo = .returned vv ∧ QCfg Z a sx h0 n0 vv U'.heap LL ∧ FrameEnd U oo U' LL ({ frames := 0, cells := 0, slots := 0, locals := 0 } : Room).cells ({ frames := 0, cells := 0, slots := 0, locals := 0 } : Room).slots) := by
  refine MetFree.of_bodySF (plainFor_of_name pn_com_example_orderly_balancer_orderlybalancer_config_Mode) hisR ?_
  intro p e s m args below meth c s₁ Bd hml0 hP hK
  obtain ⟨rfl, hZ, hh⟩ := hP
  have hx := Bd.exec
  have hby := Bd.bytes
  have hml : c.maxLocals = 1 := hml0
  have hown : s.vm.findClass "com/example/orderly_balancer/orderlybalancer/config/Mode" = some m.cls := findClass_of_methodNamed Bd.named
  have hnm := (name_of_methodNamed Bd.named Bd.method).1
  have X0 : Stand p l e ({ frames := 0, cells := 0, slots := 0, locals := 0 } : Room) s m #[(.ref a)] below meth c s₁ [] 0 0 := Stand.of_body Bd
  have e0 : s₁.heap = h0 := by rw [← hh, Bd.state]; rfl
  have N0 := Fr.nil n0
  refine Goes.give (Q := QCfg Z a sx h0 n0) ?_
  rw [efCfg m a]
  have K0 : Keep h0 h0 [] := Keep.refl _ _
  refine P1.aloadN X0.here hx (hb hby d11_0) rfl rfl ?_
  obtain ⟨T5, X5, e5, st5⟩ := getF X0 hx hZ hown (host := "") (Or.inl (own_w hw 52 rfl)) Via.refl e0 (Fa.ext O0.2) (g := (mkF m 1 #[.val (.ref a)] [(.ref a)])) rfl rfl (hb hby d11_1)
  refine Goes.step (T' := T5) (g' := (mkF m 4 #[.val (.ref a)] [(.ref sx)])) st5 ?_
  refine Goes.retA X5 hx Bd.notSynchronized Bd.returns rfl rfl (hb hby d11_4) (ok rfl) (ok rfl) ?_
  rw [e5]
  exact ⟨rfl, N0, rfl⟩
theorem d7_0 : decode prog_5_method_5_code 0 = .ok (.invokestatic 33, 3) := by decide +kernel
theorem d7_3 : decode prog_5_method_5_code 3 = .ok (.astore_n 1, 1) := by decide +kernel
theorem d7_4 : decode prog_5_method_5_code 4 = .ok (.aload_n 1, 1) := by decide +kernel
theorem d7_5 : decode prog_5_method_5_code 5 = .ok (.arraylength, 1) := by decide +kernel
theorem d7_6 : decode prog_5_method_5_code 6 = .ok (.istore_n 2, 1) := by decide +kernel
theorem d7_7 : decode prog_5_method_5_code 7 = .ok (.iconst 0, 1) := by decide +kernel
theorem d7_8 : decode prog_5_method_5_code 8 = .ok (.istore_n 3, 1) := by decide +kernel
theorem d7_9 : decode prog_5_method_5_code 9 = .ok (.iload_n 3, 1) := by decide +kernel
theorem d7_10 : decode prog_5_method_5_code 10 = .ok (.iload_n 2, 1) := by decide +kernel
theorem d7_11 : decode prog_5_method_5_code 11 = .ok (.if_icmp .ge 29, 3) := by decide +kernel
theorem d7_14 : decode prog_5_method_5_code 14 = .ok (.aload_n 1, 1) := by decide +kernel
theorem d7_15 : decode prog_5_method_5_code 15 = .ok (.iload_n 3, 1) := by decide +kernel
theorem d7_16 : decode prog_5_method_5_code 16 = .ok (.aaload, 1) := by decide +kernel
theorem d7_17 : decode prog_5_method_5_code 17 = .ok (.astore 4, 2) := by decide +kernel
theorem d7_19 : decode prog_5_method_5_code 19 = .ok (.aload 4, 2) := by decide +kernel
theorem d7_21 : decode prog_5_method_5_code 21 = .ok (.getfield 29, 3) := by decide +kernel
theorem d7_24 : decode prog_5_method_5_code 24 = .ok (.aload_n 0, 1) := by decide +kernel
theorem d7_25 : decode prog_5_method_5_code 25 = .ok (.invokevirtual 37, 3) := by decide +kernel
theorem d7_28 : decode prog_5_method_5_code 28 = .ok (.ifCond .eq 6, 3) := by decide +kernel
theorem d7_31 : decode prog_5_method_5_code 31 = .ok (.aload 4, 2) := by decide +kernel
theorem d7_33 : decode prog_5_method_5_code 33 = .ok (.areturn, 1) := by decide +kernel
theorem d7_34 : decode prog_5_method_5_code 34 = .ok (.iinc 3 1, 3) := by decide +kernel
theorem d7_37 : decode prog_5_method_5_code 37 = .ok (.goto (-28), 3) := by decide +kernel
theorem d7_40 : decode prog_5_method_5_code 40 = .ok (.new 43, 3) := by decide +kernel
theorem d7_43 : decode prog_5_method_5_code 43 = .ok (.dup, 1) := by decide +kernel
theorem d7_44 : decode prog_5_method_5_code 44 = .ok (.aload_n 0, 1) := by decide +kernel
theorem d7_50 : decode prog_5_method_5_code 50 = .ok (.invokespecial 49, 3) := by decide +kernel
theorem d7_53 : decode prog_5_method_5_code 53 = .ok (.athrow, 1) := by decide +kernel
theorem pd_185109 : parseMethodDescriptor "()[Lcom/example/orderly_balancer/orderlybalancer/config/Mode;" = some ⟨[], some (.array (.object "com/example/orderly_balancer/orderlybalancer/config/Mode"))⟩ := by decide +kernel
theorem in_wordsEq : ∀ d ∈ StrChars.Road.wordsEq, d ∈ tables_1 := by decide +kernel
theorem pd_20140 : parseMethodDescriptor "(Ljava/lang/Object;)Z" = some ⟨[(.object "java/lang/Object")], some .boolean⟩ := by decide +kernel
theorem efNT (m : MethodId) (xs : Addr) : entryFrame m #[(.ref xs)] 5 = mkF m 0 #[.val (.ref xs), .unset, .unset, .unset, .unset] [] := by first | (simp [entryFrame, mkF, argsToLocals, Value.category]; done) | rfl
def QNT (Z : State) (tcp : Addr) (va : Addr) (http : Addr) (sa : Addr) (ba : Addr) (sb : Addr) (bb : Addr) (k_va : ClassId) (k_ba : ClassId) (k_bb : ClassId) (zc : Int32) (fm : Value) (xs : Addr) (xt : Addr) (xk : ClassId) (h0 : Heap) (n0 : Nat) (v : Option Value) (h : Heap) (L : List Loc) : Prop := v = some (.ref tcp) ∧ Fr n0 L ∧ Keep h0 h []
set_option maxRecDepth 65536 in
set_option maxHeartbeats 40000000 in
theorem rmNT (l : Launch) (Z : State) (a0 : Array Value) (hw : ∀ d ∈ tables_1, d.before a0 Z = true) (ws : List Jvm.Cond) (tcp : Addr) (va : Addr) (http : Addr) (sa : Addr) (ba : Addr) (sb : Addr) (bb : Addr) (k_va : ClassId) (k_ba : ClassId) (k_bb : ClassId) (zc : Int32) (fm : Value) (xs : Addr) (xt : Addr) (xk : ClassId) (h0 : Heap) (n0 : Nat) (Z0 : n0 ≤ h0.size) (O0 : Old Z n0 h0) (S_TCP : Sta Z Z.heap "com/example/orderly_balancer/orderlybalancer/config/Mode" "TCP" "Lcom/example/orderly_balancer/orderlybalancer/config/Mode;" (.ref tcp)) (E_tcp : Exa Z Z.heap tcp "com/example/orderly_balancer/orderlybalancer/config/Mode") (S__VALUES : Sta Z Z.heap "com/example/orderly_balancer/orderlybalancer/config/Mode" "$VALUES" "[Lcom/example/orderly_balancer/orderlybalancer/config/Mode;" (.ref va)) (E_va : Exa Z Z.heap va "[Lcom/example/orderly_balancer/orderlybalancer/config/Mode;") (S_HTTP : Sta Z Z.heap "com/example/orderly_balancer/orderlybalancer/config/Mode" "HTTP" "Lcom/example/orderly_balancer/orderlybalancer/config/Mode;" (.ref http)) (E_http : Exa Z Z.heap http "com/example/orderly_balancer/orderlybalancer/config/Mode") (F_tcp_configName : Fld Z Z.heap tcp "com/example/orderly_balancer/orderlybalancer/config/Mode" "configName" "Ljava/lang/String;" (.ref sa)) (E_sa : Exa Z Z.heap sa "java/lang/String") (F_sa_coder : Fld Z Z.heap sa "java/lang/String" "coder" "B" (.int (0 : Int32))) (F_sa_value : Fld Z Z.heap sa "java/lang/String" "value" "[B" (.ref ba)) (F_http_configName : Fld Z Z.heap http "com/example/orderly_balancer/orderlybalancer/config/Mode" "configName" "Ljava/lang/String;" (.ref sb)) (E_sb : Exa Z Z.heap sb "java/lang/String") (F_sb_coder : Fld Z Z.heap sb "java/lang/String" "coder" "B" (.int (0 : Int32))) (F_sb_value : Fld Z Z.heap sb "java/lang/String" "value" "[B" (.ref bb)) (V_va : Arv Z Z.heap va k_va (.object "com/example/orderly_balancer/orderlybalancer/config/Mode") (2 : Int32) [(.ref tcp), (.ref http)] .null) (V_ba : Arv Z Z.heap ba k_ba .byte (3 : Int32) [(.int (116 : Int32)), (.int (99 : Int32)), (.int (112 : Int32))] (.int (0 : Int32))) (V_bb : Arv Z Z.heap bb k_bb .byte (4 : Int32) [(.int (104 : Int32)), (.int (116 : Int32)), (.int (116 : Int32)), (.int (112 : Int32))] (.int (0 : Int32))) (S_CS : Sta Z Z.heap "java/lang/String" "COMPACT_STRINGS" "Z" (.int zc)) (hzc : ¬ zc = 0) (S_FM : Sta Z Z.heap "jdk/internal/util/Preconditions" "SIOOBE_FORMATTER" "Ljava/util/function/BiFunction;" fm) (hfm : fm.isRef = true) (Ex : Exa Z h0 xs "java/lang/String") (Vx : Fld Z h0 xs "java/lang/String" "value" "[B" (.ref xt)) (Cx : Fld Z h0 xs "java/lang/String" "coder" "B" (.int (0 : Int32))) (Kx : Arv Z h0 xt xk .byte (3 : Int32) [(.int (116 : Int32)), (.int (99 : Int32)), (.int (112 : Int32))] (.int (0 : Int32))) :
    MetFree l y1_ (head1 (Jvm.Cond.code y1_ prog_5_method_5_code 5 (some (.object "com/example/orderly_balancer/orderlybalancer/config/Mode")) :: ws) ({ frames := 2, cells := 1, slots := 2, locals := 28 } : Room)) (fun aa U => aa = #[(.ref xs)] ∧ Z.Warmed39 U.vm ∧ U.heap = h0) (fun _ _ _ _ _ => True) (fun _ U oo U' => ∃ vv LL, oo = .returned vv ∧ QNT Z tcp va http sa ba sb bb k_va k_ba k_bb zc fm xs xt xk h0 n0 vv U'.heap LL ∧ FrameEnd U oo U' LL ({ frames := 2, cells := 1, slots := 2, locals := 28 } : Room).cells ({ frames := 2, cells := 1, slots := 2, locals := 28 } : Room).slots) := by
  refine MetFree.of_bodySF (plainFor_of_name pn_com_example_orderly_balancer_orderlybalancer_config_Mode) hisR ?_
  intro p e s m args below meth c s₁ Bd hml0 hP hK
  obtain ⟨rfl, hZ, hh⟩ := hP
  have hx := Bd.exec
  have hby := Bd.bytes
  have hml : c.maxLocals = 5 := hml0
  have hown : s.vm.findClass "com/example/orderly_balancer/orderlybalancer/config/Mode" = some m.cls := findClass_of_methodNamed Bd.named
  have hnm := (name_of_methodNamed Bd.named Bd.method).1
  have X0 : Stand p l e ({ frames := 2, cells := 1, slots := 2, locals := 28 } : Room) s m #[(.ref xs)] below meth c s₁ [] 0 0 := Stand.of_body Bd
  have e0 : s₁.heap = h0 := by rw [← hh, Bd.state]; rfl
  have N0 := Fr.nil n0
  refine Goes.give (Q := QNT Z tcp va http sa ba sb bb k_va k_ba k_bb zc fm xs xt xk h0 n0) ?_
  rw [efNT m xs]
  have K0 : Keep h0 h0 [] := Keep.refl _ _
  refine Goes.callS X0 hx (y := y2_) hown (mvT hZ (own_w hw 36 rfl)) (mvT hZ (own_w hw 37 rfl)) (mvT hZ (own_w hw 1 rfl)) (mvT hZ (own_w hw 38 rfl)) (by decide) (kc' := 1) (ks' := 2) (backOf (W := 0) (rmVal l Z a0 hw [] tcp va http sa ba sb bb k_va k_ba k_bb zc fm h0 n0 Z0 O0 S_TCP E_tcp S__VALUES E_va S_HTTP E_http F_tcp_configName E_sa F_sa_coder F_sa_value F_http_configName E_sb F_sb_coder F_sb_value V_va V_ba V_bb S_CS hzc S_FM hfm) hZ (own_w hw 38 rfl) (own_w hw 1 rfl) (ok rfl) (ok rfl)) (g := (mkF m 0 #[.val (.ref xs), .unset, .unset, .unset, .unset] [])) rfl (by rw [hml]; rfl) (argsL := []) (rest := []) (lenOf pd_185109 rfl) rfl (by show 2 * 0 + _ ≤ _; exact Nat.le_of_eq rfl) (hb hby d7_0) rfl e0 (ok rfl) (ok rfl) ?_
  intro v6 T6 L6 q6 X6
  obtain ⟨b6, rfl, N6q, V6, E6, g6⟩ := q6
  have ge_b6 : n0 ≤ b6 := Nat.le_trans Z0 (Nat.le_of_eq g6.symm)
  have N6 := Fr.app N0 N6q
  show Goes p e below _ T6 (mkF m 3 #[.val (.ref xs), .unset, .unset, .unset, .unset] [(.ref b6)])
  refine P1.astoreN X6.here hx #[.val (.ref xs), .val (.ref b6), .unset, .unset, .unset] (hb hby d7_3) rfl rfl ?_
  refine P1.aloadN X6.here hx (hb hby d7_4) rfl rfl ?_
  obtain ⟨cl7, Ar7, qk7, sl7, nz7, ha7, fi7⟩ := id V6
  have al8 : cl7.slots.size.toInt32 = (2 : Int32) := len_of sl7 nz7
  refine Goes.step (T' := T6) (g' := (mkF m 6 #[.val (.ref xs), .val (.ref b6), .unset, .unset, .unset] [(.int (2 : Int32))])) (fun t k => X6.arraylength hx Ar7.1 (State.isArrayOf_alike hZ.alike Ar7.2.1) (g := (mkF m 5 #[.val (.ref xs), .val (.ref b6), .unset, .unset, .unset] [(.ref b6)])) rfl rfl (hb hby d7_5) _ <| by rw [al8]; exact k) ?_
  refine P1.istoreN X6.here hx #[.val (.ref xs), .val (.ref b6), .val (.int (2 : Int32)), .unset, .unset] (hb hby d7_6) rfl ?_
  refine P1.iconst X6.here hx (0 : Int32) (hb hby d7_7) rfl ?_
  refine P1.istoreN X6.here hx #[.val (.ref xs), .val (.ref b6), .val (.int (2 : Int32)), .val (.int (0 : Int32)), .unset] (hb hby d7_8) rfl ?_
  refine P1.iloadN X6.here hx (hb hby d7_9) rfl ?_
  refine P1.iloadN X6.here hx (hb hby d7_10) rfl ?_
  refine Goes.step (T' := T6) (g' := (mkF m 14 #[.val (.ref xs), .val (.ref b6), .val (.int (2 : Int32)), .val (.int (0 : Int32)), .unset] [])) (fun t k => XS.icmpNo X6.here hx rfl (hb hby d7_11) rfl (tlt ((by decide : (0 : Int32) < (2 : Int32)) : (0 : Int32) < (2 : Int32))).2.1 k) ?_
  refine P1.aloadN X6.here hx (hb hby d7_14) rfl rfl ?_
  refine P1.iloadN X6.here hx (hb hby d7_15) rfl ?_
  obtain ⟨cl9, Ar9, qk9, sl9, nz9, ha9, fi9⟩ := id V6
  have i10 := inb_of (j := (0 : Int32)) sl9 ⟨by decide, by decide⟩
  refine Goes.step (T' := T6) (g' := (mkF m 17 #[.val (.ref xs), .val (.ref b6), .val (.int (2 : Int32)), .val (.int (0 : Int32)), .unset] [(.ref tcp)])) (fun t k => X6.aaload hx (j := (0 : Int32)) (v := (.ref tcp)) Ar9.1 (State.isArrayOf_alike hZ.alike Ar9.2.1) rfl Ar9.2.2 i10 (Has.at ha9 i10 rfl) (g := (mkF m 16 #[.val (.ref xs), .val (.ref b6), .val (.int (2 : Int32)), .val (.int (0 : Int32)), .unset] [(.int (0 : Int32)), (.ref b6)])) rfl rfl (hb hby d7_16) _ k) ?_
  refine P1.astore X6.here hx #[.val (.ref xs), .val (.ref b6), .val (.int (2 : Int32)), .val (.int (0 : Int32)), .val (.ref tcp)] (hb hby d7_17) rfl rfl ?_
  refine P1.aload X6.here hx (hb hby d7_19) rfl rfl ?_
  have O11 : Old Z n0 T6.heap := O0.ext E6
  obtain ⟨T12, X12, e12, st12⟩ := getF X6 hx hZ hown (host := "") (Or.inl (own_w hw 52 rfl)) Via.refl rfl (F_tcp_configName.ext O11.2) (g := (mkF m 21 #[.val (.ref xs), .val (.ref b6), .val (.int (2 : Int32)), .val (.int (0 : Int32)), .val (.ref tcp)] [(.ref tcp)])) rfl rfl (hb hby d7_21)
  refine Goes.step (T' := T12) (g' := (mkF m 24 #[.val (.ref xs), .val (.ref b6), .val (.int (2 : Int32)), .val (.int (0 : Int32)), .val (.ref tcp)] [(.ref sa)])) st12 ?_
  refine P1.aloadN X12.here hx (hb hby d7_24) rfl rfl ?_
  have V13 : Arv Z T6.heap ba k_ba .byte (3 : Int32) [(.int (116 : Int32)), (.int (99 : Int32)), (.int (112 : Int32))] (.int (0 : Int32)) := (V_ba.ext O11.2)
  have E14 : Exa Z T6.heap xs "java/lang/String" := Ex.ext E6
  have F15 : Fld Z T6.heap xs "java/lang/String" "value" "[B" (.ref xt) := Vx.ext E6
  have F16 : Fld Z T6.heap xs "java/lang/String" "coder" "B" (.int (0 : Int32)) := Cx.ext E6
  have V17 : Arv Z T6.heap xt xk .byte (3 : Int32) [(.int (116 : Int32)), (.int (99 : Int32)), (.int (112 : Int32))] (.int (0 : Int32)) := Kx.ext E6
  refine Goes.callV X12 hx hZ (y := y4_) (z := y4_) (Qc := fun v h' L => (((v = some (.int 1) ∧ ([(116 : Int32), (99 : Int32), (112 : Int32)] : List Int32) = ([(116 : Int32), (99 : Int32), (112 : Int32)] : List Int32)) ∨ (v = some (.int 0) ∧ ¬ ([(116 : Int32), (99 : Int32), (112 : Int32)] : List Int32) = ([(116 : Int32), (99 : Int32), (112 : Int32)] : List Int32))) ∧ L = [] ∧ h' = T6.heap)) hown (mvT hZ (own_w hw 54 rfl)) (mvT hZ (own_w hw 55 rfl)) (notFace_of_selects (args := #[]) (mvT hZ (own_w hw 57 rfl))) (mvT hZ (own_w hw 57 rfl)) (mvT hZ (own_w hw 56 rfl)) (by decide) (kc' := 0) (ks' := 0) (StrChars.Road.eqW (W := 0) hZ (fun d hd => hw d (in_wordsEq d hd)) (kI := 4) (own_w hw 5 rfl) (E_sa.ext O11.2) (F_sa_value.ext O11.2) (F_sa_coder.ext O11.2) V13 (show StrChars.Road.CodA ([(116 : Int32), (99 : Int32), (112 : Int32)] : List Int32) 0 (3 : Int32) _ from Or.inl ⟨rfl, rfl, rfl, by decide⟩) (by decide) (ok rfl) E14 F15 F16 V17 (show StrChars.Road.CodA ([(116 : Int32), (99 : Int32), (112 : Int32)] : List Int32) 0 (3 : Int32) _ from Or.inl ⟨rfl, rfl, rfl, by decide⟩) (by decide) (ok rfl) (S_CS.ext O11.2) hzc (ok rfl) (ok rfl)) (b := sa) e12 (E_sa.ext O11.2) (g := (mkF m 25 #[.val (.ref xs), .val (.ref b6), .val (.int (2 : Int32)), .val (.int (0 : Int32)), .val (.ref tcp)] [(.ref xs), (.ref sa)])) rfl (by rw [hml]; rfl) (argsL := [(.ref xs)]) (rest := []) (lenOf pd_20140 rfl) rfl (by show 2 * 0 + _ ≤ _; exact Nat.le_of_eq rfl) (hb hby d7_25) rfl (ok rfl) (ok rfl) ?_
  intro v18 T18 L18 q18 X18
  obtain ⟨q18, rfl, hE18⟩ := q18
  have N18 := Fr.app N6 (Fr.nil n0)
  obtain ⟨rfl, -⟩ := q18.resolve_right (fun z => z.2 rfl)
  show Goes p e below _ T18 (mkF m 28 #[.val (.ref xs), .val (.ref b6), .val (.int (2 : Int32)), .val (.int (0 : Int32)), .val (.ref tcp)] [(.int (1 : Int32))])
  refine Goes.step (T' := T18) (g' := (mkF m 31 #[.val (.ref xs), .val (.ref b6), .val (.int (2 : Int32)), .val (.int (0 : Int32)), .val (.ref tcp)] [])) (fun t k => XS.ifNo X18.here hx rfl (hb hby d7_28) rfl ((if0 _ _).trans (feq ((by decide : ¬ ((1 : Int32) = (0 : Int32))) : ¬ ((1 : Int32) = (0 : Int32)))).1) k) ?_
  refine P1.aload X18.here hx (hb hby d7_31) rfl rfl ?_
  refine Goes.retA X18 hx Bd.notSynchronized Bd.returns rfl rfl (hb hby d7_33) (ok rfl) (ok rfl) ?_
  rw [hE18]
  have K19 : Keep h0 T6.heap [] := K0.ext E6
  exact ⟨rfl, N18, K19⟩
theorem efNH (m : MethodId) (xs : Addr) : entryFrame m #[(.ref xs)] 5 = mkF m 0 #[.val (.ref xs), .unset, .unset, .unset, .unset] [] := by first | (simp [entryFrame, mkF, argsToLocals, Value.category]; done) | rfl
def QNH (Z : State) (tcp : Addr) (va : Addr) (http : Addr) (sa : Addr) (ba : Addr) (sb : Addr) (bb : Addr) (k_va : ClassId) (k_ba : ClassId) (k_bb : ClassId) (zc : Int32) (fm : Value) (xs : Addr) (xt : Addr) (xk : ClassId) (h0 : Heap) (n0 : Nat) (v : Option Value) (h : Heap) (L : List Loc) : Prop := v = some (.ref http) ∧ Fr n0 L ∧ Keep h0 h []
set_option maxRecDepth 65536 in
set_option maxHeartbeats 40000000 in
theorem rmNH (l : Launch) (Z : State) (a0 : Array Value) (hw : ∀ d ∈ tables_1, d.before a0 Z = true) (ws : List Jvm.Cond) (tcp : Addr) (va : Addr) (http : Addr) (sa : Addr) (ba : Addr) (sb : Addr) (bb : Addr) (k_va : ClassId) (k_ba : ClassId) (k_bb : ClassId) (zc : Int32) (fm : Value) (xs : Addr) (xt : Addr) (xk : ClassId) (h0 : Heap) (n0 : Nat) (Z0 : n0 ≤ h0.size) (O0 : Old Z n0 h0) (S_TCP : Sta Z Z.heap "com/example/orderly_balancer/orderlybalancer/config/Mode" "TCP" "Lcom/example/orderly_balancer/orderlybalancer/config/Mode;" (.ref tcp)) (E_tcp : Exa Z Z.heap tcp "com/example/orderly_balancer/orderlybalancer/config/Mode") (S__VALUES : Sta Z Z.heap "com/example/orderly_balancer/orderlybalancer/config/Mode" "$VALUES" "[Lcom/example/orderly_balancer/orderlybalancer/config/Mode;" (.ref va)) (E_va : Exa Z Z.heap va "[Lcom/example/orderly_balancer/orderlybalancer/config/Mode;") (S_HTTP : Sta Z Z.heap "com/example/orderly_balancer/orderlybalancer/config/Mode" "HTTP" "Lcom/example/orderly_balancer/orderlybalancer/config/Mode;" (.ref http)) (E_http : Exa Z Z.heap http "com/example/orderly_balancer/orderlybalancer/config/Mode") (F_tcp_configName : Fld Z Z.heap tcp "com/example/orderly_balancer/orderlybalancer/config/Mode" "configName" "Ljava/lang/String;" (.ref sa)) (E_sa : Exa Z Z.heap sa "java/lang/String") (F_sa_coder : Fld Z Z.heap sa "java/lang/String" "coder" "B" (.int (0 : Int32))) (F_sa_value : Fld Z Z.heap sa "java/lang/String" "value" "[B" (.ref ba)) (F_http_configName : Fld Z Z.heap http "com/example/orderly_balancer/orderlybalancer/config/Mode" "configName" "Ljava/lang/String;" (.ref sb)) (E_sb : Exa Z Z.heap sb "java/lang/String") (F_sb_coder : Fld Z Z.heap sb "java/lang/String" "coder" "B" (.int (0 : Int32))) (F_sb_value : Fld Z Z.heap sb "java/lang/String" "value" "[B" (.ref bb)) (V_va : Arv Z Z.heap va k_va (.object "com/example/orderly_balancer/orderlybalancer/config/Mode") (2 : Int32) [(.ref tcp), (.ref http)] .null) (V_ba : Arv Z Z.heap ba k_ba .byte (3 : Int32) [(.int (116 : Int32)), (.int (99 : Int32)), (.int (112 : Int32))] (.int (0 : Int32))) (V_bb : Arv Z Z.heap bb k_bb .byte (4 : Int32) [(.int (104 : Int32)), (.int (116 : Int32)), (.int (116 : Int32)), (.int (112 : Int32))] (.int (0 : Int32))) (S_CS : Sta Z Z.heap "java/lang/String" "COMPACT_STRINGS" "Z" (.int zc)) (hzc : ¬ zc = 0) (S_FM : Sta Z Z.heap "jdk/internal/util/Preconditions" "SIOOBE_FORMATTER" "Ljava/util/function/BiFunction;" fm) (hfm : fm.isRef = true) (Ex : Exa Z h0 xs "java/lang/String") (Vx : Fld Z h0 xs "java/lang/String" "value" "[B" (.ref xt)) (Cx : Fld Z h0 xs "java/lang/String" "coder" "B" (.int (0 : Int32))) (Kx : Arv Z h0 xt xk .byte (4 : Int32) [(.int (104 : Int32)), (.int (116 : Int32)), (.int (116 : Int32)), (.int (112 : Int32))] (.int (0 : Int32))) :
    MetFree l y1_ (head1 (Jvm.Cond.code y1_ prog_5_method_5_code 5 (some (.object "com/example/orderly_balancer/orderlybalancer/config/Mode")) :: ws) ({ frames := 2, cells := 1, slots := 2, locals := 28 } : Room)) (fun aa U => aa = #[(.ref xs)] ∧ Z.Warmed39 U.vm ∧ U.heap = h0) (fun _ _ _ _ _ => True) (fun _ U oo U' => ∃ vv LL, oo = .returned vv ∧ QNH Z tcp va http sa ba sb bb k_va k_ba k_bb zc fm xs xt xk h0 n0 vv U'.heap LL ∧ FrameEnd U oo U' LL ({ frames := 2, cells := 1, slots := 2, locals := 28 } : Room).cells ({ frames := 2, cells := 1, slots := 2, locals := 28 } : Room).slots) := by
  refine MetFree.of_bodySF (plainFor_of_name pn_com_example_orderly_balancer_orderlybalancer_config_Mode) hisR ?_
  intro p e s m args below meth c s₁ Bd hml0 hP hK
  obtain ⟨rfl, hZ, hh⟩ := hP
  have hx := Bd.exec
  have hby := Bd.bytes
  have hml : c.maxLocals = 5 := hml0
  have hown : s.vm.findClass "com/example/orderly_balancer/orderlybalancer/config/Mode" = some m.cls := findClass_of_methodNamed Bd.named
  have hnm := (name_of_methodNamed Bd.named Bd.method).1
  have X0 : Stand p l e ({ frames := 2, cells := 1, slots := 2, locals := 28 } : Room) s m #[(.ref xs)] below meth c s₁ [] 0 0 := Stand.of_body Bd
  have e0 : s₁.heap = h0 := by rw [← hh, Bd.state]; rfl
  have N0 := Fr.nil n0
  refine Goes.give (Q := QNH Z tcp va http sa ba sb bb k_va k_ba k_bb zc fm xs xt xk h0 n0) ?_
  rw [efNH m xs]
  have K0 : Keep h0 h0 [] := Keep.refl _ _
  refine Goes.callS X0 hx (y := y2_) hown (mvT hZ (own_w hw 36 rfl)) (mvT hZ (own_w hw 37 rfl)) (mvT hZ (own_w hw 1 rfl)) (mvT hZ (own_w hw 38 rfl)) (by decide) (kc' := 1) (ks' := 2) (backOf (W := 0) (rmVal l Z a0 hw [] tcp va http sa ba sb bb k_va k_ba k_bb zc fm h0 n0 Z0 O0 S_TCP E_tcp S__VALUES E_va S_HTTP E_http F_tcp_configName E_sa F_sa_coder F_sa_value F_http_configName E_sb F_sb_coder F_sb_value V_va V_ba V_bb S_CS hzc S_FM hfm) hZ (own_w hw 38 rfl) (own_w hw 1 rfl) (ok rfl) (ok rfl)) (g := (mkF m 0 #[.val (.ref xs), .unset, .unset, .unset, .unset] [])) rfl (by rw [hml]; rfl) (argsL := []) (rest := []) (lenOf pd_185109 rfl) rfl (by show 2 * 0 + _ ≤ _; exact Nat.le_of_eq rfl) (hb hby d7_0) rfl e0 (ok rfl) (ok rfl) ?_
  intro v20 T20 L20 q20 X20
  obtain ⟨b20, rfl, N20q, V20, E20, g20⟩ := q20
  have ge_b20 : n0 ≤ b20 := Nat.le_trans Z0 (Nat.le_of_eq g20.symm)
  have N20 := Fr.app N0 N20q
  show Goes p e below _ T20 (mkF m 3 #[.val (.ref xs), .unset, .unset, .unset, .unset] [(.ref b20)])
  refine P1.astoreN X20.here hx #[.val (.ref xs), .val (.ref b20), .unset, .unset, .unset] (hb hby d7_3) rfl rfl ?_
  refine P1.aloadN X20.here hx (hb hby d7_4) rfl rfl ?_
  obtain ⟨cl21, Ar21, qk21, sl21, nz21, ha21, fi21⟩ := id V20
  have al22 : cl21.slots.size.toInt32 = (2 : Int32) := len_of sl21 nz21
  refine Goes.step (T' := T20) (g' := (mkF m 6 #[.val (.ref xs), .val (.ref b20), .unset, .unset, .unset] [(.int (2 : Int32))])) (fun t k => X20.arraylength hx Ar21.1 (State.isArrayOf_alike hZ.alike Ar21.2.1) (g := (mkF m 5 #[.val (.ref xs), .val (.ref b20), .unset, .unset, .unset] [(.ref b20)])) rfl rfl (hb hby d7_5) _ <| by rw [al22]; exact k) ?_
  refine P1.istoreN X20.here hx #[.val (.ref xs), .val (.ref b20), .val (.int (2 : Int32)), .unset, .unset] (hb hby d7_6) rfl ?_
  refine P1.iconst X20.here hx (0 : Int32) (hb hby d7_7) rfl ?_
  refine P1.istoreN X20.here hx #[.val (.ref xs), .val (.ref b20), .val (.int (2 : Int32)), .val (.int (0 : Int32)), .unset] (hb hby d7_8) rfl ?_
  refine P1.iloadN X20.here hx (hb hby d7_9) rfl ?_
  refine P1.iloadN X20.here hx (hb hby d7_10) rfl ?_
  refine Goes.step (T' := T20) (g' := (mkF m 14 #[.val (.ref xs), .val (.ref b20), .val (.int (2 : Int32)), .val (.int (0 : Int32)), .unset] [])) (fun t k => XS.icmpNo X20.here hx rfl (hb hby d7_11) rfl (tlt ((by decide : (0 : Int32) < (2 : Int32)) : (0 : Int32) < (2 : Int32))).2.1 k) ?_
  refine P1.aloadN X20.here hx (hb hby d7_14) rfl rfl ?_
  refine P1.iloadN X20.here hx (hb hby d7_15) rfl ?_
  obtain ⟨cl23, Ar23, qk23, sl23, nz23, ha23, fi23⟩ := id V20
  have i24 := inb_of (j := (0 : Int32)) sl23 ⟨by decide, by decide⟩
  refine Goes.step (T' := T20) (g' := (mkF m 17 #[.val (.ref xs), .val (.ref b20), .val (.int (2 : Int32)), .val (.int (0 : Int32)), .unset] [(.ref tcp)])) (fun t k => X20.aaload hx (j := (0 : Int32)) (v := (.ref tcp)) Ar23.1 (State.isArrayOf_alike hZ.alike Ar23.2.1) rfl Ar23.2.2 i24 (Has.at ha23 i24 rfl) (g := (mkF m 16 #[.val (.ref xs), .val (.ref b20), .val (.int (2 : Int32)), .val (.int (0 : Int32)), .unset] [(.int (0 : Int32)), (.ref b20)])) rfl rfl (hb hby d7_16) _ k) ?_
  refine P1.astore X20.here hx #[.val (.ref xs), .val (.ref b20), .val (.int (2 : Int32)), .val (.int (0 : Int32)), .val (.ref tcp)] (hb hby d7_17) rfl rfl ?_
  refine P1.aload X20.here hx (hb hby d7_19) rfl rfl ?_
  have O25 : Old Z n0 T20.heap := O0.ext E20
  obtain ⟨T26, X26, e26, st26⟩ := getF X20 hx hZ hown (host := "") (Or.inl (own_w hw 52 rfl)) Via.refl rfl (F_tcp_configName.ext O25.2) (g := (mkF m 21 #[.val (.ref xs), .val (.ref b20), .val (.int (2 : Int32)), .val (.int (0 : Int32)), .val (.ref tcp)] [(.ref tcp)])) rfl rfl (hb hby d7_21)
  refine Goes.step (T' := T26) (g' := (mkF m 24 #[.val (.ref xs), .val (.ref b20), .val (.int (2 : Int32)), .val (.int (0 : Int32)), .val (.ref tcp)] [(.ref sa)])) st26 ?_
  refine P1.aloadN X26.here hx (hb hby d7_24) rfl rfl ?_
  have V27 : Arv Z T20.heap ba k_ba .byte (3 : Int32) [(.int (116 : Int32)), (.int (99 : Int32)), (.int (112 : Int32))] (.int (0 : Int32)) := (V_ba.ext O25.2)
  have E28 : Exa Z T20.heap xs "java/lang/String" := Ex.ext E20
  have F29 : Fld Z T20.heap xs "java/lang/String" "value" "[B" (.ref xt) := Vx.ext E20
  have F30 : Fld Z T20.heap xs "java/lang/String" "coder" "B" (.int (0 : Int32)) := Cx.ext E20
  have V31 : Arv Z T20.heap xt xk .byte (4 : Int32) [(.int (104 : Int32)), (.int (116 : Int32)), (.int (116 : Int32)), (.int (112 : Int32))] (.int (0 : Int32)) := Kx.ext E20
  refine Goes.callV X26 hx hZ (y := y4_) (z := y4_) (Qc := fun v h' L => (((v = some (.int 1) ∧ ([(116 : Int32), (99 : Int32), (112 : Int32)] : List Int32) = ([(104 : Int32), (116 : Int32), (116 : Int32), (112 : Int32)] : List Int32)) ∨ (v = some (.int 0) ∧ ¬ ([(116 : Int32), (99 : Int32), (112 : Int32)] : List Int32) = ([(104 : Int32), (116 : Int32), (116 : Int32), (112 : Int32)] : List Int32))) ∧ L = [] ∧ h' = T20.heap)) hown (mvT hZ (own_w hw 54 rfl)) (mvT hZ (own_w hw 55 rfl)) (notFace_of_selects (args := #[]) (mvT hZ (own_w hw 57 rfl))) (mvT hZ (own_w hw 57 rfl)) (mvT hZ (own_w hw 56 rfl)) (by decide) (kc' := 0) (ks' := 0) (StrChars.Road.eqW (W := 0) hZ (fun d hd => hw d (in_wordsEq d hd)) (kI := 4) (own_w hw 5 rfl) (E_sa.ext O25.2) (F_sa_value.ext O25.2) (F_sa_coder.ext O25.2) V27 (show StrChars.Road.CodA ([(116 : Int32), (99 : Int32), (112 : Int32)] : List Int32) 0 (3 : Int32) _ from Or.inl ⟨rfl, rfl, rfl, by decide⟩) (by decide) (ok rfl) E28 F29 F30 V31 (show StrChars.Road.CodA ([(104 : Int32), (116 : Int32), (116 : Int32), (112 : Int32)] : List Int32) 0 (4 : Int32) _ from Or.inl ⟨rfl, rfl, rfl, by decide⟩) (by decide) (ok rfl) (S_CS.ext O25.2) hzc (ok rfl) (ok rfl)) (b := sa) e26 (E_sa.ext O25.2) (g := (mkF m 25 #[.val (.ref xs), .val (.ref b20), .val (.int (2 : Int32)), .val (.int (0 : Int32)), .val (.ref tcp)] [(.ref xs), (.ref sa)])) rfl (by rw [hml]; rfl) (argsL := [(.ref xs)]) (rest := []) (lenOf pd_20140 rfl) rfl (by show 2 * 0 + _ ≤ _; exact Nat.le_of_eq rfl) (hb hby d7_25) rfl (ok rfl) (ok rfl) ?_
  intro v32 T32 L32 q32 X32
  obtain ⟨q32, rfl, hE32⟩ := q32
  have N32 := Fr.app N20 (Fr.nil n0)
  obtain ⟨rfl, -⟩ := q32.resolve_left (fun z => absurd z.2 (by decide))
  show Goes p e below _ T32 (mkF m 28 #[.val (.ref xs), .val (.ref b20), .val (.int (2 : Int32)), .val (.int (0 : Int32)), .val (.ref tcp)] [(.int (0 : Int32))])
  refine Goes.step (T' := T32) (g' := (mkF m 34 #[.val (.ref xs), .val (.ref b20), .val (.int (2 : Int32)), .val (.int (0 : Int32)), .val (.ref tcp)] [])) (fun t k => XS.ifYes X32.here hx rfl (pc0 := 28) (pc' := 34) rfl (hb hby d7_28) rfl ((if0 _ _).trans (teq ((by decide : (0 : Int32) = (0 : Int32)) : (0 : Int32) = (0 : Int32))).1) (by decide) (by decide) k) ?_
  refine Goes.step (T' := T32) (g' := (mkF m 37 #[.val (.ref xs), .val (.ref b20), .val (.int (2 : Int32)), .val (.int ((0 : Int32) + (1 : Int32))), .val (.ref tcp)] [])) (fun t k => XS.iinc X32.here hx rfl (hb hby d7_34) rfl (l' := #[.val (.ref xs), .val (.ref b20), .val (.int (2 : Int32)), .val (.int ((0 : Int32) + (1 : Int32))), .val (.ref tcp)]) rfl k) ?_
  have rw33 : ((0 : Int32) + (1 : Int32)) = (1 : Int32) := by decide
  rw [rw33]
  refine P1.goto X32.here hx 9 (hb hby d7_37) (by decide) (by decide) ?_
  refine P1.iloadN X32.here hx (hb hby d7_9) rfl ?_
  refine P1.iloadN X32.here hx (hb hby d7_10) rfl ?_
  refine Goes.step (T' := T32) (g' := (mkF m 14 #[.val (.ref xs), .val (.ref b20), .val (.int (2 : Int32)), .val (.int (1 : Int32)), .val (.ref tcp)] [])) (fun t k => XS.icmpNo X32.here hx rfl (hb hby d7_11) rfl (tlt ((by decide : (1 : Int32) < (2 : Int32)) : (1 : Int32) < (2 : Int32))).2.1 k) ?_
  refine P1.aloadN X32.here hx (hb hby d7_14) rfl rfl ?_
  refine P1.iloadN X32.here hx (hb hby d7_15) rfl ?_
  obtain ⟨cl34, Ar34, qk34, sl34, nz34, ha34, fi34⟩ := id V20
  have i35 := inb_of (j := (1 : Int32)) sl34 ⟨by decide, by decide⟩
  refine Goes.step (T' := T32) (g' := (mkF m 17 #[.val (.ref xs), .val (.ref b20), .val (.int (2 : Int32)), .val (.int (1 : Int32)), .val (.ref tcp)] [(.ref http)])) (fun t k => X32.aaload hx (j := (1 : Int32)) (v := (.ref http)) (by rw [hE32]; exact Ar34.1) (State.isArrayOf_alike hZ.alike Ar34.2.1) rfl Ar34.2.2 i35 (Has.at ha34 i35 rfl) (g := (mkF m 16 #[.val (.ref xs), .val (.ref b20), .val (.int (2 : Int32)), .val (.int (1 : Int32)), .val (.ref tcp)] [(.int (1 : Int32)), (.ref b20)])) rfl rfl (hb hby d7_16) _ k) ?_
  refine P1.astore X32.here hx #[.val (.ref xs), .val (.ref b20), .val (.int (2 : Int32)), .val (.int (1 : Int32)), .val (.ref http)] (hb hby d7_17) rfl rfl ?_
  refine P1.aload X32.here hx (hb hby d7_19) rfl rfl ?_
  obtain ⟨T36, X36, e36, st36⟩ := getF X32 hx hZ hown (host := "") (Or.inl (own_w hw 52 rfl)) Via.refl hE32 (F_http_configName.ext O25.2) (g := (mkF m 21 #[.val (.ref xs), .val (.ref b20), .val (.int (2 : Int32)), .val (.int (1 : Int32)), .val (.ref http)] [(.ref http)])) rfl rfl (hb hby d7_21)
  refine Goes.step (T' := T36) (g' := (mkF m 24 #[.val (.ref xs), .val (.ref b20), .val (.int (2 : Int32)), .val (.int (1 : Int32)), .val (.ref http)] [(.ref sb)])) st36 ?_
  refine P1.aloadN X36.here hx (hb hby d7_24) rfl rfl ?_
  have V37 : Arv Z T20.heap bb k_bb .byte (4 : Int32) [(.int (104 : Int32)), (.int (116 : Int32)), (.int (116 : Int32)), (.int (112 : Int32))] (.int (0 : Int32)) := (V_bb.ext O25.2)
  refine Goes.callV X36 hx hZ (y := y4_) (z := y4_) (Qc := fun v h' L => (((v = some (.int 1) ∧ ([(104 : Int32), (116 : Int32), (116 : Int32), (112 : Int32)] : List Int32) = ([(104 : Int32), (116 : Int32), (116 : Int32), (112 : Int32)] : List Int32)) ∨ (v = some (.int 0) ∧ ¬ ([(104 : Int32), (116 : Int32), (116 : Int32), (112 : Int32)] : List Int32) = ([(104 : Int32), (116 : Int32), (116 : Int32), (112 : Int32)] : List Int32))) ∧ L = [] ∧ h' = T20.heap)) hown (mvT hZ (own_w hw 54 rfl)) (mvT hZ (own_w hw 55 rfl)) (notFace_of_selects (args := #[]) (mvT hZ (own_w hw 57 rfl))) (mvT hZ (own_w hw 57 rfl)) (mvT hZ (own_w hw 56 rfl)) (by decide) (kc' := 0) (ks' := 0) (StrChars.Road.eqW (W := 0) hZ (fun d hd => hw d (in_wordsEq d hd)) (kI := 4) (own_w hw 5 rfl) (E_sb.ext O25.2) (F_sb_value.ext O25.2) (F_sb_coder.ext O25.2) V37 (show StrChars.Road.CodA ([(104 : Int32), (116 : Int32), (116 : Int32), (112 : Int32)] : List Int32) 0 (4 : Int32) _ from Or.inl ⟨rfl, rfl, rfl, by decide⟩) (by decide) (ok rfl) E28 F29 F30 V31 (show StrChars.Road.CodA ([(104 : Int32), (116 : Int32), (116 : Int32), (112 : Int32)] : List Int32) 0 (4 : Int32) _ from Or.inl ⟨rfl, rfl, rfl, by decide⟩) (by decide) (ok rfl) (S_CS.ext O25.2) hzc (ok rfl) (ok rfl)) (b := sb) e36 (E_sb.ext O25.2) (g := (mkF m 25 #[.val (.ref xs), .val (.ref b20), .val (.int (2 : Int32)), .val (.int (1 : Int32)), .val (.ref http)] [(.ref xs), (.ref sb)])) rfl (by rw [hml]; rfl) (argsL := [(.ref xs)]) (rest := []) (lenOf pd_20140 rfl) rfl (by show 2 * 0 + _ ≤ _; exact Nat.le_of_eq rfl) (hb hby d7_25) rfl (ok rfl) (ok rfl) ?_
  intro v38 T38 L38 q38 X38
  obtain ⟨q38, rfl, hE38⟩ := q38
  have N38 := Fr.app N32 (Fr.nil n0)
  obtain ⟨rfl, -⟩ := q38.resolve_right (fun z => z.2 rfl)
  show Goes p e below _ T38 (mkF m 28 #[.val (.ref xs), .val (.ref b20), .val (.int (2 : Int32)), .val (.int (1 : Int32)), .val (.ref http)] [(.int (1 : Int32))])
  refine Goes.step (T' := T38) (g' := (mkF m 31 #[.val (.ref xs), .val (.ref b20), .val (.int (2 : Int32)), .val (.int (1 : Int32)), .val (.ref http)] [])) (fun t k => XS.ifNo X38.here hx rfl (hb hby d7_28) rfl ((if0 _ _).trans (feq ((by decide : ¬ ((1 : Int32) = (0 : Int32))) : ¬ ((1 : Int32) = (0 : Int32)))).1) k) ?_
  refine P1.aload X38.here hx (hb hby d7_31) rfl rfl ?_
  refine Goes.retA X38 hx Bd.notSynchronized Bd.returns rfl rfl (hb hby d7_33) (ok rfl) (ok rfl) ?_
  rw [hE38]
  have K39 : Keep h0 T20.heap [] := K0.ext E20
  exact ⟨rfl, N38, K39⟩
theorem pn_com_example_orderly_balancer_orderlybalancer_config_ModeNamedPinLaw : plainName "com/example/orderly_balancer/orderlybalancer/config/ModeNamedPinLaw" = true := by first | (simp [plainName, overriddenIn]; done) | decide +kernel
theorem in_words : ∀ d ∈ StrChars.Road.words, d ∈ tables_1 := by decide +kernel
theorem pd_1017 : parseMethodDescriptor "([C)V" = some ⟨[(.array .char)], none⟩ := by decide +kernel
theorem pd_300934 : parseMethodDescriptor "(Ljava/lang/String;)Lcom/example/orderly_balancer/orderlybalancer/config/Mode;" = some ⟨[(.object "java/lang/String")], some (.object "com/example/orderly_balancer/orderlybalancer/config/Mode")⟩ := by decide +kernel
theorem pd_19649 : parseMethodDescriptor "()Ljava/lang/String;" = some ⟨[], some (.object "java/lang/String")⟩ := by decide +kernel
theorem ef0 (m : MethodId) (p0 : Int32) : entryFrame m #[(.int p0)] maxLocals = mkF m 0 #[.val (.int p0), .unset, .unset, .unset, .unset, .unset, .unset] [] := by first | (simp [entryFrame, mkF, argsToLocals, Value.category, maxLocals]; done) | rfl
def Q0 (Z : State) (p0 : Int32) (tcp : Addr) (va : Addr) (http : Addr) (sa : Addr) (ba : Addr) (sb : Addr) (bb : Addr) (k_va : ClassId) (k_ba : ClassId) (k_bb : ClassId) (zc : Int32) (fm : Value) (h0 : Heap) (n0 : Nat) (v : Option Value) (h : Heap) (L : List Loc) : Prop := v = some (.int 1) ∧ Fr n0 L
set_option maxRecDepth 65536 in
set_option maxHeartbeats 40000000 in
theorem rm0 (l : Launch) (Z : State) (a0 : Array Value) (hw : ∀ d ∈ tables_1, d.before a0 Z = true) (ws : List Jvm.Cond) (p0 : Int32) (tcp : Addr) (va : Addr) (http : Addr) (sa : Addr) (ba : Addr) (sb : Addr) (bb : Addr) (k_va : ClassId) (k_ba : ClassId) (k_bb : ClassId) (zc : Int32) (fm : Value) (h0 : Heap) (n0 : Nat) (Z0 : n0 ≤ h0.size) (O0 : Old Z n0 h0) (S_TCP : Sta Z Z.heap "com/example/orderly_balancer/orderlybalancer/config/Mode" "TCP" "Lcom/example/orderly_balancer/orderlybalancer/config/Mode;" (.ref tcp)) (E_tcp : Exa Z Z.heap tcp "com/example/orderly_balancer/orderlybalancer/config/Mode") (S__VALUES : Sta Z Z.heap "com/example/orderly_balancer/orderlybalancer/config/Mode" "$VALUES" "[Lcom/example/orderly_balancer/orderlybalancer/config/Mode;" (.ref va)) (E_va : Exa Z Z.heap va "[Lcom/example/orderly_balancer/orderlybalancer/config/Mode;") (S_HTTP : Sta Z Z.heap "com/example/orderly_balancer/orderlybalancer/config/Mode" "HTTP" "Lcom/example/orderly_balancer/orderlybalancer/config/Mode;" (.ref http)) (E_http : Exa Z Z.heap http "com/example/orderly_balancer/orderlybalancer/config/Mode") (F_tcp_configName : Fld Z Z.heap tcp "com/example/orderly_balancer/orderlybalancer/config/Mode" "configName" "Ljava/lang/String;" (.ref sa)) (E_sa : Exa Z Z.heap sa "java/lang/String") (F_sa_coder : Fld Z Z.heap sa "java/lang/String" "coder" "B" (.int (0 : Int32))) (F_sa_value : Fld Z Z.heap sa "java/lang/String" "value" "[B" (.ref ba)) (F_http_configName : Fld Z Z.heap http "com/example/orderly_balancer/orderlybalancer/config/Mode" "configName" "Ljava/lang/String;" (.ref sb)) (E_sb : Exa Z Z.heap sb "java/lang/String") (F_sb_coder : Fld Z Z.heap sb "java/lang/String" "coder" "B" (.int (0 : Int32))) (F_sb_value : Fld Z Z.heap sb "java/lang/String" "value" "[B" (.ref bb)) (V_va : Arv Z Z.heap va k_va (.object "com/example/orderly_balancer/orderlybalancer/config/Mode") (2 : Int32) [(.ref tcp), (.ref http)] .null) (V_ba : Arv Z Z.heap ba k_ba .byte (3 : Int32) [(.int (116 : Int32)), (.int (99 : Int32)), (.int (112 : Int32))] (.int (0 : Int32))) (V_bb : Arv Z Z.heap bb k_bb .byte (4 : Int32) [(.int (104 : Int32)), (.int (116 : Int32)), (.int (116 : Int32)), (.int (112 : Int32))] (.int (0 : Int32))) (S_CS : Sta Z Z.heap "java/lang/String" "COMPACT_STRINGS" "Z" (.int zc)) (hzc : ¬ zc = 0) (S_FM : Sta Z Z.heap "jdk/internal/util/Preconditions" "SIOOBE_FORMATTER" "Ljava/util/function/BiFunction;" fm) (hfm : fm.isRef = true) :
    MetFree l x (head1 (Jvm.Cond.code x code maxLocals ret :: ws) room_1) (fun aa U => aa = #[(.int p0)] ∧ Z.Warmed39 U.vm ∧ U.heap = h0) (fun _ _ _ _ _ => True) (fun _ U oo U' => ∃ vv LL, oo = .returned vv ∧ Q0 Z p0 tcp va http sa ba sb bb k_va k_ba k_bb zc fm h0 n0 vv U'.heap LL ∧ FrameEnd U oo U' LL room_1.cells room_1.slots) := by
  refine MetFree.of_bodySF (plainFor_of_name pn_com_example_orderly_balancer_orderlybalancer_config_ModeNamedPinLaw) hisR ?_
  intro p e s m args below meth c s₁ Bd hml0 hP hK
  obtain ⟨rfl, hZ, hh⟩ := hP
  have hx := Bd.exec
  have hby := Bd.bytes
  have hml : c.maxLocals = 7 := hml0
  have hown : s.vm.findClass "com/example/orderly_balancer/orderlybalancer/config/ModeNamedPinLaw" = some m.cls := findClass_of_methodNamed Bd.named
  have hnm := (name_of_methodNamed Bd.named Bd.method).1
  have X0 : Stand p l e room_1 s m #[(.int p0)] below meth c s₁ [] 0 0 := Stand.of_body Bd
  have e0 : s₁.heap = h0 := by rw [← hh, Bd.state]; rfl
  have N0 := Fr.nil n0
  refine Goes.give (Q := Q0 Z p0 tcp va http sa ba sb bb k_va k_ba k_bb zc fm h0 n0) ?_
  rw [ef0 m p0]
  have K0 : Keep h0 h0 [] := Keep.refl _ _
  refine P1.iloadN X0.here hx (hb hby at_0) rfl ?_
  refine P1.iconst X0.here hx (1 : Int32) (hb hby at_1) rfl ?_
  refine P1.iand X0.here hx (hb hby at_2) ?_
  refine P1.istoreN X0.here hx #[.val (.int p0), .val (.int (p0 &&& (1 : Int32))), .unset, .unset, .unset, .unset, .unset] (hb hby at_3) rfl ?_
  refine P1.iloadN X0.here hx (hb hby at_4) rfl ?_
  by_cases hbr : (p0 &&& (1 : Int32)) = (0 : Int32)
  ·
    refine Goes.step (T' := s₁) (g' := (mkF m 8 #[.val (.int p0), .val (.int (p0 &&& (1 : Int32))), .unset, .unset, .unset, .unset, .unset] [])) (fun t k => XS.ifNo X0.here hx rfl (hb hby at_5) rfl ((if0 _ _).trans (teq (hbr : (p0 &&& (1 : Int32)) = (0 : Int32))).2) k) ?_
    obtain ⟨T40, X40, e40, st40⟩ := getS2 X0 hx hZ hown (host := "") (Or.inl (own_w hw 0 rfl)) Via.refl e0 (S_TCP.ext O0.2) (g := (mkF m 8 #[.val (.int p0), .val (.int (p0 &&& (1 : Int32))), .unset, .unset, .unset, .unset, .unset] [])) rfl (hb hby at_8)
    refine Goes.step (T' := T40) (g' := (mkF m 11 #[.val (.int p0), .val (.int (p0 &&& (1 : Int32))), .unset, .unset, .unset, .unset, .unset] [(.ref tcp)])) st40 ?_
    refine P1.goto X40.here hx 17 (hb hby at_11) (by decide) (by decide) ?_
    refine P1.astoreN X40.here hx #[.val (.int p0), .val (.int (p0 &&& (1 : Int32))), .val (.ref tcp), .unset, .unset, .unset, .unset] (hb hby at_17) rfl rfl ?_
    refine P1.iloadN X40.here hx (hb hby at_18) rfl ?_
    refine Goes.step (T' := T40) (g' := (mkF m 22 #[.val (.int p0), .val (.int (p0 &&& (1 : Int32))), .val (.ref tcp), .unset, .unset, .unset, .unset] [])) (fun t k => XS.ifNo X40.here hx rfl (hb hby at_19) rfl ((if0 _ _).trans (teq (hbr : (p0 &&& (1 : Int32)) = (0 : Int32))).2) k) ?_
    refine P1.iconst X40.here hx (3 : Int32) (hb hby at_22) rfl ?_
    obtain ⟨T41, h41, k41, X41, e41, E41, A41, st41⟩ := newP X40 hx hZ (own_w hw 3 rfl) e40 (g := (mkF m 23 #[.val (.int p0), .val (.int (p0 &&& (1 : Int32))), .val (.ref tcp), .unset, .unset, .unset, .unset] [(.int (3 : Int32))])) rfl (hb hby at_23) rfl (by decide) (cap := 3) (ok rfl) (ok rfl) (ok rfl) (ok rfl)
    obtain ⟨b41, g41⟩ : ∃ z, z = h0.size := ⟨_, rfl⟩
    rw [← g41] at A41 st41
    have ge_b41 : n0 ≤ b41 := Nat.le_trans Z0 (Nat.le_of_eq g41.symm)
    have sz_b41 : h0.size ≤ b41 := Nat.le_trans K0.1 (Nat.le_of_eq g41.symm)
    have V41 : Arv Z h41 b41 k41 .char (3 : Int32) [(.int (0 : Int32)), (.int (0 : Int32)), (.int (0 : Int32))] (.int (0 : Int32)) := (Arv.new A41 (by decide)).pad (pad_rep [] (.int (0 : Int32)) 3)
    refine Goes.step (T' := T41) (g' := (mkF m 25 #[.val (.int p0), .val (.int (p0 &&& (1 : Int32))), .val (.ref tcp), .unset, .unset, .unset, .unset] [(.ref b41)])) st41 ?_
    refine P1.dup X41.here hx (hb hby at_25) rfl ?_
    refine P1.iconst X41.here hx (0 : Int32) (hb hby at_26) rfl ?_
    refine P1.bipush X41.here hx (116 : Int32) (hb hby at_27) rfl ?_
    obtain ⟨cl42, Ar42, qk42, sl42, nz42, ha42, fi42⟩ := id V41
    obtain ⟨T43, h43, X43, e43, W43, st43⟩ := stC X41 hx hZ e41 Ar42 (j := (0 : Int32)) (inb_of sl42 ⟨by decide, by decide⟩) (g := (mkF m 29 #[.val (.int p0), .val (.int (p0 &&& (1 : Int32))), .val (.ref tcp), .unset, .unset, .unset, .unset] [(.int (116 : Int32)), (.int (0 : Int32)), (.ref b41), (.ref b41)])) rfl rfl (hb hby at_29)
    have V43 : Arv Z h43 b41 k41 .char (3 : Int32) [(.int (116 : Int32)), (.int (0 : Int32)), (.int (0 : Int32))] (.int (0 : Int32)) := Arv.set Ar42 qk42 sl42 nz42 ha42 fi42 (fits_nar_char _) W43 0 rfl (ok rfl)
    have N43 := Fr.snoc X43 N0 ge_b41
    refine Goes.step (T' := T43) (g' := (mkF m 30 #[.val (.int p0), .val (.int (p0 &&& (1 : Int32))), .val (.ref tcp), .unset, .unset, .unset, .unset] [(.ref b41)])) st43 ?_
    refine P1.dup X43.here hx (hb hby at_30) rfl ?_
    refine P1.iconst X43.here hx (1 : Int32) (hb hby at_31) rfl ?_
    refine P1.bipush X43.here hx (99 : Int32) (hb hby at_32) rfl ?_
    obtain ⟨cl44, Ar44, qk44, sl44, nz44, ha44, fi44⟩ := id V43
    obtain ⟨T45, h45, X45, e45, W45, st45⟩ := stC X43 hx hZ e43 Ar44 (j := (1 : Int32)) (inb_of sl44 ⟨by decide, by decide⟩) (g := (mkF m 34 #[.val (.int p0), .val (.int (p0 &&& (1 : Int32))), .val (.ref tcp), .unset, .unset, .unset, .unset] [(.int (99 : Int32)), (.int (1 : Int32)), (.ref b41), (.ref b41)])) rfl rfl (hb hby at_34)
    have V45 : Arv Z h45 b41 k41 .char (3 : Int32) [(.int (116 : Int32)), (.int (99 : Int32)), (.int (0 : Int32))] (.int (0 : Int32)) := Arv.set Ar44 qk44 sl44 nz44 ha44 fi44 (fits_nar_char _) W45 1 rfl (ok rfl)
    have N45 := Fr.snoc X45 N43 ge_b41
    refine Goes.step (T' := T45) (g' := (mkF m 35 #[.val (.int p0), .val (.int (p0 &&& (1 : Int32))), .val (.ref tcp), .unset, .unset, .unset, .unset] [(.ref b41)])) st45 ?_
    refine P1.dup X45.here hx (hb hby at_35) rfl ?_
    refine P1.iconst X45.here hx (2 : Int32) (hb hby at_36) rfl ?_
    refine P1.bipush X45.here hx (112 : Int32) (hb hby at_37) rfl ?_
    obtain ⟨cl46, Ar46, qk46, sl46, nz46, ha46, fi46⟩ := id V45
    obtain ⟨T47, h47, X47, e47, W47, st47⟩ := stC X45 hx hZ e45 Ar46 (j := (2 : Int32)) (inb_of sl46 ⟨by decide, by decide⟩) (g := (mkF m 39 #[.val (.int p0), .val (.int (p0 &&& (1 : Int32))), .val (.ref tcp), .unset, .unset, .unset, .unset] [(.int (112 : Int32)), (.int (2 : Int32)), (.ref b41), (.ref b41)])) rfl rfl (hb hby at_39)
    have V47 : Arv Z h47 b41 k41 .char (3 : Int32) [(.int (116 : Int32)), (.int (99 : Int32)), (.int (112 : Int32))] (.int (0 : Int32)) := Arv.set Ar46 qk46 sl46 nz46 ha46 fi46 (fits_nar_char _) W47 2 rfl (ok rfl)
    have N47 := Fr.snoc X47 N45 ge_b41
    refine Goes.step (T' := T47) (g' := (mkF m 40 #[.val (.int p0), .val (.int (p0 &&& (1 : Int32))), .val (.ref tcp), .unset, .unset, .unset, .unset] [(.ref b41)])) st47 ?_
    refine P1.astoreN X47.here hx #[.val (.int p0), .val (.int (p0 &&& (1 : Int32))), .val (.ref tcp), .val (.ref b41), .unset, .unset, .unset] (hb hby at_40) rfl rfl ?_
    refine P1.goto X47.here hx 68 (hb hby at_41) (by decide) (by decide) ?_
    obtain ⟨T48, h48, X48, e48, E48, A48, D48, -, st48⟩ := newO X47 hx hZ hown (own_w hw 4 rfl) (own_w hw 5 rfl) (own_w hw 6 rfl) e47 (g := (mkF m 68 #[.val (.int p0), .val (.int (p0 &&& (1 : Int32))), .val (.ref tcp), .val (.ref b41), .unset, .unset, .unset] [])) rfl (hb hby at_68) (ok rfl) (ok rfl)
    have Z49 : n0 ≤ h41.size := Nat.le_trans Z0 E41.1
    have Z50 : n0 ≤ h43.size := Nat.le_trans Z49 (Keep.of_wr W43).1
    have Z51 : n0 ≤ h45.size := Nat.le_trans Z50 (Keep.of_wr W45).1
    have Z52 : n0 ≤ h47.size := Nat.le_trans Z51 (Keep.of_wr W47).1
    have K53 : Keep h0 h41 [] := K0.ext E41
    have K54 : Keep h0 h43 [] := K53.wr W43 (Or.inr sz_b41)
    have K55 : Keep h0 h45 [] := K54.wr W45 (Or.inr sz_b41)
    have K56 : Keep h0 h47 [] := K55.wr W47 (Or.inr sz_b41)
    obtain ⟨b48, g48⟩ : ∃ z, z = h47.size := ⟨_, rfl⟩
    rw [← g48] at A48 D48 st48
    have ge_b48 : n0 ≤ b48 := Nat.le_trans Z52 (Nat.le_of_eq g48.symm)
    have sz_b48 : h0.size ≤ b48 := Nat.le_trans K56.1 (Nat.le_of_eq g48.symm)
    have F48_coder : Fld Z h48 b48 "java/lang/String" "coder" "B" (.int (0 : Int32)) := D48 (Or.inr (own_w hw 30 rfl)) (ty := .byte) (by decide)
    have F48_value : Fld Z h48 b48 "java/lang/String" "value" "[B" .null := D48 (Or.inr (own_w hw 32 rfl)) (ty := (.array .byte)) (by decide)
    refine Goes.step (T' := T48) (g' := (mkF m 71 #[.val (.int p0), .val (.int (p0 &&& (1 : Int32))), .val (.ref tcp), .val (.ref b41), .unset, .unset, .unset] [(.ref b48)])) st48 ?_
    refine P1.dup X48.here hx (hb hby at_71) rfl ?_
    refine P1.aloadN X48.here hx (hb hby at_72) rfl rfl ?_
    have V57 : Arv Z h48 b41 k41 .char (3 : Int32) [(.int (116 : Int32)), (.int (99 : Int32)), (.int (112 : Int32))] (.int (0 : Int32)) := V47.ext E48
    have Z58 : n0 ≤ h48.size := Nat.le_trans Z52 E48.1
    have hp59 : ∀ c ∈ ([(116 : Int32), (99 : Int32), (112 : Int32)] : List Int32), ¬ c < 0 ∧ ¬ (255 : Int32) < c := by decide
    have O60 : Old Z n0 h41 := O0.ext E41
    have O61 : Old Z n0 h43 := O60.wr W43 ge_b41
    have O62 : Old Z n0 h45 := O61.wr W45 ge_b41
    have O63 : Old Z n0 h47 := O62.wr W47 ge_b41
    have O64 : Old Z n0 h48 := O63.ext E48
    refine Goes.callC X48 hx (y := (⟨"java/lang/String", "<init>", "([C)V"⟩ : MethodName)) rfl hown (mvT hZ (own_w hw 7 rfl)) (mvT hZ (own_w hw 8 rfl)) (mvT hZ (own_w hw 9 rfl)) (by decide) (kc' := 1) (ks' := 3) (StrChars.Road.backV (W := 1) hZ (fun d hd => hw d (in_words d hd)) (kI := 4) (own_w hw 5 rfl) (cs := ([(116 : Int32), (99 : Int32), (112 : Int32)] : List Int32)) (bs := ([(116 : Int32), (99 : Int32), (112 : Int32)] : List Int32).map (fun c => c.toInt8.toInt32)) (n := 3) ge_b48 Z58 A48 F48_value F48_coder V57 (S_CS.ext O64.2) hzc rfl rfl (by decide) (by decide) hp59 rfl (ok rfl) (ok rfl)) (g := (mkF m 73 #[.val (.int p0), .val (.int (p0 &&& (1 : Int32))), .val (.ref tcp), .val (.ref b41), .unset, .unset, .unset] [(.ref b41), (.ref b48), (.ref b48)])) (a := b48) rfl (by rw [hml]; rfl) (argsL := [(.ref b41)]) (rest := [(.ref b48)]) (lenOf pd_1017 rfl) rfl (by show 2 * 0 + _ ≤ _; exact Nat.le_of_eq rfl) (hb hby at_73) rfl e48 (ok rfl) (ok rfl) ?_
    intro v65 T65 L65 q65 X65
    obtain ⟨rfl, N65q, K65, g65E, g65C, t65, kb65, ge_t65, szt65, net65, g65V, g65K⟩ := q65
    have K66 : Keep h0 h48 [] := K56.ext E48
    have N65 := Fr.app N47 N65q
    have sz_t65 : h0.size ≤ t65 := Nat.le_trans K66.1 szt65
    show Goes p e below _ T65 (mkF m 76 #[.val (.int p0), .val (.int (p0 &&& (1 : Int32))), .val (.ref tcp), .val (.ref b41), .unset, .unset, .unset] [(.ref b48)])
    refine P1.astore X65.here hx #[.val (.int p0), .val (.int (p0 &&& (1 : Int32))), .val (.ref tcp), .val (.ref b41), .val (.ref b48), .unset, .unset] (hb hby at_76) rfl rfl ?_
    refine P1.aload X65.here hx (hb hby at_78) rfl rfl ?_
    have Z67 : n0 ≤ T65.heap.size := Nat.le_trans Z58 K65.1
    have O68 : Old Z n0 T65.heap := O64.keep K65 (allS ge_b48 all0)
    refine Goes.callS X65 hx (y := y1_) hown (mvT hZ (own_w hw 33 rfl)) (mvT hZ (own_w hw 34 rfl)) (mvT hZ (own_w hw 1 rfl)) (mvT hZ (own_w hw 35 rfl)) (by decide) (kc' := 1) (ks' := 2) (backOf (W := 0) (rmNT l Z a0 hw [] tcp va http sa ba sb bb k_va k_ba k_bb zc fm b48 t65 kb65 T65.heap n0 Z67 O68 S_TCP E_tcp S__VALUES E_va S_HTTP E_http F_tcp_configName E_sa F_sa_coder F_sa_value F_http_configName E_sb F_sb_coder F_sb_value V_va V_ba V_bb S_CS hzc S_FM hfm g65E g65V g65C g65K) hZ (own_w hw 35 rfl) (own_w hw 1 rfl) (ok rfl) (ok rfl)) (g := (mkF m 80 #[.val (.int p0), .val (.int (p0 &&& (1 : Int32))), .val (.ref tcp), .val (.ref b41), .val (.ref b48), .unset, .unset] [(.ref b48)])) rfl (by rw [hml]; rfl) (argsL := [(.ref b48)]) (rest := []) (lenOf pd_300934 rfl) rfl (by show 2 * 0 + _ ≤ _; exact Nat.le_of_eq rfl) (hb hby at_80) rfl rfl (ok rfl) (ok rfl) ?_
    intro v69 T69 L69 q69 X69
    obtain ⟨rfl, N69q, K69⟩ := q69
    have N69 := Fr.app N65 N69q
    show Goes p e below _ T69 (mkF m 83 #[.val (.int p0), .val (.int (p0 &&& (1 : Int32))), .val (.ref tcp), .val (.ref b41), .val (.ref b48), .unset, .unset] [(.ref tcp)])
    refine P1.astore X69.here hx #[.val (.int p0), .val (.int (p0 &&& (1 : Int32))), .val (.ref tcp), .val (.ref b41), .val (.ref b48), .val (.ref tcp), .unset] (hb hby at_83) rfl rfl ?_
    refine P1.aloadN X69.here hx (hb hby at_85) rfl rfl ?_
    have Z70 : n0 ≤ T69.heap.size := Nat.le_trans Z67 K69.1
    have O71 : Old Z n0 T69.heap := O68.keep K69 all0
    refine Goes.callV X69 hx hZ (y := y0_) (z := y0_) hown (mvT hZ (own_w hw 64 rfl)) (mvT hZ (own_w hw 65 rfl)) (notFace_of_selects (args := #[]) (mvT hZ (own_w hw 67 rfl))) (mvT hZ (own_w hw 67 rfl)) (mvT hZ (own_w hw 66 rfl)) (by decide) (kc' := 0) (ks' := 0) (backOf (W := 0) (rmCfg l Z a0 hw [] tcp sa T69.heap n0 Z70 O71 F_tcp_configName) hZ (own_w hw 68 rfl) (own_w hw 1 rfl) (ok rfl) (ok rfl)) (b := tcp) rfl (E_tcp.ext O71.2) (g := (mkF m 86 #[.val (.int p0), .val (.int (p0 &&& (1 : Int32))), .val (.ref tcp), .val (.ref b41), .val (.ref b48), .val (.ref tcp), .unset] [(.ref tcp)])) rfl (by rw [hml]; rfl) (argsL := []) (rest := []) (lenOf pd_19649 rfl) rfl (by show 2 * 0 + _ ≤ _; exact Nat.le_of_eq rfl) (hb hby at_86) rfl (ok rfl) (ok rfl) ?_
    intro v72 T72 L72 q72 X72
    obtain ⟨rfl, N72q, hE72⟩ := q72
    have N72 := Fr.app N69 N72q
    show Goes p e below _ T72 (mkF m 89 #[.val (.int p0), .val (.int (p0 &&& (1 : Int32))), .val (.ref tcp), .val (.ref b41), .val (.ref b48), .val (.ref tcp), .unset] [(.ref sa)])
    have V73 : Arv Z T69.heap ba k_ba .byte (3 : Int32) [(.int (116 : Int32)), (.int (99 : Int32)), (.int (112 : Int32))] (.int (0 : Int32)) := (V_ba.ext O71.2)
    refine Goes.callS X72 hx (y := y1_) hown (mvT hZ (own_w hw 33 rfl)) (mvT hZ (own_w hw 34 rfl)) (mvT hZ (own_w hw 1 rfl)) (mvT hZ (own_w hw 35 rfl)) (by decide) (kc' := 1) (ks' := 2) (backOf (W := 0) (rmNT l Z a0 hw [] tcp va http sa ba sb bb k_va k_ba k_bb zc fm sa ba k_ba T69.heap n0 Z70 O71 S_TCP E_tcp S__VALUES E_va S_HTTP E_http F_tcp_configName E_sa F_sa_coder F_sa_value F_http_configName E_sb F_sb_coder F_sb_value V_va V_ba V_bb S_CS hzc S_FM hfm (E_sa.ext O71.2) (F_sa_value.ext O71.2) (F_sa_coder.ext O71.2) V73) hZ (own_w hw 35 rfl) (own_w hw 1 rfl) (ok rfl) (ok rfl)) (g := (mkF m 89 #[.val (.int p0), .val (.int (p0 &&& (1 : Int32))), .val (.ref tcp), .val (.ref b41), .val (.ref b48), .val (.ref tcp), .unset] [(.ref sa)])) rfl (by rw [hml]; rfl) (argsL := [(.ref sa)]) (rest := []) (lenOf pd_300934 rfl) rfl (by show 2 * 0 + _ ≤ _; exact Nat.le_of_eq rfl) (hb hby at_89) rfl hE72 (ok rfl) (ok rfl) ?_
    intro v74 T74 L74 q74 X74
    obtain ⟨rfl, N74q, K74⟩ := q74
    have N74 := Fr.app N72 N74q
    show Goes p e below _ T74 (mkF m 92 #[.val (.int p0), .val (.int (p0 &&& (1 : Int32))), .val (.ref tcp), .val (.ref b41), .val (.ref b48), .val (.ref tcp), .unset] [(.ref tcp)])
    refine P1.astore X74.here hx #[.val (.int p0), .val (.int (p0 &&& (1 : Int32))), .val (.ref tcp), .val (.ref b41), .val (.ref b48), .val (.ref tcp), .val (.ref tcp)] (hb hby at_92) rfl rfl ?_
    refine P1.aload X74.here hx (hb hby at_94) rfl rfl ?_
    refine P1.aloadN X74.here hx (hb hby at_96) rfl rfl ?_
    refine Goes.step (T' := T74) (g' := (mkF m 100 #[.val (.int p0), .val (.int (p0 &&& (1 : Int32))), .val (.ref tcp), .val (.ref b41), .val (.ref b48), .val (.ref tcp), .val (.ref tcp)] [])) (fun t k => Jvm.RoadKit.acmp (g := (mkF m 97 #[.val (.int p0), .val (.int (p0 &&& (1 : Int32))), .val (.ref tcp), .val (.ref b41), .val (.ref b48), .val (.ref tcp), .val (.ref tcp)] [(.ref tcp), (.ref tcp)])) X74 hx rfl rfl rfl (pc0 := 97) (pc' := 100) (same := true) rfl (hb hby at_97) rfl (decide_eq_true rfl) (by decide) (by decide) k) ?_
    refine P1.aload X74.here hx (hb hby at_100) rfl rfl ?_
    refine P1.aloadN X74.here hx (hb hby at_102) rfl rfl ?_
    refine Goes.step (T' := T74) (g' := (mkF m 106 #[.val (.int p0), .val (.int (p0 &&& (1 : Int32))), .val (.ref tcp), .val (.ref b41), .val (.ref b48), .val (.ref tcp), .val (.ref tcp)] [])) (fun t k => Jvm.RoadKit.acmp (g := (mkF m 103 #[.val (.int p0), .val (.int (p0 &&& (1 : Int32))), .val (.ref tcp), .val (.ref b41), .val (.ref b48), .val (.ref tcp), .val (.ref tcp)] [(.ref tcp), (.ref tcp)])) X74 hx rfl rfl rfl (pc0 := 103) (pc' := 106) (same := true) rfl (hb hby at_103) rfl (decide_eq_true rfl) (by decide) (by decide) k) ?_
    refine P1.aload X74.here hx (hb hby at_106) rfl rfl ?_
    refine P1.aloadN X74.here hx (hb hby at_108) rfl rfl ?_
    have Z75 : n0 ≤ T74.heap.size := Nat.le_trans Z70 K74.1
    have O76 : Old Z n0 T74.heap := O71.keep K74 all0
    refine Goes.callV X74 hx hZ (y := y0_) (z := y0_) hown (mvT hZ (own_w hw 64 rfl)) (mvT hZ (own_w hw 65 rfl)) (notFace_of_selects (args := #[]) (mvT hZ (own_w hw 67 rfl))) (mvT hZ (own_w hw 67 rfl)) (mvT hZ (own_w hw 66 rfl)) (by decide) (kc' := 0) (ks' := 0) (backOf (W := 1) (rmCfg l Z a0 hw [] tcp sa T74.heap n0 Z75 O76 F_tcp_configName) hZ (own_w hw 68 rfl) (own_w hw 1 rfl) (ok rfl) (ok rfl)) (b := tcp) rfl (E_tcp.ext O76.2) (g := (mkF m 109 #[.val (.int p0), .val (.int (p0 &&& (1 : Int32))), .val (.ref tcp), .val (.ref b41), .val (.ref b48), .val (.ref tcp), .val (.ref tcp)] [(.ref tcp), (.ref b48)])) rfl (by rw [hml]; rfl) (argsL := []) (rest := [(.ref b48)]) (lenOf pd_19649 rfl) rfl (by show 2 * 0 + _ ≤ _; exact Nat.le_of_eq rfl) (hb hby at_109) rfl (ok rfl) (ok rfl) ?_
    intro v77 T77 L77 q77 X77
    obtain ⟨rfl, N77q, hE77⟩ := q77
    have N77 := Fr.app N74 N77q
    show Goes p e below _ T77 (mkF m 112 #[.val (.int p0), .val (.int (p0 &&& (1 : Int32))), .val (.ref tcp), .val (.ref b41), .val (.ref b48), .val (.ref tcp), .val (.ref tcp)] [(.ref sa), (.ref b48)])
    have E78 : Exa Z T69.heap b48 "java/lang/String" := g65E.keep K69
    have E79 : Exa Z T74.heap b48 "java/lang/String" := E78.keep K74
    have F80 : Fld Z T69.heap b48 "java/lang/String" "value" "[B" (.ref t65) := g65V.keep K69 nin0
    have F81 : Fld Z T74.heap b48 "java/lang/String" "value" "[B" (.ref t65) := F80.keep K74 nin0
    have F82 : Fld Z T69.heap b48 "java/lang/String" "coder" "B" (.int (0 : Int32)) := g65C.keep K69 nin0
    have F83 : Fld Z T74.heap b48 "java/lang/String" "coder" "B" (.int (0 : Int32)) := F82.keep K74 nin0
    have V84 : Arv Z T69.heap t65 kb65 .byte (3 : Int32) [(.int ((116 : Int32)).toInt8.toInt32), (.int ((99 : Int32)).toInt8.toInt32), (.int ((112 : Int32)).toInt8.toInt32)] (.int (0 : Int32)) := g65K.keep K69 nin0
    have V85 : Arv Z T74.heap t65 kb65 .byte (3 : Int32) [(.int ((116 : Int32)).toInt8.toInt32), (.int ((99 : Int32)).toInt8.toInt32), (.int ((112 : Int32)).toInt8.toInt32)] (.int (0 : Int32)) := V84.keep K74 nin0
    have V86 : Arv Z T74.heap ba k_ba .byte (3 : Int32) [(.int (116 : Int32)), (.int (99 : Int32)), (.int (112 : Int32))] (.int (0 : Int32)) := V73.keep K74 nin0
    refine Goes.callV X77 hx hZ (y := y4_) (z := y4_) (Qc := fun v h' L => (((v = some (.int 1) ∧ ([(116 : Int32), (99 : Int32), (112 : Int32)] : List Int32) = ([(116 : Int32), (99 : Int32), (112 : Int32)] : List Int32)) ∨ (v = some (.int 0) ∧ ¬ ([(116 : Int32), (99 : Int32), (112 : Int32)] : List Int32) = ([(116 : Int32), (99 : Int32), (112 : Int32)] : List Int32))) ∧ L = [] ∧ h' = T74.heap)) hown (mvT hZ (own_w hw 69 rfl)) (mvT hZ (own_w hw 55 rfl)) (notFace_of_selects (args := #[]) (mvT hZ (own_w hw 57 rfl))) (mvT hZ (own_w hw 57 rfl)) (mvT hZ (own_w hw 56 rfl)) (by decide) (kc' := 0) (ks' := 0) (StrChars.Road.eqW (W := 0) hZ (fun d hd => hw d (in_wordsEq d hd)) (kI := 4) (own_w hw 5 rfl) E79 F81 F83 V85 (StrChars.Road.codOf (cs := ([(116 : Int32), (99 : Int32), (112 : Int32)] : List Int32)) (n := 3) rfl (fun c hc => (hp59 c hc).2)) (own_up hp59) (ok rfl) (E_sa.ext O76.2) (F_sa_value.ext O76.2) (F_sa_coder.ext O76.2) V86 (show StrChars.Road.CodA ([(116 : Int32), (99 : Int32), (112 : Int32)] : List Int32) 0 (3 : Int32) _ from Or.inl ⟨rfl, rfl, rfl, by decide⟩) (by decide) (ok rfl) (S_CS.ext O76.2) hzc (ok rfl) (ok rfl)) (b := b48) hE77 E79 (g := (mkF m 112 #[.val (.int p0), .val (.int (p0 &&& (1 : Int32))), .val (.ref tcp), .val (.ref b41), .val (.ref b48), .val (.ref tcp), .val (.ref tcp)] [(.ref sa), (.ref b48)])) rfl (by rw [hml]; rfl) (argsL := [(.ref sa)]) (rest := []) (lenOf pd_20140 rfl) rfl (by show 2 * 0 + _ ≤ _; exact Nat.le_of_eq rfl) (hb hby at_112) rfl (ok rfl) (ok rfl) ?_
    intro v87 T87 L87 q87 X87
    obtain ⟨q87, rfl, hE87⟩ := q87
    have N87 := Fr.app N77 (Fr.nil n0)
    obtain ⟨rfl, -⟩ := q87.resolve_right (fun z => z.2 rfl)
    show Goes p e below _ T87 (mkF m 115 #[.val (.int p0), .val (.int (p0 &&& (1 : Int32))), .val (.ref tcp), .val (.ref b41), .val (.ref b48), .val (.ref tcp), .val (.ref tcp)] [(.int (1 : Int32))])
    refine Goes.step (T' := T87) (g' := (mkF m 118 #[.val (.int p0), .val (.int (p0 &&& (1 : Int32))), .val (.ref tcp), .val (.ref b41), .val (.ref b48), .val (.ref tcp), .val (.ref tcp)] [])) (fun t k => XS.ifNo X87.here hx rfl (hb hby at_115) rfl ((if0 _ _).trans (feq ((by decide : ¬ ((1 : Int32) = (0 : Int32))) : ¬ ((1 : Int32) = (0 : Int32)))).1) k) ?_
    refine P1.iconst X87.here hx (1 : Int32) (hb hby at_118) rfl ?_
    refine P1.goto X87.here hx 123 (hb hby at_119) (by decide) (by decide) ?_
    refine Goes.retN X87 hx Bd.notSynchronized (t := .boolean) Bd.returns (by simp) (hb hby at_123) (ok rfl) (ok rfl) ?_
    rw [hE87]
    exact ⟨rfl, N87⟩
  ·
    refine Goes.step (T' := s₁) (g' := (mkF m 14 #[.val (.int p0), .val (.int (p0 &&& (1 : Int32))), .unset, .unset, .unset, .unset, .unset] [])) (fun t k => XS.ifYes X0.here hx rfl (pc0 := 5) (pc' := 14) rfl (hb hby at_5) rfl ((if0 _ _).trans (feq (hbr : ¬ ((p0 &&& (1 : Int32)) = (0 : Int32)))).2) (by decide) (by decide) k) ?_
    obtain ⟨T88, X88, e88, st88⟩ := getS2 X0 hx hZ hown (host := "") (Or.inl (own_w hw 70 rfl)) Via.refl e0 (S_HTTP.ext O0.2) (g := (mkF m 14 #[.val (.int p0), .val (.int (p0 &&& (1 : Int32))), .unset, .unset, .unset, .unset, .unset] [])) rfl (hb hby at_14)
    refine Goes.step (T' := T88) (g' := (mkF m 17 #[.val (.int p0), .val (.int (p0 &&& (1 : Int32))), .unset, .unset, .unset, .unset, .unset] [(.ref http)])) st88 ?_
    refine P1.astoreN X88.here hx #[.val (.int p0), .val (.int (p0 &&& (1 : Int32))), .val (.ref http), .unset, .unset, .unset, .unset] (hb hby at_17) rfl rfl ?_
    refine P1.iloadN X88.here hx (hb hby at_18) rfl ?_
    refine Goes.step (T' := T88) (g' := (mkF m 44 #[.val (.int p0), .val (.int (p0 &&& (1 : Int32))), .val (.ref http), .unset, .unset, .unset, .unset] [])) (fun t k => XS.ifYes X88.here hx rfl (pc0 := 19) (pc' := 44) rfl (hb hby at_19) rfl ((if0 _ _).trans (feq (hbr : ¬ ((p0 &&& (1 : Int32)) = (0 : Int32)))).2) (by decide) (by decide) k) ?_
    refine P1.iconst X88.here hx (4 : Int32) (hb hby at_44) rfl ?_
    obtain ⟨T89, h89, k89, X89, e89, E89, A89, st89⟩ := newP X88 hx hZ (own_w hw 3 rfl) e88 (g := (mkF m 45 #[.val (.int p0), .val (.int (p0 &&& (1 : Int32))), .val (.ref http), .unset, .unset, .unset, .unset] [(.int (4 : Int32))])) rfl (hb hby at_45) rfl (by decide) (cap := 4) (ok rfl) (ok rfl) (ok rfl) (ok rfl)
    obtain ⟨b89, g89⟩ : ∃ z, z = h0.size := ⟨_, rfl⟩
    rw [← g89] at A89 st89
    have ge_b89 : n0 ≤ b89 := Nat.le_trans Z0 (Nat.le_of_eq g89.symm)
    have sz_b89 : h0.size ≤ b89 := Nat.le_trans K0.1 (Nat.le_of_eq g89.symm)
    have V89 : Arv Z h89 b89 k89 .char (4 : Int32) [(.int (0 : Int32)), (.int (0 : Int32)), (.int (0 : Int32)), (.int (0 : Int32))] (.int (0 : Int32)) := (Arv.new A89 (by decide)).pad (pad_rep [] (.int (0 : Int32)) 4)
    refine Goes.step (T' := T89) (g' := (mkF m 47 #[.val (.int p0), .val (.int (p0 &&& (1 : Int32))), .val (.ref http), .unset, .unset, .unset, .unset] [(.ref b89)])) st89 ?_
    refine P1.dup X89.here hx (hb hby at_47) rfl ?_
    refine P1.iconst X89.here hx (0 : Int32) (hb hby at_48) rfl ?_
    refine P1.bipush X89.here hx (104 : Int32) (hb hby at_49) rfl ?_
    obtain ⟨cl90, Ar90, qk90, sl90, nz90, ha90, fi90⟩ := id V89
    obtain ⟨T91, h91, X91, e91, W91, st91⟩ := stC X89 hx hZ e89 Ar90 (j := (0 : Int32)) (inb_of sl90 ⟨by decide, by decide⟩) (g := (mkF m 51 #[.val (.int p0), .val (.int (p0 &&& (1 : Int32))), .val (.ref http), .unset, .unset, .unset, .unset] [(.int (104 : Int32)), (.int (0 : Int32)), (.ref b89), (.ref b89)])) rfl rfl (hb hby at_51)
    have V91 : Arv Z h91 b89 k89 .char (4 : Int32) [(.int (104 : Int32)), (.int (0 : Int32)), (.int (0 : Int32)), (.int (0 : Int32))] (.int (0 : Int32)) := Arv.set Ar90 qk90 sl90 nz90 ha90 fi90 (fits_nar_char _) W91 0 rfl (ok rfl)
    have N91 := Fr.snoc X91 N0 ge_b89
    refine Goes.step (T' := T91) (g' := (mkF m 52 #[.val (.int p0), .val (.int (p0 &&& (1 : Int32))), .val (.ref http), .unset, .unset, .unset, .unset] [(.ref b89)])) st91 ?_
    refine P1.dup X91.here hx (hb hby at_52) rfl ?_
    refine P1.iconst X91.here hx (1 : Int32) (hb hby at_53) rfl ?_
    refine P1.bipush X91.here hx (116 : Int32) (hb hby at_54) rfl ?_
    obtain ⟨cl92, Ar92, qk92, sl92, nz92, ha92, fi92⟩ := id V91
    obtain ⟨T93, h93, X93, e93, W93, st93⟩ := stC X91 hx hZ e91 Ar92 (j := (1 : Int32)) (inb_of sl92 ⟨by decide, by decide⟩) (g := (mkF m 56 #[.val (.int p0), .val (.int (p0 &&& (1 : Int32))), .val (.ref http), .unset, .unset, .unset, .unset] [(.int (116 : Int32)), (.int (1 : Int32)), (.ref b89), (.ref b89)])) rfl rfl (hb hby at_56)
    have V93 : Arv Z h93 b89 k89 .char (4 : Int32) [(.int (104 : Int32)), (.int (116 : Int32)), (.int (0 : Int32)), (.int (0 : Int32))] (.int (0 : Int32)) := Arv.set Ar92 qk92 sl92 nz92 ha92 fi92 (fits_nar_char _) W93 1 rfl (ok rfl)
    have N93 := Fr.snoc X93 N91 ge_b89
    refine Goes.step (T' := T93) (g' := (mkF m 57 #[.val (.int p0), .val (.int (p0 &&& (1 : Int32))), .val (.ref http), .unset, .unset, .unset, .unset] [(.ref b89)])) st93 ?_
    refine P1.dup X93.here hx (hb hby at_57) rfl ?_
    refine P1.iconst X93.here hx (2 : Int32) (hb hby at_58) rfl ?_
    refine P1.bipush X93.here hx (116 : Int32) (hb hby at_59) rfl ?_
    obtain ⟨cl94, Ar94, qk94, sl94, nz94, ha94, fi94⟩ := id V93
    obtain ⟨T95, h95, X95, e95, W95, st95⟩ := stC X93 hx hZ e93 Ar94 (j := (2 : Int32)) (inb_of sl94 ⟨by decide, by decide⟩) (g := (mkF m 61 #[.val (.int p0), .val (.int (p0 &&& (1 : Int32))), .val (.ref http), .unset, .unset, .unset, .unset] [(.int (116 : Int32)), (.int (2 : Int32)), (.ref b89), (.ref b89)])) rfl rfl (hb hby at_61)
    have V95 : Arv Z h95 b89 k89 .char (4 : Int32) [(.int (104 : Int32)), (.int (116 : Int32)), (.int (116 : Int32)), (.int (0 : Int32))] (.int (0 : Int32)) := Arv.set Ar94 qk94 sl94 nz94 ha94 fi94 (fits_nar_char _) W95 2 rfl (ok rfl)
    have N95 := Fr.snoc X95 N93 ge_b89
    refine Goes.step (T' := T95) (g' := (mkF m 62 #[.val (.int p0), .val (.int (p0 &&& (1 : Int32))), .val (.ref http), .unset, .unset, .unset, .unset] [(.ref b89)])) st95 ?_
    refine P1.dup X95.here hx (hb hby at_62) rfl ?_
    refine P1.iconst X95.here hx (3 : Int32) (hb hby at_63) rfl ?_
    refine P1.bipush X95.here hx (112 : Int32) (hb hby at_64) rfl ?_
    obtain ⟨cl96, Ar96, qk96, sl96, nz96, ha96, fi96⟩ := id V95
    obtain ⟨T97, h97, X97, e97, W97, st97⟩ := stC X95 hx hZ e95 Ar96 (j := (3 : Int32)) (inb_of sl96 ⟨by decide, by decide⟩) (g := (mkF m 66 #[.val (.int p0), .val (.int (p0 &&& (1 : Int32))), .val (.ref http), .unset, .unset, .unset, .unset] [(.int (112 : Int32)), (.int (3 : Int32)), (.ref b89), (.ref b89)])) rfl rfl (hb hby at_66)
    have V97 : Arv Z h97 b89 k89 .char (4 : Int32) [(.int (104 : Int32)), (.int (116 : Int32)), (.int (116 : Int32)), (.int (112 : Int32))] (.int (0 : Int32)) := Arv.set Ar96 qk96 sl96 nz96 ha96 fi96 (fits_nar_char _) W97 3 rfl (ok rfl)
    have N97 := Fr.snoc X97 N95 ge_b89
    refine Goes.step (T' := T97) (g' := (mkF m 67 #[.val (.int p0), .val (.int (p0 &&& (1 : Int32))), .val (.ref http), .unset, .unset, .unset, .unset] [(.ref b89)])) st97 ?_
    refine P1.astoreN X97.here hx #[.val (.int p0), .val (.int (p0 &&& (1 : Int32))), .val (.ref http), .val (.ref b89), .unset, .unset, .unset] (hb hby at_67) rfl rfl ?_
    obtain ⟨T98, h98, X98, e98, E98, A98, D98, -, st98⟩ := newO X97 hx hZ hown (own_w hw 4 rfl) (own_w hw 5 rfl) (own_w hw 6 rfl) e97 (g := (mkF m 68 #[.val (.int p0), .val (.int (p0 &&& (1 : Int32))), .val (.ref http), .val (.ref b89), .unset, .unset, .unset] [])) rfl (hb hby at_68) (ok rfl) (ok rfl)
    have Z99 : n0 ≤ h89.size := Nat.le_trans Z0 E89.1
    have Z100 : n0 ≤ h91.size := Nat.le_trans Z99 (Keep.of_wr W91).1
    have Z101 : n0 ≤ h93.size := Nat.le_trans Z100 (Keep.of_wr W93).1
    have Z102 : n0 ≤ h95.size := Nat.le_trans Z101 (Keep.of_wr W95).1
    have Z103 : n0 ≤ h97.size := Nat.le_trans Z102 (Keep.of_wr W97).1
    have K104 : Keep h0 h89 [] := K0.ext E89
    have K105 : Keep h0 h91 [] := K104.wr W91 (Or.inr sz_b89)
    have K106 : Keep h0 h93 [] := K105.wr W93 (Or.inr sz_b89)
    have K107 : Keep h0 h95 [] := K106.wr W95 (Or.inr sz_b89)
    have K108 : Keep h0 h97 [] := K107.wr W97 (Or.inr sz_b89)
    obtain ⟨b98, g98⟩ : ∃ z, z = h97.size := ⟨_, rfl⟩
    rw [← g98] at A98 D98 st98
    have ge_b98 : n0 ≤ b98 := Nat.le_trans Z103 (Nat.le_of_eq g98.symm)
    have sz_b98 : h0.size ≤ b98 := Nat.le_trans K108.1 (Nat.le_of_eq g98.symm)
    have F98_coder : Fld Z h98 b98 "java/lang/String" "coder" "B" (.int (0 : Int32)) := D98 (Or.inr (own_w hw 30 rfl)) (ty := .byte) (by decide)
    have F98_value : Fld Z h98 b98 "java/lang/String" "value" "[B" .null := D98 (Or.inr (own_w hw 32 rfl)) (ty := (.array .byte)) (by decide)
    refine Goes.step (T' := T98) (g' := (mkF m 71 #[.val (.int p0), .val (.int (p0 &&& (1 : Int32))), .val (.ref http), .val (.ref b89), .unset, .unset, .unset] [(.ref b98)])) st98 ?_
    refine P1.dup X98.here hx (hb hby at_71) rfl ?_
    refine P1.aloadN X98.here hx (hb hby at_72) rfl rfl ?_
    have V109 : Arv Z h98 b89 k89 .char (4 : Int32) [(.int (104 : Int32)), (.int (116 : Int32)), (.int (116 : Int32)), (.int (112 : Int32))] (.int (0 : Int32)) := V97.ext E98
    have Z110 : n0 ≤ h98.size := Nat.le_trans Z103 E98.1
    have hp111 : ∀ c ∈ ([(104 : Int32), (116 : Int32), (116 : Int32), (112 : Int32)] : List Int32), ¬ c < 0 ∧ ¬ (255 : Int32) < c := by decide
    have O112 : Old Z n0 h89 := O0.ext E89
    have O113 : Old Z n0 h91 := O112.wr W91 ge_b89
    have O114 : Old Z n0 h93 := O113.wr W93 ge_b89
    have O115 : Old Z n0 h95 := O114.wr W95 ge_b89
    have O116 : Old Z n0 h97 := O115.wr W97 ge_b89
    have O117 : Old Z n0 h98 := O116.ext E98
    refine Goes.callC X98 hx (y := (⟨"java/lang/String", "<init>", "([C)V"⟩ : MethodName)) rfl hown (mvT hZ (own_w hw 7 rfl)) (mvT hZ (own_w hw 8 rfl)) (mvT hZ (own_w hw 9 rfl)) (by decide) (kc' := 1) (ks' := 4) (StrChars.Road.backV (W := 1) hZ (fun d hd => hw d (in_words d hd)) (kI := 4) (own_w hw 5 rfl) (cs := ([(104 : Int32), (116 : Int32), (116 : Int32), (112 : Int32)] : List Int32)) (bs := ([(104 : Int32), (116 : Int32), (116 : Int32), (112 : Int32)] : List Int32).map (fun c => c.toInt8.toInt32)) (n := 4) ge_b98 Z110 A98 F98_value F98_coder V109 (S_CS.ext O117.2) hzc rfl rfl (by decide) (by decide) hp111 rfl (ok rfl) (ok rfl)) (g := (mkF m 73 #[.val (.int p0), .val (.int (p0 &&& (1 : Int32))), .val (.ref http), .val (.ref b89), .unset, .unset, .unset] [(.ref b89), (.ref b98), (.ref b98)])) (a := b98) rfl (by rw [hml]; rfl) (argsL := [(.ref b89)]) (rest := [(.ref b98)]) (lenOf pd_1017 rfl) rfl (by show 2 * 0 + _ ≤ _; exact Nat.le_of_eq rfl) (hb hby at_73) rfl e98 (ok rfl) (ok rfl) ?_
    intro v118 T118 L118 q118 X118
    obtain ⟨rfl, N118q, K118, g118E, g118C, t118, kb118, ge_t118, szt118, net118, g118V, g118K⟩ := q118
    have K119 : Keep h0 h98 [] := K108.ext E98
    have N118 := Fr.app N97 N118q
    have sz_t118 : h0.size ≤ t118 := Nat.le_trans K119.1 szt118
    show Goes p e below _ T118 (mkF m 76 #[.val (.int p0), .val (.int (p0 &&& (1 : Int32))), .val (.ref http), .val (.ref b89), .unset, .unset, .unset] [(.ref b98)])
    refine P1.astore X118.here hx #[.val (.int p0), .val (.int (p0 &&& (1 : Int32))), .val (.ref http), .val (.ref b89), .val (.ref b98), .unset, .unset] (hb hby at_76) rfl rfl ?_
    refine P1.aload X118.here hx (hb hby at_78) rfl rfl ?_
    have Z120 : n0 ≤ T118.heap.size := Nat.le_trans Z110 K118.1
    have O121 : Old Z n0 T118.heap := O117.keep K118 (allS ge_b98 all0)
    refine Goes.callS X118 hx (y := y1_) hown (mvT hZ (own_w hw 33 rfl)) (mvT hZ (own_w hw 34 rfl)) (mvT hZ (own_w hw 1 rfl)) (mvT hZ (own_w hw 35 rfl)) (by decide) (kc' := 1) (ks' := 2) (backOf (W := 0) (rmNH l Z a0 hw [] tcp va http sa ba sb bb k_va k_ba k_bb zc fm b98 t118 kb118 T118.heap n0 Z120 O121 S_TCP E_tcp S__VALUES E_va S_HTTP E_http F_tcp_configName E_sa F_sa_coder F_sa_value F_http_configName E_sb F_sb_coder F_sb_value V_va V_ba V_bb S_CS hzc S_FM hfm g118E g118V g118C g118K) hZ (own_w hw 35 rfl) (own_w hw 1 rfl) (ok rfl) (ok rfl)) (g := (mkF m 80 #[.val (.int p0), .val (.int (p0 &&& (1 : Int32))), .val (.ref http), .val (.ref b89), .val (.ref b98), .unset, .unset] [(.ref b98)])) rfl (by rw [hml]; rfl) (argsL := [(.ref b98)]) (rest := []) (lenOf pd_300934 rfl) rfl (by show 2 * 0 + _ ≤ _; exact Nat.le_of_eq rfl) (hb hby at_80) rfl rfl (ok rfl) (ok rfl) ?_
    intro v122 T122 L122 q122 X122
    obtain ⟨rfl, N122q, K122⟩ := q122
    have N122 := Fr.app N118 N122q
    show Goes p e below _ T122 (mkF m 83 #[.val (.int p0), .val (.int (p0 &&& (1 : Int32))), .val (.ref http), .val (.ref b89), .val (.ref b98), .unset, .unset] [(.ref http)])
    refine P1.astore X122.here hx #[.val (.int p0), .val (.int (p0 &&& (1 : Int32))), .val (.ref http), .val (.ref b89), .val (.ref b98), .val (.ref http), .unset] (hb hby at_83) rfl rfl ?_
    refine P1.aloadN X122.here hx (hb hby at_85) rfl rfl ?_
    have Z123 : n0 ≤ T122.heap.size := Nat.le_trans Z120 K122.1
    have O124 : Old Z n0 T122.heap := O121.keep K122 all0
    refine Goes.callV X122 hx hZ (y := y0_) (z := y0_) hown (mvT hZ (own_w hw 64 rfl)) (mvT hZ (own_w hw 65 rfl)) (notFace_of_selects (args := #[]) (mvT hZ (own_w hw 67 rfl))) (mvT hZ (own_w hw 67 rfl)) (mvT hZ (own_w hw 66 rfl)) (by decide) (kc' := 0) (ks' := 0) (backOf (W := 0) (rmCfg l Z a0 hw [] http sb T122.heap n0 Z123 O124 F_http_configName) hZ (own_w hw 68 rfl) (own_w hw 1 rfl) (ok rfl) (ok rfl)) (b := http) rfl (E_http.ext O124.2) (g := (mkF m 86 #[.val (.int p0), .val (.int (p0 &&& (1 : Int32))), .val (.ref http), .val (.ref b89), .val (.ref b98), .val (.ref http), .unset] [(.ref http)])) rfl (by rw [hml]; rfl) (argsL := []) (rest := []) (lenOf pd_19649 rfl) rfl (by show 2 * 0 + _ ≤ _; exact Nat.le_of_eq rfl) (hb hby at_86) rfl (ok rfl) (ok rfl) ?_
    intro v125 T125 L125 q125 X125
    obtain ⟨rfl, N125q, hE125⟩ := q125
    have N125 := Fr.app N122 N125q
    show Goes p e below _ T125 (mkF m 89 #[.val (.int p0), .val (.int (p0 &&& (1 : Int32))), .val (.ref http), .val (.ref b89), .val (.ref b98), .val (.ref http), .unset] [(.ref sb)])
    have V126 : Arv Z T122.heap bb k_bb .byte (4 : Int32) [(.int (104 : Int32)), (.int (116 : Int32)), (.int (116 : Int32)), (.int (112 : Int32))] (.int (0 : Int32)) := (V_bb.ext O124.2)
    refine Goes.callS X125 hx (y := y1_) hown (mvT hZ (own_w hw 33 rfl)) (mvT hZ (own_w hw 34 rfl)) (mvT hZ (own_w hw 1 rfl)) (mvT hZ (own_w hw 35 rfl)) (by decide) (kc' := 1) (ks' := 2) (backOf (W := 0) (rmNH l Z a0 hw [] tcp va http sa ba sb bb k_va k_ba k_bb zc fm sb bb k_bb T122.heap n0 Z123 O124 S_TCP E_tcp S__VALUES E_va S_HTTP E_http F_tcp_configName E_sa F_sa_coder F_sa_value F_http_configName E_sb F_sb_coder F_sb_value V_va V_ba V_bb S_CS hzc S_FM hfm (E_sb.ext O124.2) (F_sb_value.ext O124.2) (F_sb_coder.ext O124.2) V126) hZ (own_w hw 35 rfl) (own_w hw 1 rfl) (ok rfl) (ok rfl)) (g := (mkF m 89 #[.val (.int p0), .val (.int (p0 &&& (1 : Int32))), .val (.ref http), .val (.ref b89), .val (.ref b98), .val (.ref http), .unset] [(.ref sb)])) rfl (by rw [hml]; rfl) (argsL := [(.ref sb)]) (rest := []) (lenOf pd_300934 rfl) rfl (by show 2 * 0 + _ ≤ _; exact Nat.le_of_eq rfl) (hb hby at_89) rfl hE125 (ok rfl) (ok rfl) ?_
    intro v127 T127 L127 q127 X127
    obtain ⟨rfl, N127q, K127⟩ := q127
    have N127 := Fr.app N125 N127q
    show Goes p e below _ T127 (mkF m 92 #[.val (.int p0), .val (.int (p0 &&& (1 : Int32))), .val (.ref http), .val (.ref b89), .val (.ref b98), .val (.ref http), .unset] [(.ref http)])
    refine P1.astore X127.here hx #[.val (.int p0), .val (.int (p0 &&& (1 : Int32))), .val (.ref http), .val (.ref b89), .val (.ref b98), .val (.ref http), .val (.ref http)] (hb hby at_92) rfl rfl ?_
    refine P1.aload X127.here hx (hb hby at_94) rfl rfl ?_
    refine P1.aloadN X127.here hx (hb hby at_96) rfl rfl ?_
    refine Goes.step (T' := T127) (g' := (mkF m 100 #[.val (.int p0), .val (.int (p0 &&& (1 : Int32))), .val (.ref http), .val (.ref b89), .val (.ref b98), .val (.ref http), .val (.ref http)] [])) (fun t k => Jvm.RoadKit.acmp (g := (mkF m 97 #[.val (.int p0), .val (.int (p0 &&& (1 : Int32))), .val (.ref http), .val (.ref b89), .val (.ref b98), .val (.ref http), .val (.ref http)] [(.ref http), (.ref http)])) X127 hx rfl rfl rfl (pc0 := 97) (pc' := 100) (same := true) rfl (hb hby at_97) rfl (decide_eq_true rfl) (by decide) (by decide) k) ?_
    refine P1.aload X127.here hx (hb hby at_100) rfl rfl ?_
    refine P1.aloadN X127.here hx (hb hby at_102) rfl rfl ?_
    refine Goes.step (T' := T127) (g' := (mkF m 106 #[.val (.int p0), .val (.int (p0 &&& (1 : Int32))), .val (.ref http), .val (.ref b89), .val (.ref b98), .val (.ref http), .val (.ref http)] [])) (fun t k => Jvm.RoadKit.acmp (g := (mkF m 103 #[.val (.int p0), .val (.int (p0 &&& (1 : Int32))), .val (.ref http), .val (.ref b89), .val (.ref b98), .val (.ref http), .val (.ref http)] [(.ref http), (.ref http)])) X127 hx rfl rfl rfl (pc0 := 103) (pc' := 106) (same := true) rfl (hb hby at_103) rfl (decide_eq_true rfl) (by decide) (by decide) k) ?_
    refine P1.aload X127.here hx (hb hby at_106) rfl rfl ?_
    refine P1.aloadN X127.here hx (hb hby at_108) rfl rfl ?_
    have Z128 : n0 ≤ T127.heap.size := Nat.le_trans Z123 K127.1
    have O129 : Old Z n0 T127.heap := O124.keep K127 all0
    refine Goes.callV X127 hx hZ (y := y0_) (z := y0_) hown (mvT hZ (own_w hw 64 rfl)) (mvT hZ (own_w hw 65 rfl)) (notFace_of_selects (args := #[]) (mvT hZ (own_w hw 67 rfl))) (mvT hZ (own_w hw 67 rfl)) (mvT hZ (own_w hw 66 rfl)) (by decide) (kc' := 0) (ks' := 0) (backOf (W := 1) (rmCfg l Z a0 hw [] http sb T127.heap n0 Z128 O129 F_http_configName) hZ (own_w hw 68 rfl) (own_w hw 1 rfl) (ok rfl) (ok rfl)) (b := http) rfl (E_http.ext O129.2) (g := (mkF m 109 #[.val (.int p0), .val (.int (p0 &&& (1 : Int32))), .val (.ref http), .val (.ref b89), .val (.ref b98), .val (.ref http), .val (.ref http)] [(.ref http), (.ref b98)])) rfl (by rw [hml]; rfl) (argsL := []) (rest := [(.ref b98)]) (lenOf pd_19649 rfl) rfl (by show 2 * 0 + _ ≤ _; exact Nat.le_of_eq rfl) (hb hby at_109) rfl (ok rfl) (ok rfl) ?_
    intro v130 T130 L130 q130 X130
    obtain ⟨rfl, N130q, hE130⟩ := q130
    have N130 := Fr.app N127 N130q
    show Goes p e below _ T130 (mkF m 112 #[.val (.int p0), .val (.int (p0 &&& (1 : Int32))), .val (.ref http), .val (.ref b89), .val (.ref b98), .val (.ref http), .val (.ref http)] [(.ref sb), (.ref b98)])
    have E131 : Exa Z T122.heap b98 "java/lang/String" := g118E.keep K122
    have E132 : Exa Z T127.heap b98 "java/lang/String" := E131.keep K127
    have F133 : Fld Z T122.heap b98 "java/lang/String" "value" "[B" (.ref t118) := g118V.keep K122 nin0
    have F134 : Fld Z T127.heap b98 "java/lang/String" "value" "[B" (.ref t118) := F133.keep K127 nin0
    have F135 : Fld Z T122.heap b98 "java/lang/String" "coder" "B" (.int (0 : Int32)) := g118C.keep K122 nin0
    have F136 : Fld Z T127.heap b98 "java/lang/String" "coder" "B" (.int (0 : Int32)) := F135.keep K127 nin0
    have V137 : Arv Z T122.heap t118 kb118 .byte (4 : Int32) [(.int ((104 : Int32)).toInt8.toInt32), (.int ((116 : Int32)).toInt8.toInt32), (.int ((116 : Int32)).toInt8.toInt32), (.int ((112 : Int32)).toInt8.toInt32)] (.int (0 : Int32)) := g118K.keep K122 nin0
    have V138 : Arv Z T127.heap t118 kb118 .byte (4 : Int32) [(.int ((104 : Int32)).toInt8.toInt32), (.int ((116 : Int32)).toInt8.toInt32), (.int ((116 : Int32)).toInt8.toInt32), (.int ((112 : Int32)).toInt8.toInt32)] (.int (0 : Int32)) := V137.keep K127 nin0
    have V139 : Arv Z T127.heap bb k_bb .byte (4 : Int32) [(.int (104 : Int32)), (.int (116 : Int32)), (.int (116 : Int32)), (.int (112 : Int32))] (.int (0 : Int32)) := V126.keep K127 nin0
    refine Goes.callV X130 hx hZ (y := y4_) (z := y4_) (Qc := fun v h' L => (((v = some (.int 1) ∧ ([(104 : Int32), (116 : Int32), (116 : Int32), (112 : Int32)] : List Int32) = ([(104 : Int32), (116 : Int32), (116 : Int32), (112 : Int32)] : List Int32)) ∨ (v = some (.int 0) ∧ ¬ ([(104 : Int32), (116 : Int32), (116 : Int32), (112 : Int32)] : List Int32) = ([(104 : Int32), (116 : Int32), (116 : Int32), (112 : Int32)] : List Int32))) ∧ L = [] ∧ h' = T127.heap)) hown (mvT hZ (own_w hw 69 rfl)) (mvT hZ (own_w hw 55 rfl)) (notFace_of_selects (args := #[]) (mvT hZ (own_w hw 57 rfl))) (mvT hZ (own_w hw 57 rfl)) (mvT hZ (own_w hw 56 rfl)) (by decide) (kc' := 0) (ks' := 0) (StrChars.Road.eqW (W := 0) hZ (fun d hd => hw d (in_wordsEq d hd)) (kI := 4) (own_w hw 5 rfl) E132 F134 F136 V138 (StrChars.Road.codOf (cs := ([(104 : Int32), (116 : Int32), (116 : Int32), (112 : Int32)] : List Int32)) (n := 4) rfl (fun c hc => (hp111 c hc).2)) (own_up hp111) (ok rfl) (E_sb.ext O129.2) (F_sb_value.ext O129.2) (F_sb_coder.ext O129.2) V139 (show StrChars.Road.CodA ([(104 : Int32), (116 : Int32), (116 : Int32), (112 : Int32)] : List Int32) 0 (4 : Int32) _ from Or.inl ⟨rfl, rfl, rfl, by decide⟩) (by decide) (ok rfl) (S_CS.ext O129.2) hzc (ok rfl) (ok rfl)) (b := b98) hE130 E132 (g := (mkF m 112 #[.val (.int p0), .val (.int (p0 &&& (1 : Int32))), .val (.ref http), .val (.ref b89), .val (.ref b98), .val (.ref http), .val (.ref http)] [(.ref sb), (.ref b98)])) rfl (by rw [hml]; rfl) (argsL := [(.ref sb)]) (rest := []) (lenOf pd_20140 rfl) rfl (by show 2 * 0 + _ ≤ _; exact Nat.le_of_eq rfl) (hb hby at_112) rfl (ok rfl) (ok rfl) ?_
    intro v140 T140 L140 q140 X140
    obtain ⟨q140, rfl, hE140⟩ := q140
    have N140 := Fr.app N130 (Fr.nil n0)
    obtain ⟨rfl, -⟩ := q140.resolve_right (fun z => z.2 rfl)
    show Goes p e below _ T140 (mkF m 115 #[.val (.int p0), .val (.int (p0 &&& (1 : Int32))), .val (.ref http), .val (.ref b89), .val (.ref b98), .val (.ref http), .val (.ref http)] [(.int (1 : Int32))])
    refine Goes.step (T' := T140) (g' := (mkF m 118 #[.val (.int p0), .val (.int (p0 &&& (1 : Int32))), .val (.ref http), .val (.ref b89), .val (.ref b98), .val (.ref http), .val (.ref http)] [])) (fun t k => XS.ifNo X140.here hx rfl (hb hby at_115) rfl ((if0 _ _).trans (feq ((by decide : ¬ ((1 : Int32) = (0 : Int32))) : ¬ ((1 : Int32) = (0 : Int32)))).1) k) ?_
    refine P1.iconst X140.here hx (1 : Int32) (hb hby at_118) rfl ?_
    refine P1.goto X140.here hx 123 (hb hby at_119) (by decide) (by decide) ?_
    refine Goes.retN X140 hx Bd.notSynchronized (t := .boolean) Bd.returns (by simp) (hb hby at_123) (ok rfl) (ok rfl) ?_
    rw [hE140]
    exact ⟨rfl, N140⟩
set_option maxRecDepth 65536 in
set_option maxHeartbeats 40000000 in
theorem comes_1 {Post : Tables → Env → Array Value → State → Outcome → State → Prop} (hpost : ∀ tb e args s v u, (limb_1_1.after args s (.returned v) u = true ∧ limb_1_2.after args s (.returned v) u = true ∧ True) → FrameEnd s (.returned v) u (Jvm.fieldLocs frame_1_writes args s ++ Jvm.arrayLocs frame_1_arrays args s ++ Jvm.staticLocs frame_1_statics s) 24 128 → Post tb e args s (.returned v) u) :
    ArmFor flags0 classFile x code maxLocals ret World_1 tables_1 room_1 Calls_1 rest_1 Pre_1 Post := by
  intro l hfl _ _ p e ha hc hk s m args below hf hA hF happ hP
  obtain ⟨hcalls, hrest, hpre⟩ := hP
  obtain ⟨-, -, -, hnamed, -, -, -, hat⟩ := (Spec.applies_iff hf).mp happ
  obtain ⟨hg, hn⟩ := and_e (Cond.before_iff.mp (show (Jvm.Cond.and given_1 narrow_1).before args s = true from hpre))
  obtain ⟨hg0, hg1⟩ := and_e hg
  obtain ⟨w0, rfl⟩ : ∃ w0 : Value, args = #[w0] := by
    have hs : args.size = 1 := by simpa [Cond.value, given_1] using hg0
    obtain ⟨L⟩ := args
    match L, hs with
    | [w0], _ => exact ⟨w0, rfl⟩
  have hw := fun d (hd : d ∈ tables_1) => atoms_spec (ws := Jvm.Cond.code x code maxLocals ret :: tables_1) hat d (List.mem_cons_of_mem _ hd)
  have hfit : Fit s := fun {y c} hc i hi => by
    obtain ⟨ha, rfl⟩ := Array.getElem?_eq_some_iff.mp hc
    have q := List.all_eq_true.mp ((Array.all_eq_true_iff_forall_mem.mp hF) _ (Array.getElem_mem ha)) i (List.mem_range.mpr hi)
    simpa [Array.getElem?_eq_getElem hi] using q
  obtain ⟨hsets, hown0⟩ := atoms_of _ (rest_1_c_eq ▸ (show rest_1_c.before _ s = true from hrest))
  obtain ⟨i0, ei0⟩ := is_v hg1
  obtain rfl : w0 = (.int i0) := Option.some.inj ei0
  obtain ⟨hn0, hr0⟩ := and_e hn
  obtain ⟨tcp, ev_tcp⟩ := exa_v hn0
  have S_TCP : Sta s s.heap "com/example/orderly_balancer/orderlybalancer/config/Mode" "TCP" "Lcom/example/orderly_balancer/orderlybalancer/config/Mode;" (.ref tcp) := Sta.start ev_tcp (Or.inr ⟨(own_w hw 1 rfl), (own_w hw 2 rfl)⟩)
  have E_tcp : Exa s s.heap tcp "com/example/orderly_balancer/orderlybalancer/config/Mode" := Exa.start ev_tcp hn0
  obtain ⟨hn1, hr1⟩ := and_e hr0
  obtain ⟨va, ev_va⟩ := arr_v hn1
  have S__VALUES : Sta s s.heap "com/example/orderly_balancer/orderlybalancer/config/Mode" "$VALUES" "[Lcom/example/orderly_balancer/orderlybalancer/config/Mode;" (.ref va) := Sta.start ev_va (Or.inr ⟨(own_w hw 1 rfl), (own_w hw 40 rfl)⟩)
  obtain ⟨cl_va, Ar_va⟩ := Arr.start ev_va hn1
  obtain ⟨hn2, hr2⟩ := and_e hr1
  have E_va : Exa s s.heap va "[Lcom/example/orderly_balancer/orderlybalancer/config/Mode;" := Exa.start ev_va hn2
  obtain ⟨hn3, hr3⟩ := and_e hr2
  obtain ⟨lt_va, le_va⟩ := own_len Ar_va ev_va hn3
  obtain ⟨hn4, hr4⟩ := and_e hr3
  have el_va_0 := own_elem Ar_va ev_va (own_eqV hn4 ev_tcp (Or.inr rfl))
  obtain ⟨hn5, hr5⟩ := and_e hr4
  obtain ⟨http, ev_http⟩ := exa_v hn5
  have S_HTTP : Sta s s.heap "com/example/orderly_balancer/orderlybalancer/config/Mode" "HTTP" "Lcom/example/orderly_balancer/orderlybalancer/config/Mode;" (.ref http) := Sta.start ev_http (Or.inr ⟨(own_w hw 1 rfl), (own_w hw 48 rfl)⟩)
  have E_http : Exa s s.heap http "com/example/orderly_balancer/orderlybalancer/config/Mode" := Exa.start ev_http hn5
  obtain ⟨hn6, hr6⟩ := and_e hr5
  have el_va_1 := own_elem Ar_va ev_va (own_eqV hn6 ev_http (Or.inr rfl))
  obtain ⟨hn7, hr7⟩ := and_e hr6
  obtain ⟨sa, ev_sa⟩ := exa_v hn7
  have F_tcp_configName : Fld s s.heap tcp "com/example/orderly_balancer/orderlybalancer/config/Mode" "configName" "Ljava/lang/String;" (.ref sa) := own_fld ev_tcp ev_sa
  have E_sa : Exa s s.heap sa "java/lang/String" := Exa.start ev_sa hn7
  obtain ⟨hn8, hr8⟩ := and_e hr7
  have F_sa_coder : Fld s s.heap sa "java/lang/String" "coder" "B" (.int (0 : Int32)) := own_fld ev_sa (own_eqV hn8 (Term.int_eval _) (Or.inl ⟨_, rfl⟩))
  obtain ⟨hn9, hr9⟩ := and_e hr8
  obtain ⟨ba, ev_ba⟩ := arr_v hn9
  have F_sa_value : Fld s s.heap sa "java/lang/String" "value" "[B" (.ref ba) := own_fld ev_sa ev_ba
  obtain ⟨cl_ba, Ar_ba⟩ := Arr.start ev_ba hn9
  obtain ⟨hn10, hr10⟩ := and_e hr9
  obtain ⟨lt_ba, le_ba⟩ := own_len Ar_ba ev_ba hn10
  obtain ⟨hn11, hr11⟩ := and_e hr10
  have el_ba_0 := own_elem Ar_ba ev_ba (own_eqV hn11 (Term.int_eval _) (Or.inl ⟨_, rfl⟩))
  obtain ⟨hn12, hr12⟩ := and_e hr11
  have el_ba_1 := own_elem Ar_ba ev_ba (own_eqV hn12 (Term.int_eval _) (Or.inl ⟨_, rfl⟩))
  obtain ⟨hn13, hr13⟩ := and_e hr12
  have el_ba_2 := own_elem Ar_ba ev_ba (own_eqV hn13 (Term.int_eval _) (Or.inl ⟨_, rfl⟩))
  obtain ⟨hn14, hr14⟩ := and_e hr13
  obtain ⟨sb, ev_sb⟩ := exa_v hn14
  have F_http_configName : Fld s s.heap http "com/example/orderly_balancer/orderlybalancer/config/Mode" "configName" "Ljava/lang/String;" (.ref sb) := own_fld ev_http ev_sb
  have E_sb : Exa s s.heap sb "java/lang/String" := Exa.start ev_sb hn14
  obtain ⟨hn15, hr15⟩ := and_e hr14
  have F_sb_coder : Fld s s.heap sb "java/lang/String" "coder" "B" (.int (0 : Int32)) := own_fld ev_sb (own_eqV hn15 (Term.int_eval _) (Or.inl ⟨_, rfl⟩))
  obtain ⟨hn16, hr16⟩ := and_e hr15
  obtain ⟨bb, ev_bb⟩ := arr_v hn16
  have F_sb_value : Fld s s.heap sb "java/lang/String" "value" "[B" (.ref bb) := own_fld ev_sb ev_bb
  obtain ⟨cl_bb, Ar_bb⟩ := Arr.start ev_bb hn16
  obtain ⟨hn17, hr17⟩ := and_e hr16
  obtain ⟨lt_bb, le_bb⟩ := own_len Ar_bb ev_bb hn17
  obtain ⟨hn18, hr18⟩ := and_e hr17
  have el_bb_0 := own_elem Ar_bb ev_bb (own_eqV hn18 (Term.int_eval _) (Or.inl ⟨_, rfl⟩))
  obtain ⟨hn19, hr19⟩ := and_e hr18
  have el_bb_1 := own_elem Ar_bb ev_bb (own_eqV hn19 (Term.int_eval _) (Or.inl ⟨_, rfl⟩))
  obtain ⟨hn20, hr20⟩ := and_e hr19
  have el_bb_2 := own_elem Ar_bb ev_bb (own_eqV hn20 (Term.int_eval _) (Or.inl ⟨_, rfl⟩))
  obtain ⟨hn21, hr21⟩ := and_e hr20
  have el_bb_3 := own_elem Ar_bb ev_bb (own_eqV hn21 (Term.int_eval _) (Or.inl ⟨_, rfl⟩))
  obtain ⟨k_va, ek_va⟩ : ∃ k, k = cl_va.cls := ⟨_, rfl⟩
  have V_va : Arv s s.heap va k_va (.object "com/example/orderly_balancer/orderlybalancer/config/Mode") (2 : Int32) [(.ref tcp), (.ref http)] .null := by rw [ek_va]; exact Arv.start hfit Ar_va lt_va le_va (by decide) rfl ⟨el_va_0, el_va_1, trivial⟩
  obtain ⟨k_ba, ek_ba⟩ : ∃ k, k = cl_ba.cls := ⟨_, rfl⟩
  have V_ba : Arv s s.heap ba k_ba .byte (3 : Int32) [(.int (116 : Int32)), (.int (99 : Int32)), (.int (112 : Int32))] (.int (0 : Int32)) := by rw [ek_ba]; exact Arv.start hfit Ar_ba lt_ba le_ba (by decide) rfl ⟨el_ba_0, el_ba_1, el_ba_2, trivial⟩
  obtain ⟨k_bb, ek_bb⟩ : ∃ k, k = cl_bb.cls := ⟨_, rfl⟩
  have V_bb : Arv s s.heap bb k_bb .byte (4 : Int32) [(.int (104 : Int32)), (.int (116 : Int32)), (.int (116 : Int32)), (.int (112 : Int32))] (.int (0 : Int32)) := by rw [ek_bb]; exact Arv.start hfit Ar_bb lt_bb le_bb (by decide) rfl ⟨el_bb_0, el_bb_1, el_bb_2, el_bb_3, trivial⟩
  obtain ⟨zc, ev_zc⟩ := is_v (Cond.before_iff.mp (hsets _ (List.mem_of_getElem? (i := 1) rfl)))
  have S_CS : Sta s s.heap "java/lang/String" "COMPACT_STRINGS" "Z" (.int zc) := Sta.start ev_zc (Or.inl (hsets _ (List.mem_of_getElem? (i := 0) rfl)))
  have hzc : ¬ zc = 0 := gotF (Cond.eq_ints ev_zc (Term.int_eval (0))) (not_v (Cond.before_iff.mp (hsets _ (List.mem_of_getElem? (i := 2) rfl))))
  obtain ⟨fm, ev_fm, hfm⟩ := isR_v (Cond.before_iff.mp (hsets _ (List.mem_of_getElem? (i := 8) rfl)))
  have S_FM : Sta s s.heap "jdk/internal/util/Preconditions" "SIOOBE_FORMATTER" "Ljava/util/function/BiFunction;" fm := Sta.start ev_fm (Or.inl (hsets _ (List.mem_of_getElem? (i := 7) rfl)))
  obtain ⟨n, o, h1, h2, h3, _, L, rfl, ⟨rfl, N⟩, hq⟩ := rm0 l s _ hw tables_1 i0 tcp va http sa ba sb bb k_va k_ba k_bb zc fm s.heap s.heap.size (Nat.le_refl _) (Old.start s) S_TCP E_tcp S__VALUES E_va S_HTTP E_http F_tcp_configName E_sa F_sa_coder F_sa_value F_http_configName E_sb F_sb_coder F_sb_value V_va V_ba V_bb S_CS hzc S_FM hfm p e ha hc hk s m _ below hf ((Spec.applies_iff_loose hf).mp happ).1 ⟨rfl, State.Warmed39.refl s, rfl⟩ trivial
  refine ⟨n, _, h1, h2, h3, hpost _ _ _ _ _ _ ⟨Cond.after_iff.mpr rfl, Cond.after_iff.mpr (eq_i res_at (Term.int_eval (1)) rfl), trivial⟩ ⟨hq.1, hq.2.1, (hq.2.2.sift fun y hy => Or.inr (N y hy)).mono (ok rfl) (ok rfl)⟩⟩
theorem main_1_1 : Claimed_1_1 := comes_1 fun _ _ _ _ _ _ h hF => ⟨h.1, hF⟩
theorem main_1_2 : Claimed_1_2 := comes_1 fun _ _ _ _ _ _ h hF => ⟨h.2.1, hF⟩
end Jvm.Pilot.@@N@@
namespace Jvm.Pilot.@@N@@
open Jvm Jvm.ClassFile Sem Op Lib Jvm.Free Jvm.Stand Jvm.Pilot.@@N@@.Jvm.D
/-! MADE BY PROGRAM (witnessworld.py) out of the Statement's table words and the real class files: 22 classes; the members and pool entries that the words name. The judged class is class 1, her method 1. -/
namespace start1
open Jvm.ClassFile
def u (s : String) : CpInfo := .utf8 (stringToUtf16 s)
/-- a pool by its gaps: so many unusable entries, then the entry; so many at the end -/
def gap : Nat → List CpInfo → List CpInfo
  | 0, r => r
  | n + 1, r => .unusable :: gap n r
def poolList (es : List (Nat × CpInfo)) (last : Nat) : List CpInfo := es.foldr (fun e r => gap e.1 (e.2 :: r)) (gap last [])
def pool (es : List (Nat × CpInfo)) (last : Nat) : Array CpInfo := ⟨poolList es last⟩
def fileOf (pool : Array CpInfo) (this : Nat) (attrs : Array Attribute := #[]) (ms : Array MethodInfo := #[]) (fl : Nat := 33) (sup : Nat := 0) (ifs : Array Nat := #[]) (fds : Array FieldInfo := #[]) : ClassFile where
  minorVersion := 0
  majorVersion := 65
  constantPool := pool
  accessFlags := fl
  thisClass := this
  superClass := sup
  interfaces := ifs
  fields := fds
  methods := ms
  attributes := attrs
def plain (name : String) (sup : Option ClassId) : Class where
  name := name
  kind := .ordinary
  loader := none
  accessFlags := 33
  super := sup
  interfaces := #[]
  cf := none
  fields := #[]
  methods := #[]
  instanceTypes := #[]
  staticTypes := #[]
  resolved := #[]
  callSites := []
  init := .initialized
  statics := none
  mirror := none

def pool0 : Array CpInfo := pool [(5, u "<init>"), (0, u "()V"), (1, .class_ 10), (1, u "java/lang/Object"), (85, u "clone"), (0, u "()Ljava/lang/Object;")] 26

def k0c0 : Code := { maxStack := 0, maxLocals := 1, code := object_method_1_code, exceptionTable := #[], attributes := #[] }
def k0m0 : Method := { name := "<init>", desc := "()V", sig := { parameters := [], returnType := none }, accessFlags := 1, code := some k0c0 }
def k0m1 : Method := { name := "clone", desc := "()Ljava/lang/Object;", sig := { parameters := [], returnType := some (.object "java/lang/Object") }, accessFlags := 260, code := none }
/-- java/lang/Object -/
def k0 : Class := { plain "java/lang/Object" none with
  accessFlags := 33
  interfaces := #[]
  cf := some (fileOf pool0 8 #[] #[{ accessFlags := 1, nameIndex := 5, descriptorIndex := 6, attributes := #[] }, { accessFlags := 260, nameIndex := 96, descriptorIndex := 97, attributes := #[] }] 33 0 #[] #[])
  fields := #[]
  methods := #[k0m0, k0m1]
  instanceTypes := #[]
  staticTypes := #[]
  resolved := Array.replicate 124 none
  statics := none }

def pool1 : Array CpInfo := pool [(2, .class_ 4), (1, u "java/lang/Object"), (0, u "<init>"), (0, u "()V"), (0, .fieldref 8 9), (0, .class_ 10), (0, .nameAndType 11 12), (0, u "com/example/orderly_balancer/orderlybalancer/config/Mode"), (0, u "TCP"), (0, u "Lcom/example/orderly_balancer/orderlybalancer/config/Mode;"), (0, .fieldref 8 14), (0, .nameAndType 15 12), (0, u "HTTP"), (0, .class_ 17), (0, u "java/lang/String"), (0, .methodref 16 19), (0, .nameAndType 5 20), (0, u "([C)V"), (0, .methodref 8 22), (0, .nameAndType 23 24), (0, u "named"), (0, u "(Ljava/lang/String;)Lcom/example/orderly_balancer/orderlybalancer/config/Mode;"), (0, .methodref 8 26), (0, .nameAndType 27 28), (0, u "configName"), (0, u "()Ljava/lang/String;"), (0, .methodref 16 30), (0, .nameAndType 31 32), (0, u "equals"), (0, u "(Ljava/lang/Object;)Z"), (0, .class_ 34), (0, u "com/example/orderly_balancer/orderlybalancer/config/ModeNamedPinLaw"), (2, u "law"), (0, u "(I)Z")] 5

def k1m0 : Method := { name := "<init>", desc := "()V", sig := { parameters := [], returnType := none }, accessFlags := 1, code := none }
def k1c1 : Code := { maxStack := 4, maxLocals := 7, code := code, exceptionTable := #[], attributes := #[] }
def k1m1 : Method := { name := "law", desc := "(I)Z", sig := { parameters := [.int], returnType := some .boolean }, accessFlags := 9, code := some k1c1 }
/-- com/example/orderly_balancer/orderlybalancer/config/ModeNamedPinLaw -/
def k1 : Class := { plain "com/example/orderly_balancer/orderlybalancer/config/ModeNamedPinLaw" (some 0) with
  accessFlags := 49
  interfaces := #[]
  cf := some (fileOf pool1 33 #[] #[{ accessFlags := 1, nameIndex := 5, descriptorIndex := 6, attributes := #[] }, { accessFlags := 9, nameIndex := 37, descriptorIndex := 38, attributes := #[] }] 49 2 #[] #[])
  fields := #[]
  methods := #[k1m0, k1m1]
  instanceTypes := #[]
  staticTypes := #[]
  resolved := Array.replicate 44 none
  statics := none }

def pool2 : Array CpInfo := pool [(1, .class_ 2), (0, u "java/lang/constant/Constable"), (0, .class_ 4), (0, u "java/lang/Object")] 6

/-- java/lang/constant/Constable -/
def k2 : Class := { plain "java/lang/constant/Constable" (some 0) with
  accessFlags := 1537
  interfaces := #[]
  cf := some (fileOf pool2 1 #[] #[] 1537 3 #[] #[])
  fields := #[]
  methods := #[]
  instanceTypes := #[]
  staticTypes := #[]
  resolved := Array.replicate 11 none
  statics := none }

def pool3 : Array CpInfo := pool [(1, .class_ 2), (0, u "java/lang/Comparable"), (0, .class_ 4), (0, u "java/lang/Object")] 7

/-- java/lang/Comparable -/
def k3 : Class := { plain "java/lang/Comparable" (some 0) with
  accessFlags := 1537
  interfaces := #[]
  cf := some (fileOf pool3 1 #[] #[] 1537 3 #[] #[])
  fields := #[]
  methods := #[]
  instanceTypes := #[]
  staticTypes := #[]
  resolved := Array.replicate 12 none
  statics := none }

def pool4 : Array CpInfo := pool [(1, .class_ 2), (0, u "java/io/Serializable"), (0, .class_ 4), (0, u "java/lang/Object")] 2

/-- java/io/Serializable -/
def k4 : Class := { plain "java/io/Serializable" (some 0) with
  accessFlags := 1537
  interfaces := #[]
  cf := some (fileOf pool4 1 #[] #[] 1537 3 #[] #[])
  fields := #[]
  methods := #[]
  instanceTypes := #[]
  staticTypes := #[]
  resolved := Array.replicate 7 none
  statics := none }

def pool5 : Array CpInfo := pool [(2, .class_ 4), (1, u "java/lang/Enum"), (0, u "name"), (0, u "Ljava/lang/String;"), (2, u "ordinal"), (0, u "I"), (1, .class_ 14), (1, u "java/lang/Object"), (4, u "hash"), (86, .class_ 108), (1, u "java/lang/Enum$EnumDesc"), (2, .class_ 112), (0, u "java/lang/constant/Constable"), (0, .class_ 114), (0, u "java/lang/Comparable"), (0, .class_ 116), (0, u "java/io/Serializable")] 87

/-- java/lang/Enum -/
def k5 : Class := { plain "java/lang/Enum" (some 0) with
  accessFlags := 1057
  interfaces := #[2, 3, 4]
  cf := some (fileOf pool5 2 #[.nestMembers #[106]] #[] 1057 12 #[111, 113, 115] #[{ accessFlags := 18, nameIndex := 5, descriptorIndex := 6, attributes := #[] }, { accessFlags := 18, nameIndex := 9, descriptorIndex := 10, attributes := #[] }, { accessFlags := 2, nameIndex := 19, descriptorIndex := 10, attributes := #[] }])
  fields := #[{ name := "name", type := (.object "java/lang/String"), accessFlags := 18, slot := 0, constantValue := 0 }, { name := "ordinal", type := .int, accessFlags := 18, slot := 1, constantValue := 0 }, { name := "hash", type := .int, accessFlags := 2, slot := 2, constantValue := 0 }]
  methods := #[]
  instanceTypes := #[(.object "java/lang/String"), .int, .int]
  staticTypes := #[]
  resolved := Array.replicate 204 none
  statics := none }

def pool6 : Array CpInfo := pool [(1, .class_ 2), (0, u "com/example/orderly_balancer/orderlybalancer/config/Mode"), (2, u "TCP"), (0, u "Lcom/example/orderly_balancer/orderlybalancer/config/Mode;"), (2, u "HTTP"), (0, .fieldref 1 11), (0, .nameAndType 12 13), (0, u "$VALUES"), (0, u "[Lcom/example/orderly_balancer/orderlybalancer/config/Mode;"), (0, .methodref 15 16), (0, .class_ 13), (0, .nameAndType 17 18), (0, u "clone"), (0, u "()Ljava/lang/Object;"), (1, .class_ 22), (1, u "java/lang/Enum"), (6, .fieldref 1 30), (0, .nameAndType 31 32), (0, u "configName"), (0, u "Ljava/lang/String;"), (0, .methodref 1 34), (0, .nameAndType 35 36), (0, u "values"), (0, u "()[Lcom/example/orderly_balancer/orderlybalancer/config/Mode;"), (0, .methodref 38 39), (0, .class_ 40), (0, .nameAndType 41 42), (0, u "java/lang/String"), (0, u "equals"), (0, u "(Ljava/lang/Object;)Z"), (23, u "(Ljava/lang/String;)Lcom/example/orderly_balancer/orderlybalancer/config/Mode;"), (2, u "()Ljava/lang/String;"), (0, u "named")] 21

def k6c0 : Code := { maxStack := 1, maxLocals := 0, code := prog_5_method_1_code, exceptionTable := #[], attributes := #[] }
def k6m0 : Method := { name := "values", desc := "()[Lcom/example/orderly_balancer/orderlybalancer/config/Mode;", sig := { parameters := [], returnType := some (.array (.object "com/example/orderly_balancer/orderlybalancer/config/Mode")) }, accessFlags := 9, code := some k6c0 }
def k6c1 : Code := { maxStack := 1, maxLocals := 1, code := prog_5_method_4_code, exceptionTable := #[], attributes := #[] }
def k6m1 : Method := { name := "configName", desc := "()Ljava/lang/String;", sig := { parameters := [], returnType := some (.object "java/lang/String") }, accessFlags := 1, code := some k6c1 }
def k6c2 : Code := { maxStack := 3, maxLocals := 5, code := prog_5_method_5_code, exceptionTable := #[], attributes := #[] }
def k6m2 : Method := { name := "named", desc := "(Ljava/lang/String;)Lcom/example/orderly_balancer/orderlybalancer/config/Mode;", sig := { parameters := [(.object "java/lang/String")], returnType := some (.object "com/example/orderly_balancer/orderlybalancer/config/Mode") }, accessFlags := 8, code := some k6c2 }
/-- com/example/orderly_balancer/orderlybalancer/config/Mode -/
def k6 : Class := { plain "com/example/orderly_balancer/orderlybalancer/config/Mode" (some 5) with
  accessFlags := 16433
  interfaces := #[]
  cf := some (fileOf pool6 1 #[] #[{ accessFlags := 9, nameIndex := 35, descriptorIndex := 36, attributes := #[] }, { accessFlags := 1, nameIndex := 31, descriptorIndex := 69, attributes := #[] }, { accessFlags := 8, nameIndex := 70, descriptorIndex := 66, attributes := #[] }] 16433 20 #[] #[{ accessFlags := 16409, nameIndex := 5, descriptorIndex := 6, attributes := #[] }, { accessFlags := 16409, nameIndex := 9, descriptorIndex := 6, attributes := #[] }, { accessFlags := 18, nameIndex := 31, descriptorIndex := 32, attributes := #[] }, { accessFlags := 4122, nameIndex := 12, descriptorIndex := 13, attributes := #[] }])
  fields := #[{ name := "TCP", type := (.object "com/example/orderly_balancer/orderlybalancer/config/Mode"), accessFlags := 16409, slot := 0, constantValue := 0 }, { name := "HTTP", type := (.object "com/example/orderly_balancer/orderlybalancer/config/Mode"), accessFlags := 16409, slot := 1, constantValue := 0 }, { name := "configName", type := (.object "java/lang/String"), accessFlags := 18, slot := 3, constantValue := 0 }, { name := "$VALUES", type := (.array (.object "com/example/orderly_balancer/orderlybalancer/config/Mode")), accessFlags := 4122, slot := 2, constantValue := 0 }]
  methods := #[k6m0, k6m1, k6m2]
  instanceTypes := #[(.object "java/lang/String"), .int, .int, (.object "java/lang/String")]
  staticTypes := #[(.object "com/example/orderly_balancer/orderlybalancer/config/Mode"), (.object "com/example/orderly_balancer/orderlybalancer/config/Mode"), (.array (.object "com/example/orderly_balancer/orderlybalancer/config/Mode"))]
  resolved := Array.replicate 92 none
  statics := some 0 }

def pool7 : Array CpInfo := pool [(2, .class_ 4), (1, u "java/lang/CharSequence"), (42, .class_ 48), (0, u "java/lang/CharSequence$1CodePointIterator"), (10, .class_ 60), (0, u "java/lang/CharSequence$1CharIterator"), (5, .class_ 67), (0, u "java/lang/Object")] 63

/-- java/lang/CharSequence -/
def k7 : Class := { plain "java/lang/CharSequence" (some 0) with
  accessFlags := 1537
  interfaces := #[]
  cf := some (fileOf pool7 2 #[.nestMembers #[47, 59]] #[] 1537 66 #[] #[])
  fields := #[]
  methods := #[]
  instanceTypes := #[]
  staticTypes := #[]
  resolved := Array.replicate 131 none
  statics := none }

def pool8 : Array CpInfo := pool [(1, .class_ 2), (0, u "java/lang/constant/ConstantDesc"), (0, .class_ 4), (0, u "java/lang/Object")] 32

/-- java/lang/constant/ConstantDesc -/
def k8 : Class := { plain "java/lang/constant/ConstantDesc" (some 0) with
  accessFlags := 1537
  interfaces := #[]
  cf := some (fileOf pool8 1 #[] #[] 1537 3 #[] #[])
  fields := #[]
  methods := #[]
  instanceTypes := #[]
  staticTypes := #[]
  resolved := Array.replicate 37 none
  statics := none }

def pool9 : Array CpInfo := pool [(1, .methodref 2 3), (0, .class_ 4), (0, .nameAndType 5 6), (0, u "java/lang/Object"), (0, u "<init>"), (0, u "()V"), (2, .fieldref 10 11), (0, .class_ 12), (0, .nameAndType 13 14), (0, u "java/lang/String"), (0, u "value"), (0, u "[B"), (0, .fieldref 10 16), (0, .nameAndType 17 18), (0, u "coder"), (0, u "B"), (2, u "hash"), (0, u "I"), (2, u "hashIsZero"), (0, u "Z"), (0, .methodref 10 28), (0, .nameAndType 5 29), (0, u "([CIILjava/lang/Void;)V"), (8, .fieldref 10 39), (0, .nameAndType 40 26), (0, u "COMPACT_STRINGS"), (1, .class_ 44), (1, u "java/lang/StringUTF16"), (0, u "compress"), (1, .methodref 42 48), (0, .nameAndType 49 50), (0, u "coderFromArrayLen"), (0, u "([BI)B"), (56, .class_ 109), (1, u "java/lang/StringLatin1"), (67, .methodref 42 178), (0, .nameAndType 45 179), (0, u "([CII)[B"), (361, .methodref 107 542), (0, .nameAndType 543 544), (0, u "equals"), (0, u "([B[B)Z"), (28, u "(Ljava/lang/Object;)Z"), (1, .class_ 576), (0, u "java/lang/CharSequence"), (22, u "CASE_INSENSITIVE_ORDER"), (0, u "Ljava/util/Comparator;"), (409, u "([C)V"), (90, u "serialPersistentFields"), (0, u "[Ljava/io/ObjectStreamField;"), (0, .class_ 1104), (0, u "java/lang/String$CaseInsensitiveComparator"), (1, .class_ 1107), (0, u "java/io/Serializable"), (0, .class_ 1109), (0, u "java/lang/Comparable"), (0, .class_ 1111), (0, u "java/lang/constant/Constable"), (0, .class_ 1113), (0, u "java/lang/constant/ConstantDesc"), (2, u "serialVersionUID"), (0, u "J"), (3, u "REPL"), (0, u "C"), (2, u "LATIN1"), (1, u "UTF16")] 323

def k9m0 : Method := { name := "<init>", desc := "()V", sig := { parameters := [], returnType := none }, accessFlags := 1, code := none }
def k9c1 : Code := { maxStack := 5, maxLocals := 2, code := jdk_42_method_3_code, exceptionTable := #[], attributes := #[] }
def k9m1 : Method := { name := "<init>", desc := "([C)V", sig := { parameters := [(.array .char)], returnType := none }, accessFlags := 1, code := some k9c1 }
def k9c2 : Code := { maxStack := 2, maxLocals := 3, code := jdk_42_method_66_code, exceptionTable := #[], attributes := #[] }
def k9m2 : Method := { name := "equals", desc := "(Ljava/lang/Object;)Z", sig := { parameters := [(.object "java/lang/Object")], returnType := some .boolean }, accessFlags := 1, code := some k9c2 }
def k9c3 : Code := { maxStack := 4, maxLocals := 6, code := jdk_42_method_149_code, exceptionTable := #[], attributes := #[] }
def k9m3 : Method := { name := "<init>", desc := "([CIILjava/lang/Void;)V", sig := { parameters := [(.array .char), .int, .int, (.object "java/lang/Void")], returnType := none }, accessFlags := 2, code := some k9c3 }
/-- java/lang/String -/
def k9 : Class := { plain "java/lang/String" (some 0) with
  accessFlags := 49
  interfaces := #[4, 3, 7, 2, 8]
  cf := some (fileOf pool9 10 #[.nestMembers #[1103]] #[{ accessFlags := 1, nameIndex := 5, descriptorIndex := 6, attributes := #[] }, { accessFlags := 1, nameIndex := 5, descriptorIndex := 1010, attributes := #[] }, { accessFlags := 1, nameIndex := 543, descriptorIndex := 573, attributes := #[] }, { accessFlags := 2, nameIndex := 5, descriptorIndex := 29, attributes := #[] }] 49 2 #[1106, 1108, 575, 1110, 1112] #[{ accessFlags := 18, nameIndex := 13, descriptorIndex := 14, attributes := #[] }, { accessFlags := 18, nameIndex := 17, descriptorIndex := 18, attributes := #[] }, { accessFlags := 2, nameIndex := 21, descriptorIndex := 22, attributes := #[] }, { accessFlags := 2, nameIndex := 25, descriptorIndex := 26, attributes := #[] }, { accessFlags := 26, nameIndex := 1116, descriptorIndex := 1117, attributes := #[] }, { accessFlags := 24, nameIndex := 40, descriptorIndex := 26, attributes := #[] }, { accessFlags := 26, nameIndex := 1101, descriptorIndex := 1102, attributes := #[] }, { accessFlags := 26, nameIndex := 1121, descriptorIndex := 1122, attributes := #[] }, { accessFlags := 25, nameIndex := 599, descriptorIndex := 600, attributes := #[] }, { accessFlags := 24, nameIndex := 1125, descriptorIndex := 18, attributes := #[] }, { accessFlags := 24, nameIndex := 1127, descriptorIndex := 18, attributes := #[] }])
  fields := #[{ name := "value", type := (.array .byte), accessFlags := 18, slot := 0, constantValue := 0 }, { name := "coder", type := .byte, accessFlags := 18, slot := 1, constantValue := 0 }, { name := "hash", type := .int, accessFlags := 2, slot := 2, constantValue := 0 }, { name := "hashIsZero", type := .boolean, accessFlags := 2, slot := 3, constantValue := 0 }, { name := "serialVersionUID", type := .long, accessFlags := 26, slot := 0, constantValue := 0 }, { name := "COMPACT_STRINGS", type := .boolean, accessFlags := 24, slot := 1, constantValue := 0 }, { name := "serialPersistentFields", type := (.array (.object "java/io/ObjectStreamField")), accessFlags := 26, slot := 2, constantValue := 0 }, { name := "REPL", type := .char, accessFlags := 26, slot := 3, constantValue := 0 }, { name := "CASE_INSENSITIVE_ORDER", type := (.object "java/util/Comparator"), accessFlags := 25, slot := 4, constantValue := 0 }, { name := "LATIN1", type := .byte, accessFlags := 24, slot := 5, constantValue := 0 }, { name := "UTF16", type := .byte, accessFlags := 24, slot := 6, constantValue := 0 }]
  methods := #[k9m0, k9m1, k9m2, k9m3]
  instanceTypes := #[(.array .byte), .byte, .int, .boolean]
  staticTypes := #[.long, .boolean, (.array (.object "java/io/ObjectStreamField")), .char, (.object "java/util/Comparator"), .byte, .byte]
  resolved := Array.replicate 1451 none
  statics := some 1 }

def pool10 : Array CpInfo := pool [(6, .class_ 8), (1, u "java/lang/Object"), (0, u "<init>"), (0, u "()V"), (1, .class_ 14), (1, u "java/lang/StringUTF16"), (31, u "$assertionsDisabled"), (0, u "Z"), (13, u "HI_BYTE_SHIFT"), (0, u "I"), (2, u "LO_BYTE_SHIFT"), (49, .methodref 12 116), (0, .nameAndType 117 118), (0, u "compress"), (0, u "([CI[BII)I"), (3, u "([CII)[B"), (138, u "coderFromArrayLen"), (0, u "([BI)B"), (106, .class_ 371), (1, u "java/lang/StringUTF16$LinesSpliterator"), (58, u "MAX_LENGTH"), (196, .class_ 628), (0, u "java/lang/StringUTF16$CodePointsSpliterator"), (0, .class_ 630), (0, u "java/lang/StringUTF16$CharsSpliterator")] 4

def k10m0 : Method := { name := "<init>", desc := "()V", sig := { parameters := [], returnType := none }, accessFlags := 0, code := none }
def k10c1 : Code := { maxStack := 2, maxLocals := 2, code := jdk_52_method_15_code, exceptionTable := #[], attributes := #[] }
def k10m1 : Method := { name := "coderFromArrayLen", desc := "([BI)B", sig := { parameters := [(.array .byte), .int], returnType := some .byte }, accessFlags := 8, code := some k10c1 }
def k10c2 : Code := { maxStack := 5, maxLocals := 6, code := jdk_52_method_16_code, exceptionTable := #[], attributes := #[] }
def k10m2 : Method := { name := "compress", desc := "([CII)[B", sig := { parameters := [(.array .char), .int, .int], returnType := some (.array .byte) }, accessFlags := 9, code := some k10c2 }
def k10c3 : Code := { maxStack := 3, maxLocals := 7, code := jdk_52_method_21_code, exceptionTable := #[], attributes := #[] }
def k10m3 : Method := { name := "compress", desc := "([CI[BII)I", sig := { parameters := [(.array .char), .int, (.array .byte), .int, .int], returnType := some .int }, accessFlags := 9, code := some k10c3 }
/-- java/lang/StringUTF16 -/
def k10 : Class := { plain "java/lang/StringUTF16" (some 0) with
  accessFlags := 48
  interfaces := #[]
  cf := some (fileOf pool10 12 #[.nestMembers #[627, 629, 369]] #[{ accessFlags := 0, nameIndex := 9, descriptorIndex := 10, attributes := #[] }, { accessFlags := 8, nameIndex := 261, descriptorIndex := 262, attributes := #[] }, { accessFlags := 9, nameIndex := 117, descriptorIndex := 122, attributes := #[] }, { accessFlags := 9, nameIndex := 117, descriptorIndex := 118, attributes := #[] }] 48 6 #[] #[{ accessFlags := 26, nameIndex := 61, descriptorIndex := 62, attributes := #[] }, { accessFlags := 26, nameIndex := 65, descriptorIndex := 62, attributes := #[] }, { accessFlags := 24, nameIndex := 430, descriptorIndex := 62, attributes := #[] }, { accessFlags := 4120, nameIndex := 46, descriptorIndex := 47, attributes := #[] }])
  fields := #[{ name := "HI_BYTE_SHIFT", type := .int, accessFlags := 26, slot := 0, constantValue := 0 }, { name := "LO_BYTE_SHIFT", type := .int, accessFlags := 26, slot := 1, constantValue := 0 }, { name := "MAX_LENGTH", type := .int, accessFlags := 24, slot := 2, constantValue := 0 }, { name := "$assertionsDisabled", type := .boolean, accessFlags := 4120, slot := 3, constantValue := 0 }]
  methods := #[k10m0, k10m1, k10m2, k10m3]
  instanceTypes := #[]
  staticTypes := #[.int, .int, .int, .boolean]
  resolved := Array.replicate 635 none
  statics := none }

def pool11 : Array CpInfo := pool [(1, .class_ 2), (0, u "java/lang/Cloneable"), (0, .class_ 4), (0, u "java/lang/Object")] 2

/-- java/lang/Cloneable -/
def k11 : Class := { plain "java/lang/Cloneable" (some 0) with
  accessFlags := 1537
  interfaces := #[]
  cf := some (fileOf pool11 1 #[] #[] 1537 3 #[] #[])
  fields := #[]
  methods := #[]
  instanceTypes := #[]
  staticTypes := #[]
  resolved := Array.replicate 7 none
  statics := none }

def pool12 : Array CpInfo := pool [(4, .class_ 6), (1, u "java/lang/Object"), (0, u "<init>"), (0, u "()V"), (5, .class_ 16), (1, u "java/lang/StringLatin1"), (104, u "$assertionsDisabled"), (0, u "Z"), (98, .class_ 223), (1, u "java/lang/StringLatin1$LinesSpliterator"), (57, u "equals"), (0, u "([B[B)Z"), (107, .class_ 391), (0, u "java/lang/StringLatin1$CharsSpliterator")] 3

def k12m0 : Method := { name := "<init>", desc := "()V", sig := { parameters := [], returnType := none }, accessFlags := 0, code := none }
def k12c1 : Code := { maxStack := 3, maxLocals := 3, code := jdk_43_method_13_code, exceptionTable := #[], attributes := #[] }
def k12m1 : Method := { name := "equals", desc := "([B[B)Z", sig := { parameters := [(.array .byte), (.array .byte)], returnType := some .boolean }, accessFlags := 9, code := some k12c1 }
/-- java/lang/StringLatin1 -/
def k12 : Class := { plain "java/lang/StringLatin1" (some 0) with
  accessFlags := 48
  interfaces := #[]
  cf := some (fileOf pool12 14 #[.nestMembers #[390, 221]] #[{ accessFlags := 0, nameIndex := 7, descriptorIndex := 8, attributes := #[] }, { accessFlags := 9, nameIndex := 281, descriptorIndex := 282, attributes := #[] }] 48 4 #[] #[{ accessFlags := 4120, nameIndex := 121, descriptorIndex := 122, attributes := #[] }])
  fields := #[{ name := "$assertionsDisabled", type := .boolean, accessFlags := 4120, slot := 0, constantValue := 0 }]
  methods := #[k12m0, k12m1]
  instanceTypes := #[]
  staticTypes := #[.boolean]
  resolved := Array.replicate 395 none
  statics := none }

def pool13 : Array CpInfo := pool [(2, .class_ 4), (1, u "java/lang/Object"), (0, u "<init>"), (0, u "()V"), (17, .class_ 26), (1, u "jdk/internal/util/Preconditions"), (28, .class_ 56), (0, u "jdk/internal/util/Preconditions$4"), (57, .class_ 115), (0, u "jdk/internal/util/Preconditions$1"), (7, u "SIOOBE_FORMATTER"), (0, u "Ljava/util/function/BiFunction;"), (0, .class_ 126), (0, u "jdk/internal/util/Preconditions$2"), (3, u "AIOOBE_FORMATTER"), (0, .class_ 132), (0, u "jdk/internal/util/Preconditions$3"), (3, u "IOOBE_FORMATTER")] 57

def k13m0 : Method := { name := "<init>", desc := "()V", sig := { parameters := [], returnType := none }, accessFlags := 1, code := none }
/-- jdk/internal/util/Preconditions -/
def k13 : Class := { plain "jdk/internal/util/Preconditions" (some 0) with
  accessFlags := 33
  interfaces := #[]
  cf := some (fileOf pool13 24 #[.nestMembers #[55, 131, 125, 114]] #[{ accessFlags := 1, nameIndex := 5, descriptorIndex := 6, attributes := #[] }] 33 2 #[] #[{ accessFlags := 25, nameIndex := 123, descriptorIndex := 124, attributes := #[] }, { accessFlags := 25, nameIndex := 130, descriptorIndex := 124, attributes := #[] }, { accessFlags := 25, nameIndex := 136, descriptorIndex := 124, attributes := #[] }])
  fields := #[{ name := "SIOOBE_FORMATTER", type := (.object "java/util/function/BiFunction"), accessFlags := 25, slot := 0, constantValue := 0 }, { name := "AIOOBE_FORMATTER", type := (.object "java/util/function/BiFunction"), accessFlags := 25, slot := 1, constantValue := 0 }, { name := "IOOBE_FORMATTER", type := (.object "java/util/function/BiFunction"), accessFlags := 25, slot := 2, constantValue := 0 }]
  methods := #[k13m0]
  instanceTypes := #[]
  staticTypes := #[(.object "java/util/function/BiFunction"), (.object "java/util/function/BiFunction"), (.object "java/util/function/BiFunction")]
  resolved := Array.replicate 194 none
  statics := some 2 }

def pool14 : Array CpInfo := pool [(9, u "<init>"), (6, .class_ 18), (1, u "java/lang/Object"), (0, u "()V"), (1, .class_ 23), (1, u "jdk/internal/util/ArraysSupport"), (0, u "LOG2_ARRAY_LONG_INDEX_SCALE"), (0, u "I"), (2, u "U"), (0, u "Ljdk/internal/misc/Unsafe;"), (8, u "BIG_ENDIAN"), (0, u "Z"), (8, u "LOG2_BYTE_BIT_SIZE"), (4, u "LOG2_ARRAY_INT_INDEX_SCALE"), (54, u "JLA"), (0, u "Ljdk/internal/access/JavaLangAccess;"), (11, u "LOG2_ARRAY_BOOLEAN_INDEX_SCALE"), (9, u "LOG2_ARRAY_BYTE_INDEX_SCALE"), (5, u "LOG2_ARRAY_CHAR_INDEX_SCALE"), (5, u "LOG2_ARRAY_SHORT_INDEX_SCALE"), (18, u "LOG2_ARRAY_FLOAT_INDEX_SCALE"), (24, u "LOG2_ARRAY_DOUBLE_INDEX_SCALE"), (89, u "T_BOOLEAN"), (2, u "T_CHAR"), (1, u "T_FLOAT"), (1, u "T_DOUBLE"), (1, u "T_BYTE"), (1, u "T_SHORT"), (1, u "T_INT"), (1, u "T_LONG"), (1, u "SOFT_MAX_ARRAY_LENGTH")] 83

def k14m0 : Method := { name := "<init>", desc := "()V", sig := { parameters := [], returnType := none }, accessFlags := 2, code := none }
/-- jdk/internal/util/ArraysSupport -/
def k14 : Class := { plain "jdk/internal/util/ArraysSupport" (some 0) with
  accessFlags := 33
  interfaces := #[]
  cf := some (fileOf pool14 21 #[] #[{ accessFlags := 2, nameIndex := 9, descriptorIndex := 19, attributes := #[] }] 33 16 #[] #[{ accessFlags := 24, nameIndex := 28, descriptorIndex := 29, attributes := #[] }, { accessFlags := 26, nameIndex := 38, descriptorIndex := 39, attributes := #[] }, { accessFlags := 25, nameIndex := 121, descriptorIndex := 25, attributes := #[] }, { accessFlags := 25, nameIndex := 131, descriptorIndex := 25, attributes := #[] }, { accessFlags := 25, nameIndex := 137, descriptorIndex := 25, attributes := #[] }, { accessFlags := 25, nameIndex := 143, descriptorIndex := 25, attributes := #[] }, { accessFlags := 25, nameIndex := 53, descriptorIndex := 25, attributes := #[] }, { accessFlags := 25, nameIndex := 24, descriptorIndex := 25, attributes := #[] }, { accessFlags := 25, nameIndex := 162, descriptorIndex := 25, attributes := #[] }, { accessFlags := 25, nameIndex := 187, descriptorIndex := 25, attributes := #[] }, { accessFlags := 26, nameIndex := 48, descriptorIndex := 25, attributes := #[] }, { accessFlags := 25, nameIndex := 277, descriptorIndex := 25, attributes := #[] }, { accessFlags := 25, nameIndex := 280, descriptorIndex := 25, attributes := #[] }, { accessFlags := 25, nameIndex := 282, descriptorIndex := 25, attributes := #[] }, { accessFlags := 25, nameIndex := 284, descriptorIndex := 25, attributes := #[] }, { accessFlags := 25, nameIndex := 286, descriptorIndex := 25, attributes := #[] }, { accessFlags := 25, nameIndex := 288, descriptorIndex := 25, attributes := #[] }, { accessFlags := 25, nameIndex := 290, descriptorIndex := 25, attributes := #[] }, { accessFlags := 25, nameIndex := 292, descriptorIndex := 25, attributes := #[] }, { accessFlags := 26, nameIndex := 108, descriptorIndex := 109, attributes := #[] }, { accessFlags := 25, nameIndex := 294, descriptorIndex := 25, attributes := #[] }])
  fields := #[{ name := "U", type := (.object "jdk/internal/misc/Unsafe"), accessFlags := 24, slot := 0, constantValue := 0 }, { name := "BIG_ENDIAN", type := .boolean, accessFlags := 26, slot := 1, constantValue := 0 }, { name := "LOG2_ARRAY_BOOLEAN_INDEX_SCALE", type := .int, accessFlags := 25, slot := 2, constantValue := 0 }, { name := "LOG2_ARRAY_BYTE_INDEX_SCALE", type := .int, accessFlags := 25, slot := 3, constantValue := 0 }, { name := "LOG2_ARRAY_CHAR_INDEX_SCALE", type := .int, accessFlags := 25, slot := 4, constantValue := 0 }, { name := "LOG2_ARRAY_SHORT_INDEX_SCALE", type := .int, accessFlags := 25, slot := 5, constantValue := 0 }, { name := "LOG2_ARRAY_INT_INDEX_SCALE", type := .int, accessFlags := 25, slot := 6, constantValue := 0 }, { name := "LOG2_ARRAY_LONG_INDEX_SCALE", type := .int, accessFlags := 25, slot := 7, constantValue := 0 }, { name := "LOG2_ARRAY_FLOAT_INDEX_SCALE", type := .int, accessFlags := 25, slot := 8, constantValue := 0 }, { name := "LOG2_ARRAY_DOUBLE_INDEX_SCALE", type := .int, accessFlags := 25, slot := 9, constantValue := 0 }, { name := "LOG2_BYTE_BIT_SIZE", type := .int, accessFlags := 26, slot := 10, constantValue := 0 }, { name := "T_BOOLEAN", type := .int, accessFlags := 25, slot := 11, constantValue := 0 }, { name := "T_CHAR", type := .int, accessFlags := 25, slot := 12, constantValue := 0 }, { name := "T_FLOAT", type := .int, accessFlags := 25, slot := 13, constantValue := 0 }, { name := "T_DOUBLE", type := .int, accessFlags := 25, slot := 14, constantValue := 0 }, { name := "T_BYTE", type := .int, accessFlags := 25, slot := 15, constantValue := 0 }, { name := "T_SHORT", type := .int, accessFlags := 25, slot := 16, constantValue := 0 }, { name := "T_INT", type := .int, accessFlags := 25, slot := 17, constantValue := 0 }, { name := "T_LONG", type := .int, accessFlags := 25, slot := 18, constantValue := 0 }, { name := "JLA", type := (.object "jdk/internal/access/JavaLangAccess"), accessFlags := 26, slot := 19, constantValue := 0 }, { name := "SOFT_MAX_ARRAY_LENGTH", type := .int, accessFlags := 25, slot := 20, constantValue := 0 }]
  methods := #[k14m0]
  instanceTypes := #[]
  staticTypes := #[(.object "jdk/internal/misc/Unsafe"), .boolean, .int, .int, .int, .int, .int, .int, .int, .int, .int, .int, .int, .int, .int, .int, .int, .int, .int, (.object "jdk/internal/access/JavaLangAccess"), .int]
  resolved := Array.replicate 378 none
  statics := none }

/-- the primitive byte -/
def k15 : Class := { plain "byte" none with kind := .primitive 'B', accessFlags := 0x411 }
/-- [B -/
def k16 : Class := { plain "[B" (some 0) with kind := .array 15 .byte, interfaces := #[11, 4], accessFlags := 1041 }

/-- the primitive char -/
def k17 : Class := { plain "char" none with kind := .primitive 'C', accessFlags := 0x411 }
/-- [C -/
def k18 : Class := { plain "[C" (some 0) with kind := .array 17 .char, interfaces := #[11, 4], accessFlags := 1041 }

/-- the primitive int -/
def k19 : Class := { plain "int" none with kind := .primitive 'I', accessFlags := 0x411 }
/-- [I -/
def k20 : Class := { plain "[I" (some 0) with kind := .array 19 .int, interfaces := #[11, 4], accessFlags := 1041 }

/-- [Lcom/example/orderly_balancer/orderlybalancer/config/Mode; -/
def k21 : Class := { plain "[Lcom/example/orderly_balancer/orderlybalancer/config/Mode;" (some 0) with kind := .array 6 (.object "com/example/orderly_balancer/orderlybalancer/config/Mode"), interfaces := #[11, 4], accessFlags := 1041 }

def heap : Heap := #[{ cls := 6, slots := #[.ref 4, .ref 5, .ref 3], vm := .statics 6 },
  { cls := 9, slots := #[.long 0, .int 1, .null, .int 0, .null, .int 0, .int 0], vm := .statics 9 },
  { cls := 13, slots := #[.null, .null, .null], vm := .statics 13 },
  { cls := 21, slots := #[.ref 4, .ref 5], vm := .none },
  { cls := 6, slots := #[.null, .int 0, .int 0, .ref 6], vm := .none },
  { cls := 6, slots := #[.null, .int 1, .int 0, .ref 7], vm := .none },
  { cls := 9, slots := #[.ref 8, .int 0, .int 0, .int 0], vm := .none },
  { cls := 9, slots := #[.ref 9, .int 0, .int 0, .int 0], vm := .none },
  { cls := 16, slots := #[.int 116, .int 99, .int 112], vm := .none },
  { cls := 16, slots := #[.int 104, .int 116, .int 116, .int 112], vm := .none }]
def classes : Array Class := #[k0, k1, k2, k3, k4, k5, k6, k7, k8, k9, k10, k11, k12, k13, k14, k15, k16, k17, k18, k19, k20, k21]
def interned : List (Array UInt16 × Addr) := []
def slotsUsed : Nat := 38
def theMethod : MethodId := ⟨1, 1⟩
def args0 : Array Value := #[.int 5]
def aboutOver (below : List Frame) : State where
  vm := { classes := classes, interned := interned.toArray }
  heap := heap
  slotsUsed := slotsUsed
  threads := #[{ frames := .invoking theMethod args0 :: below }]
def below0 : List Frame := [.native { method := ⟨0, 0⟩, args := #[] }]
def about1 : State := aboutOver below0
def p0 : Program := .bare "" "" ""
def e0 : Env := launch0.env 0 0 0
theorem w_frames : about1.frames = Frame.invoking theMethod args0 :: below0 := rfl
set_option maxRecDepth 65536 in
theorem w_args : argsFit about1.vm theMethod args0 = true := by decide +kernel
set_option maxRecDepth 65536 in
theorem w_heap : heapFits about1 = true := by decide +kernel
set_option maxRecDepth 65536 in
theorem w_runnable : about1.curStatus? = some .runnable := by decide +kernel
set_option maxRecDepth 65536 in
theorem w_alone : about1.alone = true := by decide +kernel
set_option maxRecDepth 65536 in
theorem w_named : about1.methodNamed? x = some theMethod := by decide +kernel
set_option maxRecDepth 65536 in
theorem w_hears : about1.hears theMethod below0 = true := by decide +kernel
set_option maxRecDepth 65536 in
theorem w_ripe : about1.ripe theMethod args0 below0 = true := by decide +kernel
theorem w_running : about1.status = .running := rfl
set_option maxRecDepth 65536 in
theorem w_room : about1.hasRoom e0.platform room_1 = true :=
  launch0.hasRoom_least _ room_1 (by decide +kernel) (by decide +kernel) (by decide +kernel) (by decide +kernel) (by decide +kernel) (by decide +kernel)
theorem allAtoms_all (ts : List Jvm.Cond) (a : Array Jvm.Value) (st : Jvm.State) : (allAtoms ts).before a st = ts.all (fun c => c.before a st) := by
  induction ts with
  | nil => rfl
  | cons c t ih =>
    show (Jvm.Cond.and c (allAtoms t)).before a st = _
    rw [Jvm.Cond.before_and, ih, List.all_cons]
def words1 : List Jvm.Cond := Jvm.Cond.code x code maxLocals ret :: tables_1
/-- a 'code' word, met by the world's own term for the bytes: nothing is compared byte by byte -/
theorem code_word {y : MethodName} {bytes : ByteArray} {mx : Nat} {rt : Option FieldType} {a : Array Value} {s : State} {m : MethodId} {meth : Method} {c : Code} (h1 : s.methodNamed? y = some m) (h2 : s.vm.method? m = some meth) (h3 : meth.code = some c) (h4 : c.code = bytes)
    (h5 : (c.maxLocals == mx && c.exceptionTable.isEmpty && decide (c.maxStack ≤ mostOperands) && decide (meth.sig.returnType = rt) && !meth.locks && decide (parseMethodDescriptor y.desc = some meth.sig)) = true) : (Jvm.Cond.code y bytes mx rt).before a s = true := by
  simp only [Bool.and_eq_true, beq_iff_eq, Bool.not_eq_true', decide_eq_true_eq] at h5
  obtain ⟨⟨⟨⟨⟨g1, g2⟩, g3⟩, g4⟩, g5⟩, g6⟩ := h5
  simp [Cond.before, Cond.holds, Cond.value, h1, h2, h3, h4, g1, g2, g3, g4, g5, g6]
def isCode : Jvm.Cond → Bool
  | .code _ _ _ _ => true
  | _ => false
theorem all_split {L : List Jvm.Cond} {P : Jvm.Cond → Bool} (h1 : L.all (fun c => isCode c || P c) = true) (h2 : ∀ c ∈ L.filter isCode, P c = true) : L.all P = true := by
  refine List.all_eq_true.mpr fun c hc => ?_
  have h := List.all_eq_true.mp h1 c hc
  rcases Bool.eq_false_or_eq_true (isCode c) with hi | hi
  · exact h2 c (List.mem_filter.mpr ⟨hc, hi⟩)
  · simpa [hi] using h
set_option maxRecDepth 65536 in
theorem w_c0 : (Jvm.Cond.code x code maxLocals ret).before args0 about1 = true := code_word (m := ⟨1, 1⟩) (meth := k1m1) (c := k1c1) (by decide +kernel) rfl rfl rfl (by decide +kernel)
set_option maxRecDepth 65536 in
theorem w_c1 : (Jvm.Cond.code ({ cls := "java/lang/String", name := "<init>", desc := "([C)V" } : Jvm.MethodName) jdk_42_method_3_code (2 : Nat) (Option.none : Option Jvm.ClassFile.FieldType)).before args0 about1 = true := code_word (m := ⟨9, 1⟩) (meth := k9m1) (c := k9c1) (by decide +kernel) rfl rfl rfl (by decide +kernel)
set_option maxRecDepth 65536 in
theorem w_c2 : (Jvm.Cond.code ({ cls := "java/lang/String", name := "<init>", desc := "([CIILjava/lang/Void;)V" } : Jvm.MethodName) jdk_42_method_149_code (6 : Nat) (Option.none : Option Jvm.ClassFile.FieldType)).before args0 about1 = true := code_word (m := ⟨9, 3⟩) (meth := k9m3) (c := k9c3) (by decide +kernel) rfl rfl rfl (by decide +kernel)
set_option maxRecDepth 65536 in
theorem w_c3 : (Jvm.Cond.code ({ cls := "java/lang/Object", name := "<init>", desc := "()V" } : Jvm.MethodName) object_method_1_code (1 : Nat) (Option.none : Option Jvm.ClassFile.FieldType)).before args0 about1 = true := code_word (m := ⟨0, 0⟩) (meth := k0m0) (c := k0c0) (by decide +kernel) rfl rfl rfl (by decide +kernel)
set_option maxRecDepth 65536 in
theorem w_c4 : (Jvm.Cond.code ({ cls := "java/lang/StringUTF16", name := "compress", desc := "([CII)[B" } : Jvm.MethodName) jdk_52_method_16_code (6 : Nat) (Option.some (Jvm.ClassFile.FieldType.array Jvm.ClassFile.FieldType.byte))).before args0 about1 = true := code_word (m := ⟨10, 2⟩) (meth := k10m2) (c := k10c2) (by decide +kernel) rfl rfl rfl (by decide +kernel)
set_option maxRecDepth 65536 in
theorem w_c5 : (Jvm.Cond.code ({ cls := "java/lang/StringUTF16", name := "compress", desc := "([CI[BII)I" } : Jvm.MethodName) jdk_52_method_21_code (7 : Nat) (Option.some Jvm.ClassFile.FieldType.int)).before args0 about1 = true := code_word (m := ⟨10, 3⟩) (meth := k10m3) (c := k10c3) (by decide +kernel) rfl rfl rfl (by decide +kernel)
set_option maxRecDepth 65536 in
theorem w_c6 : (Jvm.Cond.code ({ cls := "java/lang/StringUTF16", name := "coderFromArrayLen", desc := "([BI)B" } : Jvm.MethodName) jdk_52_method_15_code (2 : Nat) (Option.some Jvm.ClassFile.FieldType.byte)).before args0 about1 = true := code_word (m := ⟨10, 1⟩) (meth := k10m1) (c := k10c1) (by decide +kernel) rfl rfl rfl (by decide +kernel)
set_option maxRecDepth 65536 in
theorem w_c7 : (Jvm.Cond.code ({ cls := "com/example/orderly_balancer/orderlybalancer/config/Mode", name := "named", desc := "(Ljava/lang/String;)Lcom/example/orderly_balancer/orderlybalancer/config/Mode;" } : Jvm.MethodName) prog_5_method_5_code (5 : Nat) (Option.some (Jvm.ClassFile.FieldType.object "com/example/orderly_balancer/orderlybalancer/config/Mode"))).before args0 about1 = true := code_word (m := ⟨6, 2⟩) (meth := k6m2) (c := k6c2) (by decide +kernel) rfl rfl rfl (by decide +kernel)
set_option maxRecDepth 65536 in
theorem w_c8 : (Jvm.Cond.code ({ cls := "com/example/orderly_balancer/orderlybalancer/config/Mode", name := "values", desc := "()[Lcom/example/orderly_balancer/orderlybalancer/config/Mode;" } : Jvm.MethodName) prog_5_method_1_code (0 : Nat) (Option.some (Jvm.ClassFile.FieldType.array (Jvm.ClassFile.FieldType.object "com/example/orderly_balancer/orderlybalancer/config/Mode")))).before args0 about1 = true := code_word (m := ⟨6, 0⟩) (meth := k6m0) (c := k6c0) (by decide +kernel) rfl rfl rfl (by decide +kernel)
set_option maxRecDepth 65536 in
theorem w_c9 : (Jvm.Cond.code ({ cls := "java/lang/String", name := "equals", desc := "(Ljava/lang/Object;)Z" } : Jvm.MethodName) jdk_42_method_66_code (3 : Nat) (Option.some Jvm.ClassFile.FieldType.boolean)).before args0 about1 = true := code_word (m := ⟨9, 2⟩) (meth := k9m2) (c := k9c2) (by decide +kernel) rfl rfl rfl (by decide +kernel)
set_option maxRecDepth 65536 in
theorem w_c10 : (Jvm.Cond.code ({ cls := "java/lang/StringLatin1", name := "equals", desc := "([B[B)Z" } : Jvm.MethodName) jdk_43_method_13_code (3 : Nat) (Option.some Jvm.ClassFile.FieldType.boolean)).before args0 about1 = true := code_word (m := ⟨12, 1⟩) (meth := k12m1) (c := k12c1) (by decide +kernel) rfl rfl rfl (by decide +kernel)
set_option maxRecDepth 65536 in
theorem w_c11 : (Jvm.Cond.code ({ cls := "com/example/orderly_balancer/orderlybalancer/config/Mode", name := "configName", desc := "()Ljava/lang/String;" } : Jvm.MethodName) prog_5_method_4_code (1 : Nat) (Option.some (Jvm.ClassFile.FieldType.object "java/lang/String"))).before args0 about1 = true := code_word (m := ⟨6, 1⟩) (meth := k6m1) (c := k6c1) (by decide +kernel) rfl rfl rfl (by decide +kernel)
def codes1 : List Jvm.Cond := [Jvm.Cond.code x code maxLocals ret, Jvm.Cond.code ({ cls := "java/lang/String", name := "<init>", desc := "([C)V" } : Jvm.MethodName) jdk_42_method_3_code (2 : Nat) (Option.none : Option Jvm.ClassFile.FieldType), Jvm.Cond.code ({ cls := "java/lang/String", name := "<init>", desc := "([CIILjava/lang/Void;)V" } : Jvm.MethodName) jdk_42_method_149_code (6 : Nat) (Option.none : Option Jvm.ClassFile.FieldType), Jvm.Cond.code ({ cls := "java/lang/Object", name := "<init>", desc := "()V" } : Jvm.MethodName) object_method_1_code (1 : Nat) (Option.none : Option Jvm.ClassFile.FieldType), Jvm.Cond.code ({ cls := "java/lang/StringUTF16", name := "compress", desc := "([CII)[B" } : Jvm.MethodName) jdk_52_method_16_code (6 : Nat) (Option.some (Jvm.ClassFile.FieldType.array Jvm.ClassFile.FieldType.byte)), Jvm.Cond.code ({ cls := "java/lang/StringUTF16", name := "compress", desc := "([CI[BII)I" } : Jvm.MethodName) jdk_52_method_21_code (7 : Nat) (Option.some Jvm.ClassFile.FieldType.int), Jvm.Cond.code ({ cls := "java/lang/StringUTF16", name := "coderFromArrayLen", desc := "([BI)B" } : Jvm.MethodName) jdk_52_method_15_code (2 : Nat) (Option.some Jvm.ClassFile.FieldType.byte), Jvm.Cond.code ({ cls := "com/example/orderly_balancer/orderlybalancer/config/Mode", name := "named", desc := "(Ljava/lang/String;)Lcom/example/orderly_balancer/orderlybalancer/config/Mode;" } : Jvm.MethodName) prog_5_method_5_code (5 : Nat) (Option.some (Jvm.ClassFile.FieldType.object "com/example/orderly_balancer/orderlybalancer/config/Mode")), Jvm.Cond.code ({ cls := "com/example/orderly_balancer/orderlybalancer/config/Mode", name := "values", desc := "()[Lcom/example/orderly_balancer/orderlybalancer/config/Mode;" } : Jvm.MethodName) prog_5_method_1_code (0 : Nat) (Option.some (Jvm.ClassFile.FieldType.array (Jvm.ClassFile.FieldType.object "com/example/orderly_balancer/orderlybalancer/config/Mode"))), Jvm.Cond.code ({ cls := "java/lang/String", name := "equals", desc := "(Ljava/lang/Object;)Z" } : Jvm.MethodName) jdk_42_method_66_code (3 : Nat) (Option.some Jvm.ClassFile.FieldType.boolean), Jvm.Cond.code ({ cls := "java/lang/StringLatin1", name := "equals", desc := "([B[B)Z" } : Jvm.MethodName) jdk_43_method_13_code (3 : Nat) (Option.some Jvm.ClassFile.FieldType.boolean), Jvm.Cond.code ({ cls := "com/example/orderly_balancer/orderlybalancer/config/Mode", name := "configName", desc := "()Ljava/lang/String;" } : Jvm.MethodName) prog_5_method_4_code (1 : Nat) (Option.some (Jvm.ClassFile.FieldType.object "java/lang/String"))]
set_option maxRecDepth 65536 in
theorem codes_eq : words1.filter isCode = codes1 := rfl
theorem w_codes : ∀ c ∈ words1.filter isCode, c.before args0 about1 = true := by
  rw [codes_eq]
  intro c hc
  simp only [codes1, List.mem_cons, List.not_mem_nil, or_false] at hc
  rcases hc with rfl | rfl | rfl | rfl | rfl | rfl | rfl | rfl | rfl | rfl | rfl | rfl
  · exact w_c0
  · exact w_c1
  · exact w_c2
  · exact w_c3
  · exact w_c4
  · exact w_c5
  · exact w_c6
  · exact w_c7
  · exact w_c8
  · exact w_c9
  · exact w_c10
  · exact w_c11
set_option maxRecDepth 65536 in
theorem w_t1 : (words1.take 24).all (fun c => isCode c || c.before args0 about1) = true := by decide +kernel
set_option maxRecDepth 65536 in
theorem w_t2 : ((words1.drop 24).take 24).all (fun c => isCode c || c.before args0 about1) = true := by decide +kernel
set_option maxRecDepth 65536 in
theorem w_t3 : ((words1.drop 24).drop 24).all (fun c => isCode c || c.before args0 about1) = true := by decide +kernel
theorem w_tables : (allAtoms (Jvm.Cond.code x code maxLocals ret :: tables_1)).before args0 about1 = true := by
  rw [allAtoms_all]
  show words1.all (fun c => c.before args0 about1) = true
  refine all_split ?_ w_codes
  rw [← List.take_append_drop 24 words1, List.all_append, w_t1, ← List.take_append_drop 24 (words1.drop 24), List.all_append, w_t2, w_t3]
  rfl
set_option maxRecDepth 65536 in
theorem w_rest : rest_1_c.before args0 about1 = true := by decide +kernel
set_option maxRecDepth 65536 in
theorem w_case : (Jvm.Cond.and given_1 narrow_1).before args0 about1 = true := by decide +kernel
theorem w_applies : (headSpec (Jvm.Cond.code x code maxLocals ret :: tables_1) room_1).applies x e0.platform about1 = true :=
  (Spec.applies_iff w_frames).mpr ⟨w_running, w_runnable, w_alone, w_named, w_hears, w_ripe, w_room, w_tables⟩
theorem atStart : AtStart classFile x code maxLocals ret World_1 tables_1 room_1 Calls_1 rest_1 Pre_1 launch0 p0 e0 about1 theMethod args0 below0 :=
  ⟨lists_1, trivial, launch0.admits_env _ _ _, launch0.least_env, fairChoices_fair.cas, fairChoices_fair.clock, w_frames, w_args, w_heap, w_applies, trivial, w_rest, w_case⟩
end start1
theorem witness_1 : WitnessClaimed_1 := ⟨start1.p0, start1.e0, start1.about1, start1.theMethod, start1.args0, start1.below0, start1.atStart⟩
end Jvm.Pilot.@@N@@
