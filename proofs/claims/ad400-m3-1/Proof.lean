import JvmDerived
import JvmDerived.Pilot.@@N@@Statement
import JvmDerived.Pilot.@@N@@Code
set_option linter.unusedVariables false
set_option linter.unusedSimpArgs false
namespace Jvm.RoadKit
open Sem ClassFile Op Lib Jvm.Stand Jvm.Free Jvm.LawKit
section New
variable {p : Program} {l : Launch} {e : Env} {R : Room} {s : State} {m : MethodId} {args : Array Value} {below : List Frame} {meth : Method} {c : Code} {T : State} {locs : List Loc} {cells slots : Nat}
theorem retI (X : Stand p l e R s m args below meth c T locs cells slots) (hx : p.tables.exec = Jvm.exec) {pc : Nat} {Ls : Array Slot} {z : Int32} {rest : List Value} (hret : meth.sig.returnType = some .int) (hd : decode c.code pc = .ok (.ireturn, 1)) {fs : List Frame}
    (hl : ∀ (f : JFrame) (acts : List Action), f.method = m → f.locked = none → f.entered = [] → (doReturn e (T.setTop f) acts (some (.int z))).1 = T.setFrames fs) : Steps p.tables e below (T.setTop (mkF m pc Ls (.int z :: rest))) (T.setFrames fs) := by
  have hm' : T.vm.method? m = some meth := X.method'
  have hn : narrow .int (.int z) = .int z := rfl
  show Steps p.tables e below (T.setTop { method := m, pc := pc, locals := Ls, stack := _ :: rest, locked := none }) _
  jvm_step X.here [X.here.top, hx, hd, hm', hret, hn]
  first | (intro acts; rw [hl _ acts rfl rfl rfl]) | rw [hl _ _ rfl rfl rfl]
  exact Steps.refl _
end New
end Jvm.RoadKit
namespace Jvm.RoadKit
open Sem ClassFile Op Lib Jvm.Stand Jvm.Free Jvm.LawKit
section Own
variable {p : Program} {l : Launch} {e : Env} {R : Room} {s : State} {m : MethodId} {args : Array Value} {below : List Frame} {meth : Method} {c : Code} {T T' : State} {locs : List Loc} {cells slots : Nat} {Q : Option Value → Heap → List Loc → Prop} {F : Option Value → State → Prop} {kc ks : Nat} {g g' : JFrame} {Z : State} {a0 : Array Value} {h : Heap}
/-- the body that stands at T with the frame g comes to its end, and leaves what F says -/
def Goes (p : Program) (e : Env) (below : List Frame) (F : Option Value → State → Prop) (T : State) (g : JFrame) : Prop :=
  ∃ s₂ o, Steps p.tables e below (T.setTop g) s₂ ∧ s₂.status = .running ∧ Ended s₂ below o ∧ ∃ v, o = .returned v ∧ F v s₂
def EndQ (s : State) (Q : Option Value → Heap → List Loc → Prop) (kc ks : Nat) (v : Option Value) (t : State) : Prop := ∃ L, Q v t.heap L ∧ FrameEnd s (.returned v) t L kc ks
theorem Goes.give (h : Goes p e below (EndQ s Q kc ks) T g) : ∃ s₂ o, Steps p.tables e below (T.setTop g) s₂ ∧ s₂.status = .running ∧ Ended s₂ below o ∧ ∃ v L, o = .returned v ∧ Q v s₂.heap L ∧ FrameEnd s o s₂ L kc ks := by
  obtain ⟨s2, o, h1, h2, h3, v, rfl, L, h4, h5⟩ := h
  exact ⟨s2, _, h1, h2, h3, v, L, rfl, h4, h5⟩
theorem Goes.step (k : ∀ t, Steps p.tables e below (T'.setTop g') t → Steps p.tables e below (T.setTop g) t) (h : Goes p e below F T' g') : Goes p e below F T g := by
  obtain ⟨s2, o, h1, r⟩ := h
  exact ⟨s2, o, k _ h1, r⟩
theorem Goes.out {v : Option Value} (X : Stand p l e R s m args below meth c T locs cells slots) (hlk : meth.locks = false) (hv : meth.sig.returnType = none → v = none) (hq : Q v T.heap locs) (hc : cells ≤ kc) (hs : slots ≤ ks)
    (k : ∀ fs, (∀ (f : JFrame) (acts : List Action), f.method = m → f.locked = none → f.entered = [] → (doReturn e (T.setTop f) acts v).1 = T.setFrames fs) → Steps p.tables e below (T.setTop g) (T.setFrames fs)) : Goes p e below (EndQ s Q kc ks) T g := by
  obtain ⟨fs, hr, hrun, hended, hW, hsame⟩ := X.leave (v := v) hv hlk
  exact ⟨_, _, k fs hr, hrun, hended, _, rfl, _, hq, ⟨_, rfl⟩, hW, hsame.mono hc hs⟩
theorem Goes.retI (X : Stand p l e R s m args below meth c T locs cells slots) (hx : p.tables.exec = Jvm.exec) (hlk : meth.locks = false) {pc : Nat} {Ls : Array Slot} {z : Int32} {rest : List Value} (hret : meth.sig.returnType = some .int) (hd : decode c.code pc = .ok (.ireturn, 1))
    (hc : cells ≤ kc) (hs : slots ≤ ks) (hq : Q (some (.int z)) T.heap locs) : Goes p e below (EndQ s Q kc ks) T (mkF m pc Ls (.int z :: rest)) :=
  Goes.out X hlk (fun h => by rw [hret] at h; cases h) hq hc hs fun fs hr => RoadKit.retI X hx hret hd hr
theorem Goes.retN (X : Stand p l e R s m args below meth c T locs cells slots) (hx : p.tables.exec = Jvm.exec) (hlk : meth.locks = false) {pc : Nat} {Ls : Array Slot} {z : Int32} {t : FieldType} {rest : List Value} (hret : meth.sig.returnType = some t) (ht : t = .boolean ∨ t = .byte ∨ t = .char ∨ t = .short) (hd : decode c.code pc = .ok (.ireturn, 1))
    (hc : cells ≤ kc) (hs : slots ≤ ks) (hq : Q (some (.int (nar t z))) T.heap locs) : Goes p e below (EndQ s Q kc ks) T (mkF m pc Ls (.int z :: rest)) :=
  Goes.out X hlk (fun h => by rw [hret] at h; cases h) hq hc hs fun fs hr => RoadKit.retN X hx hret ht hd hr
theorem Goes.retA (X : Stand p l e R s m args below meth c T locs cells slots) (hx : p.tables.exec = Jvm.exec) (hlk : meth.locks = false) {pc : Nat} {Ls : Array Slot} {w : Value} {t : FieldType} {rest : List Value} (hret : meth.sig.returnType = some t) (ht : t.isReference = true) (hw : w.isRef = true) (hd : decode c.code pc = .ok (.areturn, 1))
    (hc : cells ≤ kc) (hs : slots ≤ ks) (hq : Q (some w) T.heap locs) : Goes p e below (EndQ s Q kc ks) T (mkF m pc Ls (w :: rest)) :=
  Goes.out X hlk (fun h => by rw [hret] at h; cases h) hq hc hs fun fs hr => RoadKit.retOut X hx hret (by cases w <;> cases t <;> first | rfl | (simp [FieldType.isReference] at ht) | (simp [Value.isRef] at hw)) (Or.inr (Or.inr (Or.inr (Or.inr ⟨rfl, ht, hw⟩)))) hd hr
theorem Goes.retJ (X : Stand p l e R s m args below meth c T locs cells slots) (hx : p.tables.exec = Jvm.exec) (hlk : meth.locks = false) {pc : Nat} {Ls : Array Slot} {z : Int64} {rest : List Value} (hret : meth.sig.returnType = some .long) (hd : decode c.code pc = .ok (.lreturn, 1))
    (hc : cells ≤ kc) (hs : slots ≤ ks) (hq : Q (some (.long z)) T.heap locs) : Goes p e below (EndQ s Q kc ks) T (mkF m pc Ls (.long z :: rest)) :=
  Goes.out X hlk (fun h => by rw [hret] at h; cases h) hq hc hs fun fs hr => RoadKit.retOut X hx hret rfl (Or.inr (Or.inl ⟨rfl, rfl, _, rfl⟩)) hd hr
theorem Goes.retV (X : Stand p l e R s m args below meth c T locs cells slots) (hx : p.tables.exec = Jvm.exec) (hlk : meth.locks = false) {pc : Nat} {Ls : Array Slot} (hret : meth.sig.returnType = none) (hd : decode c.code pc = .ok (.return_, 1))
    (hc : cells ≤ kc) (hs : slots ≤ ks) (hq : Q none T.heap locs) : Goes p e below (EndQ s Q kc ks) T (mkF m pc Ls []) :=
  Goes.out X hlk (fun _ => rfl) hq hc hs fun fs hr => X.returnOut hx hret hd hr
/-- a static call, by its callee's contract -/
theorem Goes.callS (X : Stand p l e R s m args below meth c T locs cells slots) (hx : p.tables.exec = Jvm.exec) {own : String} {index : Nat} {y : MethodName} {bytes : ByteArray} {maxL : Nat} {ret : Option FieldType}
    (hown : s.vm.findClass own = some m.cls) (hlink : (Cond.methodLink own index y).before args s = true) (hstat : (Cond.static y).before args s = true) (hinit : (Cond.initialized y.cls).before args s = true)
    (hcode : (Cond.code y bytes maxL ret).before args s = true) (hy : y.cls ≠ "java/lang/invoke/MethodHandle" ∧ y.cls ≠ "java/lang/invoke/VarHandle")
    {W : Nat} {as' : Array Value} {Qc : Option Value → Heap → List Loc → Prop} {kc' ks' : Nat}
    (hK : Back l R p e below s args y 3 W (fun A a => a = as' ∧ A.U.heap = h ∧ A.cells + kc' ≤ R.cells ∧ A.slots + ks' ≤ R.slots) (fun A _ v B => ∃ L, Qc v B.U.heap L ∧ B.locs = A.locs ++ L ∧ B.cells = A.cells + kc' ∧ B.slots = A.slots + ks'))
    (hg : g.method = m) (hsize : g.locals.size = c.maxLocals) {argsL rest : List Value} (hlen : ∀ sig, parseMethodDescriptor y.desc = some sig → argsL.length = sig.parameters.length)
    (hstack : g.stack = argsL.reverse ++ rest) (hW : 2 * g.monitorRoom + (rest.map fun v => v.category).sum ≤ W) (hdg : decode c.code g.pc = .ok (.invokestatic index, 3)) (ha : argsL.toArray = as') (eT : T.heap = h) (hc : cells + kc' ≤ R.cells) (hs : slots + ks' ≤ R.slots)
    (k : ∀ (v : Option Value) (T' : State) (L : List Loc), Qc v T'.heap L → Stand p l e R s m args below meth c T' (locs ++ L) (cells + kc') (slots + ks') → Goes p e below F T' { g with pc := g.pc + 3, stack := v.toList ++ rest }) : Goes p e below F T g := by
  obtain ⟨v, vm₁, ⟨T', L', k', n'⟩, -, X', ⟨L, hQ, h1, h2, h3⟩, st⟩ := Jvm.LawKit.callS X hx hown hlink hstat hinit hcode hy hK hg hsize hlen hstack hW hdg (fun _ _ => ⟨ha, eT, hc, hs⟩)
  dsimp only [Pt.U, Pt.locs, Pt.cells, Pt.slots] at X' h1 h2 h3 st hQ
  subst h1 h2 h3
  exact Goes.step st (k v T' L hQ X')
/-- a constructor, by its contract -/
theorem Goes.callC (X : Stand p l e R s m args below meth c T locs cells slots) (hx : p.tables.exec = Jvm.exec) {own : String} {index : Nat} {y : MethodName} {bytes : ByteArray} {maxL : Nat} (hy1 : y.name = "<init>")
    (hown : s.vm.findClass own = some m.cls) (hlink : (Cond.methodLink own index y).before args s = true) (hinst : (Cond.instanceMethod y).before args s = true) (hcode : (Cond.code y bytes maxL none).before args s = true)
    (hy : y.cls ≠ "java/lang/invoke/MethodHandle" ∧ y.cls ≠ "java/lang/invoke/VarHandle")
    {W : Nat} {as' : Array Value} {Qc : Option Value → Heap → List Loc → Prop} {kc' ks' : Nat}
    (hK : Back l R p e below s args y 3 W (fun A a => a = as' ∧ A.U.heap = h ∧ A.cells + kc' ≤ R.cells ∧ A.slots + ks' ≤ R.slots) (fun A _ v B => ∃ L, Qc v B.U.heap L ∧ B.locs = A.locs ++ L ∧ B.cells = A.cells + kc' ∧ B.slots = A.slots + ks'))
    (hg : g.method = m) (hsize : g.locals.size = c.maxLocals) {a : Addr} {argsL rest : List Value} (hlen : ∀ sig, parseMethodDescriptor y.desc = some sig → argsL.length = sig.parameters.length)
    (hstack : g.stack = argsL.reverse ++ .ref a :: rest) (hW : 2 * g.monitorRoom + (rest.map fun v => v.category).sum ≤ W) (hdg : decode c.code g.pc = .ok (.invokespecial index, 3)) (ha : (.ref a :: argsL).toArray = as') (eT : T.heap = h) (hc : cells + kc' ≤ R.cells) (hs : slots + ks' ≤ R.slots)
    (k : ∀ (v : Option Value) (T' : State) (L : List Loc), Qc v T'.heap L → Stand p l e R s m args below meth c T' (locs ++ L) (cells + kc') (slots + ks') → Goes p e below F T' { g with pc := g.pc + 3, stack := v.toList ++ rest }) : Goes p e below F T g := by
  obtain ⟨v, vm₁, ⟨T', L', k', n'⟩, -, X', ⟨L, hQ, h1, h2, h3⟩, st⟩ := X.specialBack hx hy1 hown hlink hinst hcode hy hK hg hsize (Steps.refl _) hlen hstack hW hdg (fun _ _ => ⟨ha, eT, hc, hs⟩)
  dsimp only [Pt.U, Pt.locs, Pt.cells, Pt.slots] at X' h1 h2 h3 st hQ
  subst h1 h2 h3
  exact Goes.step (fun t q => st.trans q) (k v T' L hQ X')
/-- an instance method, by the contract of the body that is selected -/
theorem Goes.callV (X : Stand p l e R s m args below meth c T locs cells slots) (hx : p.tables.exec = Jvm.exec) (hZ : Z.Warmed39 s.vm) {own C : String} {index : Nat} {y z : MethodName}
    (hown : s.vm.findClass own = some m.cls) (hlink : (Cond.methodLink own index y).before args s = true) (hdecl : (Cond.declares y).before args s = true) (hnf : NotFace s y)
    (hsel : (Cond.selects C y z).before args s = true) (hinst : (Cond.instanceMethod z).before args s = true)
    (hy : y.cls ≠ "java/lang/invoke/MethodHandle" ∧ y.cls ≠ "java/lang/invoke/VarHandle")
    {W : Nat} {as' : Array Value} {Qc : Option Value → Heap → List Loc → Prop} {kc' ks' : Nat}
    (hK : Back l R p e below s args z 3 W (fun A a => a = as' ∧ A.U.heap = h ∧ A.cells + kc' ≤ R.cells ∧ A.slots + ks' ≤ R.slots) (fun A _ v B => ∃ L, Qc v B.U.heap L ∧ B.locs = A.locs ++ L ∧ B.cells = A.cells + kc' ∧ B.slots = A.slots + ks'))
    {b : Addr} (eT : T.heap = h) (E : Exa Z h b C)
    (hg : g.method = m) (hsize : g.locals.size = c.maxLocals) {argsL rest : List Value} (hlen : ∀ sig, parseMethodDescriptor y.desc = some sig → argsL.length = sig.parameters.length)
    (hstack : g.stack = argsL.reverse ++ .ref b :: rest) (hW : 2 * g.monitorRoom + (rest.map fun v => v.category).sum ≤ W) (hdg : decode c.code g.pc = .ok (.invokevirtual index, 3)) (ha : (.ref b :: argsL).toArray = as') (hc : cells + kc' ≤ R.cells) (hs : slots + ks' ≤ R.slots)
    (k : ∀ (v : Option Value) (T' : State) (L : List Loc), Qc v T'.heap L → Stand p l e R s m args below meth c T' (locs ++ L) (cells + kc') (slots + ks') → Goes p e below F T' { g with pc := g.pc + 3, stack := v.toList ++ rest }) : Goes p e below F T g := by
  obtain ⟨cq, kq, qa, qb, qc⟩ := isOf hZ eT E
  obtain ⟨v, vm₁, ⟨T', L', k', n'⟩, -, X', ⟨L, hQ, h1, h2, h3⟩, st⟩ := X.virtualBack hx hown hlink hdecl hnf hsel hinst hy hK qa qc hg hsize (Steps.refl _) hlen hstack hW hdg (fun _ _ => ⟨ha, eT, hc, hs⟩)
  dsimp only [Pt.U, Pt.locs, Pt.cells, Pt.slots] at X' h1 h2 h3 st hQ
  subst h1 h2 h3
  exact Goes.step (fun t q => st.trans q) (k v T' L hQ X')
/-- a private method called by invokevirtual -/
theorem Goes.callP (X : Stand p l e R s m args below meth c T locs cells slots) (hx : p.tables.exec = Jvm.exec) {own C : String} {index : Nat} {y : MethodName} {bytes : ByteArray} {maxL : Nat} {ret : Option FieldType}
    (hown : s.vm.findClass own = some m.cls) (hlink : (Cond.methodLink own index y).before args s = true) (hinst : (Cond.instanceMethod y).before args s = true) (hsel : (Cond.selects y.cls y y).before args s = true)
    (hpriv : s.PrivateAt y) (hcode : (Cond.code y bytes maxL ret).before args s = true)
    (hy : y.cls ≠ "java/lang/invoke/MethodHandle" ∧ y.cls ≠ "java/lang/invoke/VarHandle")
    {W : Nat} {as' : Array Value} {Qc : Option Value → Heap → List Loc → Prop} {kc' ks' : Nat}
    (hK : Back l R p e below s args y 3 W (fun A a => a = as' ∧ A.U.heap = h ∧ A.cells + kc' ≤ R.cells ∧ A.slots + ks' ≤ R.slots) (fun A _ v B => ∃ L, Qc v B.U.heap L ∧ B.locs = A.locs ++ L ∧ B.cells = A.cells + kc' ∧ B.slots = A.slots + ks'))
    {b : Addr} (eT : T.heap = h) (E : Exa Z h b C)
    (hg : g.method = m) (hsize : g.locals.size = c.maxLocals) {argsL rest : List Value} (hlen : ∀ sig, parseMethodDescriptor y.desc = some sig → argsL.length = sig.parameters.length)
    (hstack : g.stack = argsL.reverse ++ .ref b :: rest) (hW : 2 * g.monitorRoom + (rest.map fun v => v.category).sum ≤ W) (hdg : decode c.code g.pc = .ok (.invokevirtual index, 3)) (ha : (.ref b :: argsL).toArray = as') (hc : cells + kc' ≤ R.cells) (hs : slots + ks' ≤ R.slots)
    (k : ∀ (v : Option Value) (T' : State) (L : List Loc), Qc v T'.heap L → Stand p l e R s m args below meth c T' (locs ++ L) (cells + kc') (slots + ks') → Goes p e below F T' { g with pc := g.pc + 3, stack := v.toList ++ rest }) : Goes p e below F T g := by
  obtain ⟨cq, q1, q2⟩ := E.cell
  obtain ⟨v, vm₁, ⟨T', L', k', n'⟩, -, X', ⟨L, hQ, h1, h2, h3⟩, st⟩ := X.privateBack hx hown hlink hinst hsel hpriv hcode hy hK hg hsize (Steps.refl _) (by rw [eT]; exact q1) q2 hlen hstack hW hdg (fun _ _ => ⟨ha, eT, hc, hs⟩)
  dsimp only [Pt.U, Pt.locs, Pt.cells, Pt.slots] at X' h1 h2 h3 st hQ
  subst h1 h2 h3
  exact Goes.step (fun t q => st.trans q) (k v T' L hQ X')
/-- clone() of an array whose elements are known -/
theorem cloneV {a : Addr} {ty : FieldType} (X : Stand p l e R s m args below meth c T locs cells slots) (hx : p.tables.exec = Jvm.exec) (hZ : Z.Warmed39 s.vm) {own ad : String} {index : Nat} (hown : s.vm.findClass own = some m.cls)
    (w1 : (Cond.methodLink own index ⟨ad, "clone", "()Ljava/lang/Object;"⟩).before a0 Z = true) (w2 : (Cond.sameMethod ad "java/lang/Object" "clone" "()Ljava/lang/Object;").before a0 Z = true) (w3 : (Cond.native ⟨"java/lang/Object", "clone", "()Ljava/lang/Object;"⟩).before a0 Z = true)
    (w4 : (Cond.instanceMethod ⟨"java/lang/Object", "clone", "()Ljava/lang/Object;"⟩).before a0 Z = true) (w5 : (Cond.selects ad ⟨ad, "clone", "()Ljava/lang/Object;"⟩ ⟨"java/lang/Object", "clone", "()Ljava/lang/Object;"⟩).before a0 Z = true) (w6 : (Cond.castable ad "java/lang/Cloneable").before a0 Z = true)
    (eT : T.heap = h) {k : ClassId} {z : Int32} {vs : List Value} {dv : Value} (FA : Arv Z h a k ty z vs dv) (E : Exa Z h a ad) {g : JFrame} (hg : g.method = m) (hsize : g.locals.size = c.maxLocals) {rest : List Value} (hst : g.stack = .ref a :: rest) (hd : decode c.code g.pc = .ok (.invokevirtual index, 3))
    (hf : 1 ≤ R.frames) {W cap : Nat} (hW : 2 * g.monitorRoom + (rest.map fun v => v.category).sum ≤ W) (hl : W + 14 ≤ R.locals) (hcap : z.toNatClampNeg ≤ cap) (hc : cells + 1 ≤ R.cells) (hsl : slots + cap ≤ R.slots) :
    ∃ T' h', Stand p l e R s m args below meth c T' locs (cells + 1) (slots + cap) ∧ T'.heap = h' ∧ Ext h h' ∧ Arv Z h' h.size k ty z vs dv ∧ Exa Z h' h.size ad ∧
      ∀ target, Steps p.tables e below (T'.setTop { g with pc := g.pc + 3, stack := .ref h.size :: rest }) target → Steps p.tables e below (T.setTop g) target := by
  obtain ⟨cl, A, q1, S, q3, H, G⟩ := FA
  have FC : FitC Z cl := fitC_of A fun i hi v hv => by rw [H i hi] at hv; cases hv; exact G i hi
  obtain ⟨T', h', X', e', ex, A', E', st⟩ := cloneA X hx hZ hown w1 w2 w3 w4 w5 w6 eT A E FC hg hsize hst hd hf hW hl (by rw [S]; exact hcap) hc hsl
  exact ⟨T', h', X', e', ex, ⟨cloneOf cl, A', q1, S, q3, H, G⟩, E', st⟩
end Own
end Jvm.RoadKit
namespace Jvm.RoadKit
open Sem ClassFile Op Lib Jvm.Stand Jvm.Free Jvm.LawKit
namespace P1
section P1
variable {p : Program} {e : Env} {below : List Frame} {F : Option Value → State → Prop} {T : State} {m : MethodId} {c : Code} {pc : Nat} {Ls : Array Slot} {S : List Value}
theorem aloadN (h : At T m c below) (hx : p.tables.exec = Jvm.exec) {k : Fin 4} {v : Value} (hd : decode c.code pc = .ok (.aload_n k, 1)) (hl : Ls[k.val]? = some (.val v)) (hv : v.isRef = true) (hr : Goes p e below F T (mkF m (pc + 1) Ls (v :: S))) : Goes p e below F T (mkF m pc Ls (S)) := Goes.step (fun t k => XS.aloadN h hx rfl hd hl hv k) hr
theorem aload (h : At T m c below) (hx : p.tables.exec = Jvm.exec) {k : Nat} {v : Value} (hd : decode c.code pc = .ok (.aload k, 2)) (hl : Ls[k]? = some (.val v)) (hv : v.isRef = true) (hr : Goes p e below F T (mkF m (pc + 2) Ls (v :: S))) : Goes p e below F T (mkF m pc Ls (S)) := Goes.step (fun t k => XS.aload h hx rfl hd hl hv k) hr
theorem iloadN (h : At T m c below) (hx : p.tables.exec = Jvm.exec) {k : Fin 4} {v : Int32} (hd : decode c.code pc = .ok (.iload_n k, 1)) (hl : Ls[k.val]? = some (.val (.int v))) (hr : Goes p e below F T (mkF m (pc + 1) Ls ((.int v) :: S))) : Goes p e below F T (mkF m pc Ls (S)) := Goes.step (fun t k => XS.iloadN h hx rfl hd hl k) hr
theorem iload (h : At T m c below) (hx : p.tables.exec = Jvm.exec) {k : Nat} {v : Int32} (hd : decode c.code pc = .ok (.iload k, 2)) (hl : Ls[k]? = some (.val (.int v))) (hr : Goes p e below F T (mkF m (pc + 2) Ls ((.int v) :: S))) : Goes p e below F T (mkF m pc Ls (S)) := Goes.step (fun t k => XS.iload h hx rfl hd hl k) hr
theorem lloadN (h : At T m c below) (hx : p.tables.exec = Jvm.exec) {k : Fin 4} {v : Int64} (hd : decode c.code pc = .ok (.lload_n k, 1)) (hl : Ls[k.val]? = some (.val (.long v))) (hr : Goes p e below F T (mkF m (pc + 1) Ls ((.long v) :: S))) : Goes p e below F T (mkF m pc Ls (S)) := Goes.step (fun t k => XS.lloadN h hx rfl hd hl k) hr
theorem lload (h : At T m c below) (hx : p.tables.exec = Jvm.exec) {k : Nat} {v : Int64} (hd : decode c.code pc = .ok (.lload k, 2)) (hl : Ls[k]? = some (.val (.long v))) (hr : Goes p e below F T (mkF m (pc + 2) Ls ((.long v) :: S))) : Goes p e below F T (mkF m pc Ls (S)) := Goes.step (fun t k => XS.lload h hx rfl hd hl k) hr
theorem astoreN (h : At T m c below) (hx : p.tables.exec = Jvm.exec) {k : Fin 4} {x : Value} (l' : Array Slot) (hd : decode c.code pc = .ok (.astore_n k, 1)) (hv : x.isRef = true) (hl : storeLocals Ls k.val x = some l') (hr : Goes p e below F T (mkF m (pc + 1) l' (S))) : Goes p e below F T (mkF m pc Ls (x :: S)) := Goes.step (fun t k => XS.astoreN h hx rfl hd rfl hv hl k) hr
theorem astore (h : At T m c below) (hx : p.tables.exec = Jvm.exec) {k : Nat} {x : Value} (l' : Array Slot) (hd : decode c.code pc = .ok (.astore k, 2)) (hv : x.isRef = true) (hl : storeLocals Ls k x = some l') (hr : Goes p e below F T (mkF m (pc + 2) l' (S))) : Goes p e below F T (mkF m pc Ls (x :: S)) := Goes.step (fun t k => XS.astore h hx rfl hd rfl hv hl k) hr
theorem istoreN (h : At T m c below) (hx : p.tables.exec = Jvm.exec) {k : Fin 4} {x : Int32} (l' : Array Slot) (hd : decode c.code pc = .ok (.istore_n k, 1)) (hl : storeLocals Ls k.val (.int x) = some l') (hr : Goes p e below F T (mkF m (pc + 1) l' (S))) : Goes p e below F T (mkF m pc Ls ((.int x) :: S)) := Goes.step (fun t k => XS.istoreN h hx rfl hd rfl hl k) hr
theorem istore (h : At T m c below) (hx : p.tables.exec = Jvm.exec) {k : Nat} {x : Int32} (l' : Array Slot) (hd : decode c.code pc = .ok (.istore k, 2)) (hl : storeLocals Ls k (.int x) = some l') (hr : Goes p e below F T (mkF m (pc + 2) l' (S))) : Goes p e below F T (mkF m pc Ls ((.int x) :: S)) := Goes.step (fun t k => XS.istore h hx rfl hd rfl hl k) hr
theorem lstoreN (h : At T m c below) (hx : p.tables.exec = Jvm.exec) {k : Fin 4} {x : Int64} (l' : Array Slot) (hd : decode c.code pc = .ok (.lstore_n k, 1)) (hl : storeLocals Ls k.val (.long x) = some l') (hr : Goes p e below F T (mkF m (pc + 1) l' (S))) : Goes p e below F T (mkF m pc Ls ((.long x) :: S)) := Goes.step (fun t k => XS.lstoreN h hx rfl hd rfl hl k) hr
theorem lstore (h : At T m c below) (hx : p.tables.exec = Jvm.exec) {k : Nat} {x : Int64} (l' : Array Slot) (hd : decode c.code pc = .ok (.lstore k, 2)) (hl : storeLocals Ls k (.long x) = some l') (hr : Goes p e below F T (mkF m (pc + 2) l' (S))) : Goes p e below F T (mkF m pc Ls ((.long x) :: S)) := Goes.step (fun t k => XS.lstore h hx rfl hd rfl hl k) hr
theorem iconst (h : At T m c below) (hx : p.tables.exec = Jvm.exec) (z : Int32) {i : Int} (hd : decode c.code pc = .ok (.iconst i, 1)) (hz : Int32.ofInt i = z) (hr : Goes p e below F T (mkF m (pc + 1) Ls (.int z :: S))) : Goes p e below F T (mkF m pc Ls S) := by subst hz; exact Goes.step (fun t k => XS.iconst h hx rfl hd k) hr
theorem bipush (h : At T m c below) (hx : p.tables.exec = Jvm.exec) (z : Int32) {i : Int} (hd : decode c.code pc = .ok (.bipush i, 2)) (hz : (Int8.ofInt i).toInt32 = z) (hr : Goes p e below F T (mkF m (pc + 2) Ls (.int z :: S))) : Goes p e below F T (mkF m pc Ls S) := by subst hz; exact Goes.step (fun t k => XS.bipush h hx rfl hd k) hr
theorem sipush (h : At T m c below) (hx : p.tables.exec = Jvm.exec) (z : Int32) {i : Int} (hd : decode c.code pc = .ok (.sipush i, 3)) (hz : (Int16.ofInt i).toInt32 = z) (hr : Goes p e below F T (mkF m (pc + 3) Ls (.int z :: S))) : Goes p e below F T (mkF m pc Ls S) := by subst hz; exact Goes.step (fun t k => XS.sipush h hx rfl hd k) hr
theorem aconstNull (h : At T m c below) (hx : p.tables.exec = Jvm.exec)  (hd : decode c.code pc = .ok (.aconst_null, 1)) (hr : Goes p e below F T (mkF m (pc + 1) Ls (.null :: S))) : Goes p e below F T (mkF m pc Ls (S)) := Goes.step (fun t k => XS.aconstNull h hx rfl hd k) hr
theorem dup (h : At T m c below) (hx : p.tables.exec = Jvm.exec) {x : Value} (hd : decode c.code pc = .ok (.dup, 1)) (hc : x.category = 1) (hr : Goes p e below F T (mkF m (pc + 1) Ls (x :: x :: S))) : Goes p e below F T (mkF m pc Ls (x :: S)) := Goes.step (fun t k => XS.dup h hx rfl hd rfl hc k) hr
theorem pop (h : At T m c below) (hx : p.tables.exec = Jvm.exec) {x : Value} (hd : decode c.code pc = .ok (.pop, 1)) (hc : x.category = 1) (hr : Goes p e below F T (mkF m (pc + 1) Ls (S))) : Goes p e below F T (mkF m pc Ls (x :: S)) := Goes.step (fun t k => XS.pop h hx rfl hd rfl hc k) hr
theorem goto (h : At T m c below) (hx : p.tables.exec = Jvm.exec) {o : Int} (pc' : Nat) (hd : decode c.code pc = .ok (.goto o, 3)) (ho : 0 ≤ (pc : Int) + o) (hp : ((pc : Int) + o).toNat = pc') (hr : Goes p e below F T (mkF m pc' Ls (S))) : Goes p e below F T (mkF m pc Ls (S)) := Goes.step (fun t k => XS.goto h hx rfl (pc0 := pc) rfl hd ho hp k) hr
theorem iadd (h : At T m c below) (hx : p.tables.exec = Jvm.exec) {x y : Int32} (hd : decode c.code pc = .ok (.iadd, 1)) (hr : Goes p e below F T (mkF m (pc + 1) Ls (.int (x + y) :: S))) : Goes p e below F T (mkF m pc Ls (.int y :: .int x :: S)) := Goes.step (fun t k => XS.iadd h hx rfl hd rfl k) hr
theorem isub (h : At T m c below) (hx : p.tables.exec = Jvm.exec) {x y : Int32} (hd : decode c.code pc = .ok (.isub, 1)) (hr : Goes p e below F T (mkF m (pc + 1) Ls (.int (x - y) :: S))) : Goes p e below F T (mkF m pc Ls (.int y :: .int x :: S)) := Goes.step (fun t k => XS.isub h hx rfl hd rfl k) hr
theorem imul (h : At T m c below) (hx : p.tables.exec = Jvm.exec) {x y : Int32} (hd : decode c.code pc = .ok (.imul, 1)) (hr : Goes p e below F T (mkF m (pc + 1) Ls (.int (x * y) :: S))) : Goes p e below F T (mkF m pc Ls (.int y :: .int x :: S)) := Goes.step (fun t k => XS.imul h hx rfl hd rfl k) hr
theorem iand (h : At T m c below) (hx : p.tables.exec = Jvm.exec) {x y : Int32} (hd : decode c.code pc = .ok (.iand, 1)) (hr : Goes p e below F T (mkF m (pc + 1) Ls (.int (x &&& y) :: S))) : Goes p e below F T (mkF m pc Ls (.int y :: .int x :: S)) := Goes.step (fun t k => XS.iand h hx rfl hd rfl k) hr
theorem ior (h : At T m c below) (hx : p.tables.exec = Jvm.exec) {x y : Int32} (hd : decode c.code pc = .ok (.ior, 1)) (hr : Goes p e below F T (mkF m (pc + 1) Ls (.int (x ||| y) :: S))) : Goes p e below F T (mkF m pc Ls (.int y :: .int x :: S)) := Goes.step (fun t k => XS.ior h hx rfl hd rfl k) hr
theorem ixor (h : At T m c below) (hx : p.tables.exec = Jvm.exec) {x y : Int32} (hd : decode c.code pc = .ok (.ixor, 1)) (hr : Goes p e below F T (mkF m (pc + 1) Ls (.int (x ^^^ y) :: S))) : Goes p e below F T (mkF m pc Ls (.int y :: .int x :: S)) := Goes.step (fun t k => XS.ixor h hx rfl hd rfl k) hr
theorem icmpNo (h : At T m c below) (hx : p.tables.exec = Jvm.exec) {cd : ClassFile.Cond} {o : Int} {x y : Int32} (hd : decode c.code pc = .ok (.if_icmp cd o, 3)) (hc : if_icmp.holds cd x y = false) (hr : Goes p e below F T (mkF m (pc + 3) Ls (S))) : Goes p e below F T (mkF m pc Ls (.int y :: .int x :: S)) := Goes.step (fun t k => XS.icmpNo h hx rfl hd rfl hc k) hr
theorem icmpYes (h : At T m c below) (hx : p.tables.exec = Jvm.exec) {cd : ClassFile.Cond} {o : Int} {x y : Int32} (pc' : Nat) (hd : decode c.code pc = .ok (.if_icmp cd o, 3)) (hc : if_icmp.holds cd x y = true) (ho : 0 ≤ (pc : Int) + o) (hp : ((pc : Int) + o).toNat = pc') (hr : Goes p e below F T (mkF m pc' Ls (S))) : Goes p e below F T (mkF m pc Ls (.int y :: .int x :: S)) := Goes.step (fun t k => XS.icmpYes h hx rfl (pc0 := pc) rfl hd rfl hc ho hp k) hr
theorem ifNo (h : At T m c below) (hx : p.tables.exec = Jvm.exec) {cd : ClassFile.Cond} {o : Int} {x : Int32} (hd : decode c.code pc = .ok (.ifCond cd o, 3)) (hc : ifCond.holds cd x = false) (hr : Goes p e below F T (mkF m (pc + 3) Ls (S))) : Goes p e below F T (mkF m pc Ls (.int x :: S)) := Goes.step (fun t k => XS.ifNo h hx rfl hd rfl hc k) hr
theorem ifYes (h : At T m c below) (hx : p.tables.exec = Jvm.exec) {cd : ClassFile.Cond} {o : Int} {x : Int32} (pc' : Nat) (hd : decode c.code pc = .ok (.ifCond cd o, 3)) (hc : ifCond.holds cd x = true) (ho : 0 ≤ (pc : Int) + o) (hp : ((pc : Int) + o).toNat = pc') (hr : Goes p e below F T (mkF m pc' Ls (S))) : Goes p e below F T (mkF m pc Ls (.int x :: S)) := Goes.step (fun t k => XS.ifYes h hx rfl (pc0 := pc) rfl hd rfl hc ho hp k) hr
theorem ifnullNo (h : At T m c below) (hx : p.tables.exec = Jvm.exec) {o : Int} {b : Addr} (hd : decode c.code pc = .ok (.ifnull o, 3)) (hr : Goes p e below F T (mkF m (pc + 3) Ls (S))) : Goes p e below F T (mkF m pc Ls (.ref b :: S)) := Goes.step (fun t k => XS.ifnullNo h hx rfl hd rfl k) hr
theorem ifnullYes (h : At T m c below) (hx : p.tables.exec = Jvm.exec) {o : Int} (pc' : Nat) (hd : decode c.code pc = .ok (.ifnull o, 3)) (ho : 0 ≤ (pc : Int) + o) (hp : ((pc : Int) + o).toNat = pc') (hr : Goes p e below F T (mkF m pc' Ls (S))) : Goes p e below F T (mkF m pc Ls (.null :: S)) := Goes.step (fun t k => XS.ifnullYes h hx rfl (pc0 := pc) rfl hd rfl ho hp k) hr
theorem ifnonnullNo (h : At T m c below) (hx : p.tables.exec = Jvm.exec) {o : Int} (hd : decode c.code pc = .ok (.ifnonnull o, 3)) (hr : Goes p e below F T (mkF m (pc + 3) Ls (S))) : Goes p e below F T (mkF m pc Ls (.null :: S)) := Goes.step (fun t k => XS.ifnonnullNo h hx rfl hd rfl k) hr
theorem ifnonnullYes (h : At T m c below) (hx : p.tables.exec = Jvm.exec) {o : Int} {b : Addr} (pc' : Nat) (hd : decode c.code pc = .ok (.ifnonnull o, 3)) (ho : 0 ≤ (pc : Int) + o) (hp : ((pc : Int) + o).toNat = pc') (hr : Goes p e below F T (mkF m pc' Ls (S))) : Goes p e below F T (mkF m pc Ls (.ref b :: S)) := Goes.step (fun t k => XS.ifnonnullYes h hx rfl (pc0 := pc) rfl hd rfl ho hp k) hr
theorem iinc (h : At T m c below) (hx : p.tables.exec = Jvm.exec) {k : Nat} {cs : Int} {x : Int32} (l' : Array Slot) (hd : decode c.code pc = .ok (.iinc k cs, 3)) (hl : Ls[k]? = some (.val (.int x))) (hl' : storeLocals Ls k (.int (x + Int32.ofInt cs)) = some l') (hr : Goes p e below F T (mkF m (pc + 3) l' (S))) : Goes p e below F T (mkF m pc Ls (S)) := Goes.step (fun t k => XS.iinc h hx rfl hd hl hl' k) hr
theorem i2b (h : At T m c below) (hx : p.tables.exec = Jvm.exec) {x : Int32} (hd : decode c.code pc = .ok (.i2b, 1)) (hr : Goes p e below F T (mkF m (pc + 1) Ls (.int (x.toInt8.toInt32) :: S))) : Goes p e below F T (mkF m pc Ls (.int x :: S)) := Goes.step (fun t k => XS.i2b h hx rfl hd rfl k) hr
theorem i2c (h : At T m c below) (hx : p.tables.exec = Jvm.exec) {x : Int32} (hd : decode c.code pc = .ok (.i2c, 1)) (hr : Goes p e below F T (mkF m (pc + 1) Ls (.int (x.toUInt32.toUInt16.toUInt32.toInt32) :: S))) : Goes p e below F T (mkF m pc Ls (.int x :: S)) := Goes.step (fun t k => XS.i2c h hx rfl hd rfl k) hr
theorem ishl (h : At T m c below) (hx : p.tables.exec = Jvm.exec) {x y : Int32} (hd : decode c.code pc = .ok (.ishl, 1)) (hr : Goes p e below F T (mkF m (pc + 1) Ls (.int (x <<< (y &&& 31)) :: S))) : Goes p e below F T (mkF m pc Ls (.int y :: .int x :: S)) := Goes.step (fun t k => XS.ishl h hx rfl hd rfl k) hr
theorem ishr (h : At T m c below) (hx : p.tables.exec = Jvm.exec) {x y : Int32} (hd : decode c.code pc = .ok (.ishr, 1)) (hr : Goes p e below F T (mkF m (pc + 1) Ls (.int (x >>> (y &&& 31)) :: S))) : Goes p e below F T (mkF m pc Ls (.int y :: .int x :: S)) := Goes.step (fun t k => XS.ishr h hx rfl hd rfl k) hr
end P1
end P1
end Jvm.RoadKit
namespace Jvm.RoadKit
open Sem ClassFile Op Lib Jvm.Stand Jvm.Free Jvm.LawKit
section OwnStart
variable {Z : State} {args : Array Value} {t u : Term} {a : Addr} {cl : Cell} {ty : FieldType} {v : Value}
theorem own_eqV (h : (Cond.eq t u).value args Z none Z [] = some true) (hu : u.eval args Z none [] Z = some v) (hv : (∃ z, v = .int z) ∨ v.isRef = true) : t.eval args Z none [] Z = some v := by
  cases ht : t.eval args Z none [] Z with
  | none => simp [Cond.value, ht] at h
  | some x =>
    rcases hv with ⟨z, rfl⟩ | hv
    · cases x <;> simp_all [Cond.value, Value.isRef]
    · cases x <;> cases v <;> simp_all [Cond.value, Value.isRef]
theorem own_len {n : Int32} (A : Arr Z Z.heap a cl ty) (ev : t.eval args Z none [] Z = some (.ref a)) (h : (Cond.eq (.length t) (.int n)).value args Z none Z [] = some true) : cl.slots.size < 2 ^ 31 ∧ cl.slots.size.toInt32 = n := by
  have q := own_eqV h (Term.int_eval n) (Or.inl ⟨_, rfl⟩)
  have harr := Arr.fin (U := Z) (Vm.Alike.refl _) A
  by_cases hl : cl.slots.size < 2 ^ 31
  · rw [len_f ev harr hl] at q
    exact ⟨hl, Value.int.inj (Option.some.inj q)⟩
  · simp [Term.eval, ev, harr, hl] at q
theorem own_elem {j : Int32} (A : Arr Z Z.heap a cl ty) (ev : t.eval args Z none [] Z = some (.ref a)) (h : (Term.elem t (.int j)).eval args Z none [] Z = some v) : cl.slots[j.toNatClampNeg]? = some v := (elem_in h ev (Term.int_eval j) A.1).2
theorem own_fld {C n d : String} (ev : t.eval args Z none [] Z = some (.ref a)) (h : (Term.field t C n d).eval args Z none [] Z = some v) : Fld Z Z.heap a C n d v := Fld.start ((fld_at ev).symm.trans h)
end OwnStart
end Jvm.RoadKit
namespace Jvm.RoadKit
open Sem ClassFile Op Lib Jvm.Stand Jvm.Free Jvm.LawKit
/-- a room by its four figures -/
abbrev rR (f c s l : Nat) : Room := { frames := f, cells := c, slots := s, locals := l }
/-- the law of a body: from these arguments and this heap it returns, and Q tells what -/
abbrev OwnLaw (l : Launch) (y : MethodName) (bytes : ByteArray) (maxL : Nat) (ret : Option FieldType) (ws : List Cond) (R : Room) (as : Array Value) (Z : State) (h0 : Heap) (Q : Option Value → Heap → List Loc → Prop) : Prop :=
  MetFree l y (head1 (Cond.code y bytes maxL ret :: ws) R) (fun aa U => aa = as ∧ Z.Warmed39 U.vm ∧ U.heap = h0) (fun _ _ _ _ _ => True) (fun _ U oo U' => ∃ vv LL, oo = .returned vv ∧ Q vv U'.heap LL ∧ FrameEnd U oo U' LL R.cells R.slots)
theorem own_enter {l : Launch} {y : MethodName} {bytes : ByteArray} {maxL : Nat} {ret : Option FieldType} {ws : List Cond} {R : Room} {as : Array Value} {Z : State} {h0 : Heap} {Q : Option Value → Heap → List Loc → Prop} {Ls : Array Slot} (pf : plainFor y = true) (ef : ∀ m, entryFrame m as maxL = mkF m 0 Ls [])
    (k : ∀ (p : Program) (e : Env) (s : State) (m : MethodId) (below : List Frame) (meth : Method) (c : Code) (T : State), BodyLoose p l y (head1 (Cond.code y bytes maxL ret :: ws) R) bytes maxL ret e s m as below meth c T → p.tables.exec = Jvm.exec → c.code = bytes → c.maxLocals = maxL → Z.Warmed39 s.vm → s.vm.findClass y.cls = some m.cls → Stand p l e R s m as below meth c T [] 0 0 → T.heap = h0 → Goes p e below (EndQ s Q R.cells R.slots) T (mkF m 0 Ls [])) : OwnLaw l y bytes maxL ret ws R as Z h0 Q := by
  refine MetFree.of_bodySF pf hisR ?_
  intro p e s m args below meth c s₁ Bd hml hP hK
  obtain ⟨rfl, hZ, hh⟩ := hP
  refine Goes.give ?_
  rw [ef m]
  exact k p e s m below meth c s₁ Bd Bd.exec Bd.bytes hml hZ (findClass_of_methodNamed Bd.named) (Stand.of_body Bd) (by rw [← hh, Bd.state]; rfl)
section
variable {p : Program} {l : Launch} {e : Env} {R : Room} {s : State} {m : MethodId} {args : Array Value} {below : List Frame} {meth : Method} {c : Code} {T : State} {locs : List Loc} {cells slots : Nat} {F : Option Value → State → Prop} {Z : State} {a0 : Array Value} {h : Heap} {pc : Nat} {Ls : Array Slot} {S : List Value} {own : String} {index : Nat}
/-- a static call, paid by its law -/
theorem P1.callS (X : Stand p l e R s m args below meth c T locs cells slots) (hx : p.tables.exec = Jvm.exec) (hZ : Z.Warmed39 s.vm) {y : MethodName} {bytes : ByteArray} {maxL : Nat} {ret : Option FieldType} (hown : s.vm.findClass own = some m.cls)
    (w1 : (Cond.methodLink own index y).before a0 Z = true) (w2 : (Cond.static y).before a0 Z = true) (w3 : (Cond.initialized y.cls).before a0 Z = true) (w4 : (Cond.code y bytes maxL ret).before a0 Z = true) (hy : y.cls ≠ "java/lang/invoke/MethodHandle" ∧ y.cls ≠ "java/lang/invoke/VarHandle")
    {rm : Room} {as : Array Value} {Qc : Option Value → Heap → List Loc → Prop} (hM : OwnLaw l y bytes maxL ret [] rm as Z h Qc) {mL : Nat} (hml : c.maxLocals = mL) (argsL rest : List Value) (hlen : ∀ sig, parseMethodDescriptor y.desc = some sig → argsL.length = sig.parameters.length)
    (hS : S = argsL.reverse ++ rest) (hz : Ls.size = mL) (hd : decode c.code pc = .ok (.invokestatic index, 3)) (ha : argsL.toArray = as) (eT : T.heap = h) (hf : rm.frames + 1 ≤ R.frames) (hlo : (rest.map fun v => v.category).sum + (maxL + 11) + rm.locals ≤ R.locals) (hc : cells + rm.cells ≤ R.cells) (hs : slots + rm.slots ≤ R.slots)
    (k : ∀ (v : Option Value) (T' : State) (L : List Loc), Qc v T'.heap L → Stand p l e R s m args below meth c T' (locs ++ L) (cells + rm.cells) (slots + rm.slots) → Goes p e below F T' (mkF m (pc + 3) Ls (v.toList ++ rest))) : Goes p e below F T (mkF m pc Ls S) :=
  Goes.callS X hx hown (mvT hZ w1) (mvT hZ w2) (mvT hZ w3) (mvT hZ w4) hy (backOf hM hZ w4 w3 hf hlo) (g := mkF m pc Ls S) rfl (by rw [hml]; exact hz) hlen hS (by show 2 * 0 + _ ≤ _; exact Nat.le_of_eq (Nat.zero_add _)) hd ha eT hc hs k
theorem P1.ldcI (X : Stand p l e R s m args below meth c T locs cells slots) (hx : p.tables.exec = Jvm.exec) (hZ : Z.Warmed39 s.vm) {v : Int32} (hown : s.vm.findClass own = some m.cls) (w : (Cond.constant own index v).before a0 Z = true) (hd : decode c.code pc = .ok (.ldc index, 2)) (hr : Goes p e below F T (mkF m (pc + 2) Ls (.int v :: S))) : Goes p e below F T (mkF m pc Ls S) :=
  Goes.step (fun t k => X.ldcInt hx hown (mvT hZ w) (g := mkF m pc Ls S) rfl hd t k) hr
end
end Jvm.RoadKit
namespace Jvm.RoadKit
open Sem ClassFile Op Lib Jvm.Stand Jvm.Free Jvm.LawKit
section OwnW
variable {p : Program} {l : Launch} {e : Env} {R : Room} {s : State} {m : MethodId} {args : Array Value} {below : List Frame} {meth : Method} {c : Code} {T T' : State} {locs : List Loc} {cells slots : Nat} {Q : Option Value → Heap → List Loc → Prop} {F : Option Value → State → Prop} {kc ks : Nat} {g g' : JFrame} {Z : State} {a0 : Array Value} {h : Heap} {EL : List (String × Nat)} {vm0 : Vm} {k0 : Nat}
/-- the end of a body that may have interned constants of EL -/
def EndW (s Z : State) (EL : List (String × Nat)) (Q : Option Value → Heap → List Loc → Prop) (kc ks : Nat) (v : Option Value) (t : State) : Prop := ∃ L, Q v t.heap L ∧ CHr Z EL s.vm s.heap t.vm t.heap ∧ ReturnedEndW s (.returned v) t L kc ks
theorem Goes.giveW (h : Goes p e below (EndW s Z EL Q kc ks) T g) : ∃ s₂ o, Steps p.tables e below (T.setTop g) s₂ ∧ s₂.status = .running ∧ Ended s₂ below o ∧ ∃ v L, o = .returned v ∧ Q v s₂.heap L ∧ CHr Z EL s.vm s.heap s₂.vm s₂.heap ∧ ReturnedEndW s o s₂ L kc ks := by
  obtain ⟨s2, o, h1, h2, h3, v, rfl, L, h4, h5, h6⟩ := h
  exact ⟨s2, _, h1, h2, h3, v, L, rfl, h4, h5, h6⟩
theorem Goes.outW {v : Option Value} (X : Stand p l e R (s.setVm vm0) m args below meth c T locs cells slots) (hS : s.Since vm0 k0) (hk : k0 ≤ h.size) (hZ : Z.Warmed39 vm0) (hEL : EW Z a0 EL) (hC : CHr Z EL s.vm s.heap vm0 h) (eT : T.heap = h) (hlk : meth.locks = false) (hv : meth.sig.returnType = none → v = none) (hc : cells ≤ kc) (hs : slots ≤ ks) (hq : Q v h locs)
    (k : ∀ fs, (∀ (f : JFrame) (acts : List Action), f.method = m → f.locked = none → f.entered = [] → (doReturn e (T.setTop f) acts v).1 = T.setFrames fs) → Steps p.tables e below (T.setTop g) (T.setFrames fs)) : Goes p e below (EndW s Z EL Q kc ks) T g := by
  subst eT
  obtain ⟨fs, hr, hrun, hended, hE⟩ := X.leaveW hS hk (v := v) hv hlk
  have hC2 : CHr Z EL s.vm s.heap (T.setFrames fs).vm (T.setFrames fs).heap := hC.trans (show CHr Z EL vm0 T.heap T.vm T.heap from CHv.at X hZ hEL hC.1)
  exact ⟨_, _, k fs hr, hrun, hended, _, rfl, _, hq, hC2, ⟨hE.1, hE.2.1, hE.2.2.1, hE.2.2.2.mono hc hs⟩⟩
theorem Goes.retIW (X : Stand p l e R (s.setVm vm0) m args below meth c T locs cells slots) (hx : p.tables.exec = Jvm.exec) (hlk : meth.locks = false) (hS : s.Since vm0 k0) (hk : k0 ≤ h.size) (hZ : Z.Warmed39 vm0) (hEL : EW Z a0 EL) (hC : CHr Z EL s.vm s.heap vm0 h) (eT : T.heap = h) {pc : Nat} {Ls : Array Slot} {z : Int32} {rest : List Value} (hret : meth.sig.returnType = some .int) (hd : decode c.code pc = .ok (.ireturn, 1))
    (hc : cells ≤ kc) (hs : slots ≤ ks) (hq : Q (some (.int z)) h locs) : Goes p e below (EndW s Z EL Q kc ks) T (mkF m pc Ls (.int z :: rest)) :=
  Goes.outW X hS hk hZ hEL hC eT hlk (fun h => by rw [hret] at h; cases h) hc hs hq fun fs hr => RoadKit.retI X hx hret hd hr
theorem Goes.retNW (X : Stand p l e R (s.setVm vm0) m args below meth c T locs cells slots) (hx : p.tables.exec = Jvm.exec) (hlk : meth.locks = false) (hS : s.Since vm0 k0) (hk : k0 ≤ h.size) (hZ : Z.Warmed39 vm0) (hEL : EW Z a0 EL) (hC : CHr Z EL s.vm s.heap vm0 h) (eT : T.heap = h) {pc : Nat} {Ls : Array Slot} {z : Int32} {t : FieldType} {rest : List Value} (hret : meth.sig.returnType = some t) (ht : t = .boolean ∨ t = .byte ∨ t = .char ∨ t = .short) (hd : decode c.code pc = .ok (.ireturn, 1))
    (hc : cells ≤ kc) (hs : slots ≤ ks) (hq : Q (some (.int (nar t z))) h locs) : Goes p e below (EndW s Z EL Q kc ks) T (mkF m pc Ls (.int z :: rest)) :=
  Goes.outW X hS hk hZ hEL hC eT hlk (fun h => by rw [hret] at h; cases h) hc hs hq fun fs hr => RoadKit.retN X hx hret ht hd hr
theorem Goes.retAW (X : Stand p l e R (s.setVm vm0) m args below meth c T locs cells slots) (hx : p.tables.exec = Jvm.exec) (hlk : meth.locks = false) (hS : s.Since vm0 k0) (hk : k0 ≤ h.size) (hZ : Z.Warmed39 vm0) (hEL : EW Z a0 EL) (hC : CHr Z EL s.vm s.heap vm0 h) (eT : T.heap = h) {pc : Nat} {Ls : Array Slot} {w : Value} {t : FieldType} {rest : List Value} (hret : meth.sig.returnType = some t) (ht : t.isReference = true) (hw : w.isRef = true) (hd : decode c.code pc = .ok (.areturn, 1))
    (hc : cells ≤ kc) (hs : slots ≤ ks) (hq : Q (some w) h locs) : Goes p e below (EndW s Z EL Q kc ks) T (mkF m pc Ls (w :: rest)) :=
  Goes.outW X hS hk hZ hEL hC eT hlk (fun h => by rw [hret] at h; cases h) hc hs hq fun fs hr => RoadKit.retOut X hx hret (by cases w <;> cases t <;> first | rfl | (simp [FieldType.isReference] at ht) | (simp [Value.isRef] at hw)) (Or.inr (Or.inr (Or.inr (Or.inr ⟨rfl, ht, hw⟩)))) hd hr
theorem Goes.retVW (X : Stand p l e R (s.setVm vm0) m args below meth c T locs cells slots) (hx : p.tables.exec = Jvm.exec) (hlk : meth.locks = false) (hS : s.Since vm0 k0) (hk : k0 ≤ h.size) (hZ : Z.Warmed39 vm0) (hEL : EW Z a0 EL) (hC : CHr Z EL s.vm s.heap vm0 h) (eT : T.heap = h) {pc : Nat} {Ls : Array Slot} (hret : meth.sig.returnType = none) (hd : decode c.code pc = .ok (.return_, 1))
    (hc : cells ≤ kc) (hs : slots ≤ ks) (hq : Q none h locs) : Goes p e below (EndW s Z EL Q kc ks) T (mkF m pc Ls []) :=
  Goes.outW X hS hk hZ hEL hC eT hlk (fun _ => rfl) hc hs hq fun fs hr => X.returnOut hx hret hd hr
/-- what stands behind a call that may have interned -/
def AfterW (p : Program) (l : Launch) (e : Env) (R : Room) (s : State) (m : MethodId) (args : Array Value) (below : List Frame) (meth : Method) (c : Code) (Z : State) (EL : List (String × Nat)) (vm0 : Vm) (h : Heap) (own : String) (T' : State) (locs : List Loc) (cells slots : Nat) : Prop :=
  Stand p l e R (s.setVm T'.vm) m args below meth c T' locs cells slots ∧ s.Since T'.vm T'.heap.size ∧ Z.Warmed39 T'.vm ∧ T'.vm.findClass own = some m.cls ∧ CHr Z EL vm0 h T'.vm T'.heap
theorem AfterW.of {own : String} (hS : s.Since vm0 k0) (hk : k0 ≤ h.size) (eT : T.heap = h) (hZ : Z.Warmed39 vm0) (hown : vm0.findClass own = some m.cls) (X' : Stand p l e R ((s.setVm vm0).setVm T'.vm) m args below meth c T' locs cells slots) (hS' : (s.setVm vm0).Since T'.vm T'.heap.size) (hg : T.heap.size ≤ T'.heap.size) (hC : CHr Z EL vm0 h T'.vm T'.heap) : AfterW p l e R s m args below meth c Z EL vm0 h own T' locs cells slots := by
  subst eT
  exact ⟨X', hS.trans hS' (Nat.le_trans hk hg), State.Warmed39.trans (t := s.setVm vm0) hZ hS'.1, by rw [hS'.1.alike.findClass]; exact hown, hC⟩
/-- a static call of a callee that may intern -/
theorem Goes.callSW (X : Stand p l e R (s.setVm vm0) m args below meth c T locs cells slots) (hx : p.tables.exec = Jvm.exec) {own : String} {index : Nat} {y : MethodName} {bytes : ByteArray} {maxL : Nat} {ret : Option FieldType} (hS : s.Since vm0 k0) (hk : k0 ≤ h.size) (hZ : Z.Warmed39 vm0)
    (hown : vm0.findClass own = some m.cls) (hlink : (Cond.methodLink own index y).before args (s.setVm vm0) = true) (hstat : (Cond.static y).before args (s.setVm vm0) = true) (hinit : (Cond.initialized y.cls).before args (s.setVm vm0) = true)
    (hcode : (Cond.code y bytes maxL ret).before args (s.setVm vm0) = true) (hy : y.cls ≠ "java/lang/invoke/MethodHandle" ∧ y.cls ≠ "java/lang/invoke/VarHandle")
    {W : Nat} {as' : Array Value} {Qc : Option Value → Heap → List Loc → Prop} {kc' ks' : Nat}
    (hK : BackS l R p e below (s.setVm vm0) args y 3 W (fun A a => a = as' ∧ A.U.heap = h ∧ A.cells + kc' ≤ R.cells ∧ A.slots + ks' ≤ R.slots) (fun A _ v B => ∃ L, Qc v B.U.heap L ∧ B.locs = A.locs ++ L ∧ B.cells = A.cells + kc' ∧ B.slots = A.slots + ks' ∧ CHr Z EL vm0 h B.U.vm B.U.heap))
    (hg : g.method = m) (hsize : g.locals.size = c.maxLocals) {argsL rest : List Value} (hlen : ∀ sig, parseMethodDescriptor y.desc = some sig → argsL.length = sig.parameters.length)
    (hstack : g.stack = argsL.reverse ++ rest) (hW : 2 * g.monitorRoom + (rest.map fun v => v.category).sum ≤ W) (hdg : decode c.code g.pc = .ok (.invokestatic index, 3)) (ha : argsL.toArray = as') (eT : T.heap = h) (hc : cells + kc' ≤ R.cells) (hs : slots + ks' ≤ R.slots)
    (k : ∀ (v : Option Value) (T' : State) (L : List Loc), Qc v T'.heap L → AfterW p l e R s m args below meth c Z EL vm0 h own T' (locs ++ L) (cells + kc') (slots + ks') → Goes p e below F T' { g with pc := g.pc + 3, stack := v.toList ++ rest }) : Goes p e below F T g := by
  obtain ⟨v, vm₁, ⟨T', L', k', n'⟩, -, X', hS', hgr, ⟨L, hQ, h1, h2, h3, hC⟩, st⟩ := callSS X hx hown hlink hstat hinit hcode hy hK hg hsize hlen hstack hW hdg (fun _ _ => ⟨ha, eT, hc, hs⟩)
  dsimp only [Pt.U, Pt.locs, Pt.cells, Pt.slots] at X' h1 h2 h3 st hQ hS' hgr hC
  subst h1 h2 h3
  exact Goes.step (fun t q => st.trans q) (k v T' L hQ (AfterW.of hS hk eT hZ hown X' hS' hgr hC))
/-- a constructor that may intern -/
theorem Goes.callCW (X : Stand p l e R (s.setVm vm0) m args below meth c T locs cells slots) (hx : p.tables.exec = Jvm.exec) {own : String} {index : Nat} {y : MethodName} {bytes : ByteArray} {maxL : Nat} (hS : s.Since vm0 k0) (hk : k0 ≤ h.size) (hZ : Z.Warmed39 vm0) (hy1 : y.name = "<init>")
    (hown : vm0.findClass own = some m.cls) (hlink : (Cond.methodLink own index y).before args (s.setVm vm0) = true) (hinst : (Cond.instanceMethod y).before args (s.setVm vm0) = true) (hcode : (Cond.code y bytes maxL none).before args (s.setVm vm0) = true)
    (hy : y.cls ≠ "java/lang/invoke/MethodHandle" ∧ y.cls ≠ "java/lang/invoke/VarHandle")
    {W : Nat} {as' : Array Value} {Qc : Option Value → Heap → List Loc → Prop} {kc' ks' : Nat}
    (hK : BackS l R p e below (s.setVm vm0) args y 3 W (fun A a => a = as' ∧ A.U.heap = h ∧ A.cells + kc' ≤ R.cells ∧ A.slots + ks' ≤ R.slots) (fun A _ v B => ∃ L, Qc v B.U.heap L ∧ B.locs = A.locs ++ L ∧ B.cells = A.cells + kc' ∧ B.slots = A.slots + ks' ∧ CHr Z EL vm0 h B.U.vm B.U.heap))
    (hg : g.method = m) (hsize : g.locals.size = c.maxLocals) {a : Addr} {argsL rest : List Value} (hlen : ∀ sig, parseMethodDescriptor y.desc = some sig → argsL.length = sig.parameters.length)
    (hstack : g.stack = argsL.reverse ++ .ref a :: rest) (hW : 2 * g.monitorRoom + (rest.map fun v => v.category).sum ≤ W) (hdg : decode c.code g.pc = .ok (.invokespecial index, 3)) (ha : (.ref a :: argsL).toArray = as') (eT : T.heap = h) (hc : cells + kc' ≤ R.cells) (hs : slots + ks' ≤ R.slots)
    (k : ∀ (v : Option Value) (T' : State) (L : List Loc), Qc v T'.heap L → AfterW p l e R s m args below meth c Z EL vm0 h own T' (locs ++ L) (cells + kc') (slots + ks') → Goes p e below F T' { g with pc := g.pc + 3, stack := v.toList ++ rest }) : Goes p e below F T g := by
  obtain ⟨v, vm₁, ⟨T', L', k', n'⟩, -, X', hS', hgr, ⟨L, hQ, h1, h2, h3, hC⟩, st⟩ := X.specialBackS hx hy1 hown hlink hinst hcode hy hK hg hsize (Steps.refl _) hlen hstack hW hdg (fun _ _ => ⟨ha, eT, hc, hs⟩)
  dsimp only [Pt.U, Pt.locs, Pt.cells, Pt.slots] at X' h1 h2 h3 st hQ hS' hgr hC
  subst h1 h2 h3
  exact Goes.step (fun t q => st.trans q) (k v T' L hQ (AfterW.of hS hk eT hZ hown X' hS' hgr hC))
/-- an instance method that may intern -/
theorem Goes.callVW (X : Stand p l e R (s.setVm vm0) m args below meth c T locs cells slots) (hx : p.tables.exec = Jvm.exec) {own C : String} {index : Nat} {y z : MethodName} (hS : s.Since vm0 k0) (hk : k0 ≤ h.size) (hZ : Z.Warmed39 vm0)
    (hown : vm0.findClass own = some m.cls) (hlink : (Cond.methodLink own index y).before args (s.setVm vm0) = true) (hdecl : (Cond.declares y).before args (s.setVm vm0) = true) (hnf : NotFace (s.setVm vm0) y)
    (hsel : (Cond.selects C y z).before args (s.setVm vm0) = true) (hinst : (Cond.instanceMethod z).before args (s.setVm vm0) = true)
    (hy : y.cls ≠ "java/lang/invoke/MethodHandle" ∧ y.cls ≠ "java/lang/invoke/VarHandle")
    {W : Nat} {as' : Array Value} {Qc : Option Value → Heap → List Loc → Prop} {kc' ks' : Nat}
    (hK : BackS l R p e below (s.setVm vm0) args z 3 W (fun A a => a = as' ∧ A.U.heap = h ∧ A.cells + kc' ≤ R.cells ∧ A.slots + ks' ≤ R.slots) (fun A _ v B => ∃ L, Qc v B.U.heap L ∧ B.locs = A.locs ++ L ∧ B.cells = A.cells + kc' ∧ B.slots = A.slots + ks' ∧ CHr Z EL vm0 h B.U.vm B.U.heap))
    {b : Addr} (eT : T.heap = h) (E : Exa Z h b C)
    (hg : g.method = m) (hsize : g.locals.size = c.maxLocals) {argsL rest : List Value} (hlen : ∀ sig, parseMethodDescriptor y.desc = some sig → argsL.length = sig.parameters.length)
    (hstack : g.stack = argsL.reverse ++ .ref b :: rest) (hW : 2 * g.monitorRoom + (rest.map fun v => v.category).sum ≤ W) (hdg : decode c.code g.pc = .ok (.invokevirtual index, 3)) (ha : (.ref b :: argsL).toArray = as') (hc : cells + kc' ≤ R.cells) (hs : slots + ks' ≤ R.slots)
    (k : ∀ (v : Option Value) (T' : State) (L : List Loc), Qc v T'.heap L → AfterW p l e R s m args below meth c Z EL vm0 h own T' (locs ++ L) (cells + kc') (slots + ks') → Goes p e below F T' { g with pc := g.pc + 3, stack := v.toList ++ rest }) : Goes p e below F T g := by
  obtain ⟨cq, kq, qa, qb, qc⟩ := isOf (s := s.setVm vm0) hZ eT E
  obtain ⟨v, vm₁, ⟨T', L', k', n'⟩, -, X', hS', hgr, ⟨L, hQ, h1, h2, h3, hC⟩, st⟩ := X.virtualBackS hx hown hlink hdecl hnf hsel hinst hy hK qa qc hg hsize (Steps.refl _) hlen hstack hW hdg (fun _ _ => ⟨ha, eT, hc, hs⟩)
  dsimp only [Pt.U, Pt.locs, Pt.cells, Pt.slots] at X' h1 h2 h3 st hQ hS' hgr hC
  subst h1 h2 h3
  exact Goes.step (fun t q => st.trans q) (k v T' L hQ (AfterW.of hS hk eT hZ hown X' hS' hgr hC))
end OwnW
end Jvm.RoadKit
namespace Jvm.RoadKit
open Sem ClassFile Op Lib Bundle Jvm.Stand Jvm.Free Jvm.LawKit Jvm.Free.SB Jvm.Free.SBG
section OwnLdcW
variable {p : Program} {l : Launch} {e : Env} {R : Room} {s : State} {m : MethodId} {args : Array Value} {below : List Frame} {meth : Method} {c : Code} {T : State} {locs : List Loc} {cells slots : Nat} {Z : State} {a0 : Array Value} {EL : List (String × Nat)} {h : Heap} {vm0 : Vm} {own text : String} {index i : Nat} {g : JFrame} {k k' : Class} {cf : ClassFile} {us : Array UInt16} {a : Addr}
/-- a class file's entry index: the String of the units us, the text's -/
def OwnEnt (cf : ClassFile) (index i : Nat) (us : Array UInt16) (text : String) : Prop := cf.constantPool[index]? = some (.string i) ∧ cf.constantPool[i]? = some (.utf8 us) ∧ namesOf? cf.constantPool index = some (.string text)
/-- the entry, at the start and now: resolved by now, or open at both -/
theorem own_ent (X : Stand p l e R s m args below meth c T locs cells slots) (hown : s.vm.findClass own = some m.cls) (w : (Cond.stringLink own index text).before args s = true) : ∃ k k' cf i us, (s.vm.classes[m.cls]? = some k ∧ k.cf = some cf) ∧ (T.vm.classes[m.cls]? = some k' ∧ k'.cf = some cf) ∧ OwnEnt cf index i us text ∧ (stringBytes us).size ≤ 4 * text.toList.length ∧
    ((∃ a, k'.resolved[index]? = some (some (.string a))) ∨ (k.resolved[index]? = some none ∧ k'.resolved[index]? = some none)) := by
  obtain ⟨k, cf, i, us, hk, hcf, hc, hu, hn, ht, hr⟩ := Cond.stringLink_spec hown w
  obtain ⟨k', hk', he⟩ := X.warmed.alike.2.2 _ _ hk
  refine ⟨k, k', cf, i, us, ⟨hk, hcf⟩, ⟨hk', by rw [he]; exact hcf⟩, ⟨hc, hu, hn⟩, text_bytes_le ht, ?_⟩
  rcases X.warmed.wide.entry hk hk' index with e0 | ⟨-, r, e1, q | ⟨a, t, rfl, -⟩⟩
  · rw [e0]
    rcases hr with q | q
    · exact Or.inr ⟨q, q⟩
    · exact Or.inl q
  · cases r <;> simp [State.rightAt, hk, hcf, hn] at q
  · exact Or.inl ⟨a, e1⟩
/-- the open entry noted, in tables that have the units interned -/
theorem own_noted {U : State} {vm1 : Vm} {d : ClassId} (W : U.Warmed39 vm1) (hk : U.vm.classes[d]? = some k) (hcf : k.cf = some cf) (E : OwnEnt cf index i us text) (ho : k.resolved[index]? = some none) (hf : vm1.interned.find? (fun p => p.1 == us) = some (us, a)) : U.Warmed39 (vm1.noted d index (.string a)) :=
  W.notedString hk (Or.inl ho) (by rw [hcf]; exact E.2.2) (by rw [hcf]; exact E.1) (by rw [hcf]; simp [ConstantPool.utf8?, E.2.1]) hf
theorem own_noted1 {vm1 : Vm} {d : ClassId} (hk : vm1.classes[d]? = some k) (ho : k.resolved[index]? = some none) : ∃ k₂, (vm1.noted d index (.string a)).classes[d]? = some k₂ ∧ k₂.resolved[index]? = some (some (.string a)) := ⟨_, Vm.classes_note_self index (.string a) hk, Class.resolved_note_self (.string a) ho⟩
/-- the step, where the entry is resolved -/
theorem own_stR (hh : At T g.method c below) (hx : p.tables.exec = Jvm.exec) (hd : decode c.code g.pc = .ok (.ldc_w index, 3)) (hk : T.vm.classes[g.method.cls]? = some k') (hcf : k'.cf = some cf) (E : OwnEnt cf index i us text) (hr : k'.resolved[index]? = some (some (.string a))) (t : State) (go : Steps p.tables e below (T.setTop { g with pc := g.pc + 3, stack := .ref a :: g.stack }) t) : Steps p.tables e below (T.setTop g) t := by
  jvm_step hh [hx, hd, ldc_w.wp_string (e := e) (s := T) (f := g) hh.top hk hcf E.1 hr]
  exact go
/-- .. where it is open and the units are interned -/
theorem own_stF (hh : At T g.method c below) (hx : p.tables.exec = Jvm.exec) (hd : decode c.code g.pc = .ok (.ldc_w index, 3)) (hk : T.vm.classes[g.method.cls]? = some k') (hcf : k'.cf = some cf) (E : OwnEnt cf index i us text) (ho : k'.resolved[index]? = some none) (hf : T.vm.interned.find? (fun p => p.1 == us) = some (us, a)) (t : State) (go : Steps p.tables e below ((T.setVm (T.vm.noted g.method.cls index (.string a))).setTop { g with pc := g.pc + 3, stack := .ref a :: g.stack }) t) : Steps p.tables e below (T.setTop g) t := by
  jvm_step hh [hx, hd, ldc_w.wp_string_found (e := e) (s := T) (f := g) hh.top hk hcf E.1 E.2.1 ho hf]
  exact go
/-- the tables behind a new String of the units at a -/
def ownVm (vm : Vm) (d : ClassId) (index : Nat) (us : Array UInt16) (a : Addr) : Vm := ({ vm with interned := vm.interned.push (us, a) } : Vm).noted d index (.string a)
/-- .. where they are not: two new cells -/
theorem own_stN {Y : StringT} (X : Stand p l e R s m args below meth c T locs cells slots) (hh : At T g.method c below) (hx : p.tables.exec = Jvm.exec) (hd : decode c.code g.pc = .ok (.ldc_w index, 3)) (hk : T.vm.classes[g.method.cls]? = some k') (hcf : k'.cf = some cf) (E : OwnEnt cf index i us text) (ho : k'.resolved[index]? = some none) (hf : T.vm.interned.find? (fun p => p.1 == us) = none)
    (LY : Y.Laid T.vm) (n4 : Y.kS.instanceTypes.size = 4) (fv : ∀ x, T.fitsSlot Y.cS .none Y.fv.slot (.ref x) = true) (fc : ∀ u, T.fitsSlot Y.cS .none Y.fc.slot (.int (stringCoder u)) = true) {n : Nat} (hn : (stringBytes us).size ≤ n) (hb : n ≤ 536870912) (hc2 : cells + 2 ≤ R.cells) (hs2 : slots + (n + 4) ≤ R.slots) (t : State)
    (go : Steps p.tables e below (((withString T Y.cB Y.cS Y.kS Y.fv Y.fc us).setVm (ownVm T.vm g.method.cls index us (T.heap.size + 1))).setTop { g with pc := g.pc + 3, stack := .ref (T.heap.size + 1) :: g.stack }) t) : Steps p.tables e below (T.setTop g) t := by
  have t1 : (withString T Y.cB Y.cS Y.kS Y.fv Y.fc us).topJava?.isSome := by simpa [withString] using hh.top
  have t2 : ((withString T Y.cB Y.cS Y.kS Y.fv Y.fc us).setVm (({ T.vm with interned := T.vm.interned.push (us, T.heap.size + 1) } : Vm).noted g.method.cls index (.string (T.heap.size + 1)))).topJava?.isSome := by simpa using t1
  have sl := X.slotsAbove hs2
  refine Steps.instr (c := _) (by simpa using hh) ?_
  simp [jvm, wpRun, exec, hx, hd]
  refine ldc_w.wp_string_new (e := e) (s := T) (f := g) hh.top hk hcf E.1 E.2.1 ho hf LY.found LY.cls LY.initialized LY.ordinary LY.foundB LY.clsB LY.kindB LY.value LY.coder
    (by rw [Launch.admits_arrayLengthLimit X.admits]; omega) (by rw [Launch.admits_maxHeapBytes X.admits]; simp only [componentBytes]; omega) (X.cellsAbove hc2) (by rw [n4]; omega) (stringBytes_fit LY.clsB LY.kindB us) LY.valueSlot LY.coderSlot (fv _) (fc _) fun _ _ => ?_
  intro
  simp [jvm, afterInstr, t1, t2]
  rw [State.modifyTopJava_setTop]
  exact go
/-- two cells pushed: what lies below stays, and what lies there -/
theorem own_push2 {hp : Heap} {c1 c2 : Cell} : Ext hp ((hp.push c1).push c2) ∧ ((hp.push c1).push c2)[hp.size]? = some c1 ∧ ((hp.push c1).push c2)[hp.size + 1]? = some c2 ∧ ((hp.push c1).push c2).size = hp.size + 2 := by
  refine ⟨ext_of fun a0 h0 => ?_, ?_, ?_, by simp⟩
  · rw [Array.getElem?_push_lt (by rw [Array.size_push]; omega), Array.getElem_push_lt h0]; exact (Array.getElem?_eq_getElem h0).symm
  · rw [Array.getElem?_push_lt (by rw [Array.size_push]; omega), Array.getElem_push_eq]
  · rw [show hp.size + 1 = (hp.push c1).size by simp, Array.getElem?_push_size]
end OwnLdcW
/-- a booked constant of the list, read off the invariant -/
theorem own_litRead {Z : State} {vm : Vm} {h : Heap} {a0 : Array Value} {EL : List (String × Nat)} {own text : String} {index : Nat} {cl : ClassId} {kc : Class} {a : Addr} (hW : Z.Warmed39 vm) (w : (Cond.stringLink own index text).before a0 Z = true) (hmem : (own, index) ∈ EL) (H : CHv Z EL vm h)
    (hf : vm.findClass own = some cl) (hk : vm.classes[cl]? = some kc) (hr : kc.resolved[index]? = some (some (.string a)))
    {vs : List Value} {z : Int32} (ht : (∀ c ∈ text.toList, c.toNat < 256) ∧ text.toList.map (fun c => Value.int (Jvm.Lit.byteI c.toNat.toUInt16)) = vs) (hz : ¬ z < 0) (hl : z.toNatClampNeg = vs.length) :
    ∃ b k, Exa Z h a "java/lang/String" ∧ Fld Z h a "java/lang/String" "coder" "B" (.int 0) ∧ Fld Z h a "java/lang/String" "value" "[B" (.ref b) ∧ Arv Z h b k .byte z vs (.int 0) ∧ a < h.size ∧ b < h.size ∧ (∀ x, Safe Z EL vm h x → x ≠ a ∧ x ≠ b) := by
  have al : Z.vm.Alike vm := hW.alike
  obtain ⟨k1, cf, i, us, e1, e2, e3, e4, -, htext, -⟩ := Cond.stringLink_spec (s := Wst Z vm h) hf (mvS (s := { Z with heap := h }) hW w : (Cond.stringLink own index text).before a0 (Wst Z vm h) = true)
  obtain rfl : kc = k1 := Option.some.inj (hk.symm.trans e1)
  have bk : Booksv vm own index us a := ⟨cl, kc, cf, i, hf, hk, e2, e3, e4, Or.inl hr⟩
  obtain ⟨q, rfl, F⟩ := SlB.of (H _ hmem us a bk)
  have ne : ∀ x, Safe Z EL vm h x → x ≠ q.sa ∧ x ≠ q.sd := fun x S => ⟨fun e => S ⟨_, hmem, us, _, bk, q, rfl, F, Or.inl e⟩, fun e => S ⟨_, hmem, us, _, bk, q, rfl, F, Or.inr e⟩⟩
  obtain ⟨cS, ⟨⟨s1, s2, s3, ⟨cv, kv, iv, s4, s4'⟩, ⟨cc, kc, ic, s5, s5'⟩, s6, s7, s8, s9, s10, ⟨st, k9, hk9, cp, kd⟩, s12, s13, s14, s15, s16⟩, hfS, hcS⟩, ⟨kS, g1, g2, g3⟩, hB, hby⟩ := F
  have hB : vm.findClass "[B" = some q.SA.cls := hB
  have hk9 : vm.classes[q.SA.cls]? = some k9 := hk9
  have g1 : vm.classes[cS]? = some kS := g1
  obtain ⟨kv', z4⟩ := ff_back (U := Wst Z vm h) al s4
  obtain ⟨kc', z5⟩ := ff_back (U := Wst Z vm h) al s5
  have fZ : Z.vm.findClass "java/lang/String" = some q.sC.cls := by rw [← al.findClass, hcS]; exact hfS
  obtain ⟨kz, y1, -⟩ := Vm.findClass_spec fZ
  obtain ⟨kz', y2, y3⟩ := al.2.2 _ _ y1
  obtain rfl : kz' = kS := Option.some.inj (y2.symm.trans (hcS ▸ g1))
  have fB : Z.vm.findClass "[B" = some q.SA.cls := by rw [← al.findClass]; exact hB
  obtain ⟨kb, x1, -⟩ := Vm.findClass_spec fB
  obtain ⟨kb', x2, x3⟩ := al.2.2 _ _ x1
  obtain rfl : k9 = kb' := Option.some.inj (hk9.symm.trans x2)
  have lat := Jvm.ClassFile.lat_of_text htext ht.1
  have eu : vs = us.toList.map fun u => Value.int (Jvm.Lit.byteI u) := by rw [← ht.2, Jvm.ClassFile.units_of_text htext ht.1, List.map_map]; rfl
  have sl : q.SA.slots = us.map fun u => Value.int (Jvm.Lit.byteI u) := by rw [hby, SBG.stringBytes_lat lat]; rfl
  have ls : vs.length = us.size := by rw [eu]; simp
  have hs : Has q.SA vs (.int 0) := fun j hj => by
    have hj' : j < us.size := by rw [sl, Array.size_map] at hj; exact hj
    rw [sl, eu]; simp [hj']
  refine ⟨q.sd, q.SA.cls, ⟨q.sC, kz, s1, fZ, y1, s3, fun _ => by rw [g3, y3]⟩, ⟨q.sC, cc, kc', ic, q.fSC, s1, z5, s7, s2, s3, by rw [← al.assignable]; exact s5', s9⟩, ⟨q.sC, cv, kv', iv, q.fSV, s1, z4, s6, s2, s3, by rw [← al.assignable]; exact s4', s8⟩,
    ⟨q.SA, ⟨s10, ⟨st, kb, x1, cp, by rw [x3] at kd; exact kd⟩, s12⟩, rfl, by rw [sl, Array.size_map, hl, ls], hz, hs, fun j hj => ?_⟩, (Array.getElem?_eq_some_iff.mp s1).1, (Array.getElem?_eq_some_iff.mp s10).1, ne⟩
  have a1 := s16 j hj
  rw [SBG.getD_of (hs j hj)] at a1
  exact a1
section
variable {p : Program} {l : Launch} {e : Env} {R : Room} {s : State} {m : MethodId} {args : Array Value} {below : List Frame} {meth : Method} {c : Code} {T : State} {locs : List Loc} {cells slots : Nat} {Z : State} {a0 : Array Value} {EL : List (String × Nat)} {h : Heap} {vm0 : Vm} {own text : String} {index : Nat}
/-- ldc_w of a String constant: the invariant goes on, and the entry is resolved -/
theorem own_ldcw (X : Stand p l e R (s.setVm vm0) m args below meth c T locs cells slots) (hx : p.tables.exec = Jvm.exec) (hZ : Z.Warmed39 vm0) (hown : vm0.findClass own = some m.cls) (w : (Cond.stringLink own index text).before a0 Z = true) (wS : ∀ a ∈ Bundle.stringAtoms, a.before a0 Z = true) (hEL : EW Z a0 EL) (H : CHv Z EL T.vm T.heap)
    {g : JFrame} (hg : g.method = m) (hd : decode c.code g.pc = .ok (.ldc_w index, 3)) {n : Nat} (hn : 4 * text.toList.length ≤ n) (hbig : n ≤ 536870912) (hc : cells + 2 ≤ R.cells) (hl' : slots + (n + 4) ≤ R.slots) :
    ∃ (a : Addr) (T' : State), Stand p l e R (s.setVm T'.vm) m args below meth c T' locs (cells + 2) (slots + (n + 4)) ∧ (s.setVm vm0).Since T'.vm T'.heap.size ∧ (∃ k₂, T'.vm.classes[m.cls]? = some k₂ ∧ k₂.resolved[index]? = some (some (.string a))) ∧ Ext T.heap T'.heap ∧ CHr Z EL T.vm T.heap T'.vm T'.heap ∧
      ∀ target, Steps p.tables e below (T'.setTop { g with pc := g.pc + 3, stack := .ref a :: g.stack }) target → Steps p.tables e below (T.setTop g) target := by
  have hZT : Z.Warmed39 T.vm := wtrans (s := s.setVm vm0) hZ X.warmed
  have atT : ∀ d ∈ Bundle.stringAtoms, d.before args T = true := fun d hd => by
    have q := wS d hd
    simp only [Bundle.stringAtoms, List.mem_cons, List.not_mem_nil, or_false] at hd
    rcases hd with rfl | rfl | rfl | rfl | rfl | rfl | rfl
    · exact mv hZT q
    · exact mv hZT q
    · exact mvA hZT q
    · exact mv hZT q
    · exact mv hZT q
    · exact mv hZT q
    · exact mv hZT q
  have e0 : Ext T.heap T.heap := ⟨Nat.le_refl _, fun _ _ q => q⟩
  subst hg
  obtain ⟨k, k', cf, i, us, ⟨hk, hcf⟩, ⟨hk', hcf'⟩, E, hsz, now⟩ := own_ent X hown (mvS hZ w)
  rcases now with ⟨a, hr⟩ | ⟨ho, ho'⟩
  · exact ⟨a, T, (X.mono (by omega) (by omega)).retabled X.warmed.wide, X.warmed.since _, ⟨k', hk', hr⟩, e0, CHr.refl H, own_stR X.here hx hd hk' hcf' E hr⟩
  · cases hf : T.vm.interned.find? (fun p => p.1 == us) with
    | some pr =>
      obtain ⟨u', a⟩ := pr
      obtain rfl : u' = us := by simpa using Array.find?_some hf
      have W := own_noted X.warmed.wide hk hcf E ho hf
      have B := CHv.later (vm1 := T.vm.noted g.method.cls index (.string a)) hZT (show (Wst Z T.vm T.heap).Warmed39 _ from own_noted (State.Warmed39.refl T) hk' hcf' E ho' hf) hEL e0 (Or.inl rfl) H
      exact ⟨a, T.setVm (T.vm.noted g.method.cls index (.string a)), (X.mono (by omega) (by omega)).retabled W, ⟨W, State.Booked.step (T₂ := T.setVm (T.vm.noted g.method.cls index (.string a))) (X.warmed.no_new_pair _) X.same.2.1 ⟨Nat.le_refl _, Or.inl rfl⟩⟩, own_noted1 hk' ho', e0, ⟨B.1, Nat.le_refl _, B.2⟩, own_stF X.here hx hd hk' hcf' E ho' hf⟩
    | none =>
      obtain ⟨Y, LY, n4, fv, fc⟩ := StringT.of_atoms (args := args) atT
      have pu : (T.vm.interned.push (us, T.heap.size + 1)).find? (fun p => p.1 == us) = some (us, T.heap.size + 1) := by rw [Array.find?_push, hf]; simp
      have W : (s.setVm vm0).Warmed39 (ownVm T.vm g.method.cls index us (T.heap.size + 1)) := own_noted (X.warmed.wide.interns us (T.heap.size + 1)) hk hcf E ho pu
      have WT : T.Warmed39 (ownVm T.vm g.method.cls index us (T.heap.size + 1)) := own_noted ((State.Warmed39.refl T).interns us (T.heap.size + 1)) hk' hcf' E ho' pu
      have hh : (withString T Y.cB Y.cS Y.kS Y.fv Y.fc us).heap = (T.heap.push (bytesOf Y.cB us)).push (stringAt Y.cS Y.kS Y.fv Y.fc us T.heap.size) := by rw [withString_eq]; rfl
      have X2 := (X.pushed (bytesOf Y.cB us)).pushed (stringAt Y.cS Y.kS Y.fv Y.fc us T.heap.size)
      rw [← withString_eq] at X2
      obtain ⟨p1, p2, p3, p4⟩ := own_push2 (hp := T.heap) (c1 := bytesOf Y.cB us) (c2 := stringAt Y.cS Y.kS Y.fv Y.fc us T.heap.size)
      rw [← hh] at p1 p2 p3 p4
      have b1 : (bytesOf Y.cB us).slots.size = (stringBytes us).size := by rw [(Cell.writeAll_facts _ _).2.2]; simp [bytes0]
      have b2 : (stringAt Y.cS Y.kS Y.fv Y.fc us T.heap.size).slots.size = 4 := by simp [string0, Cell.setSlot, n4]
      have B := CHv.later (vm1 := ownVm T.vm g.method.cls index us (T.heap.size + 1)) (h' := (withString T Y.cB Y.cS Y.kS Y.fv Y.fc us).heap) hZT (show (Wst Z T.vm T.heap).Warmed39 _ from WT) hEL p1 (Or.inr ⟨us, T.heap.size + 1, rfl, hf, fun hl => by
        obtain ⟨q, cS, hq, r1, r2, r3, r4, r5⟩ := made_sl (W := (withString T Y.cB Y.cS Y.kS Y.fv Y.fc us).setVm (ownVm T.vm g.method.cls index us (T.heap.size + 1))) atT LY n4 rfl WT.alike p2 p3 hl (by omega) 0
        have G : SlB _ q us := ⟨cS, r1, r2, r3, r4⟩
        exact ⟨q, hq, G.carry (V := Wst Z (ownVm T.vm g.method.cls index us (T.heap.size + 1)) (withString T Y.cB Y.cS Y.kS Y.fv Y.fc us).heap) (Vm.Alike.refl _) G.ha G.hd, r5.resolve_left fun y => Nat.not_lt_zero _ y.1⟩⟩) H
      exact ⟨T.heap.size + 1, (withString T Y.cB Y.cS Y.kS Y.fv Y.fc us).setVm (ownVm T.vm g.method.cls index us (T.heap.size + 1)), (X2.mono (by omega) (by rw [b1, b2]; omega)).retabled W,
        ⟨W, State.Booked.step (X.warmed.no_new_pair _) X.same.2.1 ⟨p1.1, Or.inr ⟨us, T.heap.size + 1, rfl, Nat.le_add_right _ 1, Nat.lt_of_lt_of_eq (Nat.lt_succ_self _) p4.symm⟩⟩⟩, own_noted1 (vm1 := { T.vm with interned := T.vm.interned.push (us, T.heap.size + 1) }) hk' ho', p1, ⟨B.1, p1.1, B.2⟩, own_stN X X.here hx hd hk' hcf' E ho' hf LY n4 fv fc (Nat.le_trans hsz hn) hbig hc hl'⟩
/-- .. and the constant read, where it is one of the list -/
theorem ldcCHw (X : Stand p l e R (s.setVm vm0) m args below meth c T locs cells slots) (hx : p.tables.exec = Jvm.exec) (hZ : Z.Warmed39 vm0) (hown : vm0.findClass own = some m.cls) (w : (Cond.stringLink own index text).before a0 Z = true) (wS : ∀ a ∈ Bundle.stringAtoms, a.before a0 Z = true)
    (eT : T.heap = h) {k0 : Nat} (hS : s.Since vm0 k0) (hk : k0 ≤ h.size) (hEL : EW Z a0 EL) (hmem : (own, index) ∈ EL) (H : CHv Z EL vm0 h)
    {vs : List Value} {z : Int32} (ht : (∀ c ∈ text.toList, c.toNat < 256) ∧ text.toList.map (fun c => Value.int (Jvm.Lit.byteI c.toNat.toUInt16)) = vs) (hz : ¬ z < 0) (hl : z.toNatClampNeg = vs.length)
    {g : JFrame} (hg : g.method = m) (hd : decode c.code g.pc = .ok (.ldc_w index, 3)) {n : Nat} (hn : 4 * text.toList.length ≤ n) (hbig : n ≤ 536870912) (hc : cells + 2 ≤ R.cells) (hl' : slots + (n + 4) ≤ R.slots) :
    ∃ (a : Addr) (T' : State) (h' : Heap) (k1 : Nat) (b : Addr) (k : ClassId), Stand p l e R (s.setVm T'.vm) m args below meth c T' locs (cells + 2) (slots + (n + 4)) ∧ T'.heap = h' ∧ Ext h h' ∧ s.Since T'.vm k1 ∧ k1 ≤ h'.size ∧ Z.Warmed39 (s.setVm T'.vm).vm ∧ (s.setVm T'.vm).vm.findClass own = some m.cls ∧
      Exa Z h' a "java/lang/String" ∧ Fld Z h' a "java/lang/String" "coder" "B" (.int 0) ∧ Fld Z h' a "java/lang/String" "value" "[B" (.ref b) ∧ Arv Z h' b k .byte z vs (.int 0) ∧ a < h'.size ∧ b < h'.size ∧ CHr Z EL vm0 h T'.vm h' ∧ True ∧ (∀ x, Safe Z EL T'.vm h' x → x ≠ a ∧ x ≠ b) ∧
      ∀ target, Steps p.tables e below (T'.setTop { g with pc := g.pc + 3, stack := .ref a :: g.stack }) target → Steps p.tables e below (T.setTop g) target := by
  subst eT
  have A := CHv.at X hZ hEL H
  obtain ⟨a, T', X', hS', ⟨kk, hkk, hrr⟩, E, B, st⟩ := own_ldcw X hx hZ hown w wS hEL A.1 hg hd hn hbig hc hl'
  have hW : Z.Warmed39 T'.vm := State.Warmed39.trans (t := s.setVm vm0) hZ hS'.1
  have hf : T'.vm.findClass own = some m.cls := by rw [hS'.1.alike.findClass]; exact hown
  obtain ⟨b, k, x1, x2, x3, x4, x5, x6, x7⟩ := own_litRead hW w hmem B.1 hf hkk hrr ht hz hl
  exact ⟨a, T', _, _, b, k, X', rfl, E, hS.trans hS' (Nat.le_trans hk E.1), Nat.le_refl _, hW, hf, x1, x2, x3, x4, x5, x6, A.trans B, trivial, x7, st⟩
end
end Jvm.RoadKit
namespace Jvm.RoadKit
open Sem ClassFile Op Lib Jvm.Stand Jvm.Free Jvm.LawKit
theorem own_and255 (x : Int32) : ¬ (x &&& 255) < 0 ∧ ¬ (255 : Int32) < (x &&& 255) := by
  have t : ∀ k : Fin 256, ¬ (Int32.ofNat k.val) < 0 ∧ ¬ (255 : Int32) < (Int32.ofNat k.val) := by decide +kernel
  have h : (x &&& 255).toBitVec.toNat < 256 := by
    simp only [Int32.toBitVec_and, BitVec.toNat_and]
    exact Nat.lt_succ_of_le Nat.and_le_right
  have e : (x &&& 255) = Int32.ofNat (x &&& 255).toBitVec.toNat := by
    apply Int32.toBitVec_inj.mp
    show _ = BitVec.ofNat 32 _
    rw [BitVec.ofNat_toNat]; simp
  rw [e]
  exact t ⟨_, h⟩
theorem own_byteOf {c : Int32} (h : ¬ c < 0 ∧ ¬ (255 : Int32) < c) : ∃ k : Fin 256, c = Int32.ofNat k.val := by
  obtain ⟨h1, h2⟩ := h
  rw [Int32.lt_iff_toInt_lt] at h1 h2
  have e0 : (0 : Int32).toInt = 0 := rfl
  have e1 : (255 : Int32).toInt = 255 := rfl
  refine ⟨⟨c.toInt.toNat, by omega⟩, ?_⟩
  apply Int32.toInt_inj.mp
  show c.toInt = (Int32.ofNat c.toInt.toNat).toInt
  rw [Int32.toInt_ofNat_of_lt (by omega)]
  omega
theorem own_nar {c : Int32} (h : ¬ c < 0 ∧ ¬ (255 : Int32) < c) : nar .char c = c := by
  have t : ∀ k : Fin 256, nar .char (Int32.ofNat k.val) = Int32.ofNat k.val := by decide +kernel
  obtain ⟨k, rfl⟩ := own_byteOf h
  exact t k
theorem own_i2c {c : Int32} (h : ¬ c < 0 ∧ ¬ (255 : Int32) < c) : c.toUInt32.toUInt16.toUInt32.toInt32 = c := own_nar h
end Jvm.RoadKit
namespace Jvm.RoadKit
open Sem ClassFile Op Lib Jvm.Stand Jvm.Free Jvm.LawKit
theorem own_land255 (x : Int64) : ¬ ((x &&& (255 : Int64)).toInt32) < 0 ∧ ¬ (255 : Int32) < ((x &&& (255 : Int64)).toInt32) := by
  have t : ∀ k : Fin 256, ¬ (Int64.ofNat k.val).toInt32 < 0 ∧ ¬ (255 : Int32) < (Int64.ofNat k.val).toInt32 := by decide +kernel
  have h : (x &&& 255).toBitVec.toNat < 256 := by
    simp only [Int64.toBitVec_and, BitVec.toNat_and]
    exact Nat.lt_succ_of_le Nat.and_le_right
  have e : (x &&& 255) = Int64.ofNat (x &&& 255).toBitVec.toNat := by
    apply Int64.toBitVec_inj.mp
    show _ = BitVec.ofNat 64 _
    rw [BitVec.ofNat_toNat]; simp
  rw [e]
  exact t ⟨_, h⟩
theorem own_len3 {cs : List Int32} (le : cs.length ≤ 4) (h : (Int32.ofNat cs.length) = (3 : Int32)) : ∃ a b c, cs = [a, b, c] := by
  match cs, le, h with
  | [], _, h => exact absurd h (show ¬ (Int32.ofNat 0 = _) by decide)
  | [_], _, h => exact absurd h (show ¬ (Int32.ofNat 1 = _) by decide)
  | [_, _], _, h => exact absurd h (show ¬ (Int32.ofNat 2 = _) by decide)
  | [a, b, c], _, _ => exact ⟨a, b, c, rfl⟩
  | [_, _, _, _], _, h => exact absurd h (show ¬ (Int32.ofNat 4 = _) by decide)
  | _ :: _ :: _ :: _ :: _ :: _, le, _ => simp at le
theorem own_len4 {cs : List Int32} (le : cs.length ≤ 4) (h : (Int32.ofNat cs.length) = (4 : Int32)) : ∃ a b c d, cs = [a, b, c, d] := by
  match cs, le, h with
  | [], _, h => exact absurd h (show ¬ (Int32.ofNat 0 = _) by decide)
  | [_], _, h => exact absurd h (show ¬ (Int32.ofNat 1 = _) by decide)
  | [_, _], _, h => exact absurd h (show ¬ (Int32.ofNat 2 = _) by decide)
  | [_, _, _], _, h => exact absurd h (show ¬ (Int32.ofNat 3 = _) by decide)
  | [a, b, c, d], _, _ => exact ⟨a, b, c, d, rfl⟩
  | _ :: _ :: _ :: _ :: _ :: _, le, _ => simp at le
end Jvm.RoadKit
namespace Jvm.RoadKit
open Sem ClassFile Op Lib Jvm.Stand Jvm.Free Jvm.LawKit
theorem own_b58 {c : Int32} (h : ¬ c < 0 ∧ ¬ (255 : Int32) < c) : c.toInt8.toInt32 = (58 : Int32) ↔ c = (58 : Int32) := by
  have t : ∀ k : Fin 256, (Int32.ofNat k.val).toInt8.toInt32 = (58 : Int32) ↔ Int32.ofNat k.val = (58 : Int32) := by decide +kernel
  obtain ⟨k, rfl⟩ := own_byteOf h
  exact t k
theorem own_b47 {c : Int32} (h : ¬ c < 0 ∧ ¬ (255 : Int32) < c) : c.toInt8.toInt32 = (47 : Int32) ↔ c = (47 : Int32) := by
  have t : ∀ k : Fin 256, (Int32.ofNat k.val).toInt8.toInt32 = (47 : Int32) ↔ Int32.ofNat k.val = (47 : Int32) := by decide +kernel
  obtain ⟨k, rfl⟩ := own_byteOf h
  exact t k
end Jvm.RoadKit
namespace Jvm.RoadKit
open Sem ClassFile Op Lib Jvm.Stand Jvm.Free Jvm.LawKit
/-- .. of a body that may intern constants of EL -/
abbrev OwnLawW (l : Launch) (y : MethodName) (bytes : ByteArray) (maxL : Nat) (ret : Option FieldType) (ws : List Cond) (R : Room) (as : Array Value) (Z : State) (EL : List (String × Nat)) (h0 : Heap) (Q : Option Value → Heap → List Loc → Prop) : Prop :=
  MetFree l y (head1 (Cond.code y bytes maxL ret :: ws) R) (fun aa U => aa = as ∧ Z.Warmed39 U.vm ∧ U.heap = h0 ∧ CHv Z EL U.vm h0) (fun _ _ _ _ _ => True) (fun _ U oo U' => ∃ vv LL, oo = .returned vv ∧ Q vv U'.heap LL ∧ CHr Z EL U.vm U.heap U'.vm U'.heap ∧ ReturnedEndW U oo U' LL R.cells R.slots)
theorem own_enterW {l : Launch} {y : MethodName} {bytes : ByteArray} {maxL : Nat} {ret : Option FieldType} {ws : List Cond} {R : Room} {as : Array Value} {Z : State} {EL : List (String × Nat)} {h0 : Heap} {Q : Option Value → Heap → List Loc → Prop} {Ls : Array Slot} (pf : plainFor y = true) (ef : ∀ m, entryFrame m as maxL = mkF m 0 Ls [])
    (k : ∀ (p : Program) (e : Env) (s : State) (m : MethodId) (below : List Frame) (meth : Method) (c : Code) (T : State), BodyLoose p l y (head1 (Cond.code y bytes maxL ret :: ws) R) bytes maxL ret e s m as below meth c T → p.tables.exec = Jvm.exec → c.code = bytes → c.maxLocals = maxL → Z.Warmed39 s.vm → s.vm.findClass y.cls = some m.cls → Stand p l e R (s.setVm s.vm) m as below meth c T [] 0 0 → T.heap = h0 → s.heap = h0 → s.Since s.vm h0.size → CHr Z EL s.vm h0 s.vm h0 → Goes p e below (EndW s Z EL Q R.cells R.slots) T (mkF m 0 Ls [])) : OwnLawW l y bytes maxL ret ws R as Z EL h0 Q := by
  refine MetFree.of_bodySF pf hisR ?_
  intro p e s m args below meth c s₁ Bd hml hP hK
  obtain ⟨rfl, hZ, hh, hCH⟩ := hP
  refine Goes.giveW ?_
  rw [ef m]
  exact k p e s m below meth c s₁ Bd Bd.exec Bd.bytes hml hZ (findClass_of_methodNamed Bd.named) (Stand.of_body Bd) (by rw [← hh, Bd.state]; rfl) hh ((State.WarmedH.refl s).since _) (CHr.refl hCH)
end Jvm.RoadKit
/- laws to paste: Road.backV (cut by pick.py; bodies as the Statement names them) -/
namespace Jvm.Pilot.@@N@@
namespace StrChars
open Jvm Sem ClassFile Op Lib Jvm.Stand Jvm.Free.XT Jvm.Free.ALB Jvm.Free.JM Jvm.Free
open Jvm.Lib.Cold (StaticIs)
/-- a char array whose places are chars -/
def Ch (a : Addr) (A : Cell) (U : State) : Prop := Arr .char a A U ∧ Typed .char A
theorem Ch.mv {a : Addr} {A : Cell} {U U' : State} (h : Ch a A U) (hal : U.vm.Alike U'.vm) (hh : U'.heap = U.heap) : Ch a A U' := ⟨h.1.mv hal hh, h.2⟩
theorem Ch.keep {a : Addr} {A : Cell} {U U' : State} (h : Ch a A U) (hal : U.vm.Alike U'.vm) (hk : U'.heap[a]? = some A) : Ch a A U' := ⟨h.1.keep hal hk, h.2⟩
/-- what place i of a char[]'s cell holds -/
def cv (A : Cell) (i : Nat) : Int32 := match A.slots[i]? with | some (.int x) => x | _ => 0
theorem Ch.get {a : Addr} {A : Cell} {U : State} (h : Ch a A U) {i : Nat} (hi : i < A.slots.size) : A.slots[i]? = some (.int (cv A i)) := by
  have e := Array.getElem?_eq_getElem hi
  have f := h.2 i _ e
  unfold cv; rw [e]
  generalize A.slots[i] = v at f
  cases v <;> simp [fits] at f ⊢
/-- the byte that i2b leaves of a char -/
def lo8 (x : Int32) : Int32 := x.toInt8.toInt32
theorem fits_lo8 (y : Int32) : fits .byte (.int (lo8 y)) = true := by
  have h1 := y.toInt8.le_toInt
  have h2 := y.toInt8.toInt_lt
  simp only [lo8, fits, Bool.and_eq_true, decide_eq_true_eq, Int32.le_iff_toInt_le, Int8.toInt_toInt32, show (-128 : Int32).toInt = -128 from by decide, show (127 : Int32).toInt = 127 from by decide]
  omega
/-- A' is A but that each place j of lo .. hi - 1 holds f j -/
def Laid (A A' : Cell) (lo hi : Nat) (f : Nat → Value) : Prop := A'.cls = A.cls ∧ A'.vm = A.vm ∧ A'.slots.size = A.slots.size ∧ ∀ i, A'.slots[i]? = if lo ≤ i ∧ i < hi then some (f i) else A.slots[i]?
theorem Laid.zero (A : Cell) (lo : Nat) (f : Nat → Value) : Laid A A lo (lo + 0) f := ⟨rfl, rfl, rfl, fun i => by rw [if_neg (by omega)]⟩
theorem Laid.step {A Ak : Cell} {lo k : Nat} {f : Nat → Value} {v : Value} (h : Laid A Ak lo k f) (hlo : lo ≤ k) (hk : k < Ak.slots.size) (hv : v = f k) : Laid A (Ak.setSlot k v) lo (k + 1) f := by
  refine ⟨h.1, h.2.1, by simpa [Cell.setSlot] using h.2.2.1, fun i => ?_⟩
  by_cases e : k = i
  · subst e; rw [Cell.slots_setSlot_self v hk, if_pos (by omega), hv]
  · rw [Cell.slots_setSlot_ne v e, h.2.2.2 i]
    by_cases q : lo ≤ i ∧ i < k
    · rw [if_pos q, if_pos (by omega)]
    · rw [if_neg q, if_neg (by omega)]
def U16 : String := "java/lang/StringUTF16"
namespace Cmp5
def yN : MethodName := ⟨"java/lang/StringUTF16", "compress", "([CI[BII)I"⟩
abbrev yB : ByteArray := jdk_52_method_21_code
theorem d0 : decode yB 0 = .ok (.iconst 0, 1) := by decide +kernel
theorem d1 : decode yB 1 = .ok (.istore 5, 2) := by decide +kernel
theorem d3 : decode yB 3 = .ok (.iload 5, 2) := by decide +kernel
theorem d5 : decode yB 5 = .ok (.iload 4, 2) := by decide +kernel
theorem d7 : decode yB 7 = .ok (.if_icmp (.ge) 37, 3) := by decide +kernel
theorem d10 : decode yB 10 = .ok (.aload_n 0, 1) := by decide +kernel
theorem d11 : decode yB 11 = .ok (.iload_n 1, 1) := by decide +kernel
theorem d12 : decode yB 12 = .ok (.caload, 1) := by decide +kernel
theorem d13 : decode yB 13 = .ok (.istore 6, 2) := by decide +kernel
theorem d15 : decode yB 15 = .ok (.iload 6, 2) := by decide +kernel
theorem d17 : decode yB 17 = .ok (.sipush 255, 3) := by decide +kernel
theorem d20 : decode yB 20 = .ok (.if_icmp (.le) 6, 3) := by decide +kernel
theorem d26 : decode yB 26 = .ok (.aload_n 2, 1) := by decide +kernel
theorem d27 : decode yB 27 = .ok (.iload_n 3, 1) := by decide +kernel
theorem d28 : decode yB 28 = .ok (.iload 6, 2) := by decide +kernel
theorem d30 : decode yB 30 = .ok (.i2b, 1) := by decide +kernel
theorem d31 : decode yB 31 = .ok (.bastore, 1) := by decide +kernel
theorem d32 : decode yB 32 = .ok (.iinc 1 1, 3) := by decide +kernel
theorem d35 : decode yB 35 = .ok (.iinc 3 1, 3) := by decide +kernel
theorem d38 : decode yB 38 = .ok (.iinc 5 1, 3) := by decide +kernel
theorem d41 : decode yB 41 = .ok (.goto (-38), 3) := by decide +kernel
theorem d44 : decode yB 44 = .ok (.iload 4, 2) := by decide +kernel
theorem d46 : decode yB 46 = .ok (.ireturn, 1) := by decide +kernel
def site : List Cond := []
def tab : Cond := tabOf yN yB 7 (some .int) site
def P (b : Addr) (A : Cell) (d : Addr) (B : Cell) (o q len : Nat) (args : Array Value) (s : State) : Prop := args = #[.ref b, .int (Int32.ofNat o), .ref d, .int (Int32.ofNat q), .int (Int32.ofNat len)] ∧ Ch b A s ∧ Arr .byte d B s ∧ b ≠ d ∧ o + len ≤ A.slots.size ∧ q + len ≤ B.slots.size ∧ ∀ i, i < len → ¬ 255 < cv A (o + i)
def E (b : Addr) (A : Cell) (d : Addr) (B : Cell) (o q len : Nat) (r : Option Value) (s u : State) : Prop := r = some (.int (Int32.ofNat len)) ∧ ∃ B', Put d B' s u ∧ Laid B B' q (q + len) (fun j => Value.int (lo8 (cv A (o + (j - q)))))
/-- no char of the range above 255: len; the places written hold each char's low byte -/
theorem law (l : Launch) (b : Addr) (A : Cell) (d : Addr) (B : Cell) (o q len : Nat) : Law l yN 5 5 0 0 yB 7 (some .int) site (P b A d B o q len) (E b A d B o q len) (copyLocs d q len) 0 0 := by
  refine Law.of_walk (plainFor_of_name (by decide +kernel)) (by decide +kernel) (by decide +kernel) (by decide) (fun _ _ h => by rw [h.1]; rfl) (fun _ U U' hal hh h => ⟨h.1, h.2.1.mv hal hh, h.2.2.1.mv hal hh, h.2.2.2⟩) (fun r U U' V V' h1 hal h2 h => ⟨h.1, h.2.elim fun B' q => ⟨B', q.1.mv h1 h2, q.2⟩⟩) ?_
  intro p e s m args below meth c s₁ X0 hexec hbytes hml hret hlk hnm hown hh0 W hP
  obtain ⟨rfl, hA, hB, hne, l1, l2, hp⟩ := hP
  have c1 : Steps p.tables e below (s₁.setTop (entryFrame m #[.ref b, .int (Int32.ofNat o), .ref d, .int (Int32.ofNat q), .int (Int32.ofNat len)] 7)) (s₁.setTop (mkF m 0 #[.val (.ref b), .val (.int (Int32.ofNat o)), .val (.ref d), .val (.int (Int32.ofNat q)), .val (.int (Int32.ofNat len)), .unset, .unset] [])) := entry rfl
  have hA0 := hA.1.mv X0.warmed.alike hh0
  have hB0 := hB.mv X0.warmed.alike hh0
  have a31 := hA.1.2.2.2
  have c2 : Steps p.tables e below (s₁.setTop (entryFrame m #[.ref b, .int (Int32.ofNat o), .ref d, .int (Int32.ofNat q), .int (Int32.ofNat len)] 7)) (s₁.setTop (mkF m 3 #[.val (.ref b), .val (.int (Int32.ofNat o)), .val (.ref d), .val (.int (Int32.ofNat q)), .val (.int (Int32.ofNat len)), .val (.int 0), .unset] [])) := c1.trans (by
    refine iconstV X0.here hexec rfl 0 (hb hbytes d0) (by decide) ?_
    refine XS.istore X0.here hexec rfl (hb hbytes d1) rfl rfl ?_
    exact Steps.refl _)
  have loop : ∀ (r i : Nat), i + r = len → ∀ (z : Slot), (z = .unset ∨ ∃ w, z = .val w ∧ w.category = 1) → ∀ (Tl : State) (Bk : Cell), Stand p l e { frames := 0, locals := 0, cells := 0, slots := 0 } s m #[.ref b, .int (Int32.ofNat o), .ref d, .int (Int32.ofNat q), .int (Int32.ofNat len)] below meth c Tl ([] ++ copyLocs d q i) 0 0 → Put d Bk s₁ Tl → Laid B Bk q (q + i) (fun j => Value.int (lo8 (cv A (o + (j - q))))) →
      Steps p.tables e below (s₁.setTop (entryFrame m #[.ref b, .int (Int32.ofNat o), .ref d, .int (Int32.ofNat q), .int (Int32.ofNat len)] 7)) (Tl.setTop (mkF m 3 #[.val (.ref b), .val (.int (Int32.ofNat (o + i))), .val (.ref d), .val (.int (Int32.ofNat (q + i))), .val (.int (Int32.ofNat len)), .val (.int (Int32.ofNat i)), z] [])) → ∃ (T' : State) (B' : Cell) (z' : Slot), Stand p l e { frames := 0, locals := 0, cells := 0, slots := 0 } s m #[.ref b, .int (Int32.ofNat o), .ref d, .int (Int32.ofNat q), .int (Int32.ofNat len)] below meth c T' ([] ++ copyLocs d q len) 0 0 ∧ Put d B' s₁ T' ∧ Laid B B' q (q + len) (fun j => Value.int (lo8 (cv A (o + (j - q))))) ∧
      Steps p.tables e below (s₁.setTop (entryFrame m #[.ref b, .int (Int32.ofNat o), .ref d, .int (Int32.ofNat q), .int (Int32.ofNat len)] 7)) (T'.setTop (mkF m 3 #[.val (.ref b), .val (.int (Int32.ofNat (o + len))), .val (.ref d), .val (.int (Int32.ofNat (q + len))), .val (.int (Int32.ofNat len)), .val (.int (Int32.ofNat len)), z'] [])) := by
    intro r
    induction r with
    | zero =>
      intro i hi z hz Tl Bk Xl pl fl cl
      have hil : i = len := by omega
      rw [hil] at Xl fl cl
      exact ⟨Tl, Bk, z, Xl, pl, fl, cl⟩
    | succ r ih =>
      intro i hi z hz Tl Bk Xl pl fl cl
      have all := X0.warmed.alike.symm.trans Xl.warmed.alike
      have hAl := hA0.keep all (pl.other hne hA0.1)
      have hBk := hB0.like all pl.1 fl.1 fl.2.1 fl.2.2.1
      have hlt : q + i < Bk.slots.size := by rw [fl.2.2.1]; omega
      have c3 : Steps p.tables e below (s₁.setTop (entryFrame m #[.ref b, .int (Int32.ofNat o), .ref d, .int (Int32.ofNat q), .int (Int32.ofNat len)] 7)) (Tl.setTop (mkF m 12 #[.val (.ref b), .val (.int (Int32.ofNat (o + i))), .val (.ref d), .val (.int (Int32.ofNat (q + i))), .val (.int (Int32.ofNat len)), .val (.int (Int32.ofNat i)), z] [.int (Int32.ofNat (o + i)), .ref b])) := cl.trans (by
        refine XS.iload Xl.here hexec rfl (hb hbytes d3) rfl ?_
        refine XS.iload Xl.here hexec rfl (hb hbytes d5) rfl ?_
        refine XS.icmpNo Xl.here hexec rfl (hb hbytes d7) rfl (ii_ge_f (lt32 (by omega) (by omega))) ?_
        refine XS.aloadN Xl.here hexec rfl (hb hbytes d10) rfl rfl ?_
        refine XS.iloadN Xl.here hexec rfl (hb hbytes d11) rfl ?_
        exact Steps.refl _)
      have c4 : Steps p.tables e below (s₁.setTop (entryFrame m #[.ref b, .int (Int32.ofNat o), .ref d, .int (Int32.ofNat q), .int (Int32.ofNat len)] 7)) (Tl.setTop (mkF m 13 #[.val (.ref b), .val (.int (Int32.ofNat (o + i))), .val (.ref d), .val (.int (Int32.ofNat (q + i))), .val (.int (Int32.ofNat len)), .val (.int (Int32.ofNat i)), z] [.int (cv A (o + i))])) := c3.trans (by
        refine Xl.aget hexec hAl rfl (hA.get (i := o + i) (by omega)) rfl rfl (hb hbytes d12) ?_
        exact Steps.refl _)
      have c5 : Steps p.tables e below (s₁.setTop (entryFrame m #[.ref b, .int (Int32.ofNat o), .ref d, .int (Int32.ofNat q), .int (Int32.ofNat len)] 7)) (Tl.setTop (mkF m 15 #[.val (.ref b), .val (.int (Int32.ofNat (o + i))), .val (.ref d), .val (.int (Int32.ofNat (q + i))), .val (.int (Int32.ofNat len)), .val (.int (Int32.ofNat i)), .val (.int (cv A (o + i)))] [])) := c4.trans (by
        refine XS.istoreS Xl.here hexec rfl (hb hbytes d13) rfl rfl hz ?_
        exact Steps.refl _)
      have c6 : Steps p.tables e below (s₁.setTop (entryFrame m #[.ref b, .int (Int32.ofNat o), .ref d, .int (Int32.ofNat q), .int (Int32.ofNat len)] 7)) (Tl.setTop (mkF m 31 #[.val (.ref b), .val (.int (Int32.ofNat (o + i))), .val (.ref d), .val (.int (Int32.ofNat (q + i))), .val (.int (Int32.ofNat len)), .val (.int (Int32.ofNat i)), .val (.int (cv A (o + i)))] [.int (lo8 (cv A (o + i))), .int (Int32.ofNat (q + i)), .ref d])) := c5.trans (by
        refine XS.iload Xl.here hexec rfl (hb hbytes d15) rfl ?_
        refine sipushV Xl.here hexec rfl 255 (hb hbytes d17) (by decide) ?_
        refine XS.icmpYes Xl.here hexec rfl (pc0 := 20) rfl (hb hbytes d20) rfl (ii_le_t (hp i (by omega))) (by decide) rfl ?_
        refine XS.aloadN Xl.here hexec rfl (hb hbytes d26) rfl rfl ?_
        refine XS.iloadN Xl.here hexec rfl (hb hbytes d27) rfl ?_
        refine XS.iload Xl.here hexec rfl (hb hbytes d28) rfl ?_
        refine i2b Xl.here hexec rfl (hb hbytes d30) rfl ?_
        exact Steps.refl _)
      obtain ⟨T7, X7, p7, st7⟩ := Xl.aput hexec hBk rfl hlt rfl (fits_lo8 (cv A (o + i))) (g := (mkF m 31 #[.val (.ref b), .val (.int (Int32.ofNat (o + i))), .val (.ref d), .val (.int (Int32.ofNat (q + i))), .val (.int (Int32.ofNat len)), .val (.int (Int32.ofNat i)), .val (.int (cv A (o + i)))] [.int (lo8 (cv A (o + i))), .int (Int32.ofNat (q + i)), .ref d])) rfl (rest := []) rfl (hb hbytes d31)
      have c8 : Steps p.tables e below (s₁.setTop (entryFrame m #[.ref b, .int (Int32.ofNat o), .ref d, .int (Int32.ofNat q), .int (Int32.ofNat len)] 7)) (T7.setTop (mkF m 32 #[.val (.ref b), .val (.int (Int32.ofNat (o + i))), .val (.ref d), .val (.int (Int32.ofNat (q + i))), .val (.int (Int32.ofNat len)), .val (.int (Int32.ofNat i)), .val (.int (cv A (o + i)))] [])) := c6.trans (st7 _ (Steps.refl _))
      have c9 : Steps p.tables e below (s₁.setTop (entryFrame m #[.ref b, .int (Int32.ofNat o), .ref d, .int (Int32.ofNat q), .int (Int32.ofNat len)] 7)) (T7.setTop (mkF m 3 #[.val (.ref b), .val (.int (Int32.ofNat (o + i) + 1)), .val (.ref d), .val (.int (Int32.ofNat (q + i) + 1)), .val (.int (Int32.ofNat len)), .val (.int (Int32.ofNat i + 1)), .val (.int (cv A (o + i)))] [])) := c8.trans (by
        refine iincV X7.here hexec rfl 1 (hb hbytes d32) (by decide) rfl rfl ?_
        refine iincV X7.here hexec rfl 1 (hb hbytes d35) (by decide) rfl rfl ?_
        refine iincV X7.here hexec rfl 1 (hb hbytes d38) (by decide) rfl rfl ?_
        refine XS.goto X7.here hexec rfl (pc0 := 41) rfl (hb hbytes d41) (by decide) rfl ?_
        exact Steps.refl _)
      have c10 : Steps p.tables e below (s₁.setTop (entryFrame m #[.ref b, .int (Int32.ofNat o), .ref d, .int (Int32.ofNat q), .int (Int32.ofNat len)] 7)) (T7.setTop (mkF m 3 #[.val (.ref b), .val (.int (Int32.ofNat (o + (i + 1)))), .val (.ref d), .val (.int (Int32.ofNat (q + (i + 1)))), .val (.int (Int32.ofNat len)), .val (.int (Int32.ofNat (i + 1))), .val (.int (cv A (o + i)))] [])) := by
        have := c9
        rw [succ32, succ32, succ32] at this
        exact this
      exact ih (i + 1) (by omega) _ (Or.inr ⟨_, rfl, rfl⟩) T7 _ (by rw [copyLocs_step, ← List.append_assoc]; exact X7) (pl.trans p7) (fl.step (by omega) hlt (by simp)) c10
  obtain ⟨T9, B9, z9, X9, p9, f9, g9⟩ := loop len 0 (by omega) .unset (Or.inl rfl) s₁ B (by simpa [copyLocs] using X0) ⟨hB0.1, fun _ _ => rfl, rfl⟩ (Laid.zero _ _ _) c2
  have c11 : Steps p.tables e below (s₁.setTop (entryFrame m #[.ref b, .int (Int32.ofNat o), .ref d, .int (Int32.ofNat q), .int (Int32.ofNat len)] 7)) (T9.setTop (mkF m 46 #[.val (.ref b), .val (.int (Int32.ofNat (o + len))), .val (.ref d), .val (.int (Int32.ofNat (q + len))), .val (.int (Int32.ofNat len)), .val (.int (Int32.ofNat len)), z9] [.int (Int32.ofNat len)])) := g9.trans (by
    refine XS.iload X9.here hexec rfl (hb hbytes d3) rfl ?_
    refine XS.iload X9.here hexec rfl (hb hbytes d5) rfl ?_
    refine XS.icmpYes X9.here hexec rfl (pc0 := 7) rfl (hb hbytes d7) rfl (ii_ge_t (nlt32 (by omega) (Nat.le_refl _))) (by decide) rfl ?_
    refine XS.iload X9.here hexec rfl (hb hbytes d44) rfl ?_
    exact Steps.refl _)
  exact ⟨T9, some (.int (Int32.ofNat len)), _, _, _, X9, by simp, rfl, rfl, (fun h => by cases h), ⟨rfl, B9, p9.from hh0, f9⟩, fun fs hl => c11.trans (X9.ireturnOut hexec hret rfl (Or.inl rfl) (hb hbytes d46) hl)⟩
end Cmp5
namespace Cmp3
def yN : MethodName := ⟨"java/lang/StringUTF16", "compress", "([CII)[B"⟩
abbrev yB : ByteArray := jdk_52_method_16_code
theorem d0 : decode yB 0 = .ok (.iload_n 2, 1) := by decide +kernel
theorem d1 : decode yB 1 = .ok (.newarray .byte, 2) := by decide +kernel
theorem d3 : decode yB 3 = .ok (.astore_n 3, 1) := by decide +kernel
theorem d4 : decode yB 4 = .ok (.aload_n 0, 1) := by decide +kernel
theorem d5 : decode yB 5 = .ok (.iload_n 1, 1) := by decide +kernel
theorem d6 : decode yB 6 = .ok (.aload_n 3, 1) := by decide +kernel
theorem d7 : decode yB 7 = .ok (.iconst 0, 1) := by decide +kernel
theorem d8 : decode yB 8 = .ok (.iload_n 2, 1) := by decide +kernel
theorem d9 : decode yB 9 = .ok (.invokestatic 115, 3) := by decide +kernel
theorem d12 : decode yB 12 = .ok (.istore 4, 2) := by decide +kernel
theorem d14 : decode yB 14 = .ok (.iload 4, 2) := by decide +kernel
theorem d16 : decode yB 16 = .ok (.iload_n 2, 1) := by decide +kernel
theorem d17 : decode yB 17 = .ok (.if_icmp (.eq) 40, 3) := by decide +kernel
theorem d57 : decode yB 57 = .ok (.aload_n 3, 1) := by decide +kernel
theorem d58 : decode yB 58 = .ok (.areturn, 1) := by decide +kernel
def site : List Cond := [.arrayClass .byte, Cmp5.tab] ++ staticW U16 115 Cmp5.yN
def tab : Cond := tabOf yN yB 6 (some (.array .byte)) site
def P (b : Addr) (A : Cell) (o len : Nat) (args : Array Value) (s : State) : Prop := args = #[.ref b, .int (Int32.ofNat o), .int (Int32.ofNat len)] ∧ Ch b A s ∧ o + len ≤ A.slots.size ∧ len ≤ 536870912 ∧ ∀ i, i < len → ¬ 255 < cv A (o + i)
def E (b : Addr) (A : Cell) (o len : Nat) (r : Option Value) (s u : State) : Prop := NewArr .byte "[B" len (fun j => .int (lo8 (cv A (o + j)))) r s u ∧ u.heap.size = s.heap.size + 1
/-- no char of the range above 255: a new byte[] of their low bytes -/
theorem law (l : Launch) (b : Addr) (A : Cell) (o len : Nat) : Law l yN 3 3 1 18 yB 6 (some (.array .byte)) site (P b A o len) (E b A o len) [] 1 len := by
  refine Law.of_walk (plainFor_of_name (by decide +kernel)) (by decide +kernel) (by decide +kernel) (by decide) (fun _ _ h => by rw [h.1]; rfl) (fun _ U U' hal hh h => ⟨h.1, h.2.1.mv hal hh, h.2.2⟩) (fun r U U' V V' h1 hal h2 h => ⟨NewArr.mv r U U' V V' h1 hal h2 h.1, by rw [h1, h2]; exact h.2⟩) ?_
  intro p e s m args below meth c s₁ X0 hexec hbytes hml hret hlk hnm hown hh0 W hP
  obtain ⟨rfl, hA, l1, l2, hp⟩ := hP
  have a31 := hA.1.2.2.2
  have c1 : Steps p.tables e below (s₁.setTop (entryFrame m #[.ref b, .int (Int32.ofNat o), .int (Int32.ofNat len)] 6)) (s₁.setTop (mkF m 0 #[.val (.ref b), .val (.int (Int32.ofNat o)), .val (.int (Int32.ofNat len)), .unset, .unset, .unset] [])) := entry rfl
  have c2 : Steps p.tables e below (s₁.setTop (entryFrame m #[.ref b, .int (Int32.ofNat o), .int (Int32.ofNat len)] 6)) (s₁.setTop (mkF m 1 #[.val (.ref b), .val (.int (Int32.ofNat o)), .val (.int (Int32.ofNat len)), .unset, .unset, .unset] [.int (Int32.ofNat len)])) := c1.trans (by
    refine XS.iloadN X0.here hexec rfl (hb hbytes d0) rfl ?_
    exact Steps.refl _)
  obtain ⟨T3, B3, X3, ba3, bs3, bv3, bh3, bf3, st3⟩ := X0.anew hexec (atype := .byte) (wk W (.arrayClass .byte)) rfl (by show len * 1 ≤ _; omega) (by omega) (g := (mkF m 1 #[.val (.ref b), .val (.int (Int32.ofNat o)), .val (.int (Int32.ofNat len)), .unset, .unset, .unset] [.int (Int32.ofNat len)])) rfl (hb hbytes d1) (rest := []) rfl (Nat.le_refl _) (by show 0 + len ≤ len; omega)
  rw [hh0] at ba3 st3
  have kp3 : XT.Kept s T3 := (XT.Kept.of_eq hh0).push bh3
  have hA3 := hA.keep X3.warmed.alike (kp3 _ _ hA.1.1)
  have hne : b ≠ s.heap.size := hA.1.ne
  have c4 : Steps p.tables e below (s₁.setTop (entryFrame m #[.ref b, .int (Int32.ofNat o), .int (Int32.ofNat len)] 6)) (T3.setTop (mkF m 3 #[.val (.ref b), .val (.int (Int32.ofNat o)), .val (.int (Int32.ofNat len)), .unset, .unset, .unset] [.ref s.heap.size])) := c2.trans (st3 _ (Steps.refl _))
  have c5 : Steps p.tables e below (s₁.setTop (entryFrame m #[.ref b, .int (Int32.ofNat o), .int (Int32.ofNat len)] 6)) (T3.setTop (mkF m 9 #[.val (.ref b), .val (.int (Int32.ofNat o)), .val (.int (Int32.ofNat len)), .val (.ref s.heap.size), .unset, .unset] [.int (Int32.ofNat len), .int 0, .ref s.heap.size, .int (Int32.ofNat o), .ref b])) := c4.trans (by
    refine XS.astoreN X3.here hexec rfl (hb hbytes d3) rfl rfl rfl ?_
    refine XS.aloadN X3.here hexec rfl (hb hbytes d4) rfl rfl ?_
    refine XS.iloadN X3.here hexec rfl (hb hbytes d5) rfl ?_
    refine XS.aloadN X3.here hexec rfl (hb hbytes d6) rfl rfl ?_
    refine iconstV X3.here hexec rfl 0 (hb hbytes d7) (by decide) ?_
    refine XS.iloadN X3.here hexec rfl (hb hbytes d8) rfl ?_
    exact Steps.refl _)
  obtain ⟨v6, T6, X6, E6, g6⟩ := X3.callS hexec (Cmp5.law l b A s.heap.size B3 o 0 len) hown (wks W (staticW U16 115 Cmp5.yN)) (wk W Cmp5.tab) (W := 0) (Nat.le_of_ble_eq_true rfl) (Nat.le_of_ble_eq_true rfl) (Nat.le_refl _) (by show 0 + len + 0 ≤ len; omega) (g := (mkF m 9 #[.val (.ref b), .val (.int (Int32.ofNat o)), .val (.int (Int32.ofNat len)), .val (.ref s.heap.size), .unset, .unset] [.int (Int32.ofNat len), .int (Int32.ofNat 0), .ref s.heap.size, .int (Int32.ofNat o), .ref b])) rfl (by rw [hml]; rfl) c5 (argsL := [.ref b, .int (Int32.ofNat o), .ref s.heap.size, .int (Int32.ofNat 0), .int (Int32.ofNat len)]) (rest := []) rfl rfl (by show 2 * 0 + 0 ≤ _; decide) (hb hbytes d9) (⟨rfl, hA3, ba3, hne, l1, by rw [bs3]; simp, hp⟩)
  obtain ⟨rfl, B6, p6, f6⟩ := E6
  have c7 : Steps p.tables e below (s₁.setTop (entryFrame m #[.ref b, .int (Int32.ofNat o), .int (Int32.ofNat len)] 6)) (T6.setTop (mkF m 12 #[.val (.ref b), .val (.int (Int32.ofNat o)), .val (.int (Int32.ofNat len)), .val (.ref s.heap.size), .unset, .unset] [.int (Int32.ofNat len)])) := g6
  have c8 : Steps p.tables e below (s₁.setTop (entryFrame m #[.ref b, .int (Int32.ofNat o), .int (Int32.ofNat len)] 6)) (T6.setTop (mkF m 58 #[.val (.ref b), .val (.int (Int32.ofNat o)), .val (.int (Int32.ofNat len)), .val (.ref s.heap.size), .val (.int (Int32.ofNat len)), .unset] [.ref s.heap.size])) := c7.trans (by
    refine XS.istore X6.here hexec rfl (hb hbytes d12) rfl rfl ?_
    refine XS.iload X6.here hexec rfl (hb hbytes d14) rfl ?_
    refine XS.iloadN X6.here hexec rfl (hb hbytes d16) rfl ?_
    refine XS.icmpYes X6.here hexec rfl (pc0 := 17) rfl (hb hbytes d17) rfl (ii_eq_t rfl) (by decide) rfl ?_
    refine XS.aloadN X6.here hexec rfl (hb hbytes d57) rfl rfl ?_
    exact Steps.refl _)
  have X8 := X6.wide (L' := []) (cells' := 1) (slots' := len) (fun x hx hlt => by
    simp only [List.nil_append, copyLocs, List.mem_map, List.mem_range] at hx
    obtain ⟨i, -, rfl⟩ := hx
    exact absurd hlt (Nat.lt_irrefl _)) (Nat.le_refl _) (by omega)
  exact ⟨T6, some (.ref s.heap.size), _, _, _, X8, rfl, rfl, rfl, (fun h => by cases h), ⟨⟨rfl, B6, ba3.like (X3.warmed.alike.symm.trans X6.warmed.alike) p6.1 f6.1 f6.2.1 f6.2.2.1, f6.2.1.trans bv3, by rw [X6.warmed.alike.findClass, f6.1]; exact bf3, by rw [f6.2.2.1, bs3]; simp, fun j hj => by rw [f6.2.2.2 j, if_pos (by omega)]; rfl, kp3.put p6 (Nat.le_refl _)⟩, by rw [p6.2.2, bh3, hh0]; simp⟩, fun fs hl => c8.trans (X8.areturnOut hexec rfl hret rfl (hb hbytes d58) hl)⟩
end Cmp3
namespace CodL
def yN : MethodName := ⟨"java/lang/StringUTF16", "coderFromArrayLen", "([BI)B"⟩
abbrev yB : ByteArray := jdk_52_method_15_code
theorem d0 : decode yB 0 = .ok (.iload_n 1, 1) := by decide +kernel
theorem d1 : decode yB 1 = .ok (.aload_n 0, 1) := by decide +kernel
theorem d2 : decode yB 2 = .ok (.arraylength, 1) := by decide +kernel
theorem d3 : decode yB 3 = .ok (.isub, 1) := by decide +kernel
theorem d4 : decode yB 4 = .ok (.bipush 31, 2) := by decide +kernel
theorem d6 : decode yB 6 = .ok (.iushr, 1) := by decide +kernel
theorem d7 : decode yB 7 = .ok (.i2b, 1) := by decide +kernel
theorem d8 : decode yB 8 = .ok (.ireturn, 1) := by decide +kernel
def site : List Cond := []
def tab : Cond := tabOf yN yB 2 (some .byte) site
def P (d : Addr) (B : Cell) (args : Array Value) (s : State) : Prop := args = #[.ref d, .int (Int32.ofNat B.slots.size)] ∧ Arr .byte d B s
def E (r : Option Value) (s u : State) : Prop := XT.PureE (some (.int 0)) r s u
/-- an array as long as the number of chars: LATIN1 -/
theorem law (l : Launch) (d : Addr) (B : Cell) : Law l yN 2 2 0 0 yB 2 (some .byte) site (P d B) E [] 0 0 := by
  refine Law.of_walk (plainFor_of_name (by decide +kernel)) (by decide +kernel) (by decide +kernel) (by decide) (fun _ _ h => by rw [h.1]; rfl) (fun _ U U' hal hh h => ⟨h.1, h.2.mv hal hh⟩) (fun r U U' V V' h1 hal h2 h => XT.PureE.mv r U U' V V' h1 hal h2 h) ?_
  intro p e s m args below meth c s₁ X0 hexec hbytes hml hret hlk hnm hown hh0 W hP
  obtain ⟨rfl, hB⟩ := hP
  have hB0 := hB.mv X0.warmed.alike hh0
  have c1 : Steps p.tables e below (s₁.setTop (entryFrame m #[.ref d, .int (Int32.ofNat B.slots.size)] 2)) (s₁.setTop (mkF m 0 #[.val (.ref d), .val (.int (Int32.ofNat B.slots.size))] [])) := entry rfl
  have c2 : Steps p.tables e below (s₁.setTop (entryFrame m #[.ref d, .int (Int32.ofNat B.slots.size)] 2)) (s₁.setTop (mkF m 2 #[.val (.ref d), .val (.int (Int32.ofNat B.slots.size))] [.ref d, .int (Int32.ofNat B.slots.size)])) := c1.trans (by
    refine XS.iloadN X0.here hexec rfl (hb hbytes d0) rfl ?_
    refine XS.aloadN X0.here hexec rfl (hb hbytes d1) rfl rfl ?_
    exact Steps.refl _)
  have c3 : Steps p.tables e below (s₁.setTop (entryFrame m #[.ref d, .int (Int32.ofNat B.slots.size)] 2)) (s₁.setTop (mkF m 8 #[.val (.ref d), .val (.int (Int32.ofNat B.slots.size))] [.int (lo8 (ushr (Int32.ofNat B.slots.size - Int32.ofNat B.slots.size) 31))])) := c2.trans (by
    refine X0.alen hexec hB0 rfl rfl (hb hbytes d2) ?_
    refine XS.isub X0.here hexec rfl (hb hbytes d3) rfl ?_
    refine bipushV X0.here hexec rfl 31 (hb hbytes d4) (by decide) ?_
    refine iushr X0.here hexec rfl (hb hbytes d6) rfl ?_
    refine i2b X0.here hexec rfl (hb hbytes d7) rfl ?_
    exact Steps.refl _)
  have e0 : lo8 (ushr (Int32.ofNat B.slots.size - Int32.ofNat B.slots.size) 31) = 0 := by rw [Int32.sub_self]; decide
  rw [e0] at c3
  exact ⟨s₁, some (.int 0), _, _, _, X0, rfl, rfl, rfl, (fun h => by cases h), ⟨rfl, hh0⟩, fun fs hl => c3.trans (X0.ireturnOut hexec hret rfl (Or.inr (Or.inr (Or.inl rfl))) (hb hbytes d8) hl)⟩
end CodL
/-- the String at a is Latin-1 over a new byte[] (the heap's one new cell): the low bytes of the len chars of A from o on; every cell but a is kept -/
def Got (a : Addr) (D : Cell) (fV fC : Field) (A : Cell) (o len : Nat) (r : Option Value) (s u : State) : Prop := r = none ∧ ∃ D' V : Cell, Blank "java/lang/String" a D' u ∧ Same D D' [fV.slot, fC.slot] ∧ D'.slots[fV.slot]? = some (.ref s.heap.size) ∧ D'.slots[fC.slot]? = some (.int 0) ∧ Arr .byte s.heap.size V u ∧ V.vm = .none ∧ u.vm.findClass "[B" = some V.cls ∧ V.slots.size = len ∧ (∀ j, j < len → V.slots[j]? = some (.int (lo8 (cv A (o + j))))) ∧ (∀ (y : Addr) (c : Cell), y ≠ a → s.heap[y]? = some c → u.heap[y]? = some c) ∧ u.heap.size = s.heap.size + 1
theorem Got.mv {a : Addr} {D A : Cell} {fV fC : Field} {o len : Nat} : ∀ r (U U' V V' : State), U'.heap = U.heap → V.vm.Alike V'.vm → V'.heap = V.heap → Got a D fV fC A o len r U V → Got a D fV fC A o len r U' V' :=
  fun r U U' V V' h1 hal h2 ⟨e0, D', X, a1, a2, a3, a4, a5, a6, a7, a8, a9, a10, a11⟩ => ⟨e0, D', X, a1.mv hal h2, a2, by rw [h1]; exact a3, a4, by rw [h1]; exact a5.mv hal h2, a6, by rw [hal.findClass]; exact a7, a8, a9, by rw [h1, h2]; exact a10, by rw [h1, h2]; exact a11⟩
namespace New4
def yN : MethodName := ⟨"java/lang/String", "<init>", "([CIILjava/lang/Void;)V"⟩
abbrev yB : ByteArray := jdk_42_method_149_code
theorem d0 : decode yB 0 = .ok (.aload_n 0, 1) := by decide +kernel
theorem d1 : decode yB 1 = .ok (.invokespecial 1, 3) := by decide +kernel
theorem d4 : decode yB 4 = .ok (.iload_n 3, 1) := by decide +kernel
theorem d5 : decode yB 5 = .ok (.ifCond (.ne) 22, 3) := by decide +kernel
theorem d27 : decode yB 27 = .ok (.getstatic 38, 3) := by decide +kernel
theorem d30 : decode yB 30 = .ok (.ifCond (.eq) 28, 3) := by decide +kernel
theorem d33 : decode yB 33 = .ok (.aload_n 1, 1) := by decide +kernel
theorem d34 : decode yB 34 = .ok (.iload_n 2, 1) := by decide +kernel
theorem d35 : decode yB 35 = .ok (.iload_n 3, 1) := by decide +kernel
theorem d36 : decode yB 36 = .ok (.invokestatic 177, 3) := by decide +kernel
theorem d39 : decode yB 39 = .ok (.astore 5, 2) := by decide +kernel
theorem d41 : decode yB 41 = .ok (.aload_n 0, 1) := by decide +kernel
theorem d42 : decode yB 42 = .ok (.aload 5, 2) := by decide +kernel
theorem d44 : decode yB 44 = .ok (.iload_n 3, 1) := by decide +kernel
theorem d45 : decode yB 45 = .ok (.invokestatic 47, 3) := by decide +kernel
theorem d48 : decode yB 48 = .ok (.putfield 15, 3) := by decide +kernel
theorem d51 : decode yB 51 = .ok (.aload_n 0, 1) := by decide +kernel
theorem d52 : decode yB 52 = .ok (.aload 5, 2) := by decide +kernel
theorem d54 : decode yB 54 = .ok (.putfield 9, 3) := by decide +kernel
theorem d57 : decode yB 57 = .ok (.return_, 1) := by decide +kernel
def site : List Cond := [.fieldLink "java/lang/String" 38 "java/lang/String" "COMPACT_STRINGS" "Z", Cmp3.tab, CodL.tab, .laysFinal "java/lang/String" "java/lang/String" "value" "[B", .fieldLink "java/lang/String" 9 "java/lang/String" "value" "[B", .laysFinal "java/lang/String" "java/lang/String" "coder" "B", .fieldLink "java/lang/String" 15 "java/lang/String" "coder" "B"] ++ objW "java/lang/String" 1 ++ staticW "java/lang/String" 177 Cmp3.yN ++ staticW "java/lang/String" 47 CodL.yN
def tab : Cond := tabOf yN yB 6 none site
def P (a : Addr) (D : Cell) (fV fC : Field) (b : Addr) (A : Cell) (z : Int32) (o len : Nat) (args : Array Value) (s : State) : Prop := args = #[.ref a, .ref b, .int (Int32.ofNat o), .int (Int32.ofNat len), .null] ∧ Blank "java/lang/String" a D s ∧ Found "java/lang/String" "value" "[B" fV s ∧ Found "java/lang/String" "coder" "B" fC s ∧ Ch b A s ∧ StaticIs s "java/lang/String" "COMPACT_STRINGS" "Z" (.int z) ∧ ¬ z = 0 ∧ 0 < len ∧ o + len ≤ A.slots.size ∧ len ≤ 536870912 ∧ ∀ i, i < len → ¬ 255 < cv A (o + i)
def E (a : Addr) (D : Cell) (fV fC : Field) (A : Cell) (o len : Nat) (r : Option Value) (s u : State) : Prop := Got a D fV fC A o len r s u
/-- len > 0, no char of the range above 255: a Latin-1 String of their low bytes -/
theorem law (l : Launch) (a : Addr) (D : Cell) (fV fC : Field) (b : Addr) (A : Cell) (z : Int32) (o len : Nat) : Law l yN 5 4 2 35 yB 6 none site (P a D fV fC b A z o len) (E a D fV fC A o len) [⟨a, fC.slot⟩, ⟨a, fV.slot⟩] 1 len := by
  refine Law.of_walk (plainFor_of_name (by decide +kernel)) (by decide +kernel) (by decide +kernel) (by decide) (fun _ _ h => by rw [h.1]; rfl) (fun _ U U' hal hh h => ⟨h.1, h.2.1.mv hal hh, h.2.2.1.al hal, h.2.2.2.1.al hal, h.2.2.2.2.1.mv hal hh, h.2.2.2.2.2.1.there hal hh, h.2.2.2.2.2.2⟩) (fun r U U' V V' h1 hal h2 h => Got.mv r U U' V V' h1 hal h2 h) ?_
  intro p e s m args below meth c s₁ X0 hexec hbytes hml hret hlk hnm hown hh0 W hP
  obtain ⟨rfl, hB, f1, f2, hA, s1, hz, l0, l1, l2, hp⟩ := hP
  have a31 := hA.1.2.2.2
  have c1 : Steps p.tables e below (s₁.setTop (entryFrame m #[.ref a, .ref b, .int (Int32.ofNat o), .int (Int32.ofNat len), .null] 6)) (s₁.setTop (mkF m 0 #[.val (.ref a), .val (.ref b), .val (.int (Int32.ofNat o)), .val (.int (Int32.ofNat len)), .val .null, .unset] [])) := entry rfl
  have c2 : Steps p.tables e below (s₁.setTop (entryFrame m #[.ref a, .ref b, .int (Int32.ofNat o), .int (Int32.ofNat len), .null] 6)) (s₁.setTop (mkF m 1 #[.val (.ref a), .val (.ref b), .val (.int (Int32.ofNat o)), .val (.int (Int32.ofNat len)), .val .null, .unset] [.ref a])) := c1.trans (by
    refine XS.aloadN X0.here hexec rfl (hb hbytes d0) rfl rfl ?_
    exact Steps.refl _)
  obtain ⟨T3, X3, q3, st3⟩ := X0.oinit hexec hown (wks W (objW "java/lang/String" 1)) (g := (mkF m 1 #[.val (.ref a), .val (.ref b), .val (.int (Int32.ofNat o)), .val (.int (Int32.ofNat len)), .val .null, .unset] [.ref a])) rfl (by rw [hml]; rfl) (rest := []) rfl (hb hbytes d1) (W := 0) (by show 2 * 0 + 0 ≤ _; decide) (Nat.le_of_ble_eq_true rfl) (Nat.le_of_ble_eq_true rfl)
  have hh3 := q3.trans hh0
  have c4 : Steps p.tables e below (s₁.setTop (entryFrame m #[.ref a, .ref b, .int (Int32.ofNat o), .int (Int32.ofNat len), .null] 6)) (T3.setTop (mkF m 27 #[.val (.ref a), .val (.ref b), .val (.int (Int32.ofNat o)), .val (.int (Int32.ofNat len)), .val .null, .unset] [])) := (c2.trans (st3 _ (Steps.refl _))).trans (by
    refine XS.iloadN X3.here hexec rfl (hb hbytes d4) rfl ?_
    refine XS.ifYes X3.here hexec rfl (pc0 := 5) rfl (hb hbytes d5) rfl (i0_ne_t (nz32 (by omega) l0)) (by decide) rfl ?_
    exact Steps.refl _)
  obtain ⟨T5, X5, q5, st5⟩ := X3.sget hexec hown (wk W (.fieldLink "java/lang/String" 38 "java/lang/String" "COMPACT_STRINGS" "Z")) s1 (fun _ _ h => by rw [hh3]; exact h) (g := (mkF m 27 #[.val (.ref a), .val (.ref b), .val (.int (Int32.ofNat o)), .val (.int (Int32.ofNat len)), .val .null, .unset] [])) rfl (hb hbytes d27)
  have hh5 := q5.trans hh3
  have c6 : Steps p.tables e below (s₁.setTop (entryFrame m #[.ref a, .ref b, .int (Int32.ofNat o), .int (Int32.ofNat len), .null] 6)) (T5.setTop (mkF m 30 #[.val (.ref a), .val (.ref b), .val (.int (Int32.ofNat o)), .val (.int (Int32.ofNat len)), .val .null, .unset] [.int z])) := c4.trans (st5 _ (Steps.refl _))
  have c7 : Steps p.tables e below (s₁.setTop (entryFrame m #[.ref a, .ref b, .int (Int32.ofNat o), .int (Int32.ofNat len), .null] 6)) (T5.setTop (mkF m 36 #[.val (.ref a), .val (.ref b), .val (.int (Int32.ofNat o)), .val (.int (Int32.ofNat len)), .val .null, .unset] [.int (Int32.ofNat len), .int (Int32.ofNat o), .ref b])) := c6.trans (by
    refine XS.ifNo X5.here hexec rfl (hb hbytes d30) rfl (i0_eq_f hz) ?_
    refine XS.aloadN X5.here hexec rfl (hb hbytes d33) rfl rfl ?_
    refine XS.iloadN X5.here hexec rfl (hb hbytes d34) rfl ?_
    refine XS.iloadN X5.here hexec rfl (hb hbytes d35) rfl ?_
    exact Steps.refl _)
  obtain ⟨v8, T8, X8, E8, g8⟩ := X5.callS hexec (Cmp3.law l b A o len) hown (wks W (staticW "java/lang/String" 177 Cmp3.yN)) (wk W Cmp3.tab) (W := 0) (Nat.le_of_ble_eq_true rfl) (Nat.le_of_ble_eq_true rfl) (Nat.le_refl _) (by show 0 + len ≤ len; omega) (g := (mkF m 36 #[.val (.ref a), .val (.ref b), .val (.int (Int32.ofNat o)), .val (.int (Int32.ofNat len)), .val .null, .unset] [.int (Int32.ofNat len), .int (Int32.ofNat o), .ref b])) rfl (by rw [hml]; rfl) c7 (argsL := [.ref b, .int (Int32.ofNat o), .int (Int32.ofNat len)]) (rest := []) rfl rfl (by show 2 * 0 + 0 ≤ _; decide) (hb hbytes d36) (⟨rfl, hA.mv X5.warmed.alike hh5, l1, l2, hp⟩)
  obtain ⟨e8, z8⟩ := E8
  obtain ⟨rfl, N, n1, n2, n3, n4, n5, n6⟩ := NewArr.mv _ T5 s _ _ hh5.symm (Vm.Alike.refl _) rfl e8
  rw [hh5] at z8
  have hB1 := hB.keep X8.warmed.alike (n6 _ _ hB.1)
  have hne : s.heap.size ≠ a := (Nat.ne_of_lt (Array.getElem?_eq_some_iff.mp hB.1).1).symm
  have c9 : Steps p.tables e below (s₁.setTop (entryFrame m #[.ref a, .ref b, .int (Int32.ofNat o), .int (Int32.ofNat len), .null] 6)) (T8.setTop (mkF m 39 #[.val (.ref a), .val (.ref b), .val (.int (Int32.ofNat o)), .val (.int (Int32.ofNat len)), .val .null, .unset] [.ref s.heap.size])) := g8
  have c10 : Steps p.tables e below (s₁.setTop (entryFrame m #[.ref a, .ref b, .int (Int32.ofNat o), .int (Int32.ofNat len), .null] 6)) (T8.setTop (mkF m 45 #[.val (.ref a), .val (.ref b), .val (.int (Int32.ofNat o)), .val (.int (Int32.ofNat len)), .val .null, .val (.ref s.heap.size)] [.int (Int32.ofNat N.slots.size), .ref s.heap.size, .ref a])) := by
    have hc : Steps p.tables e below (s₁.setTop (entryFrame m #[.ref a, .ref b, .int (Int32.ofNat o), .int (Int32.ofNat len), .null] 6)) (T8.setTop (mkF m 45 #[.val (.ref a), .val (.ref b), .val (.int (Int32.ofNat o)), .val (.int (Int32.ofNat len)), .val .null, .val (.ref s.heap.size)] [.int (Int32.ofNat len), .ref s.heap.size, .ref a])) := c9.trans (by
      refine XS.astore X8.here hexec rfl (hb hbytes d39) rfl rfl rfl ?_
      refine XS.aloadN X8.here hexec rfl (hb hbytes d41) rfl rfl ?_
      refine XS.aload X8.here hexec rfl (hb hbytes d42) rfl rfl ?_
      refine XS.iloadN X8.here hexec rfl (hb hbytes d44) rfl ?_
      exact Steps.refl _)
    rw [n4]; exact hc
  obtain ⟨v11, T11, X11, E11, g11⟩ := X8.callS hexec (CodL.law l s.heap.size N) hown (wks W (staticW "java/lang/String" 47 CodL.yN)) (wk W CodL.tab) (W := 1) (Nat.le_of_ble_eq_true rfl) (Nat.le_of_ble_eq_true rfl) (Nat.le_refl _) (by show 0 + len + 0 ≤ len; omega) (g := (mkF m 45 #[.val (.ref a), .val (.ref b), .val (.int (Int32.ofNat o)), .val (.int (Int32.ofNat len)), .val .null, .val (.ref s.heap.size)] [.int (Int32.ofNat N.slots.size), .ref s.heap.size, .ref a])) rfl (by rw [hml]; rfl) c10 (argsL := [.ref s.heap.size, .int (Int32.ofNat N.slots.size)]) (rest := [.ref a]) rfl rfl (by show 2 * 0 + (1 + 0) ≤ _; decide) (hb hbytes d45) (⟨rfl, n1⟩)
  obtain ⟨rfl, q11⟩ := E11
  have hB11 := hB1.mv (X8.warmed.alike.symm.trans X11.warmed.alike) q11
  have c12 : Steps p.tables e below (s₁.setTop (entryFrame m #[.ref a, .ref b, .int (Int32.ofNat o), .int (Int32.ofNat len), .null] 6)) (T11.setTop (mkF m 48 #[.val (.ref a), .val (.ref b), .val (.int (Int32.ofNat o)), .val (.int (Int32.ofNat len)), .val .null, .val (.ref s.heap.size)] [.int 0, .ref a])) := g11
  obtain ⟨T13, X13, p13, bl13, sl13, st13⟩ := X11.finit hexec hown (wk W (.fieldLink "java/lang/String" 15 "java/lang/String" "coder" "B")) (Or.inr ⟨_, (wk W (.laysFinal "java/lang/String" "java/lang/String" "coder" "B"))⟩) (Or.inl ⟨rfl, hnm⟩) f2 (Or.inl rfl) hB11 (t := .byte) (by decide +kernel) rfl (g := (mkF m 48 #[.val (.ref a), .val (.ref b), .val (.int (Int32.ofNat o)), .val (.int (Int32.ofNat len)), .val .null, .val (.ref s.heap.size)] [.int 0, .ref a])) rfl (rest := []) rfl (hb hbytes d48)
  have c14 : Steps p.tables e below (s₁.setTop (entryFrame m #[.ref a, .ref b, .int (Int32.ofNat o), .int (Int32.ofNat len), .null] 6)) (T13.setTop (mkF m 54 #[.val (.ref a), .val (.ref b), .val (.int (Int32.ofNat o)), .val (.int (Int32.ofNat len)), .val .null, .val (.ref s.heap.size)] [.ref s.heap.size, .ref a])) := (c12.trans (st13 _ (Steps.refl _))).trans (by
    refine XS.aloadN X13.here hexec rfl (hb hbytes d51) rfl rfl ?_
    refine XS.aload X13.here hexec rfl (hb hbytes d52) rfl rfl ?_
    exact Steps.refl _)
  obtain ⟨T15, X15, p15, bl15, sl15, st15⟩ := X13.finit hexec hown (wk W (.fieldLink "java/lang/String" 9 "java/lang/String" "value" "[B")) (Or.inr ⟨_, (wk W (.laysFinal "java/lang/String" "java/lang/String" "value" "[B"))⟩) (Or.inl ⟨rfl, hnm⟩) f1 (Or.inl rfl) bl13 (t := (.array .byte)) (by decide +kernel) rfl (g := (mkF m 54 #[.val (.ref a), .val (.ref b), .val (.int (Int32.ofNat o)), .val (.int (Int32.ofNat len)), .val .null, .val (.ref s.heap.size)] [.ref s.heap.size, .ref a])) rfl (rest := []) rfl (hb hbytes d54)
  have c16 : Steps p.tables e below (s₁.setTop (entryFrame m #[.ref a, .ref b, .int (Int32.ofNat o), .int (Int32.ofNat len), .null] 6)) (T15.setTop (mkF m 57 #[.val (.ref a), .val (.ref b), .val (.int (Int32.ofNat o)), .val (.int (Int32.ofNat len)), .val .null, .val (.ref s.heap.size)] [])) := c14.trans (st15 _ (Steps.refl _))
  have ap := apart (Or.inr ⟨_, (wk W (.laysFinal "java/lang/String" "java/lang/String" "value" "[B"))⟩) (Or.inr ⟨_, (wk W (.laysFinal "java/lang/String" "java/lang/String" "coder" "B"))⟩) f1 f2 (t₁ := .array .byte) (t₂ := .byte) (by decide +kernel) (by decide +kernel) (by decide)
  have al := X8.warmed.alike.symm.trans X15.warmed.alike
  have n7 : T11.heap[s.heap.size]? = some N := by rw [q11]; exact n1.1
  exact ⟨T15, none, _, _, _, X15, by simp, rfl, by omega, (fun _ => rfl), ⟨rfl, _, N, bl15, ((Same.refl D _).set _ (by simp)).set _ (by simp), sl15, (Cell.slots_setSlot_ne _ ap).trans sl13, n1.keep al (p15.other hne (p13.other hne n7)), n2, by rw [al.findClass]; exact n3, n4, n5, fun y c h1 h2 => p15.other h1 (p13.other h1 (by rw [q11]; exact n6 y c h2)), by rw [p15.2.2, p13.2.2, q11]; exact z8⟩, fun fs hl => c16.trans (X15.returnOut hexec hret (hb hbytes d57) hl)⟩
end New4
namespace New1
def yN : MethodName := ⟨"java/lang/String", "<init>", "([C)V"⟩
abbrev yB : ByteArray := jdk_42_method_3_code
theorem d0 : decode yB 0 = .ok (.aload_n 0, 1) := by decide +kernel
theorem d1 : decode yB 1 = .ok (.aload_n 1, 1) := by decide +kernel
theorem d2 : decode yB 2 = .ok (.iconst 0, 1) := by decide +kernel
theorem d3 : decode yB 3 = .ok (.aload_n 1, 1) := by decide +kernel
theorem d4 : decode yB 4 = .ok (.arraylength, 1) := by decide +kernel
theorem d5 : decode yB 5 = .ok (.aconst_null, 1) := by decide +kernel
theorem d6 : decode yB 6 = .ok (.invokespecial 27, 3) := by decide +kernel
theorem d9 : decode yB 9 = .ok (.return_, 1) := by decide +kernel
def site : List Cond := [New4.tab] ++ initW "java/lang/String" 27 New4.yN
def tab : Cond := tabOf yN yB 2 none site
def P (a : Addr) (D : Cell) (fV fC : Field) (b : Addr) (A : Cell) (z : Int32) (args : Array Value) (s : State) : Prop := args = #[.ref a, .ref b] ∧ Blank "java/lang/String" a D s ∧ Found "java/lang/String" "value" "[B" fV s ∧ Found "java/lang/String" "coder" "B" fC s ∧ Ch b A s ∧ StaticIs s "java/lang/String" "COMPACT_STRINGS" "Z" (.int z) ∧ ¬ z = 0 ∧ 0 < A.slots.size ∧ A.slots.size ≤ 536870912 ∧ ∀ i, i < A.slots.size → ¬ 255 < cv A i
def E (a : Addr) (D : Cell) (fV fC : Field) (A : Cell) (r : Option Value) (s u : State) : Prop := Got a D fV fC A 0 A.slots.size r s u
/-- new String(chars), not empty, no char above 255: a Latin-1 String of their low bytes -/
theorem law (l : Launch) (a : Addr) (D : Cell) (fV fC : Field) (b : Addr) (A : Cell) (z : Int32) : Law l yN 2 1 3 52 yB 2 none site (P a D fV fC b A z) (E a D fV fC A) [⟨a, fC.slot⟩, ⟨a, fV.slot⟩] 1 A.slots.size := by
  refine Law.of_walk (plainFor_of_name (by decide +kernel)) (by decide +kernel) (by decide +kernel) (by decide) (fun _ _ h => by rw [h.1]; rfl) (fun _ U U' hal hh h => ⟨h.1, h.2.1.mv hal hh, h.2.2.1.al hal, h.2.2.2.1.al hal, h.2.2.2.2.1.mv hal hh, h.2.2.2.2.2.1.there hal hh, h.2.2.2.2.2.2⟩) (fun r U U' V V' h1 hal h2 h => Got.mv r U U' V V' h1 hal h2 h) ?_
  intro p e s m args below meth c s₁ X0 hexec hbytes hml hret hlk hnm hown hh0 W hP
  obtain ⟨rfl, hB, f1, f2, hA, s1, hz, l0, l2, hp⟩ := hP
  have c1 : Steps p.tables e below (s₁.setTop (entryFrame m #[.ref a, .ref b] 2)) (s₁.setTop (mkF m 0 #[.val (.ref a), .val (.ref b)] [])) := entry rfl
  have c2 : Steps p.tables e below (s₁.setTop (entryFrame m #[.ref a, .ref b] 2)) (s₁.setTop (mkF m 6 #[.val (.ref a), .val (.ref b)] [.null, .int (Int32.ofNat A.slots.size), .int 0, .ref b, .ref a])) := c1.trans (by
    refine XS.aloadN X0.here hexec rfl (hb hbytes d0) rfl rfl ?_
    refine XS.aloadN X0.here hexec rfl (hb hbytes d1) rfl rfl ?_
    refine iconstV X0.here hexec rfl 0 (hb hbytes d2) (by decide) ?_
    refine XS.aloadN X0.here hexec rfl (hb hbytes d3) rfl rfl ?_
    refine X0.alen hexec (hA.1.mv X0.warmed.alike hh0) rfl rfl (hb hbytes d4) ?_
    refine XS.aconstNull X0.here hexec rfl (hb hbytes d5) ?_
    exact Steps.refl _)
  obtain ⟨v3, T3, X3, E3, g3⟩ := X0.callN hexec (New4.law l a D fV fC b A z 0 A.slots.size) rfl hown (wks W (initW "java/lang/String" 27 New4.yN)) (W New4.tab (by simp only [site, List.mem_cons, List.mem_append, true_or, or_true])) (W := 0) (Nat.le_of_ble_eq_true rfl) (Nat.le_of_ble_eq_true rfl) (Nat.le_refl _) (by show 0 + A.slots.size ≤ A.slots.size; omega) (g := (mkF m 6 #[.val (.ref a), .val (.ref b)] [.null, .int (Int32.ofNat A.slots.size), .int (Int32.ofNat 0), .ref b, .ref a])) rfl (by rw [hml]; rfl) c2 (argsL := [.ref b, .int (Int32.ofNat 0), .int (Int32.ofNat A.slots.size), .null]) (rest := []) rfl rfl (by show 2 * 0 + 0 ≤ _; decide) (hb hbytes d6) (⟨rfl, hB.mv X0.warmed.alike hh0, f1.al X0.warmed.alike, f2.al X0.warmed.alike, hA.mv X0.warmed.alike hh0, s1.there X0.warmed.alike hh0, hz, l0, by omega, l2, fun i hi => by rw [Nat.zero_add]; exact hp i hi⟩)
  have e0 := Got.mv _ s₁ s _ _ hh0.symm (Vm.Alike.refl _) rfl E3
  obtain rfl := e0.1
  have c4 : Steps p.tables e below (s₁.setTop (entryFrame m #[.ref a, .ref b] 2)) (T3.setTop (mkF m 9 #[.val (.ref a), .val (.ref b)] [])) := g3
  exact ⟨T3, none, _, _, _, X3, by simp, rfl, by omega, (fun _ => rfl), e0, fun fs hl => c4.trans (X3.returnOut hexec hret (hb hbytes d9) hl)⟩
theorem pays {l : Launch} {R : Room} {p : Program} {e : Env} {below : List Frame} {s : State} {sargs : Array Value} {len W : Nat} (a : Addr) (D : Cell) (fV fC : Field) (b : Addr) (A : Cell) (z : Int32) (htab : tab.before sargs s = true) (hfr : 4 ≤ R.frames) (hlo : W + 65 ≤ R.locals) :
    Back l R p e below s sargs yN len W (fun A₁ a₁ => A₁.cells + 1 ≤ R.cells ∧ A₁.slots + A.slots.size ≤ R.slots ∧ P a D fV fC b A z a₁ A₁.U) (fun A₁ _ v₁ B₁ => E a D fV fC A v₁ A₁.U B₁.U ∧ B₁.locs = A₁.locs ++ [⟨a, fC.slot⟩, ⟨a, fV.slot⟩] ∧ B₁.cells = A₁.cells + 1 ∧ B₁.slots = A₁.slots + A.slots.size) :=
  (law l a D fV fC b A z).pays htab hfr (by omega)
end New1
end StrChars
namespace StrChars.Road
open Jvm Sem ClassFile Op Lib Jvm.Stand Jvm.Free Jvm.Free.XT
open Jvm.Lib.Cold (StaticIs)
abbrev ST : String := "java/lang/String"
/-- every table word that New1's law asks, flat -/
abbrev words : List Jvm.Cond := [.code New1.yN New1.yB 2 none, .initialized ST, .methodLink ST 27 New4.yN, .instanceMethod New4.yN,
  .code New4.yN New4.yB 6 none, .fieldLink ST 38 ST "COMPACT_STRINGS" "Z", .laysFinal ST ST "value" "[B", .fieldLink ST 9 ST "value" "[B", .laysFinal ST ST "coder" "B", .fieldLink ST 15 ST "coder" "B",
  .methodLink ST 1 Lib.objectInit, .instanceMethod Lib.objectInit, .code Lib.objectInit ⟨#[0xb1]⟩ 1 none, .methodLink ST 177 Cmp3.yN, .static Cmp3.yN, .methodLink ST 47 CodL.yN, .static CodL.yN,
  .code Cmp3.yN Cmp3.yB 6 (some (.array .byte)), .initialized U16, .arrayClass .byte, .methodLink U16 115 Cmp5.yN, .static Cmp5.yN, .code Cmp5.yN Cmp5.yB 7 (some .int), .code CodL.yN CodL.yB 2 (some .byte)]
theorem tab_of {a : Array Value} {s : State} (h : ∀ w ∈ words, w.before a s = true) : New1.tab.before a s = true := by
  have h5 : Cmp5.tab.before a s = true := unparts (wk h (.code Cmp5.yN Cmp5.yB 7 (some .int))) (wks h (.initialized Cmp5.yN.cls :: Cmp5.site))
  have hc : CodL.tab.before a s = true := unparts (wk h (.code CodL.yN CodL.yB 2 (some .byte))) (wks h (.initialized CodL.yN.cls :: CodL.site))
  have q5 : ∀ w ∈ Cmp5.tab :: words, w.before a s = true := fun w hw => (List.mem_cons.mp hw).elim (fun e => e ▸ h5) (h w)
  have h3 : Cmp3.tab.before a s = true := unparts (wk q5 (.code Cmp3.yN Cmp3.yB 6 (some (.array .byte)))) (wks q5 (.initialized Cmp3.yN.cls :: Cmp3.site))
  have q3 : ∀ w ∈ Cmp3.tab :: CodL.tab :: words, w.before a s = true := fun w hw => (List.mem_cons.mp hw).elim (fun e => e ▸ h3) fun hw => (List.mem_cons.mp hw).elim (fun e => e ▸ hc) (h w)
  have h4 : New4.tab.before a s = true := unparts (wk q3 (.code New4.yN New4.yB 6 none)) (wks q3 (.initialized New4.yN.cls :: New4.site))
  have q4 : ∀ w ∈ New4.tab :: words, w.before a s = true := fun w hw => (List.mem_cons.mp hw).elim (fun e => e ▸ h4) (h w)
  exact unparts (wk q4 (.code New1.yN New1.yB 2 none)) (wks q4 (.initialized New1.yN.cls :: New1.site))
/-- the words ride from the start Z to the walk's own state -/
theorem moved {Z s : State} {a0 args : Array Value} (hZ : Z.Warmed39 s.vm) (hw : ∀ d ∈ words, d.before a0 Z = true) : ∀ d ∈ words, d.before args s = true := fun d hd => by
  have q := hw d hd
  have t : ∀ d ∈ words, d = .arrayClass .byte ∨ (d.onTables && d.keepsFace) = true := by decide +kernel
  rcases t d hd with rfl | t
  · exact RoadKit.mvA hZ q
  · exact RoadKit.mv hZ q t
/-- WHAT COMES BACK, over the tables of the start Z: h the heap at the call, h' behind it -/
def Q (Z : State) (x : Addr) (A : Cell) (h : Heap) (v : Option Value) (h' : Heap) (L : List Loc) : Prop := v = none ∧ (∀ y ∈ L, y.base = x) ∧ RoadKit.Keep h h' [x] ∧ h'.size = h.size + 1 ∧ RoadKit.Exa Z h' x ST ∧ RoadKit.Fld Z h' x ST "value" "[B" (.ref h.size) ∧ RoadKit.Fld Z h' x ST "coder" "B" (.int 0) ∧
  (∃ V : Cell, RoadKit.Arr Z h' h.size V .byte ∧ V.vm = .none ∧ Z.vm.findClass "[B" = some V.cls ∧ V.slots.size = A.slots.size ∧ ∀ j, j < A.slots.size → V.slots[j]? = some (.int (lo8 (cv A j)))) ∧
  ∀ (O n d : String) (w : Value), RoadKit.Fld Z h x O n d w → RoadKit.slotOf Z O n d ≠ RoadKit.slotOf Z ST "value" "[B" → RoadKit.slotOf Z O n d ≠ RoadKit.slotOf Z ST "coder" "B" → RoadKit.Fld Z h' x O n d w
/-- **new String(chars) AT A CALL, IN THE ROAD'S FORM**: for specialBack behind newO: x the fresh String, b the char[] with the cell A -/
theorem back {p : Program} {l : Launch} {e : Env} {R : Room} {s : State} {args : Array Value} {below : List Frame} {len W : Nat} {Z : State} {a0 : Array Value} {h : Heap} (hZ : Z.Warmed39 s.vm) (hw : ∀ d ∈ words, d.before a0 Z = true) {kI : Nat} (wi : (Jvm.Cond.instantiable ST kI).before a0 Z = true)
    {x b : Addr} {A : Cell} {z : Int32} {v0 c0 : Value} (E : RoadKit.Exa Z h x ST) (V : RoadKit.Fld Z h x ST "value" "[B" v0) (C : RoadKit.Fld Z h x ST "coder" "B" c0) (K : RoadKit.Arr Z h b A .char) (hty : Typed .char A) (S : RoadKit.Sta Z h ST "COMPACT_STRINGS" "Z" (.int z)) (hz : ¬ z = 0)
    (l0 : 0 < A.slots.size) (l2 : A.slots.size ≤ 536870912) (hp : ∀ i, i < A.slots.size → ¬ 255 < cv A i) (hfr : 4 ≤ R.frames) (hlo : W + 65 ≤ R.locals) :
    Back l R p e below s args New1.yN len W (fun P a => a = #[.ref x, .ref b] ∧ P.U.heap = h ∧ P.cells + 1 ≤ R.cells ∧ P.slots + A.slots.size ≤ R.slots)
      (fun P _ v B => ∃ L, Q Z x A h v B.U.heap L ∧ B.locs = P.locs ++ L ∧ B.cells = P.cells + 1 ∧ B.slots = P.slots + A.slots.size) := by
  intro m meth c P g ig mk a X hg hsize hdg hW hn hp'
  obtain ⟨rfl, rfl, r1, r2⟩ := hp'
  have al : Z.vm.Alike P.U.vm := hZ.alike.trans X.warmed.alike
  obtain ⟨D, cfV, kV, iV, fV, hD, gV, stV, knV, obV, asV, slV⟩ := id V
  obtain ⟨D', cfC, kC, iC, fC, hD', gC, stC, -, -, asC, slC⟩ := id C
  cases hD.symm.trans hD'
  obtain ⟨D2, kD, e1, e2, e3, e4, e5⟩ := id E
  cases hD.symm.trans e1
  obtain ⟨c2, k2, i1, i2, i3, -⟩ := Cond.instantiable_spec wi
  cases e2.symm.trans i1
  cases e3.symm.trans i2
  obtain ⟨kU, u1, u2⟩ := al.2.2 _ _ e3
  have hB : Blank ST x D P.U := ⟨hD, ⟨knV, fun q hq => by rw [hq] at obV; cases obV⟩, by rw [al.findClass]; exact e2, kU, u1, by rw [u2]; exact i3, by rw [u2]; exact e5 i3⟩
  have F1 : Found ST "value" "[B" fV P.U := ⟨SBG.found_only al ⟨cfV, kV, iV, gV⟩, stV⟩
  have F2 : Found ST "coder" "B" fC P.U := ⟨SBG.found_only al ⟨cfC, kC, iC, gC⟩, stC⟩
  have hA : Ch b A P.U := ⟨⟨K.1, State.isArrayOf_alike al K.2.1, K.2.2, by omega⟩, hty⟩
  have hS : StaticIs P.U ST "COMPACT_STRINGS" "Z" (.int z) := by
    obtain ⟨cfS, iS, kS, fS, st, cS, t1, t2, t3, t4, t5, t6, t7⟩ := S
    exact StaticIs.there (s := { Z with heap := P.U.heap }) ⟨cfS, iS, kS, fS, st, cS, t1, t2, t3, t4, t5, (fun q => by rw [q] at t6; cases t6), t7⟩ al rfl
  obtain ⟨v, B, X', ⟨⟨hv, E', V', q1, q2, q3, q4, q5, q6, q7, q8, q9, q10, q11⟩, hl, hc, hs⟩, st⟩ := New1.pays x D fV fC b A z (tab_of (moved hZ hw)) hfr hlo m meth c P g ig mk _ X hg hsize hdg hW hn ⟨r1, r2, rfl, hB, F1, F2, hA, hS, hz, l0, l2, hp⟩
  have al' : Z.vm.Alike B.U.vm := hZ.alike.trans X'.warmed.alike
  have hsz : E'.slots.size = D.slots.size := by
    obtain ⟨-, -, -, kB, w1, w2, w3⟩ := q1
    obtain ⟨kB', y1, y2⟩ := al'.2.2 _ _ e3
    rw [q2.2.1] at w1
    cases w1.symm.trans y1
    rw [w3, e5 i3, y2]
  refine ⟨v, B, X', ⟨_, ⟨hv, ?_, ⟨by omega, fun y cy hy hn' => q10 y cy (by simpa using hn') hy, fun y cy hy => ?_⟩, q11, ⟨E', _, q1.1, by rw [q2.2.1]; exact e2, by rw [q2.2.1]; exact e3, by rw [q2.1]; exact obV, fun _ => by rw [hsz]; exact e5 i3⟩,
    ⟨E', cfV, kV, iV, fV, q1.1, gV, stV, by rw [q2.1]; exact knV, by rw [q2.1]; exact obV, by rw [q2.2.1]; exact asV, q3⟩, ⟨E', cfC, kC, iC, fC, q1.1, gC, stC, by rw [q2.1]; exact knV, by rw [q2.1]; exact obV, by rw [q2.2.1]; exact asC, q4⟩,
    ⟨V', ⟨q5.1, State.isArrayOf_alike al'.symm q5.2.1, q5.2.2.1⟩, q6, by rw [← al'.findClass]; exact q7, q8, fun j hj => by have := q9 j hj; rwa [Nat.zero_add] at this⟩, fun O n d w F n1 n2 => ?_⟩, hl, hc, hs⟩, st⟩
  · intro y hy
    simp only [List.mem_cons, List.not_mem_nil, or_false] at hy
    rcases hy with rfl | rfl <;> rfl
  · by_cases q : y = x
    · subst q
      cases hD.symm.trans hy
      exact ⟨E', q1.1, q2.2.1, q2.1, hsz⟩
    · exact ⟨cy, q10 y cy q hy, rfl, rfl, rfl⟩
  · obtain ⟨D3, cf, k, i, f, g1, g2, g3, g4, g5, g6, g7⟩ := F
    cases hD.symm.trans g1
    simp only [RoadKit.slotOf, g2, gV, gC, Option.map_some, Option.getD_some] at n1 n2
    exact ⟨E', cf, k, i, f, q1.1, g2, g3, by rw [q2.1]; exact g4, by rw [q2.1]; exact g5, by rw [q2.2.1]; exact g6, by rw [q2.2.2 f.slot (by simp [n1, n2])]; exact g7⟩
end StrChars.Road
namespace StrChars.Road
open Jvm Sem ClassFile Op Lib Jvm.Stand Jvm.Free Jvm.Free.XT
/-- WHAT COMES BACK, the byte[] as a list of values -/
def QA (Z : State) (x : Addr) (zn : Int32) (cs : List Int32) (h : Heap) (v : Option Value) (h' : Heap) (L : List Loc) : Prop := v = none ∧ (∀ y ∈ L, y.base = x) ∧ RoadKit.Keep h h' [x] ∧ h'.size = h.size + 1 ∧ RoadKit.Exa Z h' x ST ∧ RoadKit.Fld Z h' x ST "value" "[B" (.ref h.size) ∧ RoadKit.Fld Z h' x ST "coder" "B" (.int 0) ∧
  (∃ kb, Z.vm.findClass "[B" = some kb ∧ RoadKit.Arv Z h' h.size kb .byte zn (cs.map fun c => .int (lo8 c)) (.int 0)) ∧
  ∀ (O n d : String) (w : Value), RoadKit.Fld Z h x O n d w → RoadKit.slotOf Z O n d ≠ RoadKit.slotOf Z ST "value" "[B" → RoadKit.slotOf Z O n d ≠ RoadKit.slotOf Z ST "coder" "B" → RoadKit.Fld Z h' x O n d w
/-- **new String(chars) AT A CALL, THE ARRAYS AS LISTS**: the char[] at b holds cs, not empty, no char above 255 -/
theorem backArv {p : Program} {l : Launch} {e : Env} {R : Room} {s : State} {args : Array Value} {below : List Frame} {len W : Nat} {Z : State} {a0 : Array Value} {h : Heap} (hZ : Z.Warmed39 s.vm) (hw : ∀ d ∈ words, d.before a0 Z = true) {kI : Nat} (wi : (Jvm.Cond.instantiable ST kI).before a0 Z = true)
    {x b : Addr} {k : ClassId} {zn z : Int32} {cs : List Int32} {dv v0 c0 : Value} (E : RoadKit.Exa Z h x ST) (V : RoadKit.Fld Z h x ST "value" "[B" v0) (C : RoadKit.Fld Z h x ST "coder" "B" c0) (K : RoadKit.Arv Z h b k .char zn (cs.map Value.int) dv) (S : RoadKit.Sta Z h ST "COMPACT_STRINGS" "Z" (.int z)) (hz : ¬ z = 0)
    (hlen : zn.toNatClampNeg = cs.length) (h0 : 0 < cs.length) (hbig : cs.length ≤ 536870912) (hall : ∀ c ∈ cs, ¬ 255 < c) (hfr : 4 ≤ R.frames) (hlo : W + 65 ≤ R.locals) :
    Back l R p e below s args New1.yN len W (fun P a => a = #[.ref x, .ref b] ∧ P.U.heap = h ∧ P.cells + 1 ≤ R.cells ∧ P.slots + cs.length ≤ R.slots)
      (fun P _ v B => ∃ L, QA Z x zn cs h v B.U.heap L ∧ B.locs = P.locs ++ L ∧ B.cells = P.cells + 1 ∧ B.slots = P.slots + cs.length) := by
  obtain ⟨A, K1, K2, K3, K4, K5, K6⟩ := K
  have e : A.slots.size = cs.length := K3.trans hlen
  have hat : ∀ (i : Nat) (hi : i < cs.length), A.slots[i]? = some (.int cs[i]) := fun i hi => by rw [K5 i (by omega)]; simp [List.getD_eq_getElem?_getD, hi]
  have hcv : ∀ (i : Nat) (hi : i < cs.length), cv A i = cs[i] := fun i hi => by unfold cv; rw [hat i hi]
  have hty : Typed .char A := fun i v hv => by
    have hi : i < A.slots.size := (Array.getElem?_eq_some_iff.mp hv).1
    have q := K5 i hi
    rw [hv] at q
    rw [Option.some.inj q]
    exact K6 i hi
  refine Back.mono (back hZ hw wi E V C K1 hty S hz (by omega) (by omega) (fun i hi => by rw [hcv i (by omega)]; exact hall _ (List.getElem_mem _)) hfr hlo) (fun P a hp => ⟨hp.1, hp.2.1, hp.2.2.1, by rw [e]; exact hp.2.2.2⟩) (fun P a v B hp hq => ?_)
  obtain ⟨L, ⟨q1, q2, q3, q4, q5, q6, q7, ⟨V', v1, v2, v3, v4, v5⟩, q9⟩, hl, hc, hs⟩ := hq
  refine ⟨L, ⟨q1, q2, q3, q4, q5, q6, q7, ⟨V'.cls, v3, V', v1, rfl, by rw [v4, e, hlen], K4, fun i hi => ?_, fun i hi => ?_⟩, q9⟩, hl, hc, by rw [hs, e]⟩
  · have hi' : i < cs.length := by omega
    rw [v5 i (by omega), hcv i hi']; simp [List.getD_eq_getElem?_getD, hi']
  · have hi' : i < cs.length := by omega
    simp only [List.getD_eq_getElem?_getD, List.getElem?_map, List.getElem?_eq_getElem hi', Option.map_some, Option.getD_some]
    exact fits_lo8 _
end StrChars.Road
namespace StrChars.Road
open Jvm Sem ClassFile Op Lib Jvm.Stand Jvm.Free Jvm.Free.XT
/-- WHAT COMES BACK, in the writer's own shape -/
def QV (Z : State) (x : Addr) (N : Int32) (bs : List Int32) (h : Heap) (n0 : Nat) (v : Option Value) (h' : Heap) (L : List Loc) : Prop := v = none ∧ RoadKit.Fr n0 L ∧ RoadKit.Keep h h' [x] ∧ RoadKit.Exa Z h' x ST ∧ RoadKit.Fld Z h' x ST "coder" "B" (.int 0) ∧
  ∃ (t : Addr) (kb : ClassId), n0 ≤ t ∧ h.size ≤ t ∧ ¬ t = x ∧ RoadKit.Fld Z h' x ST "value" "[B" (.ref t) ∧ RoadKit.Arv Z h' t kb .byte N (bs.map Value.int) (.int 0)
/-- **new String(chars) AT A CALL, FOR THE WRITER**: a char[] of n known ints, each 0 to 255 -/
theorem backV {p : Program} {l : Launch} {e : Env} {R : Room} {s : State} {args : Array Value} {below : List Frame} {len W : Nat} {Z : State} {a0 : Array Value} {h : Heap} (hZ : Z.Warmed39 s.vm) (hw : ∀ d ∈ words, d.before a0 Z = true) {kI : Nat} (wi : (Jvm.Cond.instantiable ST kI).before a0 Z = true)
    {x b : Addr} {kC : ClassId} {cs bs : List Int32} {d v0 c0 : Value} {z N : Int32} {n n0 : Nat} (hx0 : n0 ≤ x) (hh0 : n0 ≤ h.size) (E : RoadKit.Exa Z h x ST) (V : RoadKit.Fld Z h x ST "value" "[B" v0) (C : RoadKit.Fld Z h x ST "coder" "B" c0) (K : RoadKit.Arv Z h b kC .char N (cs.map Value.int) d) (S : RoadKit.Sta Z h ST "COMPACT_STRINGS" "Z" (.int z)) (hz : ¬ z = 0)
    (hn : cs.length = n) (hN : N = Int32.ofNat n) (l0 : 0 < n) (l2 : n ≤ 4000) (hp : ∀ c ∈ cs, ¬ c < 0 ∧ ¬ (255 : Int32) < c) (hb : bs = cs.map (fun c => c.toInt8.toInt32)) (hfr : 4 ≤ R.frames) (hlo : W + 65 ≤ R.locals) :
    Back l R p e below s args (⟨"java/lang/String", "<init>", "([C)V"⟩ : MethodName) len W (fun P a => a = #[.ref x, .ref b] ∧ P.U.heap = h ∧ P.cells + 1 ≤ R.cells ∧ P.slots + n ≤ R.slots)
      (fun P _ v B => ∃ L, QV Z x N bs h n0 v B.U.heap L ∧ B.locs = P.locs ++ L ∧ B.cells = P.cells + 1 ∧ B.slots = P.slots + n) := by
  subst hn hN hb
  refine Back.mono (backArv hZ hw wi E V C K S hz (n32 (by omega)) l0 (by omega) (fun c hc => (hp c hc).2) hfr hlo) (fun P a hp => hp) (fun P a v B hp hq => ?_)
  obtain ⟨L, ⟨q1, q2, q3, q4, q5, q6, q7, ⟨kb, v1, v2⟩, q9⟩, hl, hc, hs⟩ := hq
  exact ⟨L, ⟨q1, fun y hy => by rw [q2 y hy]; exact hx0, q3, q5, q7, h.size, kb, hh0, Nat.le_refl _, Nat.ne_of_gt E.lt, q6, by rw [List.map_map]; exact v2⟩, hl, hc, hs⟩
end StrChars.Road
end Jvm.Pilot.@@N@@

namespace Jvm.Pilot.@@N@@
open Jvm Jvm.ClassFile Sem Op Lib Jvm.Free Jvm.Stand Jvm.LawKit Jvm.RoadKit Bundle Jvm.Pilot.@@N@@.Jvm.D
theorem own_w {Z : State} {a0 : Array Value} (hw : ∀ d ∈ tables_1, d.before a0 Z = true) (i : Nat) {d : Jvm.Cond} (h : tables_1[i]? = some d) : d.before a0 Z = true := hw d (List.mem_of_getElem? h)
theorem ok {a b : Nat} (h : Nat.ble a b = true) : a ≤ b := Nat.le_of_ble_eq_true h
abbrev y1_ : MethodName := ⟨"com/example/hoist/hoist/model/RepositoryUrlAuthorityStartPinLaw", "at", "([CI)C"⟩
abbrev y6_ : MethodName := ⟨"java/lang/String", "coder", "()B"⟩
abbrev y7_ : MethodName := ⟨"java/lang/String", "indexOf", "(I)I"⟩
abbrev y8_ : MethodName := ⟨"java/lang/String", "indexOf", "(II)I"⟩
abbrev y9_ : MethodName := ⟨"java/lang/String", "isLatin1", "()Z"⟩
abbrev y10_ : MethodName := ⟨"java/lang/String", "length", "()I"⟩
abbrev y11_ : MethodName := ⟨"java/lang/String", "startsWith", "(Ljava/lang/String;I)Z"⟩
abbrev y15_ : MethodName := ⟨"jdk/internal/util/ArraysSupport", "mismatch", "([BI[BII)I"⟩
theorem own_up {cs : List Int32} (h : ∀ c ∈ cs, ¬ c < 0 ∧ ¬ (255 : Int32) < c) : ∀ c ∈ cs, ¬ c < 0 ∧ ¬ (65535 : Int32) < c := fun c hc => ⟨(h c hc).1, fun q => (h c hc).2 (by rw [Int32.lt_iff_toInt_lt] at q ⊢; have e1 : (65535 : Int32).toInt = 65535 := rfl; have e2 : (255 : Int32).toInt = 255 := rfl; omega)⟩
def EL1 : List (String × Nat) := consts_1
theorem own_EL {Z : State} {a0 : Array Value} (hw : ∀ d ∈ tables_1, d.before a0 Z = true) : EW Z a0 EL1 := (EW.cons (own_w hw 80 rfl) (by decide) EW.nil)
theorem in_atoms : ∀ d ∈ Bundle.stringAtoms, d ∈ tables_1 := by decide +kernel
def ix6 (b0 b1 b2 b3 b4 b5 : Int32) : Int32 := if b0 = 58 then 0 else if b1 = 58 then 1 else if b2 = 58 then 2 else if b3 = 58 then 3 else if b4 = 58 then 4 else if b5 = 58 then 5 else -1
def auth (b0 b1 b2 b3 b4 b5 : Int32) : Int32 := if b0 = 58 then (if b1 = 47 ∧ b2 = 47 then 3 else 0) else if b1 = 58 then (if b2 = 47 ∧ b3 = 47 then 4 else 0) else if b2 = 58 then (if b3 = 47 ∧ b4 = 47 then 5 else 0) else if b3 = 58 then (if b4 = 47 ∧ b5 = 47 then 6 else 0) else 0
theorem d1_0 : decode method_3_code 0 = .ok (.iload_n 0, 1) := by decide +kernel
theorem d1_1 : decode method_3_code 1 = .ok (.iconst 2, 1) := by decide +kernel
theorem d1_2 : decode method_3_code 2 = .ok (.iload_n 3, 1) := by decide +kernel
theorem d1_3 : decode method_3_code 3 = .ok (.imul, 1) := by decide +kernel
theorem d1_4 : decode method_3_code 4 = .ok (.iushr, 1) := by decide +kernel
theorem d1_5 : decode method_3_code 5 = .ok (.iconst 3, 1) := by decide +kernel
theorem d1_6 : decode method_3_code 6 = .ok (.iand, 1) := by decide +kernel
theorem d1_7 : decode method_3_code 7 = .ok (.istore 4, 2) := by decide +kernel
theorem d1_9 : decode method_3_code 9 = .ok (.iload 4, 2) := by decide +kernel
theorem d1_11 : decode method_3_code 11 = .ok (.ifCond .ne 6, 3) := by decide +kernel
theorem d1_14 : decode method_3_code 14 = .ok (.bipush 58, 2) := by decide +kernel
theorem d1_16 : decode method_3_code 16 = .ok (.ireturn, 1) := by decide +kernel
theorem d1_17 : decode method_3_code 17 = .ok (.iload 4, 2) := by decide +kernel
theorem d1_19 : decode method_3_code 19 = .ok (.iconst 1, 1) := by decide +kernel
theorem d1_20 : decode method_3_code 20 = .ok (.if_icmp .ne 6, 3) := by decide +kernel
theorem d1_23 : decode method_3_code 23 = .ok (.bipush 47, 2) := by decide +kernel
theorem d1_25 : decode method_3_code 25 = .ok (.ireturn, 1) := by decide +kernel
theorem d1_26 : decode method_3_code 26 = .ok (.lload_n 1, 1) := by decide +kernel
theorem d1_27 : decode method_3_code 27 = .ok (.bipush 8, 2) := by decide +kernel
theorem d1_29 : decode method_3_code 29 = .ok (.iload_n 3, 1) := by decide +kernel
theorem d1_30 : decode method_3_code 30 = .ok (.imul, 1) := by decide +kernel
theorem d1_31 : decode method_3_code 31 = .ok (.lushr, 1) := by decide +kernel
theorem d1_32 : decode method_3_code 32 = .ok (.ldc2_w 28, 3) := by decide +kernel
theorem d1_35 : decode method_3_code 35 = .ok (.land, 1) := by decide +kernel
theorem d1_36 : decode method_3_code 36 = .ok (.l2i, 1) := by decide +kernel
theorem d1_37 : decode method_3_code 37 = .ok (.i2c, 1) := by decide +kernel
theorem d1_38 : decode method_3_code 38 = .ok (.ireturn, 1) := by decide +kernel
theorem pn_com_example_hoist_hoist_model_RepositoryUrlAuthorityStartPinLaw : plainName "com/example/hoist/hoist/model/RepositoryUrlAuthorityStartPinLaw" = true := by first | (simp [plainName, overriddenIn]; done) | decide +kernel
theorem efPk (pp : Int32) (q : Int64) (i : Int32) (m : MethodId) : entryFrame m #[(.int pp), (.long q), (.int i)] 5 = mkF m 0 #[.val (.int pp), .val (.long q), .second, .val (.int i), .unset] [] := by first | (simp [entryFrame, mkF, argsToLocals, Value.category]; done) | rfl
def QPk (Z : State) (pp : Int32) (q : Int64) (i : Int32) (h0 : Heap) (n0 : Nat) (v : Option Value) (h : Heap) (L : List Loc) : Prop := ∃ r, v = some (.int r) ∧ (¬ r < 0 ∧ ¬ (255 : Int32) < r) ∧ Fr n0 L ∧ h = h0
set_option maxRecDepth 65536 in
set_option maxHeartbeats 40000000 in
theorem rmPk (l : Launch) (Z : State) (a0 : Array Value) (hw : ∀ d ∈ tables_1, d.before a0 Z = true) (ws : List Jvm.Cond) (pp : Int32) (q : Int64) (i : Int32) (h0 : Heap) (n0 : Nat) (Z0 : n0 ≤ h0.size) (O0 : Old Z n0 h0) :
    OwnLaw l (⟨"com/example/hoist/hoist/model/RepositoryUrlAuthorityStartPinLaw", "pick", "(IJI)C"⟩ : MethodName) method_3_code 5 (some .char) ws (rR 0 0 0 0) #[(.int pp), (.long q), (.int i)] Z h0 (QPk Z pp q i h0 n0) := by
  refine own_enter (plainFor_of_name pn_com_example_hoist_hoist_model_RepositoryUrlAuthorityStartPinLaw) (efPk pp q i) ?_
  intro p e s m below meth c s₁ Bd hx hby hml hZ hown X0 e0
  have N0 := Fr.nil n0
  have K0 : Keep h0 h0 [] := Keep.refl _ _
  refine P1.iloadN X0.here hx (hb hby d1_0) rfl ?_
  refine P1.iconst X0.here hx (2 : Int32) (hb hby d1_1) rfl ?_
  refine P1.iloadN X0.here hx (hb hby d1_2) rfl ?_
  refine P1.imul X0.here hx (hb hby d1_3) ?_
  refine Goes.step (T' := s₁) (g' := (mkF m 5 #[.val (.int pp), .val (.long q), .second, .val (.int i), .unset] [(.int ((pp.toUInt32 >>> (((2 : Int32) * i) &&& 31).toUInt32).toInt32))])) (fun t_ k_ => XS.iushr X0.here hx rfl (hb hby d1_4) rfl k_) ?_
  refine P1.iconst X0.here hx (3 : Int32) (hb hby d1_5) rfl ?_
  refine P1.iand X0.here hx (hb hby d1_6) ?_
  refine P1.istore X0.here hx #[.val (.int pp), .val (.long q), .second, .val (.int i), .val (.int (((pp.toUInt32 >>> (((2 : Int32) * i) &&& 31).toUInt32).toInt32) &&& (3 : Int32)))] (hb hby d1_7) rfl ?_
  refine P1.iload X0.here hx (hb hby d1_9) rfl ?_
  by_cases hb0 : (((pp.toUInt32 >>> (((2 : Int32) * i) &&& 31).toUInt32).toInt32) &&& (3 : Int32)) = (0 : Int32)
  ·
    refine P1.ifNo X0.here hx (hb hby d1_11) ((if0 _ _).trans (teq (hb0 : (((pp.toUInt32 >>> (((2 : Int32) * i) &&& 31).toUInt32).toInt32) &&& (3 : Int32)) = (0 : Int32))).2) ?_
    refine P1.bipush X0.here hx (58 : Int32) (hb hby d1_14) rfl ?_
    refine Goes.retN X0 hx Bd.notSynchronized (t := .char) Bd.returns (by simp) (hb hby d1_16) (ok rfl) (ok rfl) ?_
    rw [e0]
    exact ⟨(58 : Int32), rfl, by decide, N0, rfl⟩
  ·
    refine P1.ifYes X0.here hx 17 (hb hby d1_11) ((if0 _ _).trans (feq (hb0 : ¬ ((((pp.toUInt32 >>> (((2 : Int32) * i) &&& 31).toUInt32).toInt32) &&& (3 : Int32)) = (0 : Int32)))).2) (by decide) (by decide) ?_
    refine P1.iload X0.here hx (hb hby d1_17) rfl ?_
    refine P1.iconst X0.here hx (1 : Int32) (hb hby d1_19) rfl ?_
    by_cases hb1 : (((pp.toUInt32 >>> (((2 : Int32) * i) &&& 31).toUInt32).toInt32) &&& (3 : Int32)) = (1 : Int32)
    ·
      refine P1.icmpNo X0.here hx (hb hby d1_20) (teq (hb1 : (((pp.toUInt32 >>> (((2 : Int32) * i) &&& 31).toUInt32).toInt32) &&& (3 : Int32)) = (1 : Int32))).2 ?_
      refine P1.bipush X0.here hx (47 : Int32) (hb hby d1_23) rfl ?_
      refine Goes.retN X0 hx Bd.notSynchronized (t := .char) Bd.returns (by simp) (hb hby d1_25) (ok rfl) (ok rfl) ?_
      rw [e0]
      exact ⟨(47 : Int32), rfl, by decide, N0, rfl⟩
    ·
      refine P1.icmpYes X0.here hx 26 (hb hby d1_20) (feq (hb1 : ¬ ((((pp.toUInt32 >>> (((2 : Int32) * i) &&& 31).toUInt32).toInt32) &&& (3 : Int32)) = (1 : Int32)))).2 (by decide) (by decide) ?_
      refine P1.lloadN X0.here hx (hb hby d1_26) rfl ?_
      refine P1.bipush X0.here hx (8 : Int32) (hb hby d1_27) rfl ?_
      refine P1.iloadN X0.here hx (hb hby d1_29) rfl ?_
      refine P1.imul X0.here hx (hb hby d1_30) ?_
      refine Goes.step (T' := s₁) (g' := (mkF m 32 #[.val (.int pp), .val (.long q), .second, .val (.int i), .val (.int (((pp.toUInt32 >>> (((2 : Int32) * i) &&& 31).toUInt32).toInt32) &&& (3 : Int32)))] [(.long ((q.toUInt64 >>> (((8 : Int32) * i) &&& 0x3f).toInt64.toUInt64).toInt64))])) (fun t_ k_ => XS.lushr X0.here hx rfl (hb hby d1_31) rfl k_) ?_
      refine Goes.step (T' := s₁) (g' := (mkF m 35 #[.val (.int pp), .val (.long q), .second, .val (.int i), .val (.int (((pp.toUInt32 >>> (((2 : Int32) * i) &&& 31).toUInt32).toInt32) &&& (3 : Int32)))] [(.long (255 : Int64)), (.long ((q.toUInt64 >>> (((8 : Int32) * i) &&& 0x3f).toInt64.toUInt64).toInt64))])) (fun t_ k_ => X0.ldc2Long hx hown (mvT hZ (own_w hw 95 rfl)) (g := (mkF m 32 #[.val (.int pp), .val (.long q), .second, .val (.int i), .val (.int (((pp.toUInt32 >>> (((2 : Int32) * i) &&& 31).toUInt32).toInt32) &&& (3 : Int32)))] [(.long ((q.toUInt64 >>> (((8 : Int32) * i) &&& 0x3f).toInt64.toUInt64).toInt64))])) rfl (hb hby d1_32) t_ k_) ?_
      refine Goes.step (T' := s₁) (g' := (mkF m 36 #[.val (.int pp), .val (.long q), .second, .val (.int i), .val (.int (((pp.toUInt32 >>> (((2 : Int32) * i) &&& 31).toUInt32).toInt32) &&& (3 : Int32)))] [(.long (((q.toUInt64 >>> (((8 : Int32) * i) &&& 0x3f).toInt64.toUInt64).toInt64) &&& (255 : Int64)))])) (fun t_ k_ => XS.land X0.here hx rfl (hb hby d1_35) rfl k_) ?_
      refine Goes.step (T' := s₁) (g' := (mkF m 37 #[.val (.int pp), .val (.long q), .second, .val (.int i), .val (.int (((pp.toUInt32 >>> (((2 : Int32) * i) &&& 31).toUInt32).toInt32) &&& (3 : Int32)))] [(.int ((((q.toUInt64 >>> (((8 : Int32) * i) &&& 0x3f).toInt64.toUInt64).toInt64) &&& (255 : Int64)).toInt32))])) (fun t_ k_ => XS.l2i X0.here hx rfl (hb hby d1_36) rfl k_) ?_
      have bd := own_land255 ((q.toUInt64 >>> (((8 : Int32) * i) &&& 0x3f).toInt64.toUInt64).toInt64)
      refine P1.i2c X0.here hx (hb hby d1_37) ?_
      have rw1 : (((((q.toUInt64 >>> (((8 : Int32) * i) &&& 0x3f).toInt64.toUInt64).toInt64) &&& (255 : Int64)).toInt32).toUInt32.toUInt16.toUInt32.toInt32) = ((((q.toUInt64 >>> (((8 : Int32) * i) &&& 0x3f).toInt64.toUInt64).toInt64) &&& (255 : Int64)).toInt32) := own_i2c bd
      rw [rw1]
      refine Goes.retN X0 hx Bd.notSynchronized (t := .char) Bd.returns (by simp) (hb hby d1_38) (ok rfl) (ok rfl) ?_
      rw [e0]
      exact ⟨_, rfl, by rw [own_nar bd]; exact bd, N0, rfl⟩
theorem d21_0 : decode method_4_code 0 = .ok (.iload_n 1, 1) := by decide +kernel
theorem d21_1 : decode method_4_code 1 = .ok (.bipush 6, 2) := by decide +kernel
theorem d21_3 : decode method_4_code 3 = .ok (.if_icmp .ge 9, 3) := by decide +kernel
theorem d21_6 : decode method_4_code 6 = .ok (.aload_n 0, 1) := by decide +kernel
theorem d21_7 : decode method_4_code 7 = .ok (.iload_n 1, 1) := by decide +kernel
theorem d21_8 : decode method_4_code 8 = .ok (.caload, 1) := by decide +kernel
theorem d21_9 : decode method_4_code 9 = .ok (.goto 5, 3) := by decide +kernel
theorem d21_12 : decode method_4_code 12 = .ok (.bipush 120, 2) := by decide +kernel
theorem d21_14 : decode method_4_code 14 = .ok (.ireturn, 1) := by decide +kernel
theorem efAt1 (a : Addr) (m : MethodId) : entryFrame m #[(.ref a), (.int (1 : Int32))] 2 = mkF m 0 #[.val (.ref a), .val (.int (1 : Int32))] [] := by first | (simp [entryFrame, mkF, argsToLocals, Value.category]; done) | rfl
def QAt1 (Z : State) (a : Addr) (ka : ClassId) (c0 c1 c2 c3 c4 c5 : Int32) (h0 : Heap) (n0 : Nat) (v : Option Value) (h : Heap) (L : List Loc) : Prop := v = some (.int c1) ∧ Fr n0 L ∧ h = h0
set_option maxRecDepth 65536 in
set_option maxHeartbeats 40000000 in
theorem rmAt1 (l : Launch) (Z : State) (a0 : Array Value) (hw : ∀ d ∈ tables_1, d.before a0 Z = true) (ws : List Jvm.Cond) (a : Addr) (ka : ClassId) (c0 c1 c2 c3 c4 c5 : Int32) (h0 : Heap) (n0 : Nat) (Z0 : n0 ≤ h0.size) (O0 : Old Z n0 h0) (Va : Arv Z h0 a ka .char (6 : Int32) [(.int c0), (.int c1), (.int c2), (.int c3), (.int c4), (.int c5)] (.int (0 : Int32))) (bd_c0 : ¬ c0 < 0 ∧ ¬ (255 : Int32) < c0) (bd_c1 : ¬ c1 < 0 ∧ ¬ (255 : Int32) < c1) (bd_c2 : ¬ c2 < 0 ∧ ¬ (255 : Int32) < c2) (bd_c3 : ¬ c3 < 0 ∧ ¬ (255 : Int32) < c3) (bd_c4 : ¬ c4 < 0 ∧ ¬ (255 : Int32) < c4) (bd_c5 : ¬ c5 < 0 ∧ ¬ (255 : Int32) < c5) :
    OwnLaw l y1_ method_4_code 2 (some .char) ws (rR 0 0 0 0) #[(.ref a), (.int (1 : Int32))] Z h0 (QAt1 Z a ka c0 c1 c2 c3 c4 c5 h0 n0) := by
  refine own_enter (plainFor_of_name pn_com_example_hoist_hoist_model_RepositoryUrlAuthorityStartPinLaw) (efAt1 a) ?_
  intro p e s m below meth c s₁ Bd hx hby hml hZ hown X0 e0
  have N0 := Fr.nil n0
  have K0 : Keep h0 h0 [] := Keep.refl _ _
  refine P1.iloadN X0.here hx (hb hby d21_0) rfl ?_
  refine P1.bipush X0.here hx (6 : Int32) (hb hby d21_1) rfl ?_
  refine P1.icmpNo X0.here hx (hb hby d21_3) (tlt (by decide : (1 : Int32) < (6 : Int32))).2.1 ?_
  refine P1.aloadN X0.here hx (hb hby d21_6) rfl rfl ?_
  refine P1.iloadN X0.here hx (hb hby d21_7) rfl ?_
  obtain ⟨cl2, Ar2, qk2, sl2, nz2, ha2, fi2⟩ := id Va
  have i3 := inb_of (j := (1 : Int32)) sl2 ⟨by decide, by decide⟩
  refine Goes.step (T' := s₁) (g' := (mkF m 9 #[.val (.ref a), .val (.int (1 : Int32))] [(.int c1)])) (fun t_ k_ => X0.caload hx (j := (1 : Int32)) (v := (.int c1)) (by rw [e0]; exact Ar2.1) (State.isArrayOf_alike hZ.alike Ar2.2.1) Ar2.2.2 i3 (Has.at ha2 i3 rfl) (g := (mkF m 8 #[.val (.ref a), .val (.int (1 : Int32))] [(.int (1 : Int32)), (.ref a)])) rfl rfl (hb hby d21_8) _ k_) ?_
  refine P1.goto X0.here hx 14 (hb hby d21_9) (by decide) (by decide) ?_
  refine Goes.retN X0 hx Bd.notSynchronized (t := .char) Bd.returns (by simp) (hb hby d21_14) (ok rfl) (ok rfl) ?_
  rw [e0]
  exact ⟨by rw [own_nar bd_c1], N0, rfl⟩
theorem efAt2 (a : Addr) (m : MethodId) : entryFrame m #[(.ref a), (.int (2 : Int32))] 2 = mkF m 0 #[.val (.ref a), .val (.int (2 : Int32))] [] := by first | (simp [entryFrame, mkF, argsToLocals, Value.category]; done) | rfl
def QAt2 (Z : State) (a : Addr) (ka : ClassId) (c0 c1 c2 c3 c4 c5 : Int32) (h0 : Heap) (n0 : Nat) (v : Option Value) (h : Heap) (L : List Loc) : Prop := v = some (.int c2) ∧ Fr n0 L ∧ h = h0
set_option maxRecDepth 65536 in
set_option maxHeartbeats 40000000 in
theorem rmAt2 (l : Launch) (Z : State) (a0 : Array Value) (hw : ∀ d ∈ tables_1, d.before a0 Z = true) (ws : List Jvm.Cond) (a : Addr) (ka : ClassId) (c0 c1 c2 c3 c4 c5 : Int32) (h0 : Heap) (n0 : Nat) (Z0 : n0 ≤ h0.size) (O0 : Old Z n0 h0) (Va : Arv Z h0 a ka .char (6 : Int32) [(.int c0), (.int c1), (.int c2), (.int c3), (.int c4), (.int c5)] (.int (0 : Int32))) (bd_c0 : ¬ c0 < 0 ∧ ¬ (255 : Int32) < c0) (bd_c1 : ¬ c1 < 0 ∧ ¬ (255 : Int32) < c1) (bd_c2 : ¬ c2 < 0 ∧ ¬ (255 : Int32) < c2) (bd_c3 : ¬ c3 < 0 ∧ ¬ (255 : Int32) < c3) (bd_c4 : ¬ c4 < 0 ∧ ¬ (255 : Int32) < c4) (bd_c5 : ¬ c5 < 0 ∧ ¬ (255 : Int32) < c5) :
    OwnLaw l y1_ method_4_code 2 (some .char) ws (rR 0 0 0 0) #[(.ref a), (.int (2 : Int32))] Z h0 (QAt2 Z a ka c0 c1 c2 c3 c4 c5 h0 n0) := by
  refine own_enter (plainFor_of_name pn_com_example_hoist_hoist_model_RepositoryUrlAuthorityStartPinLaw) (efAt2 a) ?_
  intro p e s m below meth c s₁ Bd hx hby hml hZ hown X0 e0
  have N0 := Fr.nil n0
  have K0 : Keep h0 h0 [] := Keep.refl _ _
  refine P1.iloadN X0.here hx (hb hby d21_0) rfl ?_
  refine P1.bipush X0.here hx (6 : Int32) (hb hby d21_1) rfl ?_
  refine P1.icmpNo X0.here hx (hb hby d21_3) (tlt (by decide : (2 : Int32) < (6 : Int32))).2.1 ?_
  refine P1.aloadN X0.here hx (hb hby d21_6) rfl rfl ?_
  refine P1.iloadN X0.here hx (hb hby d21_7) rfl ?_
  obtain ⟨cl4, Ar4, qk4, sl4, nz4, ha4, fi4⟩ := id Va
  have i5 := inb_of (j := (2 : Int32)) sl4 ⟨by decide, by decide⟩
  refine Goes.step (T' := s₁) (g' := (mkF m 9 #[.val (.ref a), .val (.int (2 : Int32))] [(.int c2)])) (fun t_ k_ => X0.caload hx (j := (2 : Int32)) (v := (.int c2)) (by rw [e0]; exact Ar4.1) (State.isArrayOf_alike hZ.alike Ar4.2.1) Ar4.2.2 i5 (Has.at ha4 i5 rfl) (g := (mkF m 8 #[.val (.ref a), .val (.int (2 : Int32))] [(.int (2 : Int32)), (.ref a)])) rfl rfl (hb hby d21_8) _ k_) ?_
  refine P1.goto X0.here hx 14 (hb hby d21_9) (by decide) (by decide) ?_
  refine Goes.retN X0 hx Bd.notSynchronized (t := .char) Bd.returns (by simp) (hb hby d21_14) (ok rfl) (ok rfl) ?_
  rw [e0]
  exact ⟨by rw [own_nar bd_c2], N0, rfl⟩
theorem efAt3 (a : Addr) (m : MethodId) : entryFrame m #[(.ref a), (.int (3 : Int32))] 2 = mkF m 0 #[.val (.ref a), .val (.int (3 : Int32))] [] := by first | (simp [entryFrame, mkF, argsToLocals, Value.category]; done) | rfl
def QAt3 (Z : State) (a : Addr) (ka : ClassId) (c0 c1 c2 c3 c4 c5 : Int32) (h0 : Heap) (n0 : Nat) (v : Option Value) (h : Heap) (L : List Loc) : Prop := v = some (.int c3) ∧ Fr n0 L ∧ h = h0
set_option maxRecDepth 65536 in
set_option maxHeartbeats 40000000 in
theorem rmAt3 (l : Launch) (Z : State) (a0 : Array Value) (hw : ∀ d ∈ tables_1, d.before a0 Z = true) (ws : List Jvm.Cond) (a : Addr) (ka : ClassId) (c0 c1 c2 c3 c4 c5 : Int32) (h0 : Heap) (n0 : Nat) (Z0 : n0 ≤ h0.size) (O0 : Old Z n0 h0) (Va : Arv Z h0 a ka .char (6 : Int32) [(.int c0), (.int c1), (.int c2), (.int c3), (.int c4), (.int c5)] (.int (0 : Int32))) (bd_c0 : ¬ c0 < 0 ∧ ¬ (255 : Int32) < c0) (bd_c1 : ¬ c1 < 0 ∧ ¬ (255 : Int32) < c1) (bd_c2 : ¬ c2 < 0 ∧ ¬ (255 : Int32) < c2) (bd_c3 : ¬ c3 < 0 ∧ ¬ (255 : Int32) < c3) (bd_c4 : ¬ c4 < 0 ∧ ¬ (255 : Int32) < c4) (bd_c5 : ¬ c5 < 0 ∧ ¬ (255 : Int32) < c5) :
    OwnLaw l y1_ method_4_code 2 (some .char) ws (rR 0 0 0 0) #[(.ref a), (.int (3 : Int32))] Z h0 (QAt3 Z a ka c0 c1 c2 c3 c4 c5 h0 n0) := by
  refine own_enter (plainFor_of_name pn_com_example_hoist_hoist_model_RepositoryUrlAuthorityStartPinLaw) (efAt3 a) ?_
  intro p e s m below meth c s₁ Bd hx hby hml hZ hown X0 e0
  have N0 := Fr.nil n0
  have K0 : Keep h0 h0 [] := Keep.refl _ _
  refine P1.iloadN X0.here hx (hb hby d21_0) rfl ?_
  refine P1.bipush X0.here hx (6 : Int32) (hb hby d21_1) rfl ?_
  refine P1.icmpNo X0.here hx (hb hby d21_3) (tlt (by decide : (3 : Int32) < (6 : Int32))).2.1 ?_
  refine P1.aloadN X0.here hx (hb hby d21_6) rfl rfl ?_
  refine P1.iloadN X0.here hx (hb hby d21_7) rfl ?_
  obtain ⟨cl6, Ar6, qk6, sl6, nz6, ha6, fi6⟩ := id Va
  have i7 := inb_of (j := (3 : Int32)) sl6 ⟨by decide, by decide⟩
  refine Goes.step (T' := s₁) (g' := (mkF m 9 #[.val (.ref a), .val (.int (3 : Int32))] [(.int c3)])) (fun t_ k_ => X0.caload hx (j := (3 : Int32)) (v := (.int c3)) (by rw [e0]; exact Ar6.1) (State.isArrayOf_alike hZ.alike Ar6.2.1) Ar6.2.2 i7 (Has.at ha6 i7 rfl) (g := (mkF m 8 #[.val (.ref a), .val (.int (3 : Int32))] [(.int (3 : Int32)), (.ref a)])) rfl rfl (hb hby d21_8) _ k_) ?_
  refine P1.goto X0.here hx 14 (hb hby d21_9) (by decide) (by decide) ?_
  refine Goes.retN X0 hx Bd.notSynchronized (t := .char) Bd.returns (by simp) (hb hby d21_14) (ok rfl) (ok rfl) ?_
  rw [e0]
  exact ⟨by rw [own_nar bd_c3], N0, rfl⟩
theorem efAt4 (a : Addr) (m : MethodId) : entryFrame m #[(.ref a), (.int (4 : Int32))] 2 = mkF m 0 #[.val (.ref a), .val (.int (4 : Int32))] [] := by first | (simp [entryFrame, mkF, argsToLocals, Value.category]; done) | rfl
def QAt4 (Z : State) (a : Addr) (ka : ClassId) (c0 c1 c2 c3 c4 c5 : Int32) (h0 : Heap) (n0 : Nat) (v : Option Value) (h : Heap) (L : List Loc) : Prop := v = some (.int c4) ∧ Fr n0 L ∧ h = h0
set_option maxRecDepth 65536 in
set_option maxHeartbeats 40000000 in
theorem rmAt4 (l : Launch) (Z : State) (a0 : Array Value) (hw : ∀ d ∈ tables_1, d.before a0 Z = true) (ws : List Jvm.Cond) (a : Addr) (ka : ClassId) (c0 c1 c2 c3 c4 c5 : Int32) (h0 : Heap) (n0 : Nat) (Z0 : n0 ≤ h0.size) (O0 : Old Z n0 h0) (Va : Arv Z h0 a ka .char (6 : Int32) [(.int c0), (.int c1), (.int c2), (.int c3), (.int c4), (.int c5)] (.int (0 : Int32))) (bd_c0 : ¬ c0 < 0 ∧ ¬ (255 : Int32) < c0) (bd_c1 : ¬ c1 < 0 ∧ ¬ (255 : Int32) < c1) (bd_c2 : ¬ c2 < 0 ∧ ¬ (255 : Int32) < c2) (bd_c3 : ¬ c3 < 0 ∧ ¬ (255 : Int32) < c3) (bd_c4 : ¬ c4 < 0 ∧ ¬ (255 : Int32) < c4) (bd_c5 : ¬ c5 < 0 ∧ ¬ (255 : Int32) < c5) :
    OwnLaw l y1_ method_4_code 2 (some .char) ws (rR 0 0 0 0) #[(.ref a), (.int (4 : Int32))] Z h0 (QAt4 Z a ka c0 c1 c2 c3 c4 c5 h0 n0) := by
  refine own_enter (plainFor_of_name pn_com_example_hoist_hoist_model_RepositoryUrlAuthorityStartPinLaw) (efAt4 a) ?_
  intro p e s m below meth c s₁ Bd hx hby hml hZ hown X0 e0
  have N0 := Fr.nil n0
  have K0 : Keep h0 h0 [] := Keep.refl _ _
  refine P1.iloadN X0.here hx (hb hby d21_0) rfl ?_
  refine P1.bipush X0.here hx (6 : Int32) (hb hby d21_1) rfl ?_
  refine P1.icmpNo X0.here hx (hb hby d21_3) (tlt (by decide : (4 : Int32) < (6 : Int32))).2.1 ?_
  refine P1.aloadN X0.here hx (hb hby d21_6) rfl rfl ?_
  refine P1.iloadN X0.here hx (hb hby d21_7) rfl ?_
  obtain ⟨cl8, Ar8, qk8, sl8, nz8, ha8, fi8⟩ := id Va
  have i9 := inb_of (j := (4 : Int32)) sl8 ⟨by decide, by decide⟩
  refine Goes.step (T' := s₁) (g' := (mkF m 9 #[.val (.ref a), .val (.int (4 : Int32))] [(.int c4)])) (fun t_ k_ => X0.caload hx (j := (4 : Int32)) (v := (.int c4)) (by rw [e0]; exact Ar8.1) (State.isArrayOf_alike hZ.alike Ar8.2.1) Ar8.2.2 i9 (Has.at ha8 i9 rfl) (g := (mkF m 8 #[.val (.ref a), .val (.int (4 : Int32))] [(.int (4 : Int32)), (.ref a)])) rfl rfl (hb hby d21_8) _ k_) ?_
  refine P1.goto X0.here hx 14 (hb hby d21_9) (by decide) (by decide) ?_
  refine Goes.retN X0 hx Bd.notSynchronized (t := .char) Bd.returns (by simp) (hb hby d21_14) (ok rfl) (ok rfl) ?_
  rw [e0]
  exact ⟨by rw [own_nar bd_c4], N0, rfl⟩
theorem efAt5 (a : Addr) (m : MethodId) : entryFrame m #[(.ref a), (.int (5 : Int32))] 2 = mkF m 0 #[.val (.ref a), .val (.int (5 : Int32))] [] := by first | (simp [entryFrame, mkF, argsToLocals, Value.category]; done) | rfl
def QAt5 (Z : State) (a : Addr) (ka : ClassId) (c0 c1 c2 c3 c4 c5 : Int32) (h0 : Heap) (n0 : Nat) (v : Option Value) (h : Heap) (L : List Loc) : Prop := v = some (.int c5) ∧ Fr n0 L ∧ h = h0
set_option maxRecDepth 65536 in
set_option maxHeartbeats 40000000 in
theorem rmAt5 (l : Launch) (Z : State) (a0 : Array Value) (hw : ∀ d ∈ tables_1, d.before a0 Z = true) (ws : List Jvm.Cond) (a : Addr) (ka : ClassId) (c0 c1 c2 c3 c4 c5 : Int32) (h0 : Heap) (n0 : Nat) (Z0 : n0 ≤ h0.size) (O0 : Old Z n0 h0) (Va : Arv Z h0 a ka .char (6 : Int32) [(.int c0), (.int c1), (.int c2), (.int c3), (.int c4), (.int c5)] (.int (0 : Int32))) (bd_c0 : ¬ c0 < 0 ∧ ¬ (255 : Int32) < c0) (bd_c1 : ¬ c1 < 0 ∧ ¬ (255 : Int32) < c1) (bd_c2 : ¬ c2 < 0 ∧ ¬ (255 : Int32) < c2) (bd_c3 : ¬ c3 < 0 ∧ ¬ (255 : Int32) < c3) (bd_c4 : ¬ c4 < 0 ∧ ¬ (255 : Int32) < c4) (bd_c5 : ¬ c5 < 0 ∧ ¬ (255 : Int32) < c5) :
    OwnLaw l y1_ method_4_code 2 (some .char) ws (rR 0 0 0 0) #[(.ref a), (.int (5 : Int32))] Z h0 (QAt5 Z a ka c0 c1 c2 c3 c4 c5 h0 n0) := by
  refine own_enter (plainFor_of_name pn_com_example_hoist_hoist_model_RepositoryUrlAuthorityStartPinLaw) (efAt5 a) ?_
  intro p e s m below meth c s₁ Bd hx hby hml hZ hown X0 e0
  have N0 := Fr.nil n0
  have K0 : Keep h0 h0 [] := Keep.refl _ _
  refine P1.iloadN X0.here hx (hb hby d21_0) rfl ?_
  refine P1.bipush X0.here hx (6 : Int32) (hb hby d21_1) rfl ?_
  refine P1.icmpNo X0.here hx (hb hby d21_3) (tlt (by decide : (5 : Int32) < (6 : Int32))).2.1 ?_
  refine P1.aloadN X0.here hx (hb hby d21_6) rfl rfl ?_
  refine P1.iloadN X0.here hx (hb hby d21_7) rfl ?_
  obtain ⟨cl10, Ar10, qk10, sl10, nz10, ha10, fi10⟩ := id Va
  have i11 := inb_of (j := (5 : Int32)) sl10 ⟨by decide, by decide⟩
  refine Goes.step (T' := s₁) (g' := (mkF m 9 #[.val (.ref a), .val (.int (5 : Int32))] [(.int c5)])) (fun t_ k_ => X0.caload hx (j := (5 : Int32)) (v := (.int c5)) (by rw [e0]; exact Ar10.1) (State.isArrayOf_alike hZ.alike Ar10.2.1) Ar10.2.2 i11 (Has.at ha10 i11 rfl) (g := (mkF m 8 #[.val (.ref a), .val (.int (5 : Int32))] [(.int (5 : Int32)), (.ref a)])) rfl rfl (hb hby d21_8) _ k_) ?_
  refine P1.goto X0.here hx 14 (hb hby d21_9) (by decide) (by decide) ?_
  refine Goes.retN X0 hx Bd.notSynchronized (t := .char) Bd.returns (by simp) (hb hby d21_14) (ok rfl) (ok rfl) ?_
  rw [e0]
  exact ⟨by rw [own_nar bd_c5], N0, rfl⟩
theorem efAt6 (a : Addr) (m : MethodId) : entryFrame m #[(.ref a), (.int (6 : Int32))] 2 = mkF m 0 #[.val (.ref a), .val (.int (6 : Int32))] [] := by first | (simp [entryFrame, mkF, argsToLocals, Value.category]; done) | rfl
def QAt6 (Z : State) (a : Addr) (ka : ClassId) (c0 c1 c2 c3 c4 c5 : Int32) (h0 : Heap) (n0 : Nat) (v : Option Value) (h : Heap) (L : List Loc) : Prop := v = some (.int (120 : Int32)) ∧ Fr n0 L ∧ h = h0
set_option maxRecDepth 65536 in
set_option maxHeartbeats 40000000 in
theorem rmAt6 (l : Launch) (Z : State) (a0 : Array Value) (hw : ∀ d ∈ tables_1, d.before a0 Z = true) (ws : List Jvm.Cond) (a : Addr) (ka : ClassId) (c0 c1 c2 c3 c4 c5 : Int32) (h0 : Heap) (n0 : Nat) (Z0 : n0 ≤ h0.size) (O0 : Old Z n0 h0) (Va : Arv Z h0 a ka .char (6 : Int32) [(.int c0), (.int c1), (.int c2), (.int c3), (.int c4), (.int c5)] (.int (0 : Int32))) (bd_c0 : ¬ c0 < 0 ∧ ¬ (255 : Int32) < c0) (bd_c1 : ¬ c1 < 0 ∧ ¬ (255 : Int32) < c1) (bd_c2 : ¬ c2 < 0 ∧ ¬ (255 : Int32) < c2) (bd_c3 : ¬ c3 < 0 ∧ ¬ (255 : Int32) < c3) (bd_c4 : ¬ c4 < 0 ∧ ¬ (255 : Int32) < c4) (bd_c5 : ¬ c5 < 0 ∧ ¬ (255 : Int32) < c5) :
    OwnLaw l y1_ method_4_code 2 (some .char) ws (rR 0 0 0 0) #[(.ref a), (.int (6 : Int32))] Z h0 (QAt6 Z a ka c0 c1 c2 c3 c4 c5 h0 n0) := by
  refine own_enter (plainFor_of_name pn_com_example_hoist_hoist_model_RepositoryUrlAuthorityStartPinLaw) (efAt6 a) ?_
  intro p e s m below meth c s₁ Bd hx hby hml hZ hown X0 e0
  have N0 := Fr.nil n0
  have K0 : Keep h0 h0 [] := Keep.refl _ _
  refine P1.iloadN X0.here hx (hb hby d21_0) rfl ?_
  refine P1.bipush X0.here hx (6 : Int32) (hb hby d21_1) rfl ?_
  refine P1.icmpYes X0.here hx 12 (hb hby d21_3) (flt (by decide : ¬ ((6 : Int32) < (6 : Int32)))).2.1 (by decide) (by decide) ?_
  refine P1.bipush X0.here hx (120 : Int32) (hb hby d21_12) rfl ?_
  refine Goes.retN X0 hx Bd.notSynchronized (t := .char) Bd.returns (by simp) (hb hby d21_14) (ok rfl) (ok rfl) ?_
  rw [e0]
  exact ⟨rfl, N0, rfl⟩
theorem efAt7 (a : Addr) (m : MethodId) : entryFrame m #[(.ref a), (.int (7 : Int32))] 2 = mkF m 0 #[.val (.ref a), .val (.int (7 : Int32))] [] := by first | (simp [entryFrame, mkF, argsToLocals, Value.category]; done) | rfl
def QAt7 (Z : State) (a : Addr) (ka : ClassId) (c0 c1 c2 c3 c4 c5 : Int32) (h0 : Heap) (n0 : Nat) (v : Option Value) (h : Heap) (L : List Loc) : Prop := v = some (.int (120 : Int32)) ∧ Fr n0 L ∧ h = h0
set_option maxRecDepth 65536 in
set_option maxHeartbeats 40000000 in
theorem rmAt7 (l : Launch) (Z : State) (a0 : Array Value) (hw : ∀ d ∈ tables_1, d.before a0 Z = true) (ws : List Jvm.Cond) (a : Addr) (ka : ClassId) (c0 c1 c2 c3 c4 c5 : Int32) (h0 : Heap) (n0 : Nat) (Z0 : n0 ≤ h0.size) (O0 : Old Z n0 h0) (Va : Arv Z h0 a ka .char (6 : Int32) [(.int c0), (.int c1), (.int c2), (.int c3), (.int c4), (.int c5)] (.int (0 : Int32))) (bd_c0 : ¬ c0 < 0 ∧ ¬ (255 : Int32) < c0) (bd_c1 : ¬ c1 < 0 ∧ ¬ (255 : Int32) < c1) (bd_c2 : ¬ c2 < 0 ∧ ¬ (255 : Int32) < c2) (bd_c3 : ¬ c3 < 0 ∧ ¬ (255 : Int32) < c3) (bd_c4 : ¬ c4 < 0 ∧ ¬ (255 : Int32) < c4) (bd_c5 : ¬ c5 < 0 ∧ ¬ (255 : Int32) < c5) :
    OwnLaw l y1_ method_4_code 2 (some .char) ws (rR 0 0 0 0) #[(.ref a), (.int (7 : Int32))] Z h0 (QAt7 Z a ka c0 c1 c2 c3 c4 c5 h0 n0) := by
  refine own_enter (plainFor_of_name pn_com_example_hoist_hoist_model_RepositoryUrlAuthorityStartPinLaw) (efAt7 a) ?_
  intro p e s m below meth c s₁ Bd hx hby hml hZ hown X0 e0
  have N0 := Fr.nil n0
  have K0 : Keep h0 h0 [] := Keep.refl _ _
  refine P1.iloadN X0.here hx (hb hby d21_0) rfl ?_
  refine P1.bipush X0.here hx (6 : Int32) (hb hby d21_1) rfl ?_
  refine P1.icmpYes X0.here hx 12 (hb hby d21_3) (flt (by decide : ¬ ((7 : Int32) < (6 : Int32)))).2.1 (by decide) (by decide) ?_
  refine P1.bipush X0.here hx (120 : Int32) (hb hby d21_12) rfl ?_
  refine Goes.retN X0 hx Bd.notSynchronized (t := .char) Bd.returns (by simp) (hb hby d21_14) (ok rfl) (ok rfl) ?_
  rw [e0]
  exact ⟨rfl, N0, rfl⟩
theorem d13_0 : decode jdk_42_method_152_code 0 = .ok (.getstatic 38, 3) := by decide +kernel
theorem d13_3 : decode jdk_42_method_152_code 3 = .ok (.ifCond .eq 10, 3) := by decide +kernel
theorem d13_6 : decode jdk_42_method_152_code 6 = .ok (.aload_n 0, 1) := by decide +kernel
theorem d13_7 : decode jdk_42_method_152_code 7 = .ok (.getfield 15, 3) := by decide +kernel
theorem d13_10 : decode jdk_42_method_152_code 10 = .ok (.goto 4, 3) := by decide +kernel
theorem d13_14 : decode jdk_42_method_152_code 14 = .ok (.ireturn, 1) := by decide +kernel
theorem pn_java_lang_String : plainName "java/lang/String" = true := by first | (simp [plainName, overriddenIn]; done) | decide +kernel
theorem efCod (a : Addr) (m : MethodId) : entryFrame m #[(.ref a)] 1 = mkF m 0 #[.val (.ref a)] [] := by first | (simp [entryFrame, mkF, argsToLocals, Value.category]; done) | rfl
def QCod (Z : State) (a : Addr) (zc : Int32) (fm : Value) (h0 : Heap) (n0 : Nat) (v : Option Value) (h : Heap) (L : List Loc) : Prop := v = some (.int 0) ∧ Fr n0 L ∧ h = h0
set_option maxRecDepth 65536 in
set_option maxHeartbeats 40000000 in
theorem rmCod (l : Launch) (Z : State) (a0 : Array Value) (hw : ∀ d ∈ tables_1, d.before a0 Z = true) (ws : List Jvm.Cond) (a : Addr) (zc : Int32) (fm : Value) (h0 : Heap) (n0 : Nat) (Z0 : n0 ≤ h0.size) (O0 : Old Z n0 h0) (S_CS : Sta Z Z.heap "java/lang/String" "COMPACT_STRINGS" "Z" (.int zc)) (hzc : ¬ zc = 0) (S_FM : Sta Z Z.heap "jdk/internal/util/Preconditions" "SIOOBE_FORMATTER" "Ljava/util/function/BiFunction;" fm) (hfm : fm.isRef = true) (Fa : Fld Z h0 a "java/lang/String" "coder" "B" (.int (0 : Int32))) :
    OwnLaw l y6_ jdk_42_method_152_code 1 (some .byte) ws (rR 0 0 0 0) #[(.ref a)] Z h0 (QCod Z a zc fm h0 n0) := by
  refine own_enter (plainFor_of_name pn_java_lang_String) (efCod a) ?_
  intro p e s m below meth c s₁ Bd hx hby hml hZ hown X0 e0
  have N0 := Fr.nil n0
  have K0 : Keep h0 h0 [] := Keep.refl _ _
  obtain ⟨T12, X12, e12, st12⟩ := getS2 X0 hx hZ hown (host := "") (Or.inl (own_w hw 18 rfl)) Via.refl e0 (S_CS.ext O0.2) (g := (mkF m 0 #[.val (.ref a)] [])) rfl (hb hby d13_0)
  refine Goes.step (T' := T12) (g' := (mkF m 3 #[.val (.ref a)] [(.int zc)])) st12 ?_
  refine P1.ifNo X12.here hx (hb hby d13_3) ((if0 _ _).trans (feq (hzc : ¬ (zc = (0 : Int32)))).1) ?_
  refine P1.aloadN X12.here hx (hb hby d13_6) rfl rfl ?_
  obtain ⟨T13, X13, e13, st13⟩ := getF X12 hx hZ hown (host := "") (Or.inl (own_w hw 30 rfl)) Via.refl e12 Fa (g := (mkF m 7 #[.val (.ref a)] [(.ref a)])) rfl rfl (hb hby d13_7)
  refine Goes.step (T' := T13) (g' := (mkF m 10 #[.val (.ref a)] [(.int (0 : Int32))])) st13 ?_
  refine P1.goto X13.here hx 14 (hb hby d13_10) (by decide) (by decide) ?_
  refine Goes.retN X13 hx Bd.notSynchronized (t := .byte) Bd.returns (by simp) (hb hby d13_14) (ok rfl) (ok rfl) ?_
  rw [e13]
  exact ⟨rfl, N0, rfl⟩
theorem d11_0 : decode jdk_42_method_154_code 0 = .ok (.getstatic 38, 3) := by decide +kernel
theorem d11_3 : decode jdk_42_method_154_code 3 = .ok (.ifCond .eq 14, 3) := by decide +kernel
theorem d11_6 : decode jdk_42_method_154_code 6 = .ok (.aload_n 0, 1) := by decide +kernel
theorem d11_7 : decode jdk_42_method_154_code 7 = .ok (.getfield 15, 3) := by decide +kernel
theorem d11_10 : decode jdk_42_method_154_code 10 = .ok (.ifCond .ne 7, 3) := by decide +kernel
theorem d11_13 : decode jdk_42_method_154_code 13 = .ok (.iconst 1, 1) := by decide +kernel
theorem d11_14 : decode jdk_42_method_154_code 14 = .ok (.goto 4, 3) := by decide +kernel
theorem d11_18 : decode jdk_42_method_154_code 18 = .ok (.ireturn, 1) := by decide +kernel
theorem efIsL (a : Addr) (m : MethodId) : entryFrame m #[(.ref a)] 1 = mkF m 0 #[.val (.ref a)] [] := by first | (simp [entryFrame, mkF, argsToLocals, Value.category]; done) | rfl
def QIsL (Z : State) (a : Addr) (zc : Int32) (fm : Value) (h0 : Heap) (n0 : Nat) (v : Option Value) (h : Heap) (L : List Loc) : Prop := v = some (.int 1) ∧ Fr n0 L ∧ h = h0
set_option maxRecDepth 65536 in
set_option maxHeartbeats 40000000 in
theorem rmIsL (l : Launch) (Z : State) (a0 : Array Value) (hw : ∀ d ∈ tables_1, d.before a0 Z = true) (ws : List Jvm.Cond) (a : Addr) (zc : Int32) (fm : Value) (h0 : Heap) (n0 : Nat) (Z0 : n0 ≤ h0.size) (O0 : Old Z n0 h0) (S_CS : Sta Z Z.heap "java/lang/String" "COMPACT_STRINGS" "Z" (.int zc)) (hzc : ¬ zc = 0) (S_FM : Sta Z Z.heap "jdk/internal/util/Preconditions" "SIOOBE_FORMATTER" "Ljava/util/function/BiFunction;" fm) (hfm : fm.isRef = true) (Fa : Fld Z h0 a "java/lang/String" "coder" "B" (.int (0 : Int32))) :
    OwnLaw l y9_ jdk_42_method_154_code 1 (some .boolean) ws (rR 0 0 0 0) #[(.ref a)] Z h0 (QIsL Z a zc fm h0 n0) := by
  refine own_enter (plainFor_of_name pn_java_lang_String) (efIsL a) ?_
  intro p e s m below meth c s₁ Bd hx hby hml hZ hown X0 e0
  have N0 := Fr.nil n0
  have K0 : Keep h0 h0 [] := Keep.refl _ _
  obtain ⟨T14, X14, e14, st14⟩ := getS2 X0 hx hZ hown (host := "") (Or.inl (own_w hw 18 rfl)) Via.refl e0 (S_CS.ext O0.2) (g := (mkF m 0 #[.val (.ref a)] [])) rfl (hb hby d11_0)
  refine Goes.step (T' := T14) (g' := (mkF m 3 #[.val (.ref a)] [(.int zc)])) st14 ?_
  refine P1.ifNo X14.here hx (hb hby d11_3) ((if0 _ _).trans (feq (hzc : ¬ (zc = (0 : Int32)))).1) ?_
  refine P1.aloadN X14.here hx (hb hby d11_6) rfl rfl ?_
  obtain ⟨T15, X15, e15, st15⟩ := getF X14 hx hZ hown (host := "") (Or.inl (own_w hw 30 rfl)) Via.refl e14 Fa (g := (mkF m 7 #[.val (.ref a)] [(.ref a)])) rfl rfl (hb hby d11_7)
  refine Goes.step (T' := T15) (g' := (mkF m 10 #[.val (.ref a)] [(.int (0 : Int32))])) st15 ?_
  refine P1.ifNo X15.here hx (hb hby d11_10) ((if0 _ _).trans (teq (by decide : (0 : Int32) = (0 : Int32))).2) ?_
  refine P1.iconst X15.here hx (1 : Int32) (hb hby d11_13) rfl ?_
  refine P1.goto X15.here hx 18 (hb hby d11_14) (by decide) (by decide) ?_
  refine Goes.retN X15 hx Bd.notSynchronized (t := .boolean) Bd.returns (by simp) (hb hby d11_18) (ok rfl) (ok rfl) ?_
  rw [e15]
  exact ⟨rfl, N0, rfl⟩
theorem d15_0 : decode jdk_43_method_4_code 0 = .ok (.iload_n 0, 1) := by decide +kernel
theorem d15_1 : decode jdk_43_method_4_code 1 = .ok (.ifCond .lt 14, 3) := by decide +kernel
theorem d15_4 : decode jdk_43_method_4_code 4 = .ok (.iload_n 0, 1) := by decide +kernel
theorem d15_5 : decode jdk_43_method_4_code 5 = .ok (.sipush 255, 3) := by decide +kernel
theorem d15_8 : decode jdk_43_method_4_code 8 = .ok (.if_icmp .gt 7, 3) := by decide +kernel
theorem d15_11 : decode jdk_43_method_4_code 11 = .ok (.iconst 1, 1) := by decide +kernel
theorem d15_12 : decode jdk_43_method_4_code 12 = .ok (.goto 4, 3) := by decide +kernel
theorem d15_16 : decode jdk_43_method_4_code 16 = .ok (.ireturn, 1) := by decide +kernel
theorem pn_java_lang_StringLatin1 : plainName "java/lang/StringLatin1" = true := by first | (simp [plainName, overriddenIn]; done) | decide +kernel
theorem efCanE  (m : MethodId) : entryFrame m #[(.int (58 : Int32))] 1 = mkF m 0 #[.val (.int (58 : Int32))] [] := by first | (simp [entryFrame, mkF, argsToLocals, Value.category]; done) | rfl
def QCanE (Z : State)  (h0 : Heap) (n0 : Nat) (v : Option Value) (h : Heap) (L : List Loc) : Prop := v = some (.int 1) ∧ Fr n0 L ∧ h = h0
set_option maxRecDepth 65536 in
set_option maxHeartbeats 40000000 in
theorem rmCanE (l : Launch) (Z : State) (a0 : Array Value) (hw : ∀ d ∈ tables_1, d.before a0 Z = true) (ws : List Jvm.Cond)  (h0 : Heap) (n0 : Nat) (Z0 : n0 ≤ h0.size) (O0 : Old Z n0 h0) :
    OwnLaw l (⟨"java/lang/StringLatin1", "canEncode", "(I)Z"⟩ : MethodName) jdk_43_method_4_code 1 (some .boolean) ws (rR 0 0 0 0) #[(.int (58 : Int32))] Z h0 (QCanE Z  h0 n0) := by
  refine own_enter (plainFor_of_name pn_java_lang_StringLatin1) (efCanE ) ?_
  intro p e s m below meth c s₁ Bd hx hby hml hZ hown X0 e0
  have N0 := Fr.nil n0
  have K0 : Keep h0 h0 [] := Keep.refl _ _
  refine P1.iloadN X0.here hx (hb hby d15_0) rfl ?_
  refine P1.ifNo X0.here hx (hb hby d15_1) ((if0 _ _).trans (flt (by decide : ¬ ((58 : Int32) < (0 : Int32)))).1) ?_
  refine P1.iloadN X0.here hx (hb hby d15_4) rfl ?_
  refine P1.sipush X0.here hx (255 : Int32) (hb hby d15_5) rfl ?_
  refine P1.icmpNo X0.here hx (hb hby d15_8) (flt (by decide : ¬ ((255 : Int32) < (58 : Int32)))).2.2.1 ?_
  refine P1.iconst X0.here hx (1 : Int32) (hb hby d15_11) rfl ?_
  refine P1.goto X0.here hx 16 (hb hby d15_12) (by decide) (by decide) ?_
  refine Goes.retN X0 hx Bd.notSynchronized (t := .boolean) Bd.returns (by simp) (hb hby d15_16) (ok rfl) (ok rfl) ?_
  rw [e0]
  exact ⟨rfl, N0, rfl⟩
theorem d16_0 : decode jdk_29_method_65_code 0 = .ok (.iload_n 0, 1) := by decide +kernel
theorem d16_1 : decode jdk_29_method_65_code 1 = .ok (.iload_n 1, 1) := by decide +kernel
theorem d16_2 : decode jdk_29_method_65_code 2 = .ok (.if_icmp .lt 7, 3) := by decide +kernel
theorem d16_5 : decode jdk_29_method_65_code 5 = .ok (.iload_n 0, 1) := by decide +kernel
theorem d16_6 : decode jdk_29_method_65_code 6 = .ok (.goto 4, 3) := by decide +kernel
theorem d16_10 : decode jdk_29_method_65_code 10 = .ok (.ireturn, 1) := by decide +kernel
theorem efMax0  (m : MethodId) : entryFrame m #[(.int (0 : Int32)), (.int (0 : Int32))] 2 = mkF m 0 #[.val (.int (0 : Int32)), .val (.int (0 : Int32))] [] := by first | (simp [entryFrame, mkF, argsToLocals, Value.category]; done) | rfl
def QMax0 (Z : State)  (h0 : Heap) (n0 : Nat) (v : Option Value) (h : Heap) (L : List Loc) : Prop := v = some (.int 0) ∧ Fr n0 L ∧ h = h0
set_option maxRecDepth 65536 in
set_option maxHeartbeats 40000000 in
theorem rmMax0 (l : Launch) (Z : State) (a0 : Array Value) (hw : ∀ d ∈ tables_1, d.before a0 Z = true) (ws : List Jvm.Cond)  (h0 : Heap) (n0 : Nat) (Z0 : n0 ≤ h0.size) (O0 : Old Z n0 h0) :
    OwnLaw l (⟨"java/lang/Math", "max", "(II)I"⟩ : MethodName) jdk_29_method_65_code 2 (some .int) ws (rR 0 0 0 0) #[(.int (0 : Int32)), (.int (0 : Int32))] Z h0 (QMax0 Z  h0 n0) := by
  refine own_enter (Jvm.Free.JP.mathPlain rfl (by decide +kernel)) (efMax0 ) ?_
  intro p e s m below meth c s₁ Bd hx hby hml hZ hown X0 e0
  have N0 := Fr.nil n0
  have K0 : Keep h0 h0 [] := Keep.refl _ _
  refine P1.iloadN X0.here hx (hb hby d16_0) rfl ?_
  refine P1.iloadN X0.here hx (hb hby d16_1) rfl ?_
  refine P1.icmpNo X0.here hx (hb hby d16_2) (flt (by decide : ¬ ((0 : Int32) < (0 : Int32)))).1 ?_
  refine P1.iloadN X0.here hx (hb hby d16_5) rfl ?_
  refine P1.goto X0.here hx 10 (hb hby d16_6) (by decide) (by decide) ?_
  refine Goes.retI X0 hx Bd.notSynchronized Bd.returns (hb hby d16_10) (ok rfl) (ok rfl) ?_
  rw [e0]
  exact ⟨rfl, N0, rfl⟩
theorem d17_0 : decode jdk_29_method_69_code 0 = .ok (.iload_n 0, 1) := by decide +kernel
theorem d17_1 : decode jdk_29_method_69_code 1 = .ok (.iload_n 1, 1) := by decide +kernel
theorem d17_2 : decode jdk_29_method_69_code 2 = .ok (.if_icmp .gt 7, 3) := by decide +kernel
theorem d17_5 : decode jdk_29_method_69_code 5 = .ok (.iload_n 0, 1) := by decide +kernel
theorem d17_6 : decode jdk_29_method_69_code 6 = .ok (.goto 4, 3) := by decide +kernel
theorem d17_10 : decode jdk_29_method_69_code 10 = .ok (.ireturn, 1) := by decide +kernel
theorem efMin6  (m : MethodId) : entryFrame m #[(.int (6 : Int32)), (.int (6 : Int32))] 2 = mkF m 0 #[.val (.int (6 : Int32)), .val (.int (6 : Int32))] [] := by first | (simp [entryFrame, mkF, argsToLocals, Value.category]; done) | rfl
def QMin6 (Z : State)  (h0 : Heap) (n0 : Nat) (v : Option Value) (h : Heap) (L : List Loc) : Prop := v = some (.int 6) ∧ Fr n0 L ∧ h = h0
set_option maxRecDepth 65536 in
set_option maxHeartbeats 40000000 in
theorem rmMin6 (l : Launch) (Z : State) (a0 : Array Value) (hw : ∀ d ∈ tables_1, d.before a0 Z = true) (ws : List Jvm.Cond)  (h0 : Heap) (n0 : Nat) (Z0 : n0 ≤ h0.size) (O0 : Old Z n0 h0) :
    OwnLaw l (⟨"java/lang/Math", "min", "(II)I"⟩ : MethodName) jdk_29_method_69_code 2 (some .int) ws (rR 0 0 0 0) #[(.int (6 : Int32)), (.int (6 : Int32))] Z h0 (QMin6 Z  h0 n0) := by
  refine own_enter (Jvm.Free.JP.mathPlain rfl (by decide +kernel)) (efMin6 ) ?_
  intro p e s m below meth c s₁ Bd hx hby hml hZ hown X0 e0
  have N0 := Fr.nil n0
  have K0 : Keep h0 h0 [] := Keep.refl _ _
  refine P1.iloadN X0.here hx (hb hby d17_0) rfl ?_
  refine P1.iloadN X0.here hx (hb hby d17_1) rfl ?_
  refine P1.icmpNo X0.here hx (hb hby d17_2) (flt (by decide : ¬ ((6 : Int32) < (6 : Int32)))).2.2.1 ?_
  refine P1.iloadN X0.here hx (hb hby d17_5) rfl ?_
  refine P1.goto X0.here hx 10 (hb hby d17_6) (by decide) (by decide) ?_
  refine Goes.retI X0 hx Bd.notSynchronized Bd.returns (hb hby d17_10) (ok rfl) (ok rfl) ?_
  rw [e0]
  exact ⟨rfl, N0, rfl⟩
theorem d18_0 : decode jdk_43_method_23_code 0 = .ok (.iload_n 1, 1) := by decide +kernel
theorem d18_1 : decode jdk_43_method_23_code 1 = .ok (.i2b, 1) := by decide +kernel
theorem d18_2 : decode jdk_43_method_23_code 2 = .ok (.istore 4, 2) := by decide +kernel
theorem d18_4 : decode jdk_43_method_23_code 4 = .ok (.iload_n 2, 1) := by decide +kernel
theorem d18_5 : decode jdk_43_method_23_code 5 = .ok (.istore 5, 2) := by decide +kernel
theorem d18_7 : decode jdk_43_method_23_code 7 = .ok (.iload 5, 2) := by decide +kernel
theorem d18_9 : decode jdk_43_method_23_code 9 = .ok (.iload_n 3, 1) := by decide +kernel
theorem d18_10 : decode jdk_43_method_23_code 10 = .ok (.if_icmp .ge 21, 3) := by decide +kernel
theorem d18_13 : decode jdk_43_method_23_code 13 = .ok (.aload_n 0, 1) := by decide +kernel
theorem d18_14 : decode jdk_43_method_23_code 14 = .ok (.iload 5, 2) := by decide +kernel
theorem d18_16 : decode jdk_43_method_23_code 16 = .ok (.baload, 1) := by decide +kernel
theorem d18_17 : decode jdk_43_method_23_code 17 = .ok (.iload 4, 2) := by decide +kernel
theorem d18_19 : decode jdk_43_method_23_code 19 = .ok (.if_icmp .ne 6, 3) := by decide +kernel
theorem d18_22 : decode jdk_43_method_23_code 22 = .ok (.iload 5, 2) := by decide +kernel
theorem d18_24 : decode jdk_43_method_23_code 24 = .ok (.ireturn, 1) := by decide +kernel
theorem d18_25 : decode jdk_43_method_23_code 25 = .ok (.iinc 5 1, 3) := by decide +kernel
theorem d18_28 : decode jdk_43_method_23_code 28 = .ok (.goto (-21), 3) := by decide +kernel
theorem d18_31 : decode jdk_43_method_23_code 31 = .ok (.iconst (-1), 1) := by decide +kernel
theorem d18_32 : decode jdk_43_method_23_code 32 = .ok (.ireturn, 1) := by decide +kernel
theorem efIxC (t : Addr) (m : MethodId) : entryFrame m #[(.ref t), (.int (58 : Int32)), (.int (0 : Int32)), (.int (6 : Int32))] 6 = mkF m 0 #[.val (.ref t), .val (.int (58 : Int32)), .val (.int (0 : Int32)), .val (.int (6 : Int32)), .unset, .unset] [] := by first | (simp [entryFrame, mkF, argsToLocals, Value.category]; done) | rfl
def QIxC (Z : State) (t : Addr) (kt : ClassId) (b0 b1 b2 b3 b4 b5 : Int32) (h0 : Heap) (n0 : Nat) (v : Option Value) (h : Heap) (L : List Loc) : Prop := v = some (.int (ix6 b0 b1 b2 b3 b4 b5)) ∧ Fr n0 L ∧ h = h0
set_option maxRecDepth 65536 in
set_option maxHeartbeats 40000000 in
theorem rmIxC (l : Launch) (Z : State) (a0 : Array Value) (hw : ∀ d ∈ tables_1, d.before a0 Z = true) (ws : List Jvm.Cond) (t : Addr) (kt : ClassId) (b0 b1 b2 b3 b4 b5 : Int32) (h0 : Heap) (n0 : Nat) (Z0 : n0 ≤ h0.size) (O0 : Old Z n0 h0) (Vt : Arv Z h0 t kt .byte (6 : Int32) [(.int b0), (.int b1), (.int b2), (.int b3), (.int b4), (.int b5)] (.int (0 : Int32))) :
    OwnLaw l (⟨"java/lang/StringLatin1", "indexOfChar", "([BIII)I"⟩ : MethodName) jdk_43_method_23_code 6 (some .int) ws (rR 0 0 0 0) #[(.ref t), (.int (58 : Int32)), (.int (0 : Int32)), (.int (6 : Int32))] Z h0 (QIxC Z t kt b0 b1 b2 b3 b4 b5 h0 n0) := by
  refine own_enter (plainFor_of_name pn_java_lang_StringLatin1) (efIxC t) ?_
  intro p e s m below meth c s₁ Bd hx hby hml hZ hown X0 e0
  have N0 := Fr.nil n0
  have K0 : Keep h0 h0 [] := Keep.refl _ _
  refine P1.iloadN X0.here hx (hb hby d18_0) rfl ?_
  refine P1.i2b X0.here hx (hb hby d18_1) ?_
  have rw16 : ((58 : Int32).toInt8.toInt32) = (58 : Int32) := by decide
  rw [rw16]
  refine P1.istore X0.here hx #[.val (.ref t), .val (.int (58 : Int32)), .val (.int (0 : Int32)), .val (.int (6 : Int32)), .val (.int (58 : Int32)), .unset] (hb hby d18_2) rfl ?_
  refine P1.iloadN X0.here hx (hb hby d18_4) rfl ?_
  refine P1.istore X0.here hx #[.val (.ref t), .val (.int (58 : Int32)), .val (.int (0 : Int32)), .val (.int (6 : Int32)), .val (.int (58 : Int32)), .val (.int (0 : Int32))] (hb hby d18_5) rfl ?_
  refine P1.iload X0.here hx (hb hby d18_7) rfl ?_
  refine P1.iloadN X0.here hx (hb hby d18_9) rfl ?_
  refine P1.icmpNo X0.here hx (hb hby d18_10) (tlt (by decide : (0 : Int32) < (6 : Int32))).2.1 ?_
  refine P1.aloadN X0.here hx (hb hby d18_13) rfl rfl ?_
  refine P1.iload X0.here hx (hb hby d18_14) rfl ?_
  obtain ⟨cl17, Ar17, qk17, sl17, nz17, ha17, fi17⟩ := id Vt
  have i18 := inb_of (j := (0 : Int32)) sl17 ⟨by decide, by decide⟩
  refine Goes.step (T' := s₁) (g' := (mkF m 17 #[.val (.ref t), .val (.int (58 : Int32)), .val (.int (0 : Int32)), .val (.int (6 : Int32)), .val (.int (58 : Int32)), .val (.int (0 : Int32))] [(.int b0)])) (fun t_ k_ => X0.baloadBytes hx (j := (0 : Int32)) (v := (.int b0)) (by rw [e0]; exact Ar17.1) (State.isArrayOf_alike hZ.alike Ar17.2.1) Ar17.2.2 i18 (Has.at ha17 i18 rfl) (g := (mkF m 16 #[.val (.ref t), .val (.int (58 : Int32)), .val (.int (0 : Int32)), .val (.int (6 : Int32)), .val (.int (58 : Int32)), .val (.int (0 : Int32))] [(.int (0 : Int32)), (.ref t)])) rfl rfl (hb hby d18_16) _ k_) ?_
  refine P1.iload X0.here hx (hb hby d18_17) rfl ?_
  by_cases hb0 : b0 = (58 : Int32)
  ·
    refine P1.icmpNo X0.here hx (hb hby d18_19) (teq (hb0 : b0 = (58 : Int32))).2 ?_
    refine P1.iload X0.here hx (hb hby d18_22) rfl ?_
    refine Goes.retI X0 hx Bd.notSynchronized Bd.returns (hb hby d18_24) (ok rfl) (ok rfl) ?_
    rw [e0]
    exact ⟨by simp [ix6, hb0], N0, rfl⟩
  ·
    refine P1.icmpYes X0.here hx 25 (hb hby d18_19) (feq (hb0 : ¬ (b0 = (58 : Int32)))).2 (by decide) (by decide) ?_
    refine P1.iinc X0.here hx #[.val (.ref t), .val (.int (58 : Int32)), .val (.int (0 : Int32)), .val (.int (6 : Int32)), .val (.int (58 : Int32)), .val (.int ((0 : Int32) + (1 : Int32)))] (hb hby d18_25) rfl rfl ?_
    have rw19 : ((0 : Int32) + (1 : Int32)) = (1 : Int32) := by decide
    rw [rw19]
    refine P1.goto X0.here hx 7 (hb hby d18_28) (by decide) (by decide) ?_
    refine P1.iload X0.here hx (hb hby d18_7) rfl ?_
    refine P1.iloadN X0.here hx (hb hby d18_9) rfl ?_
    refine P1.icmpNo X0.here hx (hb hby d18_10) (tlt (by decide : (1 : Int32) < (6 : Int32))).2.1 ?_
    refine P1.aloadN X0.here hx (hb hby d18_13) rfl rfl ?_
    refine P1.iload X0.here hx (hb hby d18_14) rfl ?_
    obtain ⟨cl20, Ar20, qk20, sl20, nz20, ha20, fi20⟩ := id Vt
    have i21 := inb_of (j := (1 : Int32)) sl20 ⟨by decide, by decide⟩
    refine Goes.step (T' := s₁) (g' := (mkF m 17 #[.val (.ref t), .val (.int (58 : Int32)), .val (.int (0 : Int32)), .val (.int (6 : Int32)), .val (.int (58 : Int32)), .val (.int (1 : Int32))] [(.int b1)])) (fun t_ k_ => X0.baloadBytes hx (j := (1 : Int32)) (v := (.int b1)) (by rw [e0]; exact Ar20.1) (State.isArrayOf_alike hZ.alike Ar20.2.1) Ar20.2.2 i21 (Has.at ha20 i21 rfl) (g := (mkF m 16 #[.val (.ref t), .val (.int (58 : Int32)), .val (.int (0 : Int32)), .val (.int (6 : Int32)), .val (.int (58 : Int32)), .val (.int (1 : Int32))] [(.int (1 : Int32)), (.ref t)])) rfl rfl (hb hby d18_16) _ k_) ?_
    refine P1.iload X0.here hx (hb hby d18_17) rfl ?_
    by_cases hb1 : b1 = (58 : Int32)
    ·
      refine P1.icmpNo X0.here hx (hb hby d18_19) (teq (hb1 : b1 = (58 : Int32))).2 ?_
      refine P1.iload X0.here hx (hb hby d18_22) rfl ?_
      refine Goes.retI X0 hx Bd.notSynchronized Bd.returns (hb hby d18_24) (ok rfl) (ok rfl) ?_
      rw [e0]
      exact ⟨by simp [ix6, hb0, hb1], N0, rfl⟩
    ·
      refine P1.icmpYes X0.here hx 25 (hb hby d18_19) (feq (hb1 : ¬ (b1 = (58 : Int32)))).2 (by decide) (by decide) ?_
      refine P1.iinc X0.here hx #[.val (.ref t), .val (.int (58 : Int32)), .val (.int (0 : Int32)), .val (.int (6 : Int32)), .val (.int (58 : Int32)), .val (.int ((1 : Int32) + (1 : Int32)))] (hb hby d18_25) rfl rfl ?_
      have rw22 : ((1 : Int32) + (1 : Int32)) = (2 : Int32) := by decide
      rw [rw22]
      refine P1.goto X0.here hx 7 (hb hby d18_28) (by decide) (by decide) ?_
      refine P1.iload X0.here hx (hb hby d18_7) rfl ?_
      refine P1.iloadN X0.here hx (hb hby d18_9) rfl ?_
      refine P1.icmpNo X0.here hx (hb hby d18_10) (tlt (by decide : (2 : Int32) < (6 : Int32))).2.1 ?_
      refine P1.aloadN X0.here hx (hb hby d18_13) rfl rfl ?_
      refine P1.iload X0.here hx (hb hby d18_14) rfl ?_
      obtain ⟨cl23, Ar23, qk23, sl23, nz23, ha23, fi23⟩ := id Vt
      have i24 := inb_of (j := (2 : Int32)) sl23 ⟨by decide, by decide⟩
      refine Goes.step (T' := s₁) (g' := (mkF m 17 #[.val (.ref t), .val (.int (58 : Int32)), .val (.int (0 : Int32)), .val (.int (6 : Int32)), .val (.int (58 : Int32)), .val (.int (2 : Int32))] [(.int b2)])) (fun t_ k_ => X0.baloadBytes hx (j := (2 : Int32)) (v := (.int b2)) (by rw [e0]; exact Ar23.1) (State.isArrayOf_alike hZ.alike Ar23.2.1) Ar23.2.2 i24 (Has.at ha23 i24 rfl) (g := (mkF m 16 #[.val (.ref t), .val (.int (58 : Int32)), .val (.int (0 : Int32)), .val (.int (6 : Int32)), .val (.int (58 : Int32)), .val (.int (2 : Int32))] [(.int (2 : Int32)), (.ref t)])) rfl rfl (hb hby d18_16) _ k_) ?_
      refine P1.iload X0.here hx (hb hby d18_17) rfl ?_
      by_cases hb2 : b2 = (58 : Int32)
      ·
        refine P1.icmpNo X0.here hx (hb hby d18_19) (teq (hb2 : b2 = (58 : Int32))).2 ?_
        refine P1.iload X0.here hx (hb hby d18_22) rfl ?_
        refine Goes.retI X0 hx Bd.notSynchronized Bd.returns (hb hby d18_24) (ok rfl) (ok rfl) ?_
        rw [e0]
        exact ⟨by simp [ix6, hb0, hb1, hb2], N0, rfl⟩
      ·
        refine P1.icmpYes X0.here hx 25 (hb hby d18_19) (feq (hb2 : ¬ (b2 = (58 : Int32)))).2 (by decide) (by decide) ?_
        refine P1.iinc X0.here hx #[.val (.ref t), .val (.int (58 : Int32)), .val (.int (0 : Int32)), .val (.int (6 : Int32)), .val (.int (58 : Int32)), .val (.int ((2 : Int32) + (1 : Int32)))] (hb hby d18_25) rfl rfl ?_
        have rw25 : ((2 : Int32) + (1 : Int32)) = (3 : Int32) := by decide
        rw [rw25]
        refine P1.goto X0.here hx 7 (hb hby d18_28) (by decide) (by decide) ?_
        refine P1.iload X0.here hx (hb hby d18_7) rfl ?_
        refine P1.iloadN X0.here hx (hb hby d18_9) rfl ?_
        refine P1.icmpNo X0.here hx (hb hby d18_10) (tlt (by decide : (3 : Int32) < (6 : Int32))).2.1 ?_
        refine P1.aloadN X0.here hx (hb hby d18_13) rfl rfl ?_
        refine P1.iload X0.here hx (hb hby d18_14) rfl ?_
        obtain ⟨cl26, Ar26, qk26, sl26, nz26, ha26, fi26⟩ := id Vt
        have i27 := inb_of (j := (3 : Int32)) sl26 ⟨by decide, by decide⟩
        refine Goes.step (T' := s₁) (g' := (mkF m 17 #[.val (.ref t), .val (.int (58 : Int32)), .val (.int (0 : Int32)), .val (.int (6 : Int32)), .val (.int (58 : Int32)), .val (.int (3 : Int32))] [(.int b3)])) (fun t_ k_ => X0.baloadBytes hx (j := (3 : Int32)) (v := (.int b3)) (by rw [e0]; exact Ar26.1) (State.isArrayOf_alike hZ.alike Ar26.2.1) Ar26.2.2 i27 (Has.at ha26 i27 rfl) (g := (mkF m 16 #[.val (.ref t), .val (.int (58 : Int32)), .val (.int (0 : Int32)), .val (.int (6 : Int32)), .val (.int (58 : Int32)), .val (.int (3 : Int32))] [(.int (3 : Int32)), (.ref t)])) rfl rfl (hb hby d18_16) _ k_) ?_
        refine P1.iload X0.here hx (hb hby d18_17) rfl ?_
        by_cases hb3 : b3 = (58 : Int32)
        ·
          refine P1.icmpNo X0.here hx (hb hby d18_19) (teq (hb3 : b3 = (58 : Int32))).2 ?_
          refine P1.iload X0.here hx (hb hby d18_22) rfl ?_
          refine Goes.retI X0 hx Bd.notSynchronized Bd.returns (hb hby d18_24) (ok rfl) (ok rfl) ?_
          rw [e0]
          exact ⟨by simp [ix6, hb0, hb1, hb2, hb3], N0, rfl⟩
        ·
          refine P1.icmpYes X0.here hx 25 (hb hby d18_19) (feq (hb3 : ¬ (b3 = (58 : Int32)))).2 (by decide) (by decide) ?_
          refine P1.iinc X0.here hx #[.val (.ref t), .val (.int (58 : Int32)), .val (.int (0 : Int32)), .val (.int (6 : Int32)), .val (.int (58 : Int32)), .val (.int ((3 : Int32) + (1 : Int32)))] (hb hby d18_25) rfl rfl ?_
          have rw28 : ((3 : Int32) + (1 : Int32)) = (4 : Int32) := by decide
          rw [rw28]
          refine P1.goto X0.here hx 7 (hb hby d18_28) (by decide) (by decide) ?_
          refine P1.iload X0.here hx (hb hby d18_7) rfl ?_
          refine P1.iloadN X0.here hx (hb hby d18_9) rfl ?_
          refine P1.icmpNo X0.here hx (hb hby d18_10) (tlt (by decide : (4 : Int32) < (6 : Int32))).2.1 ?_
          refine P1.aloadN X0.here hx (hb hby d18_13) rfl rfl ?_
          refine P1.iload X0.here hx (hb hby d18_14) rfl ?_
          obtain ⟨cl29, Ar29, qk29, sl29, nz29, ha29, fi29⟩ := id Vt
          have i30 := inb_of (j := (4 : Int32)) sl29 ⟨by decide, by decide⟩
          refine Goes.step (T' := s₁) (g' := (mkF m 17 #[.val (.ref t), .val (.int (58 : Int32)), .val (.int (0 : Int32)), .val (.int (6 : Int32)), .val (.int (58 : Int32)), .val (.int (4 : Int32))] [(.int b4)])) (fun t_ k_ => X0.baloadBytes hx (j := (4 : Int32)) (v := (.int b4)) (by rw [e0]; exact Ar29.1) (State.isArrayOf_alike hZ.alike Ar29.2.1) Ar29.2.2 i30 (Has.at ha29 i30 rfl) (g := (mkF m 16 #[.val (.ref t), .val (.int (58 : Int32)), .val (.int (0 : Int32)), .val (.int (6 : Int32)), .val (.int (58 : Int32)), .val (.int (4 : Int32))] [(.int (4 : Int32)), (.ref t)])) rfl rfl (hb hby d18_16) _ k_) ?_
          refine P1.iload X0.here hx (hb hby d18_17) rfl ?_
          by_cases hb4 : b4 = (58 : Int32)
          ·
            refine P1.icmpNo X0.here hx (hb hby d18_19) (teq (hb4 : b4 = (58 : Int32))).2 ?_
            refine P1.iload X0.here hx (hb hby d18_22) rfl ?_
            refine Goes.retI X0 hx Bd.notSynchronized Bd.returns (hb hby d18_24) (ok rfl) (ok rfl) ?_
            rw [e0]
            exact ⟨by simp [ix6, hb0, hb1, hb2, hb3, hb4], N0, rfl⟩
          ·
            refine P1.icmpYes X0.here hx 25 (hb hby d18_19) (feq (hb4 : ¬ (b4 = (58 : Int32)))).2 (by decide) (by decide) ?_
            refine P1.iinc X0.here hx #[.val (.ref t), .val (.int (58 : Int32)), .val (.int (0 : Int32)), .val (.int (6 : Int32)), .val (.int (58 : Int32)), .val (.int ((4 : Int32) + (1 : Int32)))] (hb hby d18_25) rfl rfl ?_
            have rw31 : ((4 : Int32) + (1 : Int32)) = (5 : Int32) := by decide
            rw [rw31]
            refine P1.goto X0.here hx 7 (hb hby d18_28) (by decide) (by decide) ?_
            refine P1.iload X0.here hx (hb hby d18_7) rfl ?_
            refine P1.iloadN X0.here hx (hb hby d18_9) rfl ?_
            refine P1.icmpNo X0.here hx (hb hby d18_10) (tlt (by decide : (5 : Int32) < (6 : Int32))).2.1 ?_
            refine P1.aloadN X0.here hx (hb hby d18_13) rfl rfl ?_
            refine P1.iload X0.here hx (hb hby d18_14) rfl ?_
            obtain ⟨cl32, Ar32, qk32, sl32, nz32, ha32, fi32⟩ := id Vt
            have i33 := inb_of (j := (5 : Int32)) sl32 ⟨by decide, by decide⟩
            refine Goes.step (T' := s₁) (g' := (mkF m 17 #[.val (.ref t), .val (.int (58 : Int32)), .val (.int (0 : Int32)), .val (.int (6 : Int32)), .val (.int (58 : Int32)), .val (.int (5 : Int32))] [(.int b5)])) (fun t_ k_ => X0.baloadBytes hx (j := (5 : Int32)) (v := (.int b5)) (by rw [e0]; exact Ar32.1) (State.isArrayOf_alike hZ.alike Ar32.2.1) Ar32.2.2 i33 (Has.at ha32 i33 rfl) (g := (mkF m 16 #[.val (.ref t), .val (.int (58 : Int32)), .val (.int (0 : Int32)), .val (.int (6 : Int32)), .val (.int (58 : Int32)), .val (.int (5 : Int32))] [(.int (5 : Int32)), (.ref t)])) rfl rfl (hb hby d18_16) _ k_) ?_
            refine P1.iload X0.here hx (hb hby d18_17) rfl ?_
            by_cases hb5 : b5 = (58 : Int32)
            ·
              refine P1.icmpNo X0.here hx (hb hby d18_19) (teq (hb5 : b5 = (58 : Int32))).2 ?_
              refine P1.iload X0.here hx (hb hby d18_22) rfl ?_
              refine Goes.retI X0 hx Bd.notSynchronized Bd.returns (hb hby d18_24) (ok rfl) (ok rfl) ?_
              rw [e0]
              exact ⟨by simp [ix6, hb0, hb1, hb2, hb3, hb4, hb5], N0, rfl⟩
            ·
              refine P1.icmpYes X0.here hx 25 (hb hby d18_19) (feq (hb5 : ¬ (b5 = (58 : Int32)))).2 (by decide) (by decide) ?_
              refine P1.iinc X0.here hx #[.val (.ref t), .val (.int (58 : Int32)), .val (.int (0 : Int32)), .val (.int (6 : Int32)), .val (.int (58 : Int32)), .val (.int ((5 : Int32) + (1 : Int32)))] (hb hby d18_25) rfl rfl ?_
              have rw34 : ((5 : Int32) + (1 : Int32)) = (6 : Int32) := by decide
              rw [rw34]
              refine P1.goto X0.here hx 7 (hb hby d18_28) (by decide) (by decide) ?_
              refine P1.iload X0.here hx (hb hby d18_7) rfl ?_
              refine P1.iloadN X0.here hx (hb hby d18_9) rfl ?_
              refine P1.icmpYes X0.here hx 31 (hb hby d18_10) (flt (by decide : ¬ ((6 : Int32) < (6 : Int32)))).2.1 (by decide) (by decide) ?_
              refine P1.iconst X0.here hx (-1 : Int32) (hb hby d18_31) rfl ?_
              refine Goes.retI X0 hx Bd.notSynchronized Bd.returns (hb hby d18_32) (ok rfl) (ok rfl) ?_
              rw [e0]
              exact ⟨by simp [ix6, hb0, hb1, hb2, hb3, hb4, hb5], N0, rfl⟩
theorem d14_0 : decode jdk_43_method_22_code 0 = .ok (.iload_n 1, 1) := by decide +kernel
theorem d14_1 : decode jdk_43_method_22_code 1 = .ok (.invokestatic 88, 3) := by decide +kernel
theorem d14_4 : decode jdk_43_method_22_code 4 = .ok (.ifCond .ne 5, 3) := by decide +kernel
theorem d14_9 : decode jdk_43_method_22_code 9 = .ok (.iload_n 2, 1) := by decide +kernel
theorem d14_10 : decode jdk_43_method_22_code 10 = .ok (.iconst 0, 1) := by decide +kernel
theorem d14_11 : decode jdk_43_method_22_code 11 = .ok (.invokestatic 92, 3) := by decide +kernel
theorem d14_14 : decode jdk_43_method_22_code 14 = .ok (.istore_n 2, 1) := by decide +kernel
theorem d14_15 : decode jdk_43_method_22_code 15 = .ok (.iload_n 3, 1) := by decide +kernel
theorem d14_16 : decode jdk_43_method_22_code 16 = .ok (.aload_n 0, 1) := by decide +kernel
theorem d14_17 : decode jdk_43_method_22_code 17 = .ok (.arraylength, 1) := by decide +kernel
theorem d14_18 : decode jdk_43_method_22_code 18 = .ok (.invokestatic 38, 3) := by decide +kernel
theorem d14_21 : decode jdk_43_method_22_code 21 = .ok (.istore_n 3, 1) := by decide +kernel
theorem d14_22 : decode jdk_43_method_22_code 22 = .ok (.iload_n 2, 1) := by decide +kernel
theorem d14_23 : decode jdk_43_method_22_code 23 = .ok (.iload_n 3, 1) := by decide +kernel
theorem d14_24 : decode jdk_43_method_22_code 24 = .ok (.if_icmp .lt 5, 3) := by decide +kernel
theorem d14_29 : decode jdk_43_method_22_code 29 = .ok (.aload_n 0, 1) := by decide +kernel
theorem d14_30 : decode jdk_43_method_22_code 30 = .ok (.iload_n 1, 1) := by decide +kernel
theorem d14_31 : decode jdk_43_method_22_code 31 = .ok (.iload_n 2, 1) := by decide +kernel
theorem d14_32 : decode jdk_43_method_22_code 32 = .ok (.iload_n 3, 1) := by decide +kernel
theorem d14_33 : decode jdk_43_method_22_code 33 = .ok (.invokestatic 95, 3) := by decide +kernel
theorem d14_36 : decode jdk_43_method_22_code 36 = .ok (.ireturn, 1) := by decide +kernel
theorem pd_669 : parseMethodDescriptor "(I)Z" = some ⟨[.int], some .boolean⟩ := by decide +kernel
theorem pd_934 : parseMethodDescriptor "(II)I" = some ⟨[.int, .int], some .int⟩ := by decide +kernel
theorem pd_2386 : parseMethodDescriptor "([BIII)I" = some ⟨[(.array .byte), .int, .int, .int], some .int⟩ := by decide +kernel
theorem efIxL (t : Addr) (m : MethodId) : entryFrame m #[(.ref t), (.int (58 : Int32)), (.int (0 : Int32)), (.int (6 : Int32))] 4 = mkF m 0 #[.val (.ref t), .val (.int (58 : Int32)), .val (.int (0 : Int32)), .val (.int (6 : Int32))] [] := by first | (simp [entryFrame, mkF, argsToLocals, Value.category]; done) | rfl
def QIxL (Z : State) (t : Addr) (kt : ClassId) (b0 b1 b2 b3 b4 b5 : Int32) (h0 : Heap) (n0 : Nat) (v : Option Value) (h : Heap) (L : List Loc) : Prop := v = some (.int (ix6 b0 b1 b2 b3 b4 b5)) ∧ Fr n0 L ∧ h = h0
set_option maxRecDepth 65536 in
set_option maxHeartbeats 40000000 in
theorem rmIxL (l : Launch) (Z : State) (a0 : Array Value) (hw : ∀ d ∈ tables_1, d.before a0 Z = true) (ws : List Jvm.Cond) (t : Addr) (kt : ClassId) (b0 b1 b2 b3 b4 b5 : Int32) (h0 : Heap) (n0 : Nat) (Z0 : n0 ≤ h0.size) (O0 : Old Z n0 h0) (Vt : Arv Z h0 t kt .byte (6 : Int32) [(.int b0), (.int b1), (.int b2), (.int b3), (.int b4), (.int b5)] (.int (0 : Int32))) :
    OwnLaw l (⟨"java/lang/StringLatin1", "indexOf", "([BIII)I"⟩ : MethodName) jdk_43_method_22_code 4 (some .int) ws (rR 1 0 0 17) #[(.ref t), (.int (58 : Int32)), (.int (0 : Int32)), (.int (6 : Int32))] Z h0 (QIxL Z t kt b0 b1 b2 b3 b4 b5 h0 n0) := by
  refine own_enter (plainFor_of_name pn_java_lang_StringLatin1) (efIxL t) ?_
  intro p e s m below meth c s₁ Bd hx hby hml hZ hown X0 e0
  have N0 := Fr.nil n0
  have K0 : Keep h0 h0 [] := Keep.refl _ _
  refine P1.iloadN X0.here hx (hb hby d14_0) rfl ?_
  refine P1.callS X0 hx hZ hown (own_w hw 67 rfl) (own_w hw 68 rfl) (own_w hw 65 rfl) (own_w hw 69 rfl) (by decide) (rmCanE l Z a0 hw []  h0 n0 Z0 O0 ) hml [(.int (58 : Int32))] [] (lenOf pd_669 rfl) rfl rfl (hb hby d14_1) rfl e0 (ok rfl) (ok rfl) (ok rfl) (ok rfl) ?_
  intro v35 T35 L35 q35 X35
  obtain ⟨rfl, N35q, hE35⟩ := q35
  have N35 := Fr.app N0 N35q
  show Goes p e below _ T35 (mkF m 4 #[.val (.ref t), .val (.int (58 : Int32)), .val (.int (0 : Int32)), .val (.int (6 : Int32))] [(.int (1 : Int32))])
  refine P1.ifYes X35.here hx 9 (hb hby d14_4) ((if0 _ _).trans (feq (by decide : ¬ ((1 : Int32) = (0 : Int32)))).2) (by decide) (by decide) ?_
  refine P1.iloadN X35.here hx (hb hby d14_9) rfl ?_
  refine P1.iconst X35.here hx (0 : Int32) (hb hby d14_10) rfl ?_
  refine P1.callS X35 hx hZ hown (own_w hw 70 rfl) (own_w hw 71 rfl) (own_w hw 72 rfl) (own_w hw 73 rfl) (by decide) (rmMax0 l Z a0 hw []  h0 n0 Z0 O0 ) hml [(.int (0 : Int32)), (.int (0 : Int32))] [] (lenOf pd_934 rfl) rfl rfl (hb hby d14_11) rfl hE35 (ok rfl) (ok rfl) (ok rfl) (ok rfl) ?_
  intro v36 T36 L36 q36 X36
  obtain ⟨rfl, N36q, hE36⟩ := q36
  have N36 := Fr.app N35 N36q
  show Goes p e below _ T36 (mkF m 14 #[.val (.ref t), .val (.int (58 : Int32)), .val (.int (0 : Int32)), .val (.int (6 : Int32))] [(.int (0 : Int32))])
  refine P1.istoreN X36.here hx #[.val (.ref t), .val (.int (58 : Int32)), .val (.int (0 : Int32)), .val (.int (6 : Int32))] (hb hby d14_14) rfl ?_
  refine P1.iloadN X36.here hx (hb hby d14_15) rfl ?_
  refine P1.aloadN X36.here hx (hb hby d14_16) rfl rfl ?_
  obtain ⟨cl37, Ar37, qk37, sl37, nz37, ha37, fi37⟩ := id Vt
  have al38 : cl37.slots.size.toInt32 = (6 : Int32) := len_of sl37 nz37
  refine Goes.step (T' := T36) (g' := (mkF m 18 #[.val (.ref t), .val (.int (58 : Int32)), .val (.int (0 : Int32)), .val (.int (6 : Int32))] [(.int (6 : Int32)), (.int (6 : Int32))])) (fun t_ k_ => X36.arraylength hx (by rw [hE36]; exact Ar37.1) (State.isArrayOf_alike hZ.alike Ar37.2.1) (g := (mkF m 17 #[.val (.ref t), .val (.int (58 : Int32)), .val (.int (0 : Int32)), .val (.int (6 : Int32))] [(.ref t), (.int (6 : Int32))])) rfl rfl (hb hby d14_17) _ <| by rw [al38]; exact k_) ?_
  refine P1.callS X36 hx hZ hown (own_w hw 74 rfl) (own_w hw 75 rfl) (own_w hw 72 rfl) (own_w hw 76 rfl) (by decide) (rmMin6 l Z a0 hw []  h0 n0 Z0 O0 ) hml [(.int (6 : Int32)), (.int (6 : Int32))] [] (lenOf pd_934 rfl) rfl rfl (hb hby d14_18) rfl hE36 (ok rfl) (ok rfl) (ok rfl) (ok rfl) ?_
  intro v39 T39 L39 q39 X39
  obtain ⟨rfl, N39q, hE39⟩ := q39
  have N39 := Fr.app N36 N39q
  show Goes p e below _ T39 (mkF m 21 #[.val (.ref t), .val (.int (58 : Int32)), .val (.int (0 : Int32)), .val (.int (6 : Int32))] [(.int (6 : Int32))])
  refine P1.istoreN X39.here hx #[.val (.ref t), .val (.int (58 : Int32)), .val (.int (0 : Int32)), .val (.int (6 : Int32))] (hb hby d14_21) rfl ?_
  refine P1.iloadN X39.here hx (hb hby d14_22) rfl ?_
  refine P1.iloadN X39.here hx (hb hby d14_23) rfl ?_
  refine P1.icmpYes X39.here hx 29 (hb hby d14_24) (tlt (by decide : (0 : Int32) < (6 : Int32))).1 (by decide) (by decide) ?_
  refine P1.aloadN X39.here hx (hb hby d14_29) rfl rfl ?_
  refine P1.iloadN X39.here hx (hb hby d14_30) rfl ?_
  refine P1.iloadN X39.here hx (hb hby d14_31) rfl ?_
  refine P1.iloadN X39.here hx (hb hby d14_32) rfl ?_
  refine P1.callS X39 hx hZ hown (own_w hw 77 rfl) (own_w hw 78 rfl) (own_w hw 65 rfl) (own_w hw 79 rfl) (by decide) (rmIxC l Z a0 hw [] t kt b0 b1 b2 b3 b4 b5 h0 n0 Z0 O0 Vt) hml [(.ref t), (.int (58 : Int32)), (.int (0 : Int32)), (.int (6 : Int32))] [] (lenOf pd_2386 rfl) rfl rfl (hb hby d14_33) rfl hE39 (ok rfl) (ok rfl) (ok rfl) (ok rfl) ?_
  intro v40 T40 L40 q40 X40
  obtain ⟨rfl, N40q, hE40⟩ := q40
  have N40 := Fr.app N39 N40q
  show Goes p e below _ T40 (mkF m 36 #[.val (.ref t), .val (.int (58 : Int32)), .val (.int (0 : Int32)), .val (.int (6 : Int32))] [(.int (ix6 b0 b1 b2 b3 b4 b5))])
  refine Goes.retI X40 hx Bd.notSynchronized Bd.returns (hb hby d14_36) (ok rfl) (ok rfl) ?_
  rw [hE40]
  exact ⟨rfl, N40, rfl⟩
theorem d10_0 : decode jdk_42_method_80_code 0 = .ok (.aload_n 0, 1) := by decide +kernel
theorem d10_1 : decode jdk_42_method_80_code 1 = .ok (.invokevirtual 492, 3) := by decide +kernel
theorem d10_4 : decode jdk_42_method_80_code 4 = .ok (.ifCond .eq 19, 3) := by decide +kernel
theorem d10_7 : decode jdk_42_method_80_code 7 = .ok (.aload_n 0, 1) := by decide +kernel
theorem d10_8 : decode jdk_42_method_80_code 8 = .ok (.getfield 9, 3) := by decide +kernel
theorem d10_11 : decode jdk_42_method_80_code 11 = .ok (.iload_n 1, 1) := by decide +kernel
theorem d10_12 : decode jdk_42_method_80_code 12 = .ok (.iload_n 2, 1) := by decide +kernel
theorem d10_13 : decode jdk_42_method_80_code 13 = .ok (.aload_n 0, 1) := by decide +kernel
theorem d10_14 : decode jdk_42_method_80_code 14 = .ok (.invokevirtual 505, 3) := by decide +kernel
theorem d10_17 : decode jdk_42_method_80_code 17 = .ok (.invokestatic 637, 3) := by decide +kernel
theorem d10_20 : decode jdk_42_method_80_code 20 = .ok (.goto 16, 3) := by decide +kernel
theorem d10_36 : decode jdk_42_method_80_code 36 = .ok (.ireturn, 1) := by decide +kernel
theorem pd_392 : parseMethodDescriptor "()Z" = some ⟨[], some .boolean⟩ := by decide +kernel
theorem d12_0 : decode jdk_42_method_54_code 0 = .ok (.aload_n 0, 1) := by decide +kernel
theorem d12_1 : decode jdk_42_method_54_code 1 = .ok (.getfield 9, 3) := by decide +kernel
theorem d12_4 : decode jdk_42_method_54_code 4 = .ok (.arraylength, 1) := by decide +kernel
theorem d12_5 : decode jdk_42_method_54_code 5 = .ok (.aload_n 0, 1) := by decide +kernel
theorem d12_6 : decode jdk_42_method_54_code 6 = .ok (.invokevirtual 335, 3) := by decide +kernel
theorem d12_9 : decode jdk_42_method_54_code 9 = .ok (.ishr, 1) := by decide +kernel
theorem d12_10 : decode jdk_42_method_54_code 10 = .ok (.ireturn, 1) := by decide +kernel
theorem pd_320 : parseMethodDescriptor "()B" = some ⟨[], some .byte⟩ := by decide +kernel
theorem efLen6 (a : Addr) (m : MethodId) : entryFrame m #[(.ref a)] 1 = mkF m 0 #[.val (.ref a)] [] := by first | (simp [entryFrame, mkF, argsToLocals, Value.category]; done) | rfl
def QLen6 (Z : State) (a t : Addr) (kt : ClassId) (vs : List Value) (zc : Int32) (fm : Value) (h0 : Heap) (n0 : Nat) (v : Option Value) (h : Heap) (L : List Loc) : Prop := v = some (.int (6 : Int32)) ∧ Fr n0 L ∧ h = h0
set_option maxRecDepth 65536 in
set_option maxHeartbeats 40000000 in
theorem rmLen6 (l : Launch) (Z : State) (a0 : Array Value) (hw : ∀ d ∈ tables_1, d.before a0 Z = true) (ws : List Jvm.Cond) (a t : Addr) (kt : ClassId) (vs : List Value) (zc : Int32) (fm : Value) (h0 : Heap) (n0 : Nat) (Z0 : n0 ≤ h0.size) (O0 : Old Z n0 h0) (S_CS : Sta Z Z.heap "java/lang/String" "COMPACT_STRINGS" "Z" (.int zc)) (hzc : ¬ zc = 0) (S_FM : Sta Z Z.heap "jdk/internal/util/Preconditions" "SIOOBE_FORMATTER" "Ljava/util/function/BiFunction;" fm) (hfm : fm.isRef = true) (Ea : Exa Z h0 a "java/lang/String") (Fa : Fld Z h0 a "java/lang/String" "value" "[B" (.ref t)) (Fc : Fld Z h0 a "java/lang/String" "coder" "B" (.int (0 : Int32))) (Vt : Arv Z h0 t kt .byte (6 : Int32) vs (.int (0 : Int32))) :
    OwnLaw l y10_ jdk_42_method_54_code 1 (some .int) ws (rR 1 0 0 13) #[(.ref a)] Z h0 (QLen6 Z a t kt vs zc fm h0 n0) := by
  refine own_enter (plainFor_of_name pn_java_lang_String) (efLen6 a) ?_
  intro p e s m below meth c s₁ Bd hx hby hml hZ hown X0 e0
  have N0 := Fr.nil n0
  have K0 : Keep h0 h0 [] := Keep.refl _ _
  refine P1.aloadN X0.here hx (hb hby d12_0) rfl rfl ?_
  obtain ⟨T43, X43, e43, st43⟩ := getF X0 hx hZ hown (host := "") (Or.inl (own_w hw 32 rfl)) Via.refl e0 Fa (g := (mkF m 1 #[.val (.ref a)] [(.ref a)])) rfl rfl (hb hby d12_1)
  refine Goes.step (T' := T43) (g' := (mkF m 4 #[.val (.ref a)] [(.ref t)])) st43 ?_
  obtain ⟨cl44, Ar44, qk44, sl44, nz44, ha44, fi44⟩ := id Vt
  have al45 : cl44.slots.size.toInt32 = (6 : Int32) := len_of sl44 nz44
  refine Goes.step (T' := T43) (g' := (mkF m 5 #[.val (.ref a)] [(.int (6 : Int32))])) (fun t_ k_ => X43.arraylength hx (by rw [e43]; exact Ar44.1) (State.isArrayOf_alike hZ.alike Ar44.2.1) (g := (mkF m 4 #[.val (.ref a)] [(.ref t)])) rfl rfl (hb hby d12_4) _ <| by rw [al45]; exact k_) ?_
  refine P1.aloadN X43.here hx (hb hby d12_5) rfl rfl ?_
  refine Goes.callV X43 hx hZ (y := y6_) (z := y6_) hown (mvT hZ (own_w hw 58 rfl)) (mvT hZ (own_w hw 59 rfl)) (notFace_of_selects (args := #[]) (mvT hZ (own_w hw 61 rfl))) (mvT hZ (own_w hw 61 rfl)) (mvT hZ (own_w hw 60 rfl)) (by decide) (kc' := 0) (ks' := 0) (backOf (W := 1) (rmCod l Z a0 hw [] a zc fm h0 n0 Z0 O0 S_CS hzc S_FM hfm Fc) hZ (own_w hw 62 rfl) (own_w hw 7 rfl) (ok rfl) (ok rfl)) (b := a) e43 Ea (g := (mkF m 6 #[.val (.ref a)] [(.ref a), (.int (6 : Int32))])) rfl (by rw [hml]; rfl) (argsL := []) (rest := [(.int (6 : Int32))]) (lenOf pd_320 rfl) rfl (by show 2 * 0 + _ ≤ _; exact Nat.le_of_eq rfl) (hb hby d12_6) rfl (ok rfl) (ok rfl) ?_
  intro v46 T46 L46 q46 X46
  obtain ⟨rfl, N46q, hE46⟩ := q46
  have N46 := Fr.app N0 N46q
  show Goes p e below _ T46 (mkF m 9 #[.val (.ref a)] [(.int (0 : Int32)), (.int (6 : Int32))])
  refine P1.ishr X46.here hx (hb hby d12_9) ?_
  have rw47 : ((6 : Int32) >>> ((0 : Int32) &&& 31)) = (6 : Int32) := by decide
  rw [rw47]
  refine Goes.retI X46 hx Bd.notSynchronized Bd.returns (hb hby d12_10) (ok rfl) (ok rfl) ?_
  rw [hE46]
  exact ⟨rfl, N46, rfl⟩
theorem pd_341 : parseMethodDescriptor "()I" = some ⟨[], some .int⟩ := by decide +kernel
theorem efIx2 (x : Addr) (m : MethodId) : entryFrame m #[(.ref x), (.int (58 : Int32)), (.int (0 : Int32))] 3 = mkF m 0 #[.val (.ref x), .val (.int (58 : Int32)), .val (.int (0 : Int32))] [] := by first | (simp [entryFrame, mkF, argsToLocals, Value.category]; done) | rfl
def QIx2 (Z : State) (x t : Addr) (kt : ClassId) (b0 b1 b2 b3 b4 b5 zc : Int32) (fm : Value) (h0 : Heap) (n0 : Nat) (v : Option Value) (h : Heap) (L : List Loc) : Prop := v = some (.int (ix6 b0 b1 b2 b3 b4 b5)) ∧ Fr n0 L ∧ h = h0
set_option maxRecDepth 65536 in
set_option maxHeartbeats 40000000 in
theorem rmIx2 (l : Launch) (Z : State) (a0 : Array Value) (hw : ∀ d ∈ tables_1, d.before a0 Z = true) (ws : List Jvm.Cond) (x t : Addr) (kt : ClassId) (b0 b1 b2 b3 b4 b5 zc : Int32) (fm : Value) (h0 : Heap) (n0 : Nat) (Z0 : n0 ≤ h0.size) (O0 : Old Z n0 h0) (S_CS : Sta Z Z.heap "java/lang/String" "COMPACT_STRINGS" "Z" (.int zc)) (hzc : ¬ zc = 0) (S_FM : Sta Z Z.heap "jdk/internal/util/Preconditions" "SIOOBE_FORMATTER" "Ljava/util/function/BiFunction;" fm) (hfm : fm.isRef = true) (Ex : Exa Z h0 x "java/lang/String") (Fv : Fld Z h0 x "java/lang/String" "value" "[B" (.ref t)) (Fc : Fld Z h0 x "java/lang/String" "coder" "B" (.int (0 : Int32))) (Vt : Arv Z h0 t kt .byte (6 : Int32) [(.int b0), (.int b1), (.int b2), (.int b3), (.int b4), (.int b5)] (.int (0 : Int32))) :
    OwnLaw l y8_ jdk_42_method_80_code 3 (some .int) ws (rR 2 0 0 32) #[(.ref x), (.int (58 : Int32)), (.int (0 : Int32))] Z h0 (QIx2 Z x t kt b0 b1 b2 b3 b4 b5 zc fm h0 n0) := by
  refine own_enter (plainFor_of_name pn_java_lang_String) (efIx2 x) ?_
  intro p e s m below meth c s₁ Bd hx hby hml hZ hown X0 e0
  have N0 := Fr.nil n0
  have K0 : Keep h0 h0 [] := Keep.refl _ _
  refine P1.aloadN X0.here hx (hb hby d10_0) rfl rfl ?_
  refine Goes.callV X0 hx hZ (y := y9_) (z := y9_) hown (mvT hZ (own_w hw 48 rfl)) (mvT hZ (own_w hw 49 rfl)) (notFace_of_selects (args := #[]) (mvT hZ (own_w hw 51 rfl))) (mvT hZ (own_w hw 51 rfl)) (mvT hZ (own_w hw 50 rfl)) (by decide) (kc' := 0) (ks' := 0) (backOf (W := 0) (rmIsL l Z a0 hw [] x zc fm h0 n0 Z0 O0 S_CS hzc S_FM hfm Fc) hZ (own_w hw 52 rfl) (own_w hw 7 rfl) (ok rfl) (ok rfl)) (b := x) e0 Ex (g := (mkF m 1 #[.val (.ref x), .val (.int (58 : Int32)), .val (.int (0 : Int32))] [(.ref x)])) rfl (by rw [hml]; rfl) (argsL := []) (rest := []) (lenOf pd_392 rfl) rfl (by show 2 * 0 + _ ≤ _; exact Nat.le_of_eq rfl) (hb hby d10_1) rfl (ok rfl) (ok rfl) ?_
  intro v41 T41 L41 q41 X41
  obtain ⟨rfl, N41q, hE41⟩ := q41
  have N41 := Fr.app N0 N41q
  show Goes p e below _ T41 (mkF m 4 #[.val (.ref x), .val (.int (58 : Int32)), .val (.int (0 : Int32))] [(.int (1 : Int32))])
  refine P1.ifNo X41.here hx (hb hby d10_4) ((if0 _ _).trans (feq (by decide : ¬ ((1 : Int32) = (0 : Int32)))).1) ?_
  refine P1.aloadN X41.here hx (hb hby d10_7) rfl rfl ?_
  obtain ⟨T42, X42, e42, st42⟩ := getF X41 hx hZ hown (host := "") (Or.inl (own_w hw 32 rfl)) Via.refl hE41 Fv (g := (mkF m 8 #[.val (.ref x), .val (.int (58 : Int32)), .val (.int (0 : Int32))] [(.ref x)])) rfl rfl (hb hby d10_8)
  refine Goes.step (T' := T42) (g' := (mkF m 11 #[.val (.ref x), .val (.int (58 : Int32)), .val (.int (0 : Int32))] [(.ref t)])) st42 ?_
  refine P1.iloadN X42.here hx (hb hby d10_11) rfl ?_
  refine P1.iloadN X42.here hx (hb hby d10_12) rfl ?_
  refine P1.aloadN X42.here hx (hb hby d10_13) rfl rfl ?_
  refine Goes.callV X42 hx hZ (y := y10_) (z := y10_) hown (mvT hZ (own_w hw 53 rfl)) (mvT hZ (own_w hw 54 rfl)) (notFace_of_selects (args := #[]) (mvT hZ (own_w hw 56 rfl))) (mvT hZ (own_w hw 56 rfl)) (mvT hZ (own_w hw 55 rfl)) (by decide) (kc' := 0) (ks' := 0) (backOf (W := 3) (rmLen6 l Z a0 hw [] x t kt [(.int b0), (.int b1), (.int b2), (.int b3), (.int b4), (.int b5)] zc fm h0 n0 Z0 O0 S_CS hzc S_FM hfm Ex Fv Fc Vt) hZ (own_w hw 57 rfl) (own_w hw 7 rfl) (ok rfl) (ok rfl)) (b := x) e42 Ex (g := (mkF m 14 #[.val (.ref x), .val (.int (58 : Int32)), .val (.int (0 : Int32))] [(.ref x), (.int (0 : Int32)), (.int (58 : Int32)), (.ref t)])) rfl (by rw [hml]; rfl) (argsL := []) (rest := [(.int (0 : Int32)), (.int (58 : Int32)), (.ref t)]) (lenOf pd_341 rfl) rfl (by show 2 * 0 + _ ≤ _; exact Nat.le_of_eq rfl) (hb hby d10_14) rfl (ok rfl) (ok rfl) ?_
  intro v48 T48 L48 q48 X48
  obtain ⟨rfl, N48q, hE48⟩ := q48
  have N48 := Fr.app N41 N48q
  show Goes p e below _ T48 (mkF m 17 #[.val (.ref x), .val (.int (58 : Int32)), .val (.int (0 : Int32))] [(.int (6 : Int32)), (.int (0 : Int32)), (.int (58 : Int32)), (.ref t)])
  refine P1.callS X48 hx hZ hown (own_w hw 63 rfl) (own_w hw 64 rfl) (own_w hw 65 rfl) (own_w hw 66 rfl) (by decide) (rmIxL l Z a0 hw [] t kt b0 b1 b2 b3 b4 b5 h0 n0 Z0 O0 Vt) hml [(.ref t), (.int (58 : Int32)), (.int (0 : Int32)), (.int (6 : Int32))] [] (lenOf pd_2386 rfl) rfl rfl (hb hby d10_17) rfl hE48 (ok rfl) (ok rfl) (ok rfl) (ok rfl) ?_
  intro v49 T49 L49 q49 X49
  obtain ⟨rfl, N49q, hE49⟩ := q49
  have N49 := Fr.app N48 N49q
  show Goes p e below _ T49 (mkF m 20 #[.val (.ref x), .val (.int (58 : Int32)), .val (.int (0 : Int32))] [(.int (ix6 b0 b1 b2 b3 b4 b5))])
  refine P1.goto X49.here hx 36 (hb hby d10_20) (by decide) (by decide) ?_
  refine Goes.retI X49 hx Bd.notSynchronized Bd.returns (hb hby d10_36) (ok rfl) (ok rfl) ?_
  rw [hE49]
  exact ⟨rfl, N49, rfl⟩
theorem d9_0 : decode jdk_42_method_79_code 0 = .ok (.aload_n 0, 1) := by decide +kernel
theorem d9_1 : decode jdk_42_method_79_code 1 = .ok (.iload_n 1, 1) := by decide +kernel
theorem d9_2 : decode jdk_42_method_79_code 2 = .ok (.iconst 0, 1) := by decide +kernel
theorem d9_3 : decode jdk_42_method_79_code 3 = .ok (.invokevirtual 633, 3) := by decide +kernel
theorem d9_6 : decode jdk_42_method_79_code 6 = .ok (.ireturn, 1) := by decide +kernel
theorem efIx1 (x : Addr) (m : MethodId) : entryFrame m #[(.ref x), (.int (58 : Int32))] 2 = mkF m 0 #[.val (.ref x), .val (.int (58 : Int32))] [] := by first | (simp [entryFrame, mkF, argsToLocals, Value.category]; done) | rfl
def QIx1 (Z : State) (x t : Addr) (kt : ClassId) (b0 b1 b2 b3 b4 b5 zc : Int32) (fm : Value) (h0 : Heap) (n0 : Nat) (v : Option Value) (h : Heap) (L : List Loc) : Prop := v = some (.int (ix6 b0 b1 b2 b3 b4 b5)) ∧ Fr n0 L ∧ h = h0
set_option maxRecDepth 65536 in
set_option maxHeartbeats 40000000 in
theorem rmIx1 (l : Launch) (Z : State) (a0 : Array Value) (hw : ∀ d ∈ tables_1, d.before a0 Z = true) (ws : List Jvm.Cond) (x t : Addr) (kt : ClassId) (b0 b1 b2 b3 b4 b5 zc : Int32) (fm : Value) (h0 : Heap) (n0 : Nat) (Z0 : n0 ≤ h0.size) (O0 : Old Z n0 h0) (S_CS : Sta Z Z.heap "java/lang/String" "COMPACT_STRINGS" "Z" (.int zc)) (hzc : ¬ zc = 0) (S_FM : Sta Z Z.heap "jdk/internal/util/Preconditions" "SIOOBE_FORMATTER" "Ljava/util/function/BiFunction;" fm) (hfm : fm.isRef = true) (Ex : Exa Z h0 x "java/lang/String") (Fv : Fld Z h0 x "java/lang/String" "value" "[B" (.ref t)) (Fc : Fld Z h0 x "java/lang/String" "coder" "B" (.int (0 : Int32))) (Vt : Arv Z h0 t kt .byte (6 : Int32) [(.int b0), (.int b1), (.int b2), (.int b3), (.int b4), (.int b5)] (.int (0 : Int32))) :
    OwnLaw l y7_ jdk_42_method_79_code 2 (some .int) ws (rR 3 0 0 46) #[(.ref x), (.int (58 : Int32))] Z h0 (QIx1 Z x t kt b0 b1 b2 b3 b4 b5 zc fm h0 n0) := by
  refine own_enter (plainFor_of_name pn_java_lang_String) (efIx1 x) ?_
  intro p e s m below meth c s₁ Bd hx hby hml hZ hown X0 e0
  have N0 := Fr.nil n0
  have K0 : Keep h0 h0 [] := Keep.refl _ _
  refine P1.aloadN X0.here hx (hb hby d9_0) rfl rfl ?_
  refine P1.iloadN X0.here hx (hb hby d9_1) rfl ?_
  refine P1.iconst X0.here hx (0 : Int32) (hb hby d9_2) rfl ?_
  refine Goes.callV X0 hx hZ (y := y8_) (z := y8_) hown (mvT hZ (own_w hw 43 rfl)) (mvT hZ (own_w hw 44 rfl)) (notFace_of_selects (args := #[]) (mvT hZ (own_w hw 46 rfl))) (mvT hZ (own_w hw 46 rfl)) (mvT hZ (own_w hw 45 rfl)) (by decide) (kc' := 0) (ks' := 0) (backOf (W := 0) (rmIx2 l Z a0 hw [] x t kt b0 b1 b2 b3 b4 b5 zc fm h0 n0 Z0 O0 S_CS hzc S_FM hfm Ex Fv Fc Vt) hZ (own_w hw 47 rfl) (own_w hw 7 rfl) (ok rfl) (ok rfl)) (b := x) e0 Ex (g := (mkF m 3 #[.val (.ref x), .val (.int (58 : Int32))] [(.int (0 : Int32)), (.int (58 : Int32)), (.ref x)])) rfl (by rw [hml]; rfl) (argsL := [(.int (58 : Int32)), (.int (0 : Int32))]) (rest := []) (lenOf pd_934 rfl) rfl (by show 2 * 0 + _ ≤ _; exact Nat.le_of_eq rfl) (hb hby d9_3) rfl (ok rfl) (ok rfl) ?_
  intro v50 T50 L50 q50 X50
  obtain ⟨rfl, N50q, hE50⟩ := q50
  have N50 := Fr.app N0 N50q
  show Goes p e below _ T50 (mkF m 6 #[.val (.ref x), .val (.int (58 : Int32))] [(.int (ix6 b0 b1 b2 b3 b4 b5))])
  refine Goes.retI X50 hx Bd.notSynchronized Bd.returns (hb hby d9_6) (ok rfl) (ok rfl) ?_
  rw [hE50]
  exact ⟨rfl, N50, rfl⟩
theorem d20_0 : decode jdk_48_method_14_code 0 = .ok (.iconst 0, 1) := by decide +kernel
theorem d20_1 : decode jdk_48_method_14_code 1 = .ok (.istore 5, 2) := by decide +kernel
theorem d20_3 : decode jdk_48_method_14_code 3 = .ok (.iload 4, 2) := by decide +kernel
theorem d20_5 : decode jdk_48_method_14_code 5 = .ok (.bipush 7, 2) := by decide +kernel
theorem d20_7 : decode jdk_48_method_14_code 7 = .ok (.if_icmp .le 63, 3) := by decide +kernel
theorem d20_70 : decode jdk_48_method_14_code 70 = .ok (.iload 5, 2) := by decide +kernel
theorem d20_72 : decode jdk_48_method_14_code 72 = .ok (.iload 4, 2) := by decide +kernel
theorem d20_74 : decode jdk_48_method_14_code 74 = .ok (.if_icmp .ge 27, 3) := by decide +kernel
theorem d20_77 : decode jdk_48_method_14_code 77 = .ok (.aload_n 0, 1) := by decide +kernel
theorem d20_78 : decode jdk_48_method_14_code 78 = .ok (.iload_n 1, 1) := by decide +kernel
theorem d20_79 : decode jdk_48_method_14_code 79 = .ok (.iload 5, 2) := by decide +kernel
theorem d20_81 : decode jdk_48_method_14_code 81 = .ok (.iadd, 1) := by decide +kernel
theorem d20_82 : decode jdk_48_method_14_code 82 = .ok (.baload, 1) := by decide +kernel
theorem d20_83 : decode jdk_48_method_14_code 83 = .ok (.aload_n 2, 1) := by decide +kernel
theorem d20_84 : decode jdk_48_method_14_code 84 = .ok (.iload_n 3, 1) := by decide +kernel
theorem d20_85 : decode jdk_48_method_14_code 85 = .ok (.iload 5, 2) := by decide +kernel
theorem d20_87 : decode jdk_48_method_14_code 87 = .ok (.iadd, 1) := by decide +kernel
theorem d20_88 : decode jdk_48_method_14_code 88 = .ok (.baload, 1) := by decide +kernel
theorem d20_89 : decode jdk_48_method_14_code 89 = .ok (.if_icmp .eq 6, 3) := by decide +kernel
theorem d20_92 : decode jdk_48_method_14_code 92 = .ok (.iload 5, 2) := by decide +kernel
theorem d20_94 : decode jdk_48_method_14_code 94 = .ok (.ireturn, 1) := by decide +kernel
theorem d20_95 : decode jdk_48_method_14_code 95 = .ok (.iinc 5 1, 3) := by decide +kernel
theorem d20_98 : decode jdk_48_method_14_code 98 = .ok (.goto (-28), 3) := by decide +kernel
theorem d20_101 : decode jdk_48_method_14_code 101 = .ok (.iconst (-1), 1) := by decide +kernel
theorem d20_102 : decode jdk_48_method_14_code 102 = .ok (.ireturn, 1) := by decide +kernel
theorem pn_jdk_internal_util_ArraysSupport : plainName "jdk/internal/util/ArraysSupport" = true := by first | (simp [plainName, overriddenIn]; done) | decide +kernel
theorem efMm1 (t u : Addr) (m : MethodId) : entryFrame m #[(.ref t), (.int (1 : Int32)), (.ref u), (.int (0 : Int32)), (.int (2 : Int32))] 8 = mkF m 0 #[.val (.ref t), .val (.int (1 : Int32)), .val (.ref u), .val (.int (0 : Int32)), .val (.int (2 : Int32)), .unset, .unset, .unset] [] := by first | (simp [entryFrame, mkF, argsToLocals, Value.category]; done) | rfl
def QMm1 (Z : State) (t : Addr) (kt : ClassId) (u : Addr) (ku : ClassId) (b0 b1 b2 b3 b4 b5 : Int32) (h0 : Heap) (n0 : Nat) (v : Option Value) (h : Heap) (L : List Loc) : Prop := ∃ r, v = some (.int r) ∧ ((r < 0 ∧ b1 = (47 : Int32) ∧ b2 = (47 : Int32)) ∨ (¬ r < 0 ∧ ¬ (b1 = (47 : Int32) ∧ b2 = (47 : Int32)))) ∧ Fr n0 L ∧ h = h0
set_option maxRecDepth 65536 in
set_option maxHeartbeats 40000000 in
theorem rmMm1 (l : Launch) (Z : State) (a0 : Array Value) (hw : ∀ d ∈ tables_1, d.before a0 Z = true) (ws : List Jvm.Cond) (t : Addr) (kt : ClassId) (u : Addr) (ku : ClassId) (b0 b1 b2 b3 b4 b5 : Int32) (h0 : Heap) (n0 : Nat) (Z0 : n0 ≤ h0.size) (O0 : Old Z n0 h0) (Vt : Arv Z h0 t kt .byte (6 : Int32) [(.int b0), (.int b1), (.int b2), (.int b3), (.int b4), (.int b5)] (.int (0 : Int32))) (Ku : Arv Z h0 u ku .byte (2 : Int32) [(.int (47 : Int32)), (.int (47 : Int32))] (.int (0 : Int32))) :
    OwnLaw l y15_ jdk_48_method_14_code 8 (some .int) ws (rR 0 0 0 0) #[(.ref t), (.int (1 : Int32)), (.ref u), (.int (0 : Int32)), (.int (2 : Int32))] Z h0 (QMm1 Z t kt u ku b0 b1 b2 b3 b4 b5 h0 n0) := by
  refine own_enter (plainFor_of_name pn_jdk_internal_util_ArraysSupport) (efMm1 t u) ?_
  intro p e s m below meth c s₁ Bd hx hby hml hZ hown X0 e0
  have N0 := Fr.nil n0
  have K0 : Keep h0 h0 [] := Keep.refl _ _
  refine P1.iconst X0.here hx (0 : Int32) (hb hby d20_0) rfl ?_
  refine P1.istore X0.here hx #[.val (.ref t), .val (.int (1 : Int32)), .val (.ref u), .val (.int (0 : Int32)), .val (.int (2 : Int32)), .val (.int (0 : Int32)), .unset, .unset] (hb hby d20_1) rfl ?_
  refine P1.iload X0.here hx (hb hby d20_3) rfl ?_
  refine P1.bipush X0.here hx (7 : Int32) (hb hby d20_5) rfl ?_
  refine P1.icmpYes X0.here hx 70 (hb hby d20_7) (flt (by decide : ¬ ((7 : Int32) < (2 : Int32)))).2.2.2 (by decide) (by decide) ?_
  refine P1.iload X0.here hx (hb hby d20_70) rfl ?_
  refine P1.iload X0.here hx (hb hby d20_72) rfl ?_
  refine P1.icmpNo X0.here hx (hb hby d20_74) (tlt (by decide : (0 : Int32) < (2 : Int32))).2.1 ?_
  refine P1.aloadN X0.here hx (hb hby d20_77) rfl rfl ?_
  refine P1.iloadN X0.here hx (hb hby d20_78) rfl ?_
  refine P1.iload X0.here hx (hb hby d20_79) rfl ?_
  refine P1.iadd X0.here hx (hb hby d20_81) ?_
  have rw51 : ((1 : Int32) + (0 : Int32)) = (1 : Int32) := by decide
  rw [rw51]
  obtain ⟨cl52, Ar52, qk52, sl52, nz52, ha52, fi52⟩ := id Vt
  have i53 := inb_of (j := (1 : Int32)) sl52 ⟨by decide, by decide⟩
  refine Goes.step (T' := s₁) (g' := (mkF m 83 #[.val (.ref t), .val (.int (1 : Int32)), .val (.ref u), .val (.int (0 : Int32)), .val (.int (2 : Int32)), .val (.int (0 : Int32)), .unset, .unset] [(.int b1)])) (fun t_ k_ => X0.baloadBytes hx (j := (1 : Int32)) (v := (.int b1)) (by rw [e0]; exact Ar52.1) (State.isArrayOf_alike hZ.alike Ar52.2.1) Ar52.2.2 i53 (Has.at ha52 i53 rfl) (g := (mkF m 82 #[.val (.ref t), .val (.int (1 : Int32)), .val (.ref u), .val (.int (0 : Int32)), .val (.int (2 : Int32)), .val (.int (0 : Int32)), .unset, .unset] [(.int (1 : Int32)), (.ref t)])) rfl rfl (hb hby d20_82) _ k_) ?_
  refine P1.aloadN X0.here hx (hb hby d20_83) rfl rfl ?_
  refine P1.iloadN X0.here hx (hb hby d20_84) rfl ?_
  refine P1.iload X0.here hx (hb hby d20_85) rfl ?_
  refine P1.iadd X0.here hx (hb hby d20_87) ?_
  have rw54 : ((0 : Int32) + (0 : Int32)) = (0 : Int32) := by decide
  rw [rw54]
  obtain ⟨cl55, Ar55, qk55, sl55, nz55, ha55, fi55⟩ := id Ku
  have i56 := inb_of (j := (0 : Int32)) sl55 ⟨by decide, by decide⟩
  refine Goes.step (T' := s₁) (g' := (mkF m 89 #[.val (.ref t), .val (.int (1 : Int32)), .val (.ref u), .val (.int (0 : Int32)), .val (.int (2 : Int32)), .val (.int (0 : Int32)), .unset, .unset] [(.int (47 : Int32)), (.int b1)])) (fun t_ k_ => X0.baloadBytes hx (j := (0 : Int32)) (v := (.int (47 : Int32))) (by rw [e0]; exact Ar55.1) (State.isArrayOf_alike hZ.alike Ar55.2.1) Ar55.2.2 i56 (Has.at ha55 i56 rfl) (g := (mkF m 88 #[.val (.ref t), .val (.int (1 : Int32)), .val (.ref u), .val (.int (0 : Int32)), .val (.int (2 : Int32)), .val (.int (0 : Int32)), .unset, .unset] [(.int (0 : Int32)), (.ref u), (.int b1)])) rfl rfl (hb hby d20_88) _ k_) ?_
  by_cases hb0 : b1 = (47 : Int32)
  ·
    refine P1.icmpYes X0.here hx 95 (hb hby d20_89) (teq (hb0 : b1 = (47 : Int32))).1 (by decide) (by decide) ?_
    refine P1.iinc X0.here hx #[.val (.ref t), .val (.int (1 : Int32)), .val (.ref u), .val (.int (0 : Int32)), .val (.int (2 : Int32)), .val (.int ((0 : Int32) + (1 : Int32))), .unset, .unset] (hb hby d20_95) rfl rfl ?_
    have rw57 : ((0 : Int32) + (1 : Int32)) = (1 : Int32) := by decide
    rw [rw57]
    refine P1.goto X0.here hx 70 (hb hby d20_98) (by decide) (by decide) ?_
    refine P1.iload X0.here hx (hb hby d20_70) rfl ?_
    refine P1.iload X0.here hx (hb hby d20_72) rfl ?_
    refine P1.icmpNo X0.here hx (hb hby d20_74) (tlt (by decide : (1 : Int32) < (2 : Int32))).2.1 ?_
    refine P1.aloadN X0.here hx (hb hby d20_77) rfl rfl ?_
    refine P1.iloadN X0.here hx (hb hby d20_78) rfl ?_
    refine P1.iload X0.here hx (hb hby d20_79) rfl ?_
    refine P1.iadd X0.here hx (hb hby d20_81) ?_
    have rw58 : ((1 : Int32) + (1 : Int32)) = (2 : Int32) := by decide
    rw [rw58]
    obtain ⟨cl59, Ar59, qk59, sl59, nz59, ha59, fi59⟩ := id Vt
    have i60 := inb_of (j := (2 : Int32)) sl59 ⟨by decide, by decide⟩
    refine Goes.step (T' := s₁) (g' := (mkF m 83 #[.val (.ref t), .val (.int (1 : Int32)), .val (.ref u), .val (.int (0 : Int32)), .val (.int (2 : Int32)), .val (.int (1 : Int32)), .unset, .unset] [(.int b2)])) (fun t_ k_ => X0.baloadBytes hx (j := (2 : Int32)) (v := (.int b2)) (by rw [e0]; exact Ar59.1) (State.isArrayOf_alike hZ.alike Ar59.2.1) Ar59.2.2 i60 (Has.at ha59 i60 rfl) (g := (mkF m 82 #[.val (.ref t), .val (.int (1 : Int32)), .val (.ref u), .val (.int (0 : Int32)), .val (.int (2 : Int32)), .val (.int (1 : Int32)), .unset, .unset] [(.int (2 : Int32)), (.ref t)])) rfl rfl (hb hby d20_82) _ k_) ?_
    refine P1.aloadN X0.here hx (hb hby d20_83) rfl rfl ?_
    refine P1.iloadN X0.here hx (hb hby d20_84) rfl ?_
    refine P1.iload X0.here hx (hb hby d20_85) rfl ?_
    refine P1.iadd X0.here hx (hb hby d20_87) ?_
    have rw61 : ((0 : Int32) + (1 : Int32)) = (1 : Int32) := by decide
    rw [rw61]
    obtain ⟨cl62, Ar62, qk62, sl62, nz62, ha62, fi62⟩ := id Ku
    have i63 := inb_of (j := (1 : Int32)) sl62 ⟨by decide, by decide⟩
    refine Goes.step (T' := s₁) (g' := (mkF m 89 #[.val (.ref t), .val (.int (1 : Int32)), .val (.ref u), .val (.int (0 : Int32)), .val (.int (2 : Int32)), .val (.int (1 : Int32)), .unset, .unset] [(.int (47 : Int32)), (.int b2)])) (fun t_ k_ => X0.baloadBytes hx (j := (1 : Int32)) (v := (.int (47 : Int32))) (by rw [e0]; exact Ar62.1) (State.isArrayOf_alike hZ.alike Ar62.2.1) Ar62.2.2 i63 (Has.at ha62 i63 rfl) (g := (mkF m 88 #[.val (.ref t), .val (.int (1 : Int32)), .val (.ref u), .val (.int (0 : Int32)), .val (.int (2 : Int32)), .val (.int (1 : Int32)), .unset, .unset] [(.int (1 : Int32)), (.ref u), (.int b2)])) rfl rfl (hb hby d20_88) _ k_) ?_
    by_cases hb1 : b2 = (47 : Int32)
    ·
      refine P1.icmpYes X0.here hx 95 (hb hby d20_89) (teq (hb1 : b2 = (47 : Int32))).1 (by decide) (by decide) ?_
      refine P1.iinc X0.here hx #[.val (.ref t), .val (.int (1 : Int32)), .val (.ref u), .val (.int (0 : Int32)), .val (.int (2 : Int32)), .val (.int ((1 : Int32) + (1 : Int32))), .unset, .unset] (hb hby d20_95) rfl rfl ?_
      have rw64 : ((1 : Int32) + (1 : Int32)) = (2 : Int32) := by decide
      rw [rw64]
      refine P1.goto X0.here hx 70 (hb hby d20_98) (by decide) (by decide) ?_
      refine P1.iload X0.here hx (hb hby d20_70) rfl ?_
      refine P1.iload X0.here hx (hb hby d20_72) rfl ?_
      refine P1.icmpYes X0.here hx 101 (hb hby d20_74) (flt (by decide : ¬ ((2 : Int32) < (2 : Int32)))).2.1 (by decide) (by decide) ?_
      refine P1.iconst X0.here hx (-1 : Int32) (hb hby d20_101) rfl ?_
      refine Goes.retI X0 hx Bd.notSynchronized Bd.returns (hb hby d20_102) (ok rfl) (ok rfl) ?_
      rw [e0]
      exact ⟨_, rfl, Or.inl ⟨by decide, hb0, hb1⟩, N0, rfl⟩
    ·
      refine P1.icmpNo X0.here hx (hb hby d20_89) (feq (hb1 : ¬ (b2 = (47 : Int32)))).1 ?_
      refine P1.iload X0.here hx (hb hby d20_92) rfl ?_
      refine Goes.retI X0 hx Bd.notSynchronized Bd.returns (hb hby d20_94) (ok rfl) (ok rfl) ?_
      rw [e0]
      exact ⟨_, rfl, Or.inr ⟨by decide, fun q => hb1 (q.2)⟩, N0, rfl⟩
  ·
    refine P1.icmpNo X0.here hx (hb hby d20_89) (feq (hb0 : ¬ (b1 = (47 : Int32)))).1 ?_
    refine P1.iload X0.here hx (hb hby d20_92) rfl ?_
    refine Goes.retI X0 hx Bd.notSynchronized Bd.returns (hb hby d20_94) (ok rfl) (ok rfl) ?_
    rw [e0]
    exact ⟨_, rfl, Or.inr ⟨by decide, fun q => hb0 (q.1)⟩, N0, rfl⟩
theorem efMm2 (t u : Addr) (m : MethodId) : entryFrame m #[(.ref t), (.int (2 : Int32)), (.ref u), (.int (0 : Int32)), (.int (2 : Int32))] 8 = mkF m 0 #[.val (.ref t), .val (.int (2 : Int32)), .val (.ref u), .val (.int (0 : Int32)), .val (.int (2 : Int32)), .unset, .unset, .unset] [] := by first | (simp [entryFrame, mkF, argsToLocals, Value.category]; done) | rfl
def QMm2 (Z : State) (t : Addr) (kt : ClassId) (u : Addr) (ku : ClassId) (b0 b1 b2 b3 b4 b5 : Int32) (h0 : Heap) (n0 : Nat) (v : Option Value) (h : Heap) (L : List Loc) : Prop := ∃ r, v = some (.int r) ∧ ((r < 0 ∧ b2 = (47 : Int32) ∧ b3 = (47 : Int32)) ∨ (¬ r < 0 ∧ ¬ (b2 = (47 : Int32) ∧ b3 = (47 : Int32)))) ∧ Fr n0 L ∧ h = h0
set_option maxRecDepth 65536 in
set_option maxHeartbeats 40000000 in
theorem rmMm2 (l : Launch) (Z : State) (a0 : Array Value) (hw : ∀ d ∈ tables_1, d.before a0 Z = true) (ws : List Jvm.Cond) (t : Addr) (kt : ClassId) (u : Addr) (ku : ClassId) (b0 b1 b2 b3 b4 b5 : Int32) (h0 : Heap) (n0 : Nat) (Z0 : n0 ≤ h0.size) (O0 : Old Z n0 h0) (Vt : Arv Z h0 t kt .byte (6 : Int32) [(.int b0), (.int b1), (.int b2), (.int b3), (.int b4), (.int b5)] (.int (0 : Int32))) (Ku : Arv Z h0 u ku .byte (2 : Int32) [(.int (47 : Int32)), (.int (47 : Int32))] (.int (0 : Int32))) :
    OwnLaw l y15_ jdk_48_method_14_code 8 (some .int) ws (rR 0 0 0 0) #[(.ref t), (.int (2 : Int32)), (.ref u), (.int (0 : Int32)), (.int (2 : Int32))] Z h0 (QMm2 Z t kt u ku b0 b1 b2 b3 b4 b5 h0 n0) := by
  refine own_enter (plainFor_of_name pn_jdk_internal_util_ArraysSupport) (efMm2 t u) ?_
  intro p e s m below meth c s₁ Bd hx hby hml hZ hown X0 e0
  have N0 := Fr.nil n0
  have K0 : Keep h0 h0 [] := Keep.refl _ _
  refine P1.iconst X0.here hx (0 : Int32) (hb hby d20_0) rfl ?_
  refine P1.istore X0.here hx #[.val (.ref t), .val (.int (2 : Int32)), .val (.ref u), .val (.int (0 : Int32)), .val (.int (2 : Int32)), .val (.int (0 : Int32)), .unset, .unset] (hb hby d20_1) rfl ?_
  refine P1.iload X0.here hx (hb hby d20_3) rfl ?_
  refine P1.bipush X0.here hx (7 : Int32) (hb hby d20_5) rfl ?_
  refine P1.icmpYes X0.here hx 70 (hb hby d20_7) (flt (by decide : ¬ ((7 : Int32) < (2 : Int32)))).2.2.2 (by decide) (by decide) ?_
  refine P1.iload X0.here hx (hb hby d20_70) rfl ?_
  refine P1.iload X0.here hx (hb hby d20_72) rfl ?_
  refine P1.icmpNo X0.here hx (hb hby d20_74) (tlt (by decide : (0 : Int32) < (2 : Int32))).2.1 ?_
  refine P1.aloadN X0.here hx (hb hby d20_77) rfl rfl ?_
  refine P1.iloadN X0.here hx (hb hby d20_78) rfl ?_
  refine P1.iload X0.here hx (hb hby d20_79) rfl ?_
  refine P1.iadd X0.here hx (hb hby d20_81) ?_
  have rw65 : ((2 : Int32) + (0 : Int32)) = (2 : Int32) := by decide
  rw [rw65]
  obtain ⟨cl66, Ar66, qk66, sl66, nz66, ha66, fi66⟩ := id Vt
  have i67 := inb_of (j := (2 : Int32)) sl66 ⟨by decide, by decide⟩
  refine Goes.step (T' := s₁) (g' := (mkF m 83 #[.val (.ref t), .val (.int (2 : Int32)), .val (.ref u), .val (.int (0 : Int32)), .val (.int (2 : Int32)), .val (.int (0 : Int32)), .unset, .unset] [(.int b2)])) (fun t_ k_ => X0.baloadBytes hx (j := (2 : Int32)) (v := (.int b2)) (by rw [e0]; exact Ar66.1) (State.isArrayOf_alike hZ.alike Ar66.2.1) Ar66.2.2 i67 (Has.at ha66 i67 rfl) (g := (mkF m 82 #[.val (.ref t), .val (.int (2 : Int32)), .val (.ref u), .val (.int (0 : Int32)), .val (.int (2 : Int32)), .val (.int (0 : Int32)), .unset, .unset] [(.int (2 : Int32)), (.ref t)])) rfl rfl (hb hby d20_82) _ k_) ?_
  refine P1.aloadN X0.here hx (hb hby d20_83) rfl rfl ?_
  refine P1.iloadN X0.here hx (hb hby d20_84) rfl ?_
  refine P1.iload X0.here hx (hb hby d20_85) rfl ?_
  refine P1.iadd X0.here hx (hb hby d20_87) ?_
  have rw68 : ((0 : Int32) + (0 : Int32)) = (0 : Int32) := by decide
  rw [rw68]
  obtain ⟨cl69, Ar69, qk69, sl69, nz69, ha69, fi69⟩ := id Ku
  have i70 := inb_of (j := (0 : Int32)) sl69 ⟨by decide, by decide⟩
  refine Goes.step (T' := s₁) (g' := (mkF m 89 #[.val (.ref t), .val (.int (2 : Int32)), .val (.ref u), .val (.int (0 : Int32)), .val (.int (2 : Int32)), .val (.int (0 : Int32)), .unset, .unset] [(.int (47 : Int32)), (.int b2)])) (fun t_ k_ => X0.baloadBytes hx (j := (0 : Int32)) (v := (.int (47 : Int32))) (by rw [e0]; exact Ar69.1) (State.isArrayOf_alike hZ.alike Ar69.2.1) Ar69.2.2 i70 (Has.at ha69 i70 rfl) (g := (mkF m 88 #[.val (.ref t), .val (.int (2 : Int32)), .val (.ref u), .val (.int (0 : Int32)), .val (.int (2 : Int32)), .val (.int (0 : Int32)), .unset, .unset] [(.int (0 : Int32)), (.ref u), (.int b2)])) rfl rfl (hb hby d20_88) _ k_) ?_
  by_cases hb0 : b2 = (47 : Int32)
  ·
    refine P1.icmpYes X0.here hx 95 (hb hby d20_89) (teq (hb0 : b2 = (47 : Int32))).1 (by decide) (by decide) ?_
    refine P1.iinc X0.here hx #[.val (.ref t), .val (.int (2 : Int32)), .val (.ref u), .val (.int (0 : Int32)), .val (.int (2 : Int32)), .val (.int ((0 : Int32) + (1 : Int32))), .unset, .unset] (hb hby d20_95) rfl rfl ?_
    have rw71 : ((0 : Int32) + (1 : Int32)) = (1 : Int32) := by decide
    rw [rw71]
    refine P1.goto X0.here hx 70 (hb hby d20_98) (by decide) (by decide) ?_
    refine P1.iload X0.here hx (hb hby d20_70) rfl ?_
    refine P1.iload X0.here hx (hb hby d20_72) rfl ?_
    refine P1.icmpNo X0.here hx (hb hby d20_74) (tlt (by decide : (1 : Int32) < (2 : Int32))).2.1 ?_
    refine P1.aloadN X0.here hx (hb hby d20_77) rfl rfl ?_
    refine P1.iloadN X0.here hx (hb hby d20_78) rfl ?_
    refine P1.iload X0.here hx (hb hby d20_79) rfl ?_
    refine P1.iadd X0.here hx (hb hby d20_81) ?_
    have rw72 : ((2 : Int32) + (1 : Int32)) = (3 : Int32) := by decide
    rw [rw72]
    obtain ⟨cl73, Ar73, qk73, sl73, nz73, ha73, fi73⟩ := id Vt
    have i74 := inb_of (j := (3 : Int32)) sl73 ⟨by decide, by decide⟩
    refine Goes.step (T' := s₁) (g' := (mkF m 83 #[.val (.ref t), .val (.int (2 : Int32)), .val (.ref u), .val (.int (0 : Int32)), .val (.int (2 : Int32)), .val (.int (1 : Int32)), .unset, .unset] [(.int b3)])) (fun t_ k_ => X0.baloadBytes hx (j := (3 : Int32)) (v := (.int b3)) (by rw [e0]; exact Ar73.1) (State.isArrayOf_alike hZ.alike Ar73.2.1) Ar73.2.2 i74 (Has.at ha73 i74 rfl) (g := (mkF m 82 #[.val (.ref t), .val (.int (2 : Int32)), .val (.ref u), .val (.int (0 : Int32)), .val (.int (2 : Int32)), .val (.int (1 : Int32)), .unset, .unset] [(.int (3 : Int32)), (.ref t)])) rfl rfl (hb hby d20_82) _ k_) ?_
    refine P1.aloadN X0.here hx (hb hby d20_83) rfl rfl ?_
    refine P1.iloadN X0.here hx (hb hby d20_84) rfl ?_
    refine P1.iload X0.here hx (hb hby d20_85) rfl ?_
    refine P1.iadd X0.here hx (hb hby d20_87) ?_
    have rw75 : ((0 : Int32) + (1 : Int32)) = (1 : Int32) := by decide
    rw [rw75]
    obtain ⟨cl76, Ar76, qk76, sl76, nz76, ha76, fi76⟩ := id Ku
    have i77 := inb_of (j := (1 : Int32)) sl76 ⟨by decide, by decide⟩
    refine Goes.step (T' := s₁) (g' := (mkF m 89 #[.val (.ref t), .val (.int (2 : Int32)), .val (.ref u), .val (.int (0 : Int32)), .val (.int (2 : Int32)), .val (.int (1 : Int32)), .unset, .unset] [(.int (47 : Int32)), (.int b3)])) (fun t_ k_ => X0.baloadBytes hx (j := (1 : Int32)) (v := (.int (47 : Int32))) (by rw [e0]; exact Ar76.1) (State.isArrayOf_alike hZ.alike Ar76.2.1) Ar76.2.2 i77 (Has.at ha76 i77 rfl) (g := (mkF m 88 #[.val (.ref t), .val (.int (2 : Int32)), .val (.ref u), .val (.int (0 : Int32)), .val (.int (2 : Int32)), .val (.int (1 : Int32)), .unset, .unset] [(.int (1 : Int32)), (.ref u), (.int b3)])) rfl rfl (hb hby d20_88) _ k_) ?_
    by_cases hb1 : b3 = (47 : Int32)
    ·
      refine P1.icmpYes X0.here hx 95 (hb hby d20_89) (teq (hb1 : b3 = (47 : Int32))).1 (by decide) (by decide) ?_
      refine P1.iinc X0.here hx #[.val (.ref t), .val (.int (2 : Int32)), .val (.ref u), .val (.int (0 : Int32)), .val (.int (2 : Int32)), .val (.int ((1 : Int32) + (1 : Int32))), .unset, .unset] (hb hby d20_95) rfl rfl ?_
      have rw78 : ((1 : Int32) + (1 : Int32)) = (2 : Int32) := by decide
      rw [rw78]
      refine P1.goto X0.here hx 70 (hb hby d20_98) (by decide) (by decide) ?_
      refine P1.iload X0.here hx (hb hby d20_70) rfl ?_
      refine P1.iload X0.here hx (hb hby d20_72) rfl ?_
      refine P1.icmpYes X0.here hx 101 (hb hby d20_74) (flt (by decide : ¬ ((2 : Int32) < (2 : Int32)))).2.1 (by decide) (by decide) ?_
      refine P1.iconst X0.here hx (-1 : Int32) (hb hby d20_101) rfl ?_
      refine Goes.retI X0 hx Bd.notSynchronized Bd.returns (hb hby d20_102) (ok rfl) (ok rfl) ?_
      rw [e0]
      exact ⟨_, rfl, Or.inl ⟨by decide, hb0, hb1⟩, N0, rfl⟩
    ·
      refine P1.icmpNo X0.here hx (hb hby d20_89) (feq (hb1 : ¬ (b3 = (47 : Int32)))).1 ?_
      refine P1.iload X0.here hx (hb hby d20_92) rfl ?_
      refine Goes.retI X0 hx Bd.notSynchronized Bd.returns (hb hby d20_94) (ok rfl) (ok rfl) ?_
      rw [e0]
      exact ⟨_, rfl, Or.inr ⟨by decide, fun q => hb1 (q.2)⟩, N0, rfl⟩
  ·
    refine P1.icmpNo X0.here hx (hb hby d20_89) (feq (hb0 : ¬ (b2 = (47 : Int32)))).1 ?_
    refine P1.iload X0.here hx (hb hby d20_92) rfl ?_
    refine Goes.retI X0 hx Bd.notSynchronized Bd.returns (hb hby d20_94) (ok rfl) (ok rfl) ?_
    rw [e0]
    exact ⟨_, rfl, Or.inr ⟨by decide, fun q => hb0 (q.1)⟩, N0, rfl⟩
theorem efMm3 (t u : Addr) (m : MethodId) : entryFrame m #[(.ref t), (.int (3 : Int32)), (.ref u), (.int (0 : Int32)), (.int (2 : Int32))] 8 = mkF m 0 #[.val (.ref t), .val (.int (3 : Int32)), .val (.ref u), .val (.int (0 : Int32)), .val (.int (2 : Int32)), .unset, .unset, .unset] [] := by first | (simp [entryFrame, mkF, argsToLocals, Value.category]; done) | rfl
def QMm3 (Z : State) (t : Addr) (kt : ClassId) (u : Addr) (ku : ClassId) (b0 b1 b2 b3 b4 b5 : Int32) (h0 : Heap) (n0 : Nat) (v : Option Value) (h : Heap) (L : List Loc) : Prop := ∃ r, v = some (.int r) ∧ ((r < 0 ∧ b3 = (47 : Int32) ∧ b4 = (47 : Int32)) ∨ (¬ r < 0 ∧ ¬ (b3 = (47 : Int32) ∧ b4 = (47 : Int32)))) ∧ Fr n0 L ∧ h = h0
set_option maxRecDepth 65536 in
set_option maxHeartbeats 40000000 in
theorem rmMm3 (l : Launch) (Z : State) (a0 : Array Value) (hw : ∀ d ∈ tables_1, d.before a0 Z = true) (ws : List Jvm.Cond) (t : Addr) (kt : ClassId) (u : Addr) (ku : ClassId) (b0 b1 b2 b3 b4 b5 : Int32) (h0 : Heap) (n0 : Nat) (Z0 : n0 ≤ h0.size) (O0 : Old Z n0 h0) (Vt : Arv Z h0 t kt .byte (6 : Int32) [(.int b0), (.int b1), (.int b2), (.int b3), (.int b4), (.int b5)] (.int (0 : Int32))) (Ku : Arv Z h0 u ku .byte (2 : Int32) [(.int (47 : Int32)), (.int (47 : Int32))] (.int (0 : Int32))) :
    OwnLaw l y15_ jdk_48_method_14_code 8 (some .int) ws (rR 0 0 0 0) #[(.ref t), (.int (3 : Int32)), (.ref u), (.int (0 : Int32)), (.int (2 : Int32))] Z h0 (QMm3 Z t kt u ku b0 b1 b2 b3 b4 b5 h0 n0) := by
  refine own_enter (plainFor_of_name pn_jdk_internal_util_ArraysSupport) (efMm3 t u) ?_
  intro p e s m below meth c s₁ Bd hx hby hml hZ hown X0 e0
  have N0 := Fr.nil n0
  have K0 : Keep h0 h0 [] := Keep.refl _ _
  refine P1.iconst X0.here hx (0 : Int32) (hb hby d20_0) rfl ?_
  refine P1.istore X0.here hx #[.val (.ref t), .val (.int (3 : Int32)), .val (.ref u), .val (.int (0 : Int32)), .val (.int (2 : Int32)), .val (.int (0 : Int32)), .unset, .unset] (hb hby d20_1) rfl ?_
  refine P1.iload X0.here hx (hb hby d20_3) rfl ?_
  refine P1.bipush X0.here hx (7 : Int32) (hb hby d20_5) rfl ?_
  refine P1.icmpYes X0.here hx 70 (hb hby d20_7) (flt (by decide : ¬ ((7 : Int32) < (2 : Int32)))).2.2.2 (by decide) (by decide) ?_
  refine P1.iload X0.here hx (hb hby d20_70) rfl ?_
  refine P1.iload X0.here hx (hb hby d20_72) rfl ?_
  refine P1.icmpNo X0.here hx (hb hby d20_74) (tlt (by decide : (0 : Int32) < (2 : Int32))).2.1 ?_
  refine P1.aloadN X0.here hx (hb hby d20_77) rfl rfl ?_
  refine P1.iloadN X0.here hx (hb hby d20_78) rfl ?_
  refine P1.iload X0.here hx (hb hby d20_79) rfl ?_
  refine P1.iadd X0.here hx (hb hby d20_81) ?_
  have rw79 : ((3 : Int32) + (0 : Int32)) = (3 : Int32) := by decide
  rw [rw79]
  obtain ⟨cl80, Ar80, qk80, sl80, nz80, ha80, fi80⟩ := id Vt
  have i81 := inb_of (j := (3 : Int32)) sl80 ⟨by decide, by decide⟩
  refine Goes.step (T' := s₁) (g' := (mkF m 83 #[.val (.ref t), .val (.int (3 : Int32)), .val (.ref u), .val (.int (0 : Int32)), .val (.int (2 : Int32)), .val (.int (0 : Int32)), .unset, .unset] [(.int b3)])) (fun t_ k_ => X0.baloadBytes hx (j := (3 : Int32)) (v := (.int b3)) (by rw [e0]; exact Ar80.1) (State.isArrayOf_alike hZ.alike Ar80.2.1) Ar80.2.2 i81 (Has.at ha80 i81 rfl) (g := (mkF m 82 #[.val (.ref t), .val (.int (3 : Int32)), .val (.ref u), .val (.int (0 : Int32)), .val (.int (2 : Int32)), .val (.int (0 : Int32)), .unset, .unset] [(.int (3 : Int32)), (.ref t)])) rfl rfl (hb hby d20_82) _ k_) ?_
  refine P1.aloadN X0.here hx (hb hby d20_83) rfl rfl ?_
  refine P1.iloadN X0.here hx (hb hby d20_84) rfl ?_
  refine P1.iload X0.here hx (hb hby d20_85) rfl ?_
  refine P1.iadd X0.here hx (hb hby d20_87) ?_
  have rw82 : ((0 : Int32) + (0 : Int32)) = (0 : Int32) := by decide
  rw [rw82]
  obtain ⟨cl83, Ar83, qk83, sl83, nz83, ha83, fi83⟩ := id Ku
  have i84 := inb_of (j := (0 : Int32)) sl83 ⟨by decide, by decide⟩
  refine Goes.step (T' := s₁) (g' := (mkF m 89 #[.val (.ref t), .val (.int (3 : Int32)), .val (.ref u), .val (.int (0 : Int32)), .val (.int (2 : Int32)), .val (.int (0 : Int32)), .unset, .unset] [(.int (47 : Int32)), (.int b3)])) (fun t_ k_ => X0.baloadBytes hx (j := (0 : Int32)) (v := (.int (47 : Int32))) (by rw [e0]; exact Ar83.1) (State.isArrayOf_alike hZ.alike Ar83.2.1) Ar83.2.2 i84 (Has.at ha83 i84 rfl) (g := (mkF m 88 #[.val (.ref t), .val (.int (3 : Int32)), .val (.ref u), .val (.int (0 : Int32)), .val (.int (2 : Int32)), .val (.int (0 : Int32)), .unset, .unset] [(.int (0 : Int32)), (.ref u), (.int b3)])) rfl rfl (hb hby d20_88) _ k_) ?_
  by_cases hb0 : b3 = (47 : Int32)
  ·
    refine P1.icmpYes X0.here hx 95 (hb hby d20_89) (teq (hb0 : b3 = (47 : Int32))).1 (by decide) (by decide) ?_
    refine P1.iinc X0.here hx #[.val (.ref t), .val (.int (3 : Int32)), .val (.ref u), .val (.int (0 : Int32)), .val (.int (2 : Int32)), .val (.int ((0 : Int32) + (1 : Int32))), .unset, .unset] (hb hby d20_95) rfl rfl ?_
    have rw85 : ((0 : Int32) + (1 : Int32)) = (1 : Int32) := by decide
    rw [rw85]
    refine P1.goto X0.here hx 70 (hb hby d20_98) (by decide) (by decide) ?_
    refine P1.iload X0.here hx (hb hby d20_70) rfl ?_
    refine P1.iload X0.here hx (hb hby d20_72) rfl ?_
    refine P1.icmpNo X0.here hx (hb hby d20_74) (tlt (by decide : (1 : Int32) < (2 : Int32))).2.1 ?_
    refine P1.aloadN X0.here hx (hb hby d20_77) rfl rfl ?_
    refine P1.iloadN X0.here hx (hb hby d20_78) rfl ?_
    refine P1.iload X0.here hx (hb hby d20_79) rfl ?_
    refine P1.iadd X0.here hx (hb hby d20_81) ?_
    have rw86 : ((3 : Int32) + (1 : Int32)) = (4 : Int32) := by decide
    rw [rw86]
    obtain ⟨cl87, Ar87, qk87, sl87, nz87, ha87, fi87⟩ := id Vt
    have i88 := inb_of (j := (4 : Int32)) sl87 ⟨by decide, by decide⟩
    refine Goes.step (T' := s₁) (g' := (mkF m 83 #[.val (.ref t), .val (.int (3 : Int32)), .val (.ref u), .val (.int (0 : Int32)), .val (.int (2 : Int32)), .val (.int (1 : Int32)), .unset, .unset] [(.int b4)])) (fun t_ k_ => X0.baloadBytes hx (j := (4 : Int32)) (v := (.int b4)) (by rw [e0]; exact Ar87.1) (State.isArrayOf_alike hZ.alike Ar87.2.1) Ar87.2.2 i88 (Has.at ha87 i88 rfl) (g := (mkF m 82 #[.val (.ref t), .val (.int (3 : Int32)), .val (.ref u), .val (.int (0 : Int32)), .val (.int (2 : Int32)), .val (.int (1 : Int32)), .unset, .unset] [(.int (4 : Int32)), (.ref t)])) rfl rfl (hb hby d20_82) _ k_) ?_
    refine P1.aloadN X0.here hx (hb hby d20_83) rfl rfl ?_
    refine P1.iloadN X0.here hx (hb hby d20_84) rfl ?_
    refine P1.iload X0.here hx (hb hby d20_85) rfl ?_
    refine P1.iadd X0.here hx (hb hby d20_87) ?_
    have rw89 : ((0 : Int32) + (1 : Int32)) = (1 : Int32) := by decide
    rw [rw89]
    obtain ⟨cl90, Ar90, qk90, sl90, nz90, ha90, fi90⟩ := id Ku
    have i91 := inb_of (j := (1 : Int32)) sl90 ⟨by decide, by decide⟩
    refine Goes.step (T' := s₁) (g' := (mkF m 89 #[.val (.ref t), .val (.int (3 : Int32)), .val (.ref u), .val (.int (0 : Int32)), .val (.int (2 : Int32)), .val (.int (1 : Int32)), .unset, .unset] [(.int (47 : Int32)), (.int b4)])) (fun t_ k_ => X0.baloadBytes hx (j := (1 : Int32)) (v := (.int (47 : Int32))) (by rw [e0]; exact Ar90.1) (State.isArrayOf_alike hZ.alike Ar90.2.1) Ar90.2.2 i91 (Has.at ha90 i91 rfl) (g := (mkF m 88 #[.val (.ref t), .val (.int (3 : Int32)), .val (.ref u), .val (.int (0 : Int32)), .val (.int (2 : Int32)), .val (.int (1 : Int32)), .unset, .unset] [(.int (1 : Int32)), (.ref u), (.int b4)])) rfl rfl (hb hby d20_88) _ k_) ?_
    by_cases hb1 : b4 = (47 : Int32)
    ·
      refine P1.icmpYes X0.here hx 95 (hb hby d20_89) (teq (hb1 : b4 = (47 : Int32))).1 (by decide) (by decide) ?_
      refine P1.iinc X0.here hx #[.val (.ref t), .val (.int (3 : Int32)), .val (.ref u), .val (.int (0 : Int32)), .val (.int (2 : Int32)), .val (.int ((1 : Int32) + (1 : Int32))), .unset, .unset] (hb hby d20_95) rfl rfl ?_
      have rw92 : ((1 : Int32) + (1 : Int32)) = (2 : Int32) := by decide
      rw [rw92]
      refine P1.goto X0.here hx 70 (hb hby d20_98) (by decide) (by decide) ?_
      refine P1.iload X0.here hx (hb hby d20_70) rfl ?_
      refine P1.iload X0.here hx (hb hby d20_72) rfl ?_
      refine P1.icmpYes X0.here hx 101 (hb hby d20_74) (flt (by decide : ¬ ((2 : Int32) < (2 : Int32)))).2.1 (by decide) (by decide) ?_
      refine P1.iconst X0.here hx (-1 : Int32) (hb hby d20_101) rfl ?_
      refine Goes.retI X0 hx Bd.notSynchronized Bd.returns (hb hby d20_102) (ok rfl) (ok rfl) ?_
      rw [e0]
      exact ⟨_, rfl, Or.inl ⟨by decide, hb0, hb1⟩, N0, rfl⟩
    ·
      refine P1.icmpNo X0.here hx (hb hby d20_89) (feq (hb1 : ¬ (b4 = (47 : Int32)))).1 ?_
      refine P1.iload X0.here hx (hb hby d20_92) rfl ?_
      refine Goes.retI X0 hx Bd.notSynchronized Bd.returns (hb hby d20_94) (ok rfl) (ok rfl) ?_
      rw [e0]
      exact ⟨_, rfl, Or.inr ⟨by decide, fun q => hb1 (q.2)⟩, N0, rfl⟩
  ·
    refine P1.icmpNo X0.here hx (hb hby d20_89) (feq (hb0 : ¬ (b3 = (47 : Int32)))).1 ?_
    refine P1.iload X0.here hx (hb hby d20_92) rfl ?_
    refine Goes.retI X0 hx Bd.notSynchronized Bd.returns (hb hby d20_94) (ok rfl) (ok rfl) ?_
    rw [e0]
    exact ⟨_, rfl, Or.inr ⟨by decide, fun q => hb0 (q.1)⟩, N0, rfl⟩
theorem efMm4 (t u : Addr) (m : MethodId) : entryFrame m #[(.ref t), (.int (4 : Int32)), (.ref u), (.int (0 : Int32)), (.int (2 : Int32))] 8 = mkF m 0 #[.val (.ref t), .val (.int (4 : Int32)), .val (.ref u), .val (.int (0 : Int32)), .val (.int (2 : Int32)), .unset, .unset, .unset] [] := by first | (simp [entryFrame, mkF, argsToLocals, Value.category]; done) | rfl
def QMm4 (Z : State) (t : Addr) (kt : ClassId) (u : Addr) (ku : ClassId) (b0 b1 b2 b3 b4 b5 : Int32) (h0 : Heap) (n0 : Nat) (v : Option Value) (h : Heap) (L : List Loc) : Prop := ∃ r, v = some (.int r) ∧ ((r < 0 ∧ b4 = (47 : Int32) ∧ b5 = (47 : Int32)) ∨ (¬ r < 0 ∧ ¬ (b4 = (47 : Int32) ∧ b5 = (47 : Int32)))) ∧ Fr n0 L ∧ h = h0
set_option maxRecDepth 65536 in
set_option maxHeartbeats 40000000 in
theorem rmMm4 (l : Launch) (Z : State) (a0 : Array Value) (hw : ∀ d ∈ tables_1, d.before a0 Z = true) (ws : List Jvm.Cond) (t : Addr) (kt : ClassId) (u : Addr) (ku : ClassId) (b0 b1 b2 b3 b4 b5 : Int32) (h0 : Heap) (n0 : Nat) (Z0 : n0 ≤ h0.size) (O0 : Old Z n0 h0) (Vt : Arv Z h0 t kt .byte (6 : Int32) [(.int b0), (.int b1), (.int b2), (.int b3), (.int b4), (.int b5)] (.int (0 : Int32))) (Ku : Arv Z h0 u ku .byte (2 : Int32) [(.int (47 : Int32)), (.int (47 : Int32))] (.int (0 : Int32))) :
    OwnLaw l y15_ jdk_48_method_14_code 8 (some .int) ws (rR 0 0 0 0) #[(.ref t), (.int (4 : Int32)), (.ref u), (.int (0 : Int32)), (.int (2 : Int32))] Z h0 (QMm4 Z t kt u ku b0 b1 b2 b3 b4 b5 h0 n0) := by
  refine own_enter (plainFor_of_name pn_jdk_internal_util_ArraysSupport) (efMm4 t u) ?_
  intro p e s m below meth c s₁ Bd hx hby hml hZ hown X0 e0
  have N0 := Fr.nil n0
  have K0 : Keep h0 h0 [] := Keep.refl _ _
  refine P1.iconst X0.here hx (0 : Int32) (hb hby d20_0) rfl ?_
  refine P1.istore X0.here hx #[.val (.ref t), .val (.int (4 : Int32)), .val (.ref u), .val (.int (0 : Int32)), .val (.int (2 : Int32)), .val (.int (0 : Int32)), .unset, .unset] (hb hby d20_1) rfl ?_
  refine P1.iload X0.here hx (hb hby d20_3) rfl ?_
  refine P1.bipush X0.here hx (7 : Int32) (hb hby d20_5) rfl ?_
  refine P1.icmpYes X0.here hx 70 (hb hby d20_7) (flt (by decide : ¬ ((7 : Int32) < (2 : Int32)))).2.2.2 (by decide) (by decide) ?_
  refine P1.iload X0.here hx (hb hby d20_70) rfl ?_
  refine P1.iload X0.here hx (hb hby d20_72) rfl ?_
  refine P1.icmpNo X0.here hx (hb hby d20_74) (tlt (by decide : (0 : Int32) < (2 : Int32))).2.1 ?_
  refine P1.aloadN X0.here hx (hb hby d20_77) rfl rfl ?_
  refine P1.iloadN X0.here hx (hb hby d20_78) rfl ?_
  refine P1.iload X0.here hx (hb hby d20_79) rfl ?_
  refine P1.iadd X0.here hx (hb hby d20_81) ?_
  have rw93 : ((4 : Int32) + (0 : Int32)) = (4 : Int32) := by decide
  rw [rw93]
  obtain ⟨cl94, Ar94, qk94, sl94, nz94, ha94, fi94⟩ := id Vt
  have i95 := inb_of (j := (4 : Int32)) sl94 ⟨by decide, by decide⟩
  refine Goes.step (T' := s₁) (g' := (mkF m 83 #[.val (.ref t), .val (.int (4 : Int32)), .val (.ref u), .val (.int (0 : Int32)), .val (.int (2 : Int32)), .val (.int (0 : Int32)), .unset, .unset] [(.int b4)])) (fun t_ k_ => X0.baloadBytes hx (j := (4 : Int32)) (v := (.int b4)) (by rw [e0]; exact Ar94.1) (State.isArrayOf_alike hZ.alike Ar94.2.1) Ar94.2.2 i95 (Has.at ha94 i95 rfl) (g := (mkF m 82 #[.val (.ref t), .val (.int (4 : Int32)), .val (.ref u), .val (.int (0 : Int32)), .val (.int (2 : Int32)), .val (.int (0 : Int32)), .unset, .unset] [(.int (4 : Int32)), (.ref t)])) rfl rfl (hb hby d20_82) _ k_) ?_
  refine P1.aloadN X0.here hx (hb hby d20_83) rfl rfl ?_
  refine P1.iloadN X0.here hx (hb hby d20_84) rfl ?_
  refine P1.iload X0.here hx (hb hby d20_85) rfl ?_
  refine P1.iadd X0.here hx (hb hby d20_87) ?_
  have rw96 : ((0 : Int32) + (0 : Int32)) = (0 : Int32) := by decide
  rw [rw96]
  obtain ⟨cl97, Ar97, qk97, sl97, nz97, ha97, fi97⟩ := id Ku
  have i98 := inb_of (j := (0 : Int32)) sl97 ⟨by decide, by decide⟩
  refine Goes.step (T' := s₁) (g' := (mkF m 89 #[.val (.ref t), .val (.int (4 : Int32)), .val (.ref u), .val (.int (0 : Int32)), .val (.int (2 : Int32)), .val (.int (0 : Int32)), .unset, .unset] [(.int (47 : Int32)), (.int b4)])) (fun t_ k_ => X0.baloadBytes hx (j := (0 : Int32)) (v := (.int (47 : Int32))) (by rw [e0]; exact Ar97.1) (State.isArrayOf_alike hZ.alike Ar97.2.1) Ar97.2.2 i98 (Has.at ha97 i98 rfl) (g := (mkF m 88 #[.val (.ref t), .val (.int (4 : Int32)), .val (.ref u), .val (.int (0 : Int32)), .val (.int (2 : Int32)), .val (.int (0 : Int32)), .unset, .unset] [(.int (0 : Int32)), (.ref u), (.int b4)])) rfl rfl (hb hby d20_88) _ k_) ?_
  by_cases hb0 : b4 = (47 : Int32)
  ·
    refine P1.icmpYes X0.here hx 95 (hb hby d20_89) (teq (hb0 : b4 = (47 : Int32))).1 (by decide) (by decide) ?_
    refine P1.iinc X0.here hx #[.val (.ref t), .val (.int (4 : Int32)), .val (.ref u), .val (.int (0 : Int32)), .val (.int (2 : Int32)), .val (.int ((0 : Int32) + (1 : Int32))), .unset, .unset] (hb hby d20_95) rfl rfl ?_
    have rw99 : ((0 : Int32) + (1 : Int32)) = (1 : Int32) := by decide
    rw [rw99]
    refine P1.goto X0.here hx 70 (hb hby d20_98) (by decide) (by decide) ?_
    refine P1.iload X0.here hx (hb hby d20_70) rfl ?_
    refine P1.iload X0.here hx (hb hby d20_72) rfl ?_
    refine P1.icmpNo X0.here hx (hb hby d20_74) (tlt (by decide : (1 : Int32) < (2 : Int32))).2.1 ?_
    refine P1.aloadN X0.here hx (hb hby d20_77) rfl rfl ?_
    refine P1.iloadN X0.here hx (hb hby d20_78) rfl ?_
    refine P1.iload X0.here hx (hb hby d20_79) rfl ?_
    refine P1.iadd X0.here hx (hb hby d20_81) ?_
    have rw100 : ((4 : Int32) + (1 : Int32)) = (5 : Int32) := by decide
    rw [rw100]
    obtain ⟨cl101, Ar101, qk101, sl101, nz101, ha101, fi101⟩ := id Vt
    have i102 := inb_of (j := (5 : Int32)) sl101 ⟨by decide, by decide⟩
    refine Goes.step (T' := s₁) (g' := (mkF m 83 #[.val (.ref t), .val (.int (4 : Int32)), .val (.ref u), .val (.int (0 : Int32)), .val (.int (2 : Int32)), .val (.int (1 : Int32)), .unset, .unset] [(.int b5)])) (fun t_ k_ => X0.baloadBytes hx (j := (5 : Int32)) (v := (.int b5)) (by rw [e0]; exact Ar101.1) (State.isArrayOf_alike hZ.alike Ar101.2.1) Ar101.2.2 i102 (Has.at ha101 i102 rfl) (g := (mkF m 82 #[.val (.ref t), .val (.int (4 : Int32)), .val (.ref u), .val (.int (0 : Int32)), .val (.int (2 : Int32)), .val (.int (1 : Int32)), .unset, .unset] [(.int (5 : Int32)), (.ref t)])) rfl rfl (hb hby d20_82) _ k_) ?_
    refine P1.aloadN X0.here hx (hb hby d20_83) rfl rfl ?_
    refine P1.iloadN X0.here hx (hb hby d20_84) rfl ?_
    refine P1.iload X0.here hx (hb hby d20_85) rfl ?_
    refine P1.iadd X0.here hx (hb hby d20_87) ?_
    have rw103 : ((0 : Int32) + (1 : Int32)) = (1 : Int32) := by decide
    rw [rw103]
    obtain ⟨cl104, Ar104, qk104, sl104, nz104, ha104, fi104⟩ := id Ku
    have i105 := inb_of (j := (1 : Int32)) sl104 ⟨by decide, by decide⟩
    refine Goes.step (T' := s₁) (g' := (mkF m 89 #[.val (.ref t), .val (.int (4 : Int32)), .val (.ref u), .val (.int (0 : Int32)), .val (.int (2 : Int32)), .val (.int (1 : Int32)), .unset, .unset] [(.int (47 : Int32)), (.int b5)])) (fun t_ k_ => X0.baloadBytes hx (j := (1 : Int32)) (v := (.int (47 : Int32))) (by rw [e0]; exact Ar104.1) (State.isArrayOf_alike hZ.alike Ar104.2.1) Ar104.2.2 i105 (Has.at ha104 i105 rfl) (g := (mkF m 88 #[.val (.ref t), .val (.int (4 : Int32)), .val (.ref u), .val (.int (0 : Int32)), .val (.int (2 : Int32)), .val (.int (1 : Int32)), .unset, .unset] [(.int (1 : Int32)), (.ref u), (.int b5)])) rfl rfl (hb hby d20_88) _ k_) ?_
    by_cases hb1 : b5 = (47 : Int32)
    ·
      refine P1.icmpYes X0.here hx 95 (hb hby d20_89) (teq (hb1 : b5 = (47 : Int32))).1 (by decide) (by decide) ?_
      refine P1.iinc X0.here hx #[.val (.ref t), .val (.int (4 : Int32)), .val (.ref u), .val (.int (0 : Int32)), .val (.int (2 : Int32)), .val (.int ((1 : Int32) + (1 : Int32))), .unset, .unset] (hb hby d20_95) rfl rfl ?_
      have rw106 : ((1 : Int32) + (1 : Int32)) = (2 : Int32) := by decide
      rw [rw106]
      refine P1.goto X0.here hx 70 (hb hby d20_98) (by decide) (by decide) ?_
      refine P1.iload X0.here hx (hb hby d20_70) rfl ?_
      refine P1.iload X0.here hx (hb hby d20_72) rfl ?_
      refine P1.icmpYes X0.here hx 101 (hb hby d20_74) (flt (by decide : ¬ ((2 : Int32) < (2 : Int32)))).2.1 (by decide) (by decide) ?_
      refine P1.iconst X0.here hx (-1 : Int32) (hb hby d20_101) rfl ?_
      refine Goes.retI X0 hx Bd.notSynchronized Bd.returns (hb hby d20_102) (ok rfl) (ok rfl) ?_
      rw [e0]
      exact ⟨_, rfl, Or.inl ⟨by decide, hb0, hb1⟩, N0, rfl⟩
    ·
      refine P1.icmpNo X0.here hx (hb hby d20_89) (feq (hb1 : ¬ (b5 = (47 : Int32)))).1 ?_
      refine P1.iload X0.here hx (hb hby d20_92) rfl ?_
      refine Goes.retI X0 hx Bd.notSynchronized Bd.returns (hb hby d20_94) (ok rfl) (ok rfl) ?_
      rw [e0]
      exact ⟨_, rfl, Or.inr ⟨by decide, fun q => hb1 (q.2)⟩, N0, rfl⟩
  ·
    refine P1.icmpNo X0.here hx (hb hby d20_89) (feq (hb0 : ¬ (b4 = (47 : Int32)))).1 ?_
    refine P1.iload X0.here hx (hb hby d20_92) rfl ?_
    refine Goes.retI X0 hx Bd.notSynchronized Bd.returns (hb hby d20_94) (ok rfl) (ok rfl) ?_
    rw [e0]
    exact ⟨_, rfl, Or.inr ⟨by decide, fun q => hb0 (q.1)⟩, N0, rfl⟩
theorem d19_0 : decode jdk_42_method_75_code 0 = .ok (.iload_n 2, 1) := by decide +kernel
theorem d19_1 : decode jdk_42_method_75_code 1 = .ok (.ifCond .lt 16, 3) := by decide +kernel
theorem d19_4 : decode jdk_42_method_75_code 4 = .ok (.iload_n 2, 1) := by decide +kernel
theorem d19_5 : decode jdk_42_method_75_code 5 = .ok (.aload_n 0, 1) := by decide +kernel
theorem d19_6 : decode jdk_42_method_75_code 6 = .ok (.invokevirtual 505, 3) := by decide +kernel
theorem d19_9 : decode jdk_42_method_75_code 9 = .ok (.aload_n 1, 1) := by decide +kernel
theorem d19_10 : decode jdk_42_method_75_code 10 = .ok (.invokevirtual 505, 3) := by decide +kernel
theorem d19_13 : decode jdk_42_method_75_code 13 = .ok (.isub, 1) := by decide +kernel
theorem d19_14 : decode jdk_42_method_75_code 14 = .ok (.if_icmp .le 5, 3) := by decide +kernel
theorem d19_17 : decode jdk_42_method_75_code 17 = .ok (.iconst 0, 1) := by decide +kernel
theorem d19_18 : decode jdk_42_method_75_code 18 = .ok (.ireturn, 1) := by decide +kernel
theorem d19_19 : decode jdk_42_method_75_code 19 = .ok (.aload_n 0, 1) := by decide +kernel
theorem d19_20 : decode jdk_42_method_75_code 20 = .ok (.getfield 9, 3) := by decide +kernel
theorem d19_23 : decode jdk_42_method_75_code 23 = .ok (.astore_n 3, 1) := by decide +kernel
theorem d19_24 : decode jdk_42_method_75_code 24 = .ok (.aload_n 1, 1) := by decide +kernel
theorem d19_25 : decode jdk_42_method_75_code 25 = .ok (.getfield 9, 3) := by decide +kernel
theorem d19_28 : decode jdk_42_method_75_code 28 = .ok (.astore 4, 2) := by decide +kernel
theorem d19_30 : decode jdk_42_method_75_code 30 = .ok (.iconst 0, 1) := by decide +kernel
theorem d19_31 : decode jdk_42_method_75_code 31 = .ok (.istore 5, 2) := by decide +kernel
theorem d19_33 : decode jdk_42_method_75_code 33 = .ok (.aload 4, 2) := by decide +kernel
theorem d19_35 : decode jdk_42_method_75_code 35 = .ok (.arraylength, 1) := by decide +kernel
theorem d19_36 : decode jdk_42_method_75_code 36 = .ok (.istore 6, 2) := by decide +kernel
theorem d19_38 : decode jdk_42_method_75_code 38 = .ok (.aload_n 0, 1) := by decide +kernel
theorem d19_39 : decode jdk_42_method_75_code 39 = .ok (.invokevirtual 335, 3) := by decide +kernel
theorem d19_42 : decode jdk_42_method_75_code 42 = .ok (.istore 7, 2) := by decide +kernel
theorem d19_44 : decode jdk_42_method_75_code 44 = .ok (.iload 7, 2) := by decide +kernel
theorem d19_46 : decode jdk_42_method_75_code 46 = .ok (.aload_n 1, 1) := by decide +kernel
theorem d19_47 : decode jdk_42_method_75_code 47 = .ok (.invokevirtual 335, 3) := by decide +kernel
theorem d19_50 : decode jdk_42_method_75_code 50 = .ok (.if_icmp .ne 32, 3) := by decide +kernel
theorem d19_53 : decode jdk_42_method_75_code 53 = .ok (.iload 7, 2) := by decide +kernel
theorem d19_55 : decode jdk_42_method_75_code 55 = .ok (.iconst 1, 1) := by decide +kernel
theorem d19_56 : decode jdk_42_method_75_code 56 = .ok (.if_icmp .ne 7, 3) := by decide +kernel
theorem d19_63 : decode jdk_42_method_75_code 63 = .ok (.aload_n 3, 1) := by decide +kernel
theorem d19_64 : decode jdk_42_method_75_code 64 = .ok (.iload_n 2, 1) := by decide +kernel
theorem d19_65 : decode jdk_42_method_75_code 65 = .ok (.aload 4, 2) := by decide +kernel
theorem d19_67 : decode jdk_42_method_75_code 67 = .ok (.iconst 0, 1) := by decide +kernel
theorem d19_68 : decode jdk_42_method_75_code 68 = .ok (.iload 6, 2) := by decide +kernel
theorem d19_70 : decode jdk_42_method_75_code 70 = .ok (.invokestatic 607, 3) := by decide +kernel
theorem d19_73 : decode jdk_42_method_75_code 73 = .ok (.ifCond .ge 7, 3) := by decide +kernel
theorem d19_76 : decode jdk_42_method_75_code 76 = .ok (.iconst 1, 1) := by decide +kernel
theorem d19_77 : decode jdk_42_method_75_code 77 = .ok (.goto 4, 3) := by decide +kernel
theorem d19_80 : decode jdk_42_method_75_code 80 = .ok (.iconst 0, 1) := by decide +kernel
theorem d19_81 : decode jdk_42_method_75_code 81 = .ok (.ireturn, 1) := by decide +kernel
theorem efLen2 (a : Addr) (m : MethodId) : entryFrame m #[(.ref a)] 1 = mkF m 0 #[.val (.ref a)] [] := by first | (simp [entryFrame, mkF, argsToLocals, Value.category]; done) | rfl
def QLen2 (Z : State) (a t : Addr) (kt : ClassId) (vs : List Value) (zc : Int32) (fm : Value) (h0 : Heap) (n0 : Nat) (v : Option Value) (h : Heap) (L : List Loc) : Prop := v = some (.int (2 : Int32)) ∧ Fr n0 L ∧ h = h0
set_option maxRecDepth 65536 in
set_option maxHeartbeats 40000000 in
theorem rmLen2 (l : Launch) (Z : State) (a0 : Array Value) (hw : ∀ d ∈ tables_1, d.before a0 Z = true) (ws : List Jvm.Cond) (a t : Addr) (kt : ClassId) (vs : List Value) (zc : Int32) (fm : Value) (h0 : Heap) (n0 : Nat) (Z0 : n0 ≤ h0.size) (O0 : Old Z n0 h0) (S_CS : Sta Z Z.heap "java/lang/String" "COMPACT_STRINGS" "Z" (.int zc)) (hzc : ¬ zc = 0) (S_FM : Sta Z Z.heap "jdk/internal/util/Preconditions" "SIOOBE_FORMATTER" "Ljava/util/function/BiFunction;" fm) (hfm : fm.isRef = true) (Ea : Exa Z h0 a "java/lang/String") (Fa : Fld Z h0 a "java/lang/String" "value" "[B" (.ref t)) (Fc : Fld Z h0 a "java/lang/String" "coder" "B" (.int (0 : Int32))) (Vt : Arv Z h0 t kt .byte (2 : Int32) vs (.int (0 : Int32))) :
    OwnLaw l y10_ jdk_42_method_54_code 1 (some .int) ws (rR 1 0 0 13) #[(.ref a)] Z h0 (QLen2 Z a t kt vs zc fm h0 n0) := by
  refine own_enter (plainFor_of_name pn_java_lang_String) (efLen2 a) ?_
  intro p e s m below meth c s₁ Bd hx hby hml hZ hown X0 e0
  have N0 := Fr.nil n0
  have K0 : Keep h0 h0 [] := Keep.refl _ _
  refine P1.aloadN X0.here hx (hb hby d12_0) rfl rfl ?_
  obtain ⟨T108, X108, e108, st108⟩ := getF X0 hx hZ hown (host := "") (Or.inl (own_w hw 32 rfl)) Via.refl e0 Fa (g := (mkF m 1 #[.val (.ref a)] [(.ref a)])) rfl rfl (hb hby d12_1)
  refine Goes.step (T' := T108) (g' := (mkF m 4 #[.val (.ref a)] [(.ref t)])) st108 ?_
  obtain ⟨cl109, Ar109, qk109, sl109, nz109, ha109, fi109⟩ := id Vt
  have al110 : cl109.slots.size.toInt32 = (2 : Int32) := len_of sl109 nz109
  refine Goes.step (T' := T108) (g' := (mkF m 5 #[.val (.ref a)] [(.int (2 : Int32))])) (fun t_ k_ => X108.arraylength hx (by rw [e108]; exact Ar109.1) (State.isArrayOf_alike hZ.alike Ar109.2.1) (g := (mkF m 4 #[.val (.ref a)] [(.ref t)])) rfl rfl (hb hby d12_4) _ <| by rw [al110]; exact k_) ?_
  refine P1.aloadN X108.here hx (hb hby d12_5) rfl rfl ?_
  refine Goes.callV X108 hx hZ (y := y6_) (z := y6_) hown (mvT hZ (own_w hw 58 rfl)) (mvT hZ (own_w hw 59 rfl)) (notFace_of_selects (args := #[]) (mvT hZ (own_w hw 61 rfl))) (mvT hZ (own_w hw 61 rfl)) (mvT hZ (own_w hw 60 rfl)) (by decide) (kc' := 0) (ks' := 0) (backOf (W := 1) (rmCod l Z a0 hw [] a zc fm h0 n0 Z0 O0 S_CS hzc S_FM hfm Fc) hZ (own_w hw 62 rfl) (own_w hw 7 rfl) (ok rfl) (ok rfl)) (b := a) e108 Ea (g := (mkF m 6 #[.val (.ref a)] [(.ref a), (.int (2 : Int32))])) rfl (by rw [hml]; rfl) (argsL := []) (rest := [(.int (2 : Int32))]) (lenOf pd_320 rfl) rfl (by show 2 * 0 + _ ≤ _; exact Nat.le_of_eq rfl) (hb hby d12_6) rfl (ok rfl) (ok rfl) ?_
  intro v111 T111 L111 q111 X111
  obtain ⟨rfl, N111q, hE111⟩ := q111
  have N111 := Fr.app N0 N111q
  show Goes p e below _ T111 (mkF m 9 #[.val (.ref a)] [(.int (0 : Int32)), (.int (2 : Int32))])
  refine P1.ishr X111.here hx (hb hby d12_9) ?_
  have rw112 : ((2 : Int32) >>> ((0 : Int32) &&& 31)) = (2 : Int32) := by decide
  rw [rw112]
  refine Goes.retI X111 hx Bd.notSynchronized Bd.returns (hb hby d12_10) (ok rfl) (ok rfl) ?_
  rw [hE111]
  exact ⟨rfl, N111, rfl⟩
theorem pd_3757 : parseMethodDescriptor "([BI[BII)I" = some ⟨[(.array .byte), .int, (.array .byte), .int, .int], some .int⟩ := by decide +kernel
theorem efSw1 (x y : Addr) (m : MethodId) : entryFrame m #[(.ref x), (.ref y), (.int (1 : Int32))] 8 = mkF m 0 #[.val (.ref x), .val (.ref y), .val (.int (1 : Int32)), .unset, .unset, .unset, .unset, .unset] [] := by first | (simp [entryFrame, mkF, argsToLocals, Value.category]; done) | rfl
def QSw1 (Z : State) (x t : Addr) (kt : ClassId) (b0 b1 b2 b3 b4 b5 : Int32) (y u : Addr) (ku : ClassId) (zc : Int32) (fm : Value) (h0 : Heap) (n0 : Nat) (v : Option Value) (h : Heap) (L : List Loc) : Prop := v = some (.int (if b1 = (47 : Int32) ∧ b2 = (47 : Int32) then 1 else 0)) ∧ Fr n0 L ∧ h = h0
set_option maxRecDepth 65536 in
set_option maxHeartbeats 40000000 in
theorem rmSw1 (l : Launch) (Z : State) (a0 : Array Value) (hw : ∀ d ∈ tables_1, d.before a0 Z = true) (ws : List Jvm.Cond) (x t : Addr) (kt : ClassId) (b0 b1 b2 b3 b4 b5 : Int32) (y u : Addr) (ku : ClassId) (zc : Int32) (fm : Value) (h0 : Heap) (n0 : Nat) (Z0 : n0 ≤ h0.size) (O0 : Old Z n0 h0) (S_CS : Sta Z Z.heap "java/lang/String" "COMPACT_STRINGS" "Z" (.int zc)) (hzc : ¬ zc = 0) (S_FM : Sta Z Z.heap "jdk/internal/util/Preconditions" "SIOOBE_FORMATTER" "Ljava/util/function/BiFunction;" fm) (hfm : fm.isRef = true) (Ex : Exa Z h0 x "java/lang/String") (Fv : Fld Z h0 x "java/lang/String" "value" "[B" (.ref t)) (Fc : Fld Z h0 x "java/lang/String" "coder" "B" (.int (0 : Int32))) (Vt : Arv Z h0 t kt .byte (6 : Int32) [(.int b0), (.int b1), (.int b2), (.int b3), (.int b4), (.int b5)] (.int (0 : Int32))) (Ey : Exa Z h0 y "java/lang/String") (Vy : Fld Z h0 y "java/lang/String" "value" "[B" (.ref u)) (Cy : Fld Z h0 y "java/lang/String" "coder" "B" (.int (0 : Int32))) (Ku : Arv Z h0 u ku .byte (2 : Int32) [(.int (47 : Int32)), (.int (47 : Int32))] (.int (0 : Int32))) :
    OwnLaw l y11_ jdk_42_method_75_code 8 (some .boolean) ws (rR 2 0 0 27) #[(.ref x), (.ref y), (.int (1 : Int32))] Z h0 (QSw1 Z x t kt b0 b1 b2 b3 b4 b5 y u ku zc fm h0 n0) := by
  refine own_enter (plainFor_of_name pn_java_lang_String) (efSw1 x y) ?_
  intro p e s m below meth c s₁ Bd hx hby hml hZ hown X0 e0
  have N0 := Fr.nil n0
  have K0 : Keep h0 h0 [] := Keep.refl _ _
  refine P1.iloadN X0.here hx (hb hby d19_0) rfl ?_
  refine P1.ifNo X0.here hx (hb hby d19_1) ((if0 _ _).trans (flt (by decide : ¬ ((1 : Int32) < (0 : Int32)))).1) ?_
  refine P1.iloadN X0.here hx (hb hby d19_4) rfl ?_
  refine P1.aloadN X0.here hx (hb hby d19_5) rfl rfl ?_
  refine Goes.callV X0 hx hZ (y := y10_) (z := y10_) hown (mvT hZ (own_w hw 53 rfl)) (mvT hZ (own_w hw 54 rfl)) (notFace_of_selects (args := #[]) (mvT hZ (own_w hw 56 rfl))) (mvT hZ (own_w hw 56 rfl)) (mvT hZ (own_w hw 55 rfl)) (by decide) (kc' := 0) (ks' := 0) (backOf (W := 1) (rmLen6 l Z a0 hw [] x t kt [(.int b0), (.int b1), (.int b2), (.int b3), (.int b4), (.int b5)] zc fm h0 n0 Z0 O0 S_CS hzc S_FM hfm Ex Fv Fc Vt) hZ (own_w hw 57 rfl) (own_w hw 7 rfl) (ok rfl) (ok rfl)) (b := x) e0 Ex (g := (mkF m 6 #[.val (.ref x), .val (.ref y), .val (.int (1 : Int32)), .unset, .unset, .unset, .unset, .unset] [(.ref x), (.int (1 : Int32))])) rfl (by rw [hml]; rfl) (argsL := []) (rest := [(.int (1 : Int32))]) (lenOf pd_341 rfl) rfl (by show 2 * 0 + _ ≤ _; exact Nat.le_of_eq rfl) (hb hby d19_6) rfl (ok rfl) (ok rfl) ?_
  intro v107 T107 L107 q107 X107
  obtain ⟨rfl, N107q, hE107⟩ := q107
  have N107 := Fr.app N0 N107q
  show Goes p e below _ T107 (mkF m 9 #[.val (.ref x), .val (.ref y), .val (.int (1 : Int32)), .unset, .unset, .unset, .unset, .unset] [(.int (6 : Int32)), (.int (1 : Int32))])
  refine P1.aloadN X107.here hx (hb hby d19_9) rfl rfl ?_
  refine Goes.callV X107 hx hZ (y := y10_) (z := y10_) hown (mvT hZ (own_w hw 53 rfl)) (mvT hZ (own_w hw 54 rfl)) (notFace_of_selects (args := #[]) (mvT hZ (own_w hw 56 rfl))) (mvT hZ (own_w hw 56 rfl)) (mvT hZ (own_w hw 55 rfl)) (by decide) (kc' := 0) (ks' := 0) (backOf (W := 2) (rmLen2 l Z a0 hw [] y u ku [(.int (47 : Int32)), (.int (47 : Int32))] zc fm h0 n0 Z0 O0 S_CS hzc S_FM hfm Ey Vy Cy Ku) hZ (own_w hw 57 rfl) (own_w hw 7 rfl) (ok rfl) (ok rfl)) (b := y) hE107 Ey (g := (mkF m 10 #[.val (.ref x), .val (.ref y), .val (.int (1 : Int32)), .unset, .unset, .unset, .unset, .unset] [(.ref y), (.int (6 : Int32)), (.int (1 : Int32))])) rfl (by rw [hml]; rfl) (argsL := []) (rest := [(.int (6 : Int32)), (.int (1 : Int32))]) (lenOf pd_341 rfl) rfl (by show 2 * 0 + _ ≤ _; exact Nat.le_of_eq rfl) (hb hby d19_10) rfl (ok rfl) (ok rfl) ?_
  intro v113 T113 L113 q113 X113
  obtain ⟨rfl, N113q, hE113⟩ := q113
  have N113 := Fr.app N107 N113q
  show Goes p e below _ T113 (mkF m 13 #[.val (.ref x), .val (.ref y), .val (.int (1 : Int32)), .unset, .unset, .unset, .unset, .unset] [(.int (2 : Int32)), (.int (6 : Int32)), (.int (1 : Int32))])
  refine P1.isub X113.here hx (hb hby d19_13) ?_
  have rw114 : ((6 : Int32) - (2 : Int32)) = (4 : Int32) := by decide
  rw [rw114]
  refine P1.icmpYes X113.here hx 19 (hb hby d19_14) (flt (by decide : ¬ ((4 : Int32) < (1 : Int32)))).2.2.2 (by decide) (by decide) ?_
  refine P1.aloadN X113.here hx (hb hby d19_19) rfl rfl ?_
  obtain ⟨T115, X115, e115, st115⟩ := getF X113 hx hZ hown (host := "") (Or.inl (own_w hw 32 rfl)) Via.refl hE113 Fv (g := (mkF m 20 #[.val (.ref x), .val (.ref y), .val (.int (1 : Int32)), .unset, .unset, .unset, .unset, .unset] [(.ref x)])) rfl rfl (hb hby d19_20)
  refine Goes.step (T' := T115) (g' := (mkF m 23 #[.val (.ref x), .val (.ref y), .val (.int (1 : Int32)), .unset, .unset, .unset, .unset, .unset] [(.ref t)])) st115 ?_
  refine P1.astoreN X115.here hx #[.val (.ref x), .val (.ref y), .val (.int (1 : Int32)), .val (.ref t), .unset, .unset, .unset, .unset] (hb hby d19_23) rfl rfl ?_
  refine P1.aloadN X115.here hx (hb hby d19_24) rfl rfl ?_
  obtain ⟨T116, X116, e116, st116⟩ := getF X115 hx hZ hown (host := "") (Or.inl (own_w hw 32 rfl)) Via.refl e115 Vy (g := (mkF m 25 #[.val (.ref x), .val (.ref y), .val (.int (1 : Int32)), .val (.ref t), .unset, .unset, .unset, .unset] [(.ref y)])) rfl rfl (hb hby d19_25)
  refine Goes.step (T' := T116) (g' := (mkF m 28 #[.val (.ref x), .val (.ref y), .val (.int (1 : Int32)), .val (.ref t), .unset, .unset, .unset, .unset] [(.ref u)])) st116 ?_
  refine P1.astore X116.here hx #[.val (.ref x), .val (.ref y), .val (.int (1 : Int32)), .val (.ref t), .val (.ref u), .unset, .unset, .unset] (hb hby d19_28) rfl rfl ?_
  refine P1.iconst X116.here hx (0 : Int32) (hb hby d19_30) rfl ?_
  refine P1.istore X116.here hx #[.val (.ref x), .val (.ref y), .val (.int (1 : Int32)), .val (.ref t), .val (.ref u), .val (.int (0 : Int32)), .unset, .unset] (hb hby d19_31) rfl ?_
  refine P1.aload X116.here hx (hb hby d19_33) rfl rfl ?_
  obtain ⟨cl117, Ar117, qk117, sl117, nz117, ha117, fi117⟩ := id Ku
  have al118 : cl117.slots.size.toInt32 = (2 : Int32) := len_of sl117 nz117
  refine Goes.step (T' := T116) (g' := (mkF m 36 #[.val (.ref x), .val (.ref y), .val (.int (1 : Int32)), .val (.ref t), .val (.ref u), .val (.int (0 : Int32)), .unset, .unset] [(.int (2 : Int32))])) (fun t_ k_ => X116.arraylength hx (by rw [e116]; exact Ar117.1) (State.isArrayOf_alike hZ.alike Ar117.2.1) (g := (mkF m 35 #[.val (.ref x), .val (.ref y), .val (.int (1 : Int32)), .val (.ref t), .val (.ref u), .val (.int (0 : Int32)), .unset, .unset] [(.ref u)])) rfl rfl (hb hby d19_35) _ <| by rw [al118]; exact k_) ?_
  refine P1.istore X116.here hx #[.val (.ref x), .val (.ref y), .val (.int (1 : Int32)), .val (.ref t), .val (.ref u), .val (.int (0 : Int32)), .val (.int (2 : Int32)), .unset] (hb hby d19_36) rfl ?_
  refine P1.aloadN X116.here hx (hb hby d19_38) rfl rfl ?_
  refine Goes.callV X116 hx hZ (y := y6_) (z := y6_) hown (mvT hZ (own_w hw 58 rfl)) (mvT hZ (own_w hw 59 rfl)) (notFace_of_selects (args := #[]) (mvT hZ (own_w hw 61 rfl))) (mvT hZ (own_w hw 61 rfl)) (mvT hZ (own_w hw 60 rfl)) (by decide) (kc' := 0) (ks' := 0) (backOf (W := 0) (rmCod l Z a0 hw [] x zc fm h0 n0 Z0 O0 S_CS hzc S_FM hfm Fc) hZ (own_w hw 62 rfl) (own_w hw 7 rfl) (ok rfl) (ok rfl)) (b := x) e116 Ex (g := (mkF m 39 #[.val (.ref x), .val (.ref y), .val (.int (1 : Int32)), .val (.ref t), .val (.ref u), .val (.int (0 : Int32)), .val (.int (2 : Int32)), .unset] [(.ref x)])) rfl (by rw [hml]; rfl) (argsL := []) (rest := []) (lenOf pd_320 rfl) rfl (by show 2 * 0 + _ ≤ _; exact Nat.le_of_eq rfl) (hb hby d19_39) rfl (ok rfl) (ok rfl) ?_
  intro v119 T119 L119 q119 X119
  obtain ⟨rfl, N119q, hE119⟩ := q119
  have N119 := Fr.app N113 N119q
  show Goes p e below _ T119 (mkF m 42 #[.val (.ref x), .val (.ref y), .val (.int (1 : Int32)), .val (.ref t), .val (.ref u), .val (.int (0 : Int32)), .val (.int (2 : Int32)), .unset] [(.int (0 : Int32))])
  refine P1.istore X119.here hx #[.val (.ref x), .val (.ref y), .val (.int (1 : Int32)), .val (.ref t), .val (.ref u), .val (.int (0 : Int32)), .val (.int (2 : Int32)), .val (.int (0 : Int32))] (hb hby d19_42) rfl ?_
  refine P1.iload X119.here hx (hb hby d19_44) rfl ?_
  refine P1.aloadN X119.here hx (hb hby d19_46) rfl rfl ?_
  refine Goes.callV X119 hx hZ (y := y6_) (z := y6_) hown (mvT hZ (own_w hw 58 rfl)) (mvT hZ (own_w hw 59 rfl)) (notFace_of_selects (args := #[]) (mvT hZ (own_w hw 61 rfl))) (mvT hZ (own_w hw 61 rfl)) (mvT hZ (own_w hw 60 rfl)) (by decide) (kc' := 0) (ks' := 0) (backOf (W := 1) (rmCod l Z a0 hw [] y zc fm h0 n0 Z0 O0 S_CS hzc S_FM hfm Cy) hZ (own_w hw 62 rfl) (own_w hw 7 rfl) (ok rfl) (ok rfl)) (b := y) hE119 Ey (g := (mkF m 47 #[.val (.ref x), .val (.ref y), .val (.int (1 : Int32)), .val (.ref t), .val (.ref u), .val (.int (0 : Int32)), .val (.int (2 : Int32)), .val (.int (0 : Int32))] [(.ref y), (.int (0 : Int32))])) rfl (by rw [hml]; rfl) (argsL := []) (rest := [(.int (0 : Int32))]) (lenOf pd_320 rfl) rfl (by show 2 * 0 + _ ≤ _; exact Nat.le_of_eq rfl) (hb hby d19_47) rfl (ok rfl) (ok rfl) ?_
  intro v120 T120 L120 q120 X120
  obtain ⟨rfl, N120q, hE120⟩ := q120
  have N120 := Fr.app N119 N120q
  show Goes p e below _ T120 (mkF m 50 #[.val (.ref x), .val (.ref y), .val (.int (1 : Int32)), .val (.ref t), .val (.ref u), .val (.int (0 : Int32)), .val (.int (2 : Int32)), .val (.int (0 : Int32))] [(.int (0 : Int32)), (.int (0 : Int32))])
  refine P1.icmpNo X120.here hx (hb hby d19_50) (teq (by decide : (0 : Int32) = (0 : Int32))).2 ?_
  refine P1.iload X120.here hx (hb hby d19_53) rfl ?_
  refine P1.iconst X120.here hx (1 : Int32) (hb hby d19_55) rfl ?_
  refine P1.icmpYes X120.here hx 63 (hb hby d19_56) (feq (by decide : ¬ ((0 : Int32) = (1 : Int32)))).2 (by decide) (by decide) ?_
  refine P1.aloadN X120.here hx (hb hby d19_63) rfl rfl ?_
  refine P1.iloadN X120.here hx (hb hby d19_64) rfl ?_
  refine P1.aload X120.here hx (hb hby d19_65) rfl rfl ?_
  refine P1.iconst X120.here hx (0 : Int32) (hb hby d19_67) rfl ?_
  refine P1.iload X120.here hx (hb hby d19_68) rfl ?_
  refine P1.callS X120 hx hZ hown (own_w hw 88 rfl) (own_w hw 89 rfl) (own_w hw 90 rfl) (own_w hw 91 rfl) (by decide) (rmMm1 l Z a0 hw [] t kt u ku b0 b1 b2 b3 b4 b5 h0 n0 Z0 O0 Vt Ku) hml [(.ref t), (.int (1 : Int32)), (.ref u), (.int (0 : Int32)), (.int (2 : Int32))] [] (lenOf pd_3757 rfl) rfl rfl (hb hby d19_70) rfl hE120 (ok rfl) (ok rfl) (ok rfl) (ok rfl) ?_
  intro v121 T121 L121 q121 X121
  obtain ⟨r121, rfl, hr121, N121q, hE121⟩ := q121
  have N121 := Fr.app N120 N121q
  show Goes p e below _ T121 (mkF m 73 #[.val (.ref x), .val (.ref y), .val (.int (1 : Int32)), .val (.ref t), .val (.ref u), .val (.int (0 : Int32)), .val (.int (2 : Int32)), .val (.int (0 : Int32))] [(.int r121)])
  obtain ⟨hr121, hc121⟩ | ⟨hr121, hc121⟩ := hr121
  ·
    refine P1.ifNo X121.here hx (hb hby d19_73) ((if0 _ _).trans (tlt (hr121 : r121 < (0 : Int32))).2.1) ?_
    refine P1.iconst X121.here hx (1 : Int32) (hb hby d19_76) rfl ?_
    refine P1.goto X121.here hx 81 (hb hby d19_77) (by decide) (by decide) ?_
    refine Goes.retN X121 hx Bd.notSynchronized (t := .boolean) Bd.returns (by simp) (hb hby d19_81) (ok rfl) (ok rfl) ?_
    rw [hE121]
    exact ⟨by simp [nar, hc121], N121, rfl⟩
  ·
    refine P1.ifYes X121.here hx 80 (hb hby d19_73) ((if0 _ _).trans (flt (hr121 : ¬ (r121 < (0 : Int32)))).2.1) (by decide) (by decide) ?_
    refine P1.iconst X121.here hx (0 : Int32) (hb hby d19_80) rfl ?_
    refine Goes.retN X121 hx Bd.notSynchronized (t := .boolean) Bd.returns (by simp) (hb hby d19_81) (ok rfl) (ok rfl) ?_
    rw [hE121]
    exact ⟨by simp [nar, hc121], N121, rfl⟩
theorem efSw2 (x y : Addr) (m : MethodId) : entryFrame m #[(.ref x), (.ref y), (.int (2 : Int32))] 8 = mkF m 0 #[.val (.ref x), .val (.ref y), .val (.int (2 : Int32)), .unset, .unset, .unset, .unset, .unset] [] := by first | (simp [entryFrame, mkF, argsToLocals, Value.category]; done) | rfl
def QSw2 (Z : State) (x t : Addr) (kt : ClassId) (b0 b1 b2 b3 b4 b5 : Int32) (y u : Addr) (ku : ClassId) (zc : Int32) (fm : Value) (h0 : Heap) (n0 : Nat) (v : Option Value) (h : Heap) (L : List Loc) : Prop := v = some (.int (if b2 = (47 : Int32) ∧ b3 = (47 : Int32) then 1 else 0)) ∧ Fr n0 L ∧ h = h0
set_option maxRecDepth 65536 in
set_option maxHeartbeats 40000000 in
theorem rmSw2 (l : Launch) (Z : State) (a0 : Array Value) (hw : ∀ d ∈ tables_1, d.before a0 Z = true) (ws : List Jvm.Cond) (x t : Addr) (kt : ClassId) (b0 b1 b2 b3 b4 b5 : Int32) (y u : Addr) (ku : ClassId) (zc : Int32) (fm : Value) (h0 : Heap) (n0 : Nat) (Z0 : n0 ≤ h0.size) (O0 : Old Z n0 h0) (S_CS : Sta Z Z.heap "java/lang/String" "COMPACT_STRINGS" "Z" (.int zc)) (hzc : ¬ zc = 0) (S_FM : Sta Z Z.heap "jdk/internal/util/Preconditions" "SIOOBE_FORMATTER" "Ljava/util/function/BiFunction;" fm) (hfm : fm.isRef = true) (Ex : Exa Z h0 x "java/lang/String") (Fv : Fld Z h0 x "java/lang/String" "value" "[B" (.ref t)) (Fc : Fld Z h0 x "java/lang/String" "coder" "B" (.int (0 : Int32))) (Vt : Arv Z h0 t kt .byte (6 : Int32) [(.int b0), (.int b1), (.int b2), (.int b3), (.int b4), (.int b5)] (.int (0 : Int32))) (Ey : Exa Z h0 y "java/lang/String") (Vy : Fld Z h0 y "java/lang/String" "value" "[B" (.ref u)) (Cy : Fld Z h0 y "java/lang/String" "coder" "B" (.int (0 : Int32))) (Ku : Arv Z h0 u ku .byte (2 : Int32) [(.int (47 : Int32)), (.int (47 : Int32))] (.int (0 : Int32))) :
    OwnLaw l y11_ jdk_42_method_75_code 8 (some .boolean) ws (rR 2 0 0 27) #[(.ref x), (.ref y), (.int (2 : Int32))] Z h0 (QSw2 Z x t kt b0 b1 b2 b3 b4 b5 y u ku zc fm h0 n0) := by
  refine own_enter (plainFor_of_name pn_java_lang_String) (efSw2 x y) ?_
  intro p e s m below meth c s₁ Bd hx hby hml hZ hown X0 e0
  have N0 := Fr.nil n0
  have K0 : Keep h0 h0 [] := Keep.refl _ _
  refine P1.iloadN X0.here hx (hb hby d19_0) rfl ?_
  refine P1.ifNo X0.here hx (hb hby d19_1) ((if0 _ _).trans (flt (by decide : ¬ ((2 : Int32) < (0 : Int32)))).1) ?_
  refine P1.iloadN X0.here hx (hb hby d19_4) rfl ?_
  refine P1.aloadN X0.here hx (hb hby d19_5) rfl rfl ?_
  refine Goes.callV X0 hx hZ (y := y10_) (z := y10_) hown (mvT hZ (own_w hw 53 rfl)) (mvT hZ (own_w hw 54 rfl)) (notFace_of_selects (args := #[]) (mvT hZ (own_w hw 56 rfl))) (mvT hZ (own_w hw 56 rfl)) (mvT hZ (own_w hw 55 rfl)) (by decide) (kc' := 0) (ks' := 0) (backOf (W := 1) (rmLen6 l Z a0 hw [] x t kt [(.int b0), (.int b1), (.int b2), (.int b3), (.int b4), (.int b5)] zc fm h0 n0 Z0 O0 S_CS hzc S_FM hfm Ex Fv Fc Vt) hZ (own_w hw 57 rfl) (own_w hw 7 rfl) (ok rfl) (ok rfl)) (b := x) e0 Ex (g := (mkF m 6 #[.val (.ref x), .val (.ref y), .val (.int (2 : Int32)), .unset, .unset, .unset, .unset, .unset] [(.ref x), (.int (2 : Int32))])) rfl (by rw [hml]; rfl) (argsL := []) (rest := [(.int (2 : Int32))]) (lenOf pd_341 rfl) rfl (by show 2 * 0 + _ ≤ _; exact Nat.le_of_eq rfl) (hb hby d19_6) rfl (ok rfl) (ok rfl) ?_
  intro v122 T122 L122 q122 X122
  obtain ⟨rfl, N122q, hE122⟩ := q122
  have N122 := Fr.app N0 N122q
  show Goes p e below _ T122 (mkF m 9 #[.val (.ref x), .val (.ref y), .val (.int (2 : Int32)), .unset, .unset, .unset, .unset, .unset] [(.int (6 : Int32)), (.int (2 : Int32))])
  refine P1.aloadN X122.here hx (hb hby d19_9) rfl rfl ?_
  refine Goes.callV X122 hx hZ (y := y10_) (z := y10_) hown (mvT hZ (own_w hw 53 rfl)) (mvT hZ (own_w hw 54 rfl)) (notFace_of_selects (args := #[]) (mvT hZ (own_w hw 56 rfl))) (mvT hZ (own_w hw 56 rfl)) (mvT hZ (own_w hw 55 rfl)) (by decide) (kc' := 0) (ks' := 0) (backOf (W := 2) (rmLen2 l Z a0 hw [] y u ku [(.int (47 : Int32)), (.int (47 : Int32))] zc fm h0 n0 Z0 O0 S_CS hzc S_FM hfm Ey Vy Cy Ku) hZ (own_w hw 57 rfl) (own_w hw 7 rfl) (ok rfl) (ok rfl)) (b := y) hE122 Ey (g := (mkF m 10 #[.val (.ref x), .val (.ref y), .val (.int (2 : Int32)), .unset, .unset, .unset, .unset, .unset] [(.ref y), (.int (6 : Int32)), (.int (2 : Int32))])) rfl (by rw [hml]; rfl) (argsL := []) (rest := [(.int (6 : Int32)), (.int (2 : Int32))]) (lenOf pd_341 rfl) rfl (by show 2 * 0 + _ ≤ _; exact Nat.le_of_eq rfl) (hb hby d19_10) rfl (ok rfl) (ok rfl) ?_
  intro v123 T123 L123 q123 X123
  obtain ⟨rfl, N123q, hE123⟩ := q123
  have N123 := Fr.app N122 N123q
  show Goes p e below _ T123 (mkF m 13 #[.val (.ref x), .val (.ref y), .val (.int (2 : Int32)), .unset, .unset, .unset, .unset, .unset] [(.int (2 : Int32)), (.int (6 : Int32)), (.int (2 : Int32))])
  refine P1.isub X123.here hx (hb hby d19_13) ?_
  have rw124 : ((6 : Int32) - (2 : Int32)) = (4 : Int32) := by decide
  rw [rw124]
  refine P1.icmpYes X123.here hx 19 (hb hby d19_14) (flt (by decide : ¬ ((4 : Int32) < (2 : Int32)))).2.2.2 (by decide) (by decide) ?_
  refine P1.aloadN X123.here hx (hb hby d19_19) rfl rfl ?_
  obtain ⟨T125, X125, e125, st125⟩ := getF X123 hx hZ hown (host := "") (Or.inl (own_w hw 32 rfl)) Via.refl hE123 Fv (g := (mkF m 20 #[.val (.ref x), .val (.ref y), .val (.int (2 : Int32)), .unset, .unset, .unset, .unset, .unset] [(.ref x)])) rfl rfl (hb hby d19_20)
  refine Goes.step (T' := T125) (g' := (mkF m 23 #[.val (.ref x), .val (.ref y), .val (.int (2 : Int32)), .unset, .unset, .unset, .unset, .unset] [(.ref t)])) st125 ?_
  refine P1.astoreN X125.here hx #[.val (.ref x), .val (.ref y), .val (.int (2 : Int32)), .val (.ref t), .unset, .unset, .unset, .unset] (hb hby d19_23) rfl rfl ?_
  refine P1.aloadN X125.here hx (hb hby d19_24) rfl rfl ?_
  obtain ⟨T126, X126, e126, st126⟩ := getF X125 hx hZ hown (host := "") (Or.inl (own_w hw 32 rfl)) Via.refl e125 Vy (g := (mkF m 25 #[.val (.ref x), .val (.ref y), .val (.int (2 : Int32)), .val (.ref t), .unset, .unset, .unset, .unset] [(.ref y)])) rfl rfl (hb hby d19_25)
  refine Goes.step (T' := T126) (g' := (mkF m 28 #[.val (.ref x), .val (.ref y), .val (.int (2 : Int32)), .val (.ref t), .unset, .unset, .unset, .unset] [(.ref u)])) st126 ?_
  refine P1.astore X126.here hx #[.val (.ref x), .val (.ref y), .val (.int (2 : Int32)), .val (.ref t), .val (.ref u), .unset, .unset, .unset] (hb hby d19_28) rfl rfl ?_
  refine P1.iconst X126.here hx (0 : Int32) (hb hby d19_30) rfl ?_
  refine P1.istore X126.here hx #[.val (.ref x), .val (.ref y), .val (.int (2 : Int32)), .val (.ref t), .val (.ref u), .val (.int (0 : Int32)), .unset, .unset] (hb hby d19_31) rfl ?_
  refine P1.aload X126.here hx (hb hby d19_33) rfl rfl ?_
  obtain ⟨cl127, Ar127, qk127, sl127, nz127, ha127, fi127⟩ := id Ku
  have al128 : cl127.slots.size.toInt32 = (2 : Int32) := len_of sl127 nz127
  refine Goes.step (T' := T126) (g' := (mkF m 36 #[.val (.ref x), .val (.ref y), .val (.int (2 : Int32)), .val (.ref t), .val (.ref u), .val (.int (0 : Int32)), .unset, .unset] [(.int (2 : Int32))])) (fun t_ k_ => X126.arraylength hx (by rw [e126]; exact Ar127.1) (State.isArrayOf_alike hZ.alike Ar127.2.1) (g := (mkF m 35 #[.val (.ref x), .val (.ref y), .val (.int (2 : Int32)), .val (.ref t), .val (.ref u), .val (.int (0 : Int32)), .unset, .unset] [(.ref u)])) rfl rfl (hb hby d19_35) _ <| by rw [al128]; exact k_) ?_
  refine P1.istore X126.here hx #[.val (.ref x), .val (.ref y), .val (.int (2 : Int32)), .val (.ref t), .val (.ref u), .val (.int (0 : Int32)), .val (.int (2 : Int32)), .unset] (hb hby d19_36) rfl ?_
  refine P1.aloadN X126.here hx (hb hby d19_38) rfl rfl ?_
  refine Goes.callV X126 hx hZ (y := y6_) (z := y6_) hown (mvT hZ (own_w hw 58 rfl)) (mvT hZ (own_w hw 59 rfl)) (notFace_of_selects (args := #[]) (mvT hZ (own_w hw 61 rfl))) (mvT hZ (own_w hw 61 rfl)) (mvT hZ (own_w hw 60 rfl)) (by decide) (kc' := 0) (ks' := 0) (backOf (W := 0) (rmCod l Z a0 hw [] x zc fm h0 n0 Z0 O0 S_CS hzc S_FM hfm Fc) hZ (own_w hw 62 rfl) (own_w hw 7 rfl) (ok rfl) (ok rfl)) (b := x) e126 Ex (g := (mkF m 39 #[.val (.ref x), .val (.ref y), .val (.int (2 : Int32)), .val (.ref t), .val (.ref u), .val (.int (0 : Int32)), .val (.int (2 : Int32)), .unset] [(.ref x)])) rfl (by rw [hml]; rfl) (argsL := []) (rest := []) (lenOf pd_320 rfl) rfl (by show 2 * 0 + _ ≤ _; exact Nat.le_of_eq rfl) (hb hby d19_39) rfl (ok rfl) (ok rfl) ?_
  intro v129 T129 L129 q129 X129
  obtain ⟨rfl, N129q, hE129⟩ := q129
  have N129 := Fr.app N123 N129q
  show Goes p e below _ T129 (mkF m 42 #[.val (.ref x), .val (.ref y), .val (.int (2 : Int32)), .val (.ref t), .val (.ref u), .val (.int (0 : Int32)), .val (.int (2 : Int32)), .unset] [(.int (0 : Int32))])
  refine P1.istore X129.here hx #[.val (.ref x), .val (.ref y), .val (.int (2 : Int32)), .val (.ref t), .val (.ref u), .val (.int (0 : Int32)), .val (.int (2 : Int32)), .val (.int (0 : Int32))] (hb hby d19_42) rfl ?_
  refine P1.iload X129.here hx (hb hby d19_44) rfl ?_
  refine P1.aloadN X129.here hx (hb hby d19_46) rfl rfl ?_
  refine Goes.callV X129 hx hZ (y := y6_) (z := y6_) hown (mvT hZ (own_w hw 58 rfl)) (mvT hZ (own_w hw 59 rfl)) (notFace_of_selects (args := #[]) (mvT hZ (own_w hw 61 rfl))) (mvT hZ (own_w hw 61 rfl)) (mvT hZ (own_w hw 60 rfl)) (by decide) (kc' := 0) (ks' := 0) (backOf (W := 1) (rmCod l Z a0 hw [] y zc fm h0 n0 Z0 O0 S_CS hzc S_FM hfm Cy) hZ (own_w hw 62 rfl) (own_w hw 7 rfl) (ok rfl) (ok rfl)) (b := y) hE129 Ey (g := (mkF m 47 #[.val (.ref x), .val (.ref y), .val (.int (2 : Int32)), .val (.ref t), .val (.ref u), .val (.int (0 : Int32)), .val (.int (2 : Int32)), .val (.int (0 : Int32))] [(.ref y), (.int (0 : Int32))])) rfl (by rw [hml]; rfl) (argsL := []) (rest := [(.int (0 : Int32))]) (lenOf pd_320 rfl) rfl (by show 2 * 0 + _ ≤ _; exact Nat.le_of_eq rfl) (hb hby d19_47) rfl (ok rfl) (ok rfl) ?_
  intro v130 T130 L130 q130 X130
  obtain ⟨rfl, N130q, hE130⟩ := q130
  have N130 := Fr.app N129 N130q
  show Goes p e below _ T130 (mkF m 50 #[.val (.ref x), .val (.ref y), .val (.int (2 : Int32)), .val (.ref t), .val (.ref u), .val (.int (0 : Int32)), .val (.int (2 : Int32)), .val (.int (0 : Int32))] [(.int (0 : Int32)), (.int (0 : Int32))])
  refine P1.icmpNo X130.here hx (hb hby d19_50) (teq (by decide : (0 : Int32) = (0 : Int32))).2 ?_
  refine P1.iload X130.here hx (hb hby d19_53) rfl ?_
  refine P1.iconst X130.here hx (1 : Int32) (hb hby d19_55) rfl ?_
  refine P1.icmpYes X130.here hx 63 (hb hby d19_56) (feq (by decide : ¬ ((0 : Int32) = (1 : Int32)))).2 (by decide) (by decide) ?_
  refine P1.aloadN X130.here hx (hb hby d19_63) rfl rfl ?_
  refine P1.iloadN X130.here hx (hb hby d19_64) rfl ?_
  refine P1.aload X130.here hx (hb hby d19_65) rfl rfl ?_
  refine P1.iconst X130.here hx (0 : Int32) (hb hby d19_67) rfl ?_
  refine P1.iload X130.here hx (hb hby d19_68) rfl ?_
  refine P1.callS X130 hx hZ hown (own_w hw 88 rfl) (own_w hw 89 rfl) (own_w hw 90 rfl) (own_w hw 91 rfl) (by decide) (rmMm2 l Z a0 hw [] t kt u ku b0 b1 b2 b3 b4 b5 h0 n0 Z0 O0 Vt Ku) hml [(.ref t), (.int (2 : Int32)), (.ref u), (.int (0 : Int32)), (.int (2 : Int32))] [] (lenOf pd_3757 rfl) rfl rfl (hb hby d19_70) rfl hE130 (ok rfl) (ok rfl) (ok rfl) (ok rfl) ?_
  intro v131 T131 L131 q131 X131
  obtain ⟨r131, rfl, hr131, N131q, hE131⟩ := q131
  have N131 := Fr.app N130 N131q
  show Goes p e below _ T131 (mkF m 73 #[.val (.ref x), .val (.ref y), .val (.int (2 : Int32)), .val (.ref t), .val (.ref u), .val (.int (0 : Int32)), .val (.int (2 : Int32)), .val (.int (0 : Int32))] [(.int r131)])
  obtain ⟨hr131, hc131⟩ | ⟨hr131, hc131⟩ := hr131
  ·
    refine P1.ifNo X131.here hx (hb hby d19_73) ((if0 _ _).trans (tlt (hr131 : r131 < (0 : Int32))).2.1) ?_
    refine P1.iconst X131.here hx (1 : Int32) (hb hby d19_76) rfl ?_
    refine P1.goto X131.here hx 81 (hb hby d19_77) (by decide) (by decide) ?_
    refine Goes.retN X131 hx Bd.notSynchronized (t := .boolean) Bd.returns (by simp) (hb hby d19_81) (ok rfl) (ok rfl) ?_
    rw [hE131]
    exact ⟨by simp [nar, hc131], N131, rfl⟩
  ·
    refine P1.ifYes X131.here hx 80 (hb hby d19_73) ((if0 _ _).trans (flt (hr131 : ¬ (r131 < (0 : Int32)))).2.1) (by decide) (by decide) ?_
    refine P1.iconst X131.here hx (0 : Int32) (hb hby d19_80) rfl ?_
    refine Goes.retN X131 hx Bd.notSynchronized (t := .boolean) Bd.returns (by simp) (hb hby d19_81) (ok rfl) (ok rfl) ?_
    rw [hE131]
    exact ⟨by simp [nar, hc131], N131, rfl⟩
theorem efSw3 (x y : Addr) (m : MethodId) : entryFrame m #[(.ref x), (.ref y), (.int (3 : Int32))] 8 = mkF m 0 #[.val (.ref x), .val (.ref y), .val (.int (3 : Int32)), .unset, .unset, .unset, .unset, .unset] [] := by first | (simp [entryFrame, mkF, argsToLocals, Value.category]; done) | rfl
def QSw3 (Z : State) (x t : Addr) (kt : ClassId) (b0 b1 b2 b3 b4 b5 : Int32) (y u : Addr) (ku : ClassId) (zc : Int32) (fm : Value) (h0 : Heap) (n0 : Nat) (v : Option Value) (h : Heap) (L : List Loc) : Prop := v = some (.int (if b3 = (47 : Int32) ∧ b4 = (47 : Int32) then 1 else 0)) ∧ Fr n0 L ∧ h = h0
set_option maxRecDepth 65536 in
set_option maxHeartbeats 40000000 in
theorem rmSw3 (l : Launch) (Z : State) (a0 : Array Value) (hw : ∀ d ∈ tables_1, d.before a0 Z = true) (ws : List Jvm.Cond) (x t : Addr) (kt : ClassId) (b0 b1 b2 b3 b4 b5 : Int32) (y u : Addr) (ku : ClassId) (zc : Int32) (fm : Value) (h0 : Heap) (n0 : Nat) (Z0 : n0 ≤ h0.size) (O0 : Old Z n0 h0) (S_CS : Sta Z Z.heap "java/lang/String" "COMPACT_STRINGS" "Z" (.int zc)) (hzc : ¬ zc = 0) (S_FM : Sta Z Z.heap "jdk/internal/util/Preconditions" "SIOOBE_FORMATTER" "Ljava/util/function/BiFunction;" fm) (hfm : fm.isRef = true) (Ex : Exa Z h0 x "java/lang/String") (Fv : Fld Z h0 x "java/lang/String" "value" "[B" (.ref t)) (Fc : Fld Z h0 x "java/lang/String" "coder" "B" (.int (0 : Int32))) (Vt : Arv Z h0 t kt .byte (6 : Int32) [(.int b0), (.int b1), (.int b2), (.int b3), (.int b4), (.int b5)] (.int (0 : Int32))) (Ey : Exa Z h0 y "java/lang/String") (Vy : Fld Z h0 y "java/lang/String" "value" "[B" (.ref u)) (Cy : Fld Z h0 y "java/lang/String" "coder" "B" (.int (0 : Int32))) (Ku : Arv Z h0 u ku .byte (2 : Int32) [(.int (47 : Int32)), (.int (47 : Int32))] (.int (0 : Int32))) :
    OwnLaw l y11_ jdk_42_method_75_code 8 (some .boolean) ws (rR 2 0 0 27) #[(.ref x), (.ref y), (.int (3 : Int32))] Z h0 (QSw3 Z x t kt b0 b1 b2 b3 b4 b5 y u ku zc fm h0 n0) := by
  refine own_enter (plainFor_of_name pn_java_lang_String) (efSw3 x y) ?_
  intro p e s m below meth c s₁ Bd hx hby hml hZ hown X0 e0
  have N0 := Fr.nil n0
  have K0 : Keep h0 h0 [] := Keep.refl _ _
  refine P1.iloadN X0.here hx (hb hby d19_0) rfl ?_
  refine P1.ifNo X0.here hx (hb hby d19_1) ((if0 _ _).trans (flt (by decide : ¬ ((3 : Int32) < (0 : Int32)))).1) ?_
  refine P1.iloadN X0.here hx (hb hby d19_4) rfl ?_
  refine P1.aloadN X0.here hx (hb hby d19_5) rfl rfl ?_
  refine Goes.callV X0 hx hZ (y := y10_) (z := y10_) hown (mvT hZ (own_w hw 53 rfl)) (mvT hZ (own_w hw 54 rfl)) (notFace_of_selects (args := #[]) (mvT hZ (own_w hw 56 rfl))) (mvT hZ (own_w hw 56 rfl)) (mvT hZ (own_w hw 55 rfl)) (by decide) (kc' := 0) (ks' := 0) (backOf (W := 1) (rmLen6 l Z a0 hw [] x t kt [(.int b0), (.int b1), (.int b2), (.int b3), (.int b4), (.int b5)] zc fm h0 n0 Z0 O0 S_CS hzc S_FM hfm Ex Fv Fc Vt) hZ (own_w hw 57 rfl) (own_w hw 7 rfl) (ok rfl) (ok rfl)) (b := x) e0 Ex (g := (mkF m 6 #[.val (.ref x), .val (.ref y), .val (.int (3 : Int32)), .unset, .unset, .unset, .unset, .unset] [(.ref x), (.int (3 : Int32))])) rfl (by rw [hml]; rfl) (argsL := []) (rest := [(.int (3 : Int32))]) (lenOf pd_341 rfl) rfl (by show 2 * 0 + _ ≤ _; exact Nat.le_of_eq rfl) (hb hby d19_6) rfl (ok rfl) (ok rfl) ?_
  intro v132 T132 L132 q132 X132
  obtain ⟨rfl, N132q, hE132⟩ := q132
  have N132 := Fr.app N0 N132q
  show Goes p e below _ T132 (mkF m 9 #[.val (.ref x), .val (.ref y), .val (.int (3 : Int32)), .unset, .unset, .unset, .unset, .unset] [(.int (6 : Int32)), (.int (3 : Int32))])
  refine P1.aloadN X132.here hx (hb hby d19_9) rfl rfl ?_
  refine Goes.callV X132 hx hZ (y := y10_) (z := y10_) hown (mvT hZ (own_w hw 53 rfl)) (mvT hZ (own_w hw 54 rfl)) (notFace_of_selects (args := #[]) (mvT hZ (own_w hw 56 rfl))) (mvT hZ (own_w hw 56 rfl)) (mvT hZ (own_w hw 55 rfl)) (by decide) (kc' := 0) (ks' := 0) (backOf (W := 2) (rmLen2 l Z a0 hw [] y u ku [(.int (47 : Int32)), (.int (47 : Int32))] zc fm h0 n0 Z0 O0 S_CS hzc S_FM hfm Ey Vy Cy Ku) hZ (own_w hw 57 rfl) (own_w hw 7 rfl) (ok rfl) (ok rfl)) (b := y) hE132 Ey (g := (mkF m 10 #[.val (.ref x), .val (.ref y), .val (.int (3 : Int32)), .unset, .unset, .unset, .unset, .unset] [(.ref y), (.int (6 : Int32)), (.int (3 : Int32))])) rfl (by rw [hml]; rfl) (argsL := []) (rest := [(.int (6 : Int32)), (.int (3 : Int32))]) (lenOf pd_341 rfl) rfl (by show 2 * 0 + _ ≤ _; exact Nat.le_of_eq rfl) (hb hby d19_10) rfl (ok rfl) (ok rfl) ?_
  intro v133 T133 L133 q133 X133
  obtain ⟨rfl, N133q, hE133⟩ := q133
  have N133 := Fr.app N132 N133q
  show Goes p e below _ T133 (mkF m 13 #[.val (.ref x), .val (.ref y), .val (.int (3 : Int32)), .unset, .unset, .unset, .unset, .unset] [(.int (2 : Int32)), (.int (6 : Int32)), (.int (3 : Int32))])
  refine P1.isub X133.here hx (hb hby d19_13) ?_
  have rw134 : ((6 : Int32) - (2 : Int32)) = (4 : Int32) := by decide
  rw [rw134]
  refine P1.icmpYes X133.here hx 19 (hb hby d19_14) (flt (by decide : ¬ ((4 : Int32) < (3 : Int32)))).2.2.2 (by decide) (by decide) ?_
  refine P1.aloadN X133.here hx (hb hby d19_19) rfl rfl ?_
  obtain ⟨T135, X135, e135, st135⟩ := getF X133 hx hZ hown (host := "") (Or.inl (own_w hw 32 rfl)) Via.refl hE133 Fv (g := (mkF m 20 #[.val (.ref x), .val (.ref y), .val (.int (3 : Int32)), .unset, .unset, .unset, .unset, .unset] [(.ref x)])) rfl rfl (hb hby d19_20)
  refine Goes.step (T' := T135) (g' := (mkF m 23 #[.val (.ref x), .val (.ref y), .val (.int (3 : Int32)), .unset, .unset, .unset, .unset, .unset] [(.ref t)])) st135 ?_
  refine P1.astoreN X135.here hx #[.val (.ref x), .val (.ref y), .val (.int (3 : Int32)), .val (.ref t), .unset, .unset, .unset, .unset] (hb hby d19_23) rfl rfl ?_
  refine P1.aloadN X135.here hx (hb hby d19_24) rfl rfl ?_
  obtain ⟨T136, X136, e136, st136⟩ := getF X135 hx hZ hown (host := "") (Or.inl (own_w hw 32 rfl)) Via.refl e135 Vy (g := (mkF m 25 #[.val (.ref x), .val (.ref y), .val (.int (3 : Int32)), .val (.ref t), .unset, .unset, .unset, .unset] [(.ref y)])) rfl rfl (hb hby d19_25)
  refine Goes.step (T' := T136) (g' := (mkF m 28 #[.val (.ref x), .val (.ref y), .val (.int (3 : Int32)), .val (.ref t), .unset, .unset, .unset, .unset] [(.ref u)])) st136 ?_
  refine P1.astore X136.here hx #[.val (.ref x), .val (.ref y), .val (.int (3 : Int32)), .val (.ref t), .val (.ref u), .unset, .unset, .unset] (hb hby d19_28) rfl rfl ?_
  refine P1.iconst X136.here hx (0 : Int32) (hb hby d19_30) rfl ?_
  refine P1.istore X136.here hx #[.val (.ref x), .val (.ref y), .val (.int (3 : Int32)), .val (.ref t), .val (.ref u), .val (.int (0 : Int32)), .unset, .unset] (hb hby d19_31) rfl ?_
  refine P1.aload X136.here hx (hb hby d19_33) rfl rfl ?_
  obtain ⟨cl137, Ar137, qk137, sl137, nz137, ha137, fi137⟩ := id Ku
  have al138 : cl137.slots.size.toInt32 = (2 : Int32) := len_of sl137 nz137
  refine Goes.step (T' := T136) (g' := (mkF m 36 #[.val (.ref x), .val (.ref y), .val (.int (3 : Int32)), .val (.ref t), .val (.ref u), .val (.int (0 : Int32)), .unset, .unset] [(.int (2 : Int32))])) (fun t_ k_ => X136.arraylength hx (by rw [e136]; exact Ar137.1) (State.isArrayOf_alike hZ.alike Ar137.2.1) (g := (mkF m 35 #[.val (.ref x), .val (.ref y), .val (.int (3 : Int32)), .val (.ref t), .val (.ref u), .val (.int (0 : Int32)), .unset, .unset] [(.ref u)])) rfl rfl (hb hby d19_35) _ <| by rw [al138]; exact k_) ?_
  refine P1.istore X136.here hx #[.val (.ref x), .val (.ref y), .val (.int (3 : Int32)), .val (.ref t), .val (.ref u), .val (.int (0 : Int32)), .val (.int (2 : Int32)), .unset] (hb hby d19_36) rfl ?_
  refine P1.aloadN X136.here hx (hb hby d19_38) rfl rfl ?_
  refine Goes.callV X136 hx hZ (y := y6_) (z := y6_) hown (mvT hZ (own_w hw 58 rfl)) (mvT hZ (own_w hw 59 rfl)) (notFace_of_selects (args := #[]) (mvT hZ (own_w hw 61 rfl))) (mvT hZ (own_w hw 61 rfl)) (mvT hZ (own_w hw 60 rfl)) (by decide) (kc' := 0) (ks' := 0) (backOf (W := 0) (rmCod l Z a0 hw [] x zc fm h0 n0 Z0 O0 S_CS hzc S_FM hfm Fc) hZ (own_w hw 62 rfl) (own_w hw 7 rfl) (ok rfl) (ok rfl)) (b := x) e136 Ex (g := (mkF m 39 #[.val (.ref x), .val (.ref y), .val (.int (3 : Int32)), .val (.ref t), .val (.ref u), .val (.int (0 : Int32)), .val (.int (2 : Int32)), .unset] [(.ref x)])) rfl (by rw [hml]; rfl) (argsL := []) (rest := []) (lenOf pd_320 rfl) rfl (by show 2 * 0 + _ ≤ _; exact Nat.le_of_eq rfl) (hb hby d19_39) rfl (ok rfl) (ok rfl) ?_
  intro v139 T139 L139 q139 X139
  obtain ⟨rfl, N139q, hE139⟩ := q139
  have N139 := Fr.app N133 N139q
  show Goes p e below _ T139 (mkF m 42 #[.val (.ref x), .val (.ref y), .val (.int (3 : Int32)), .val (.ref t), .val (.ref u), .val (.int (0 : Int32)), .val (.int (2 : Int32)), .unset] [(.int (0 : Int32))])
  refine P1.istore X139.here hx #[.val (.ref x), .val (.ref y), .val (.int (3 : Int32)), .val (.ref t), .val (.ref u), .val (.int (0 : Int32)), .val (.int (2 : Int32)), .val (.int (0 : Int32))] (hb hby d19_42) rfl ?_
  refine P1.iload X139.here hx (hb hby d19_44) rfl ?_
  refine P1.aloadN X139.here hx (hb hby d19_46) rfl rfl ?_
  refine Goes.callV X139 hx hZ (y := y6_) (z := y6_) hown (mvT hZ (own_w hw 58 rfl)) (mvT hZ (own_w hw 59 rfl)) (notFace_of_selects (args := #[]) (mvT hZ (own_w hw 61 rfl))) (mvT hZ (own_w hw 61 rfl)) (mvT hZ (own_w hw 60 rfl)) (by decide) (kc' := 0) (ks' := 0) (backOf (W := 1) (rmCod l Z a0 hw [] y zc fm h0 n0 Z0 O0 S_CS hzc S_FM hfm Cy) hZ (own_w hw 62 rfl) (own_w hw 7 rfl) (ok rfl) (ok rfl)) (b := y) hE139 Ey (g := (mkF m 47 #[.val (.ref x), .val (.ref y), .val (.int (3 : Int32)), .val (.ref t), .val (.ref u), .val (.int (0 : Int32)), .val (.int (2 : Int32)), .val (.int (0 : Int32))] [(.ref y), (.int (0 : Int32))])) rfl (by rw [hml]; rfl) (argsL := []) (rest := [(.int (0 : Int32))]) (lenOf pd_320 rfl) rfl (by show 2 * 0 + _ ≤ _; exact Nat.le_of_eq rfl) (hb hby d19_47) rfl (ok rfl) (ok rfl) ?_
  intro v140 T140 L140 q140 X140
  obtain ⟨rfl, N140q, hE140⟩ := q140
  have N140 := Fr.app N139 N140q
  show Goes p e below _ T140 (mkF m 50 #[.val (.ref x), .val (.ref y), .val (.int (3 : Int32)), .val (.ref t), .val (.ref u), .val (.int (0 : Int32)), .val (.int (2 : Int32)), .val (.int (0 : Int32))] [(.int (0 : Int32)), (.int (0 : Int32))])
  refine P1.icmpNo X140.here hx (hb hby d19_50) (teq (by decide : (0 : Int32) = (0 : Int32))).2 ?_
  refine P1.iload X140.here hx (hb hby d19_53) rfl ?_
  refine P1.iconst X140.here hx (1 : Int32) (hb hby d19_55) rfl ?_
  refine P1.icmpYes X140.here hx 63 (hb hby d19_56) (feq (by decide : ¬ ((0 : Int32) = (1 : Int32)))).2 (by decide) (by decide) ?_
  refine P1.aloadN X140.here hx (hb hby d19_63) rfl rfl ?_
  refine P1.iloadN X140.here hx (hb hby d19_64) rfl ?_
  refine P1.aload X140.here hx (hb hby d19_65) rfl rfl ?_
  refine P1.iconst X140.here hx (0 : Int32) (hb hby d19_67) rfl ?_
  refine P1.iload X140.here hx (hb hby d19_68) rfl ?_
  refine P1.callS X140 hx hZ hown (own_w hw 88 rfl) (own_w hw 89 rfl) (own_w hw 90 rfl) (own_w hw 91 rfl) (by decide) (rmMm3 l Z a0 hw [] t kt u ku b0 b1 b2 b3 b4 b5 h0 n0 Z0 O0 Vt Ku) hml [(.ref t), (.int (3 : Int32)), (.ref u), (.int (0 : Int32)), (.int (2 : Int32))] [] (lenOf pd_3757 rfl) rfl rfl (hb hby d19_70) rfl hE140 (ok rfl) (ok rfl) (ok rfl) (ok rfl) ?_
  intro v141 T141 L141 q141 X141
  obtain ⟨r141, rfl, hr141, N141q, hE141⟩ := q141
  have N141 := Fr.app N140 N141q
  show Goes p e below _ T141 (mkF m 73 #[.val (.ref x), .val (.ref y), .val (.int (3 : Int32)), .val (.ref t), .val (.ref u), .val (.int (0 : Int32)), .val (.int (2 : Int32)), .val (.int (0 : Int32))] [(.int r141)])
  obtain ⟨hr141, hc141⟩ | ⟨hr141, hc141⟩ := hr141
  ·
    refine P1.ifNo X141.here hx (hb hby d19_73) ((if0 _ _).trans (tlt (hr141 : r141 < (0 : Int32))).2.1) ?_
    refine P1.iconst X141.here hx (1 : Int32) (hb hby d19_76) rfl ?_
    refine P1.goto X141.here hx 81 (hb hby d19_77) (by decide) (by decide) ?_
    refine Goes.retN X141 hx Bd.notSynchronized (t := .boolean) Bd.returns (by simp) (hb hby d19_81) (ok rfl) (ok rfl) ?_
    rw [hE141]
    exact ⟨by simp [nar, hc141], N141, rfl⟩
  ·
    refine P1.ifYes X141.here hx 80 (hb hby d19_73) ((if0 _ _).trans (flt (hr141 : ¬ (r141 < (0 : Int32)))).2.1) (by decide) (by decide) ?_
    refine P1.iconst X141.here hx (0 : Int32) (hb hby d19_80) rfl ?_
    refine Goes.retN X141 hx Bd.notSynchronized (t := .boolean) Bd.returns (by simp) (hb hby d19_81) (ok rfl) (ok rfl) ?_
    rw [hE141]
    exact ⟨by simp [nar, hc141], N141, rfl⟩
theorem efSw4 (x y : Addr) (m : MethodId) : entryFrame m #[(.ref x), (.ref y), (.int (4 : Int32))] 8 = mkF m 0 #[.val (.ref x), .val (.ref y), .val (.int (4 : Int32)), .unset, .unset, .unset, .unset, .unset] [] := by first | (simp [entryFrame, mkF, argsToLocals, Value.category]; done) | rfl
def QSw4 (Z : State) (x t : Addr) (kt : ClassId) (b0 b1 b2 b3 b4 b5 : Int32) (y u : Addr) (ku : ClassId) (zc : Int32) (fm : Value) (h0 : Heap) (n0 : Nat) (v : Option Value) (h : Heap) (L : List Loc) : Prop := v = some (.int (if b4 = (47 : Int32) ∧ b5 = (47 : Int32) then 1 else 0)) ∧ Fr n0 L ∧ h = h0
set_option maxRecDepth 65536 in
set_option maxHeartbeats 40000000 in
theorem rmSw4 (l : Launch) (Z : State) (a0 : Array Value) (hw : ∀ d ∈ tables_1, d.before a0 Z = true) (ws : List Jvm.Cond) (x t : Addr) (kt : ClassId) (b0 b1 b2 b3 b4 b5 : Int32) (y u : Addr) (ku : ClassId) (zc : Int32) (fm : Value) (h0 : Heap) (n0 : Nat) (Z0 : n0 ≤ h0.size) (O0 : Old Z n0 h0) (S_CS : Sta Z Z.heap "java/lang/String" "COMPACT_STRINGS" "Z" (.int zc)) (hzc : ¬ zc = 0) (S_FM : Sta Z Z.heap "jdk/internal/util/Preconditions" "SIOOBE_FORMATTER" "Ljava/util/function/BiFunction;" fm) (hfm : fm.isRef = true) (Ex : Exa Z h0 x "java/lang/String") (Fv : Fld Z h0 x "java/lang/String" "value" "[B" (.ref t)) (Fc : Fld Z h0 x "java/lang/String" "coder" "B" (.int (0 : Int32))) (Vt : Arv Z h0 t kt .byte (6 : Int32) [(.int b0), (.int b1), (.int b2), (.int b3), (.int b4), (.int b5)] (.int (0 : Int32))) (Ey : Exa Z h0 y "java/lang/String") (Vy : Fld Z h0 y "java/lang/String" "value" "[B" (.ref u)) (Cy : Fld Z h0 y "java/lang/String" "coder" "B" (.int (0 : Int32))) (Ku : Arv Z h0 u ku .byte (2 : Int32) [(.int (47 : Int32)), (.int (47 : Int32))] (.int (0 : Int32))) :
    OwnLaw l y11_ jdk_42_method_75_code 8 (some .boolean) ws (rR 2 0 0 27) #[(.ref x), (.ref y), (.int (4 : Int32))] Z h0 (QSw4 Z x t kt b0 b1 b2 b3 b4 b5 y u ku zc fm h0 n0) := by
  refine own_enter (plainFor_of_name pn_java_lang_String) (efSw4 x y) ?_
  intro p e s m below meth c s₁ Bd hx hby hml hZ hown X0 e0
  have N0 := Fr.nil n0
  have K0 : Keep h0 h0 [] := Keep.refl _ _
  refine P1.iloadN X0.here hx (hb hby d19_0) rfl ?_
  refine P1.ifNo X0.here hx (hb hby d19_1) ((if0 _ _).trans (flt (by decide : ¬ ((4 : Int32) < (0 : Int32)))).1) ?_
  refine P1.iloadN X0.here hx (hb hby d19_4) rfl ?_
  refine P1.aloadN X0.here hx (hb hby d19_5) rfl rfl ?_
  refine Goes.callV X0 hx hZ (y := y10_) (z := y10_) hown (mvT hZ (own_w hw 53 rfl)) (mvT hZ (own_w hw 54 rfl)) (notFace_of_selects (args := #[]) (mvT hZ (own_w hw 56 rfl))) (mvT hZ (own_w hw 56 rfl)) (mvT hZ (own_w hw 55 rfl)) (by decide) (kc' := 0) (ks' := 0) (backOf (W := 1) (rmLen6 l Z a0 hw [] x t kt [(.int b0), (.int b1), (.int b2), (.int b3), (.int b4), (.int b5)] zc fm h0 n0 Z0 O0 S_CS hzc S_FM hfm Ex Fv Fc Vt) hZ (own_w hw 57 rfl) (own_w hw 7 rfl) (ok rfl) (ok rfl)) (b := x) e0 Ex (g := (mkF m 6 #[.val (.ref x), .val (.ref y), .val (.int (4 : Int32)), .unset, .unset, .unset, .unset, .unset] [(.ref x), (.int (4 : Int32))])) rfl (by rw [hml]; rfl) (argsL := []) (rest := [(.int (4 : Int32))]) (lenOf pd_341 rfl) rfl (by show 2 * 0 + _ ≤ _; exact Nat.le_of_eq rfl) (hb hby d19_6) rfl (ok rfl) (ok rfl) ?_
  intro v142 T142 L142 q142 X142
  obtain ⟨rfl, N142q, hE142⟩ := q142
  have N142 := Fr.app N0 N142q
  show Goes p e below _ T142 (mkF m 9 #[.val (.ref x), .val (.ref y), .val (.int (4 : Int32)), .unset, .unset, .unset, .unset, .unset] [(.int (6 : Int32)), (.int (4 : Int32))])
  refine P1.aloadN X142.here hx (hb hby d19_9) rfl rfl ?_
  refine Goes.callV X142 hx hZ (y := y10_) (z := y10_) hown (mvT hZ (own_w hw 53 rfl)) (mvT hZ (own_w hw 54 rfl)) (notFace_of_selects (args := #[]) (mvT hZ (own_w hw 56 rfl))) (mvT hZ (own_w hw 56 rfl)) (mvT hZ (own_w hw 55 rfl)) (by decide) (kc' := 0) (ks' := 0) (backOf (W := 2) (rmLen2 l Z a0 hw [] y u ku [(.int (47 : Int32)), (.int (47 : Int32))] zc fm h0 n0 Z0 O0 S_CS hzc S_FM hfm Ey Vy Cy Ku) hZ (own_w hw 57 rfl) (own_w hw 7 rfl) (ok rfl) (ok rfl)) (b := y) hE142 Ey (g := (mkF m 10 #[.val (.ref x), .val (.ref y), .val (.int (4 : Int32)), .unset, .unset, .unset, .unset, .unset] [(.ref y), (.int (6 : Int32)), (.int (4 : Int32))])) rfl (by rw [hml]; rfl) (argsL := []) (rest := [(.int (6 : Int32)), (.int (4 : Int32))]) (lenOf pd_341 rfl) rfl (by show 2 * 0 + _ ≤ _; exact Nat.le_of_eq rfl) (hb hby d19_10) rfl (ok rfl) (ok rfl) ?_
  intro v143 T143 L143 q143 X143
  obtain ⟨rfl, N143q, hE143⟩ := q143
  have N143 := Fr.app N142 N143q
  show Goes p e below _ T143 (mkF m 13 #[.val (.ref x), .val (.ref y), .val (.int (4 : Int32)), .unset, .unset, .unset, .unset, .unset] [(.int (2 : Int32)), (.int (6 : Int32)), (.int (4 : Int32))])
  refine P1.isub X143.here hx (hb hby d19_13) ?_
  have rw144 : ((6 : Int32) - (2 : Int32)) = (4 : Int32) := by decide
  rw [rw144]
  refine P1.icmpYes X143.here hx 19 (hb hby d19_14) (flt (by decide : ¬ ((4 : Int32) < (4 : Int32)))).2.2.2 (by decide) (by decide) ?_
  refine P1.aloadN X143.here hx (hb hby d19_19) rfl rfl ?_
  obtain ⟨T145, X145, e145, st145⟩ := getF X143 hx hZ hown (host := "") (Or.inl (own_w hw 32 rfl)) Via.refl hE143 Fv (g := (mkF m 20 #[.val (.ref x), .val (.ref y), .val (.int (4 : Int32)), .unset, .unset, .unset, .unset, .unset] [(.ref x)])) rfl rfl (hb hby d19_20)
  refine Goes.step (T' := T145) (g' := (mkF m 23 #[.val (.ref x), .val (.ref y), .val (.int (4 : Int32)), .unset, .unset, .unset, .unset, .unset] [(.ref t)])) st145 ?_
  refine P1.astoreN X145.here hx #[.val (.ref x), .val (.ref y), .val (.int (4 : Int32)), .val (.ref t), .unset, .unset, .unset, .unset] (hb hby d19_23) rfl rfl ?_
  refine P1.aloadN X145.here hx (hb hby d19_24) rfl rfl ?_
  obtain ⟨T146, X146, e146, st146⟩ := getF X145 hx hZ hown (host := "") (Or.inl (own_w hw 32 rfl)) Via.refl e145 Vy (g := (mkF m 25 #[.val (.ref x), .val (.ref y), .val (.int (4 : Int32)), .val (.ref t), .unset, .unset, .unset, .unset] [(.ref y)])) rfl rfl (hb hby d19_25)
  refine Goes.step (T' := T146) (g' := (mkF m 28 #[.val (.ref x), .val (.ref y), .val (.int (4 : Int32)), .val (.ref t), .unset, .unset, .unset, .unset] [(.ref u)])) st146 ?_
  refine P1.astore X146.here hx #[.val (.ref x), .val (.ref y), .val (.int (4 : Int32)), .val (.ref t), .val (.ref u), .unset, .unset, .unset] (hb hby d19_28) rfl rfl ?_
  refine P1.iconst X146.here hx (0 : Int32) (hb hby d19_30) rfl ?_
  refine P1.istore X146.here hx #[.val (.ref x), .val (.ref y), .val (.int (4 : Int32)), .val (.ref t), .val (.ref u), .val (.int (0 : Int32)), .unset, .unset] (hb hby d19_31) rfl ?_
  refine P1.aload X146.here hx (hb hby d19_33) rfl rfl ?_
  obtain ⟨cl147, Ar147, qk147, sl147, nz147, ha147, fi147⟩ := id Ku
  have al148 : cl147.slots.size.toInt32 = (2 : Int32) := len_of sl147 nz147
  refine Goes.step (T' := T146) (g' := (mkF m 36 #[.val (.ref x), .val (.ref y), .val (.int (4 : Int32)), .val (.ref t), .val (.ref u), .val (.int (0 : Int32)), .unset, .unset] [(.int (2 : Int32))])) (fun t_ k_ => X146.arraylength hx (by rw [e146]; exact Ar147.1) (State.isArrayOf_alike hZ.alike Ar147.2.1) (g := (mkF m 35 #[.val (.ref x), .val (.ref y), .val (.int (4 : Int32)), .val (.ref t), .val (.ref u), .val (.int (0 : Int32)), .unset, .unset] [(.ref u)])) rfl rfl (hb hby d19_35) _ <| by rw [al148]; exact k_) ?_
  refine P1.istore X146.here hx #[.val (.ref x), .val (.ref y), .val (.int (4 : Int32)), .val (.ref t), .val (.ref u), .val (.int (0 : Int32)), .val (.int (2 : Int32)), .unset] (hb hby d19_36) rfl ?_
  refine P1.aloadN X146.here hx (hb hby d19_38) rfl rfl ?_
  refine Goes.callV X146 hx hZ (y := y6_) (z := y6_) hown (mvT hZ (own_w hw 58 rfl)) (mvT hZ (own_w hw 59 rfl)) (notFace_of_selects (args := #[]) (mvT hZ (own_w hw 61 rfl))) (mvT hZ (own_w hw 61 rfl)) (mvT hZ (own_w hw 60 rfl)) (by decide) (kc' := 0) (ks' := 0) (backOf (W := 0) (rmCod l Z a0 hw [] x zc fm h0 n0 Z0 O0 S_CS hzc S_FM hfm Fc) hZ (own_w hw 62 rfl) (own_w hw 7 rfl) (ok rfl) (ok rfl)) (b := x) e146 Ex (g := (mkF m 39 #[.val (.ref x), .val (.ref y), .val (.int (4 : Int32)), .val (.ref t), .val (.ref u), .val (.int (0 : Int32)), .val (.int (2 : Int32)), .unset] [(.ref x)])) rfl (by rw [hml]; rfl) (argsL := []) (rest := []) (lenOf pd_320 rfl) rfl (by show 2 * 0 + _ ≤ _; exact Nat.le_of_eq rfl) (hb hby d19_39) rfl (ok rfl) (ok rfl) ?_
  intro v149 T149 L149 q149 X149
  obtain ⟨rfl, N149q, hE149⟩ := q149
  have N149 := Fr.app N143 N149q
  show Goes p e below _ T149 (mkF m 42 #[.val (.ref x), .val (.ref y), .val (.int (4 : Int32)), .val (.ref t), .val (.ref u), .val (.int (0 : Int32)), .val (.int (2 : Int32)), .unset] [(.int (0 : Int32))])
  refine P1.istore X149.here hx #[.val (.ref x), .val (.ref y), .val (.int (4 : Int32)), .val (.ref t), .val (.ref u), .val (.int (0 : Int32)), .val (.int (2 : Int32)), .val (.int (0 : Int32))] (hb hby d19_42) rfl ?_
  refine P1.iload X149.here hx (hb hby d19_44) rfl ?_
  refine P1.aloadN X149.here hx (hb hby d19_46) rfl rfl ?_
  refine Goes.callV X149 hx hZ (y := y6_) (z := y6_) hown (mvT hZ (own_w hw 58 rfl)) (mvT hZ (own_w hw 59 rfl)) (notFace_of_selects (args := #[]) (mvT hZ (own_w hw 61 rfl))) (mvT hZ (own_w hw 61 rfl)) (mvT hZ (own_w hw 60 rfl)) (by decide) (kc' := 0) (ks' := 0) (backOf (W := 1) (rmCod l Z a0 hw [] y zc fm h0 n0 Z0 O0 S_CS hzc S_FM hfm Cy) hZ (own_w hw 62 rfl) (own_w hw 7 rfl) (ok rfl) (ok rfl)) (b := y) hE149 Ey (g := (mkF m 47 #[.val (.ref x), .val (.ref y), .val (.int (4 : Int32)), .val (.ref t), .val (.ref u), .val (.int (0 : Int32)), .val (.int (2 : Int32)), .val (.int (0 : Int32))] [(.ref y), (.int (0 : Int32))])) rfl (by rw [hml]; rfl) (argsL := []) (rest := [(.int (0 : Int32))]) (lenOf pd_320 rfl) rfl (by show 2 * 0 + _ ≤ _; exact Nat.le_of_eq rfl) (hb hby d19_47) rfl (ok rfl) (ok rfl) ?_
  intro v150 T150 L150 q150 X150
  obtain ⟨rfl, N150q, hE150⟩ := q150
  have N150 := Fr.app N149 N150q
  show Goes p e below _ T150 (mkF m 50 #[.val (.ref x), .val (.ref y), .val (.int (4 : Int32)), .val (.ref t), .val (.ref u), .val (.int (0 : Int32)), .val (.int (2 : Int32)), .val (.int (0 : Int32))] [(.int (0 : Int32)), (.int (0 : Int32))])
  refine P1.icmpNo X150.here hx (hb hby d19_50) (teq (by decide : (0 : Int32) = (0 : Int32))).2 ?_
  refine P1.iload X150.here hx (hb hby d19_53) rfl ?_
  refine P1.iconst X150.here hx (1 : Int32) (hb hby d19_55) rfl ?_
  refine P1.icmpYes X150.here hx 63 (hb hby d19_56) (feq (by decide : ¬ ((0 : Int32) = (1 : Int32)))).2 (by decide) (by decide) ?_
  refine P1.aloadN X150.here hx (hb hby d19_63) rfl rfl ?_
  refine P1.iloadN X150.here hx (hb hby d19_64) rfl ?_
  refine P1.aload X150.here hx (hb hby d19_65) rfl rfl ?_
  refine P1.iconst X150.here hx (0 : Int32) (hb hby d19_67) rfl ?_
  refine P1.iload X150.here hx (hb hby d19_68) rfl ?_
  refine P1.callS X150 hx hZ hown (own_w hw 88 rfl) (own_w hw 89 rfl) (own_w hw 90 rfl) (own_w hw 91 rfl) (by decide) (rmMm4 l Z a0 hw [] t kt u ku b0 b1 b2 b3 b4 b5 h0 n0 Z0 O0 Vt Ku) hml [(.ref t), (.int (4 : Int32)), (.ref u), (.int (0 : Int32)), (.int (2 : Int32))] [] (lenOf pd_3757 rfl) rfl rfl (hb hby d19_70) rfl hE150 (ok rfl) (ok rfl) (ok rfl) (ok rfl) ?_
  intro v151 T151 L151 q151 X151
  obtain ⟨r151, rfl, hr151, N151q, hE151⟩ := q151
  have N151 := Fr.app N150 N151q
  show Goes p e below _ T151 (mkF m 73 #[.val (.ref x), .val (.ref y), .val (.int (4 : Int32)), .val (.ref t), .val (.ref u), .val (.int (0 : Int32)), .val (.int (2 : Int32)), .val (.int (0 : Int32))] [(.int r151)])
  obtain ⟨hr151, hc151⟩ | ⟨hr151, hc151⟩ := hr151
  ·
    refine P1.ifNo X151.here hx (hb hby d19_73) ((if0 _ _).trans (tlt (hr151 : r151 < (0 : Int32))).2.1) ?_
    refine P1.iconst X151.here hx (1 : Int32) (hb hby d19_76) rfl ?_
    refine P1.goto X151.here hx 81 (hb hby d19_77) (by decide) (by decide) ?_
    refine Goes.retN X151 hx Bd.notSynchronized (t := .boolean) Bd.returns (by simp) (hb hby d19_81) (ok rfl) (ok rfl) ?_
    rw [hE151]
    exact ⟨by simp [nar, hc151], N151, rfl⟩
  ·
    refine P1.ifYes X151.here hx 80 (hb hby d19_73) ((if0 _ _).trans (flt (hr151 : ¬ (r151 < (0 : Int32)))).2.1) (by decide) (by decide) ?_
    refine P1.iconst X151.here hx (0 : Int32) (hb hby d19_80) rfl ?_
    refine Goes.retN X151 hx Bd.notSynchronized (t := .boolean) Bd.returns (by simp) (hb hby d19_81) (ok rfl) (ok rfl) ?_
    rw [hE151]
    exact ⟨by simp [nar, hc151], N151, rfl⟩
theorem efSw5 (x y : Addr) (m : MethodId) : entryFrame m #[(.ref x), (.ref y), (.int (5 : Int32))] 8 = mkF m 0 #[.val (.ref x), .val (.ref y), .val (.int (5 : Int32)), .unset, .unset, .unset, .unset, .unset] [] := by first | (simp [entryFrame, mkF, argsToLocals, Value.category]; done) | rfl
def QSw5 (Z : State) (x t : Addr) (kt : ClassId) (b0 b1 b2 b3 b4 b5 : Int32) (y u : Addr) (ku : ClassId) (zc : Int32) (fm : Value) (h0 : Heap) (n0 : Nat) (v : Option Value) (h : Heap) (L : List Loc) : Prop := v = some (.int 0) ∧ Fr n0 L ∧ h = h0
set_option maxRecDepth 65536 in
set_option maxHeartbeats 40000000 in
theorem rmSw5 (l : Launch) (Z : State) (a0 : Array Value) (hw : ∀ d ∈ tables_1, d.before a0 Z = true) (ws : List Jvm.Cond) (x t : Addr) (kt : ClassId) (b0 b1 b2 b3 b4 b5 : Int32) (y u : Addr) (ku : ClassId) (zc : Int32) (fm : Value) (h0 : Heap) (n0 : Nat) (Z0 : n0 ≤ h0.size) (O0 : Old Z n0 h0) (S_CS : Sta Z Z.heap "java/lang/String" "COMPACT_STRINGS" "Z" (.int zc)) (hzc : ¬ zc = 0) (S_FM : Sta Z Z.heap "jdk/internal/util/Preconditions" "SIOOBE_FORMATTER" "Ljava/util/function/BiFunction;" fm) (hfm : fm.isRef = true) (Ex : Exa Z h0 x "java/lang/String") (Fv : Fld Z h0 x "java/lang/String" "value" "[B" (.ref t)) (Fc : Fld Z h0 x "java/lang/String" "coder" "B" (.int (0 : Int32))) (Vt : Arv Z h0 t kt .byte (6 : Int32) [(.int b0), (.int b1), (.int b2), (.int b3), (.int b4), (.int b5)] (.int (0 : Int32))) (Ey : Exa Z h0 y "java/lang/String") (Vy : Fld Z h0 y "java/lang/String" "value" "[B" (.ref u)) (Cy : Fld Z h0 y "java/lang/String" "coder" "B" (.int (0 : Int32))) (Ku : Arv Z h0 u ku .byte (2 : Int32) [(.int (47 : Int32)), (.int (47 : Int32))] (.int (0 : Int32))) :
    OwnLaw l y11_ jdk_42_method_75_code 8 (some .boolean) ws (rR 2 0 0 27) #[(.ref x), (.ref y), (.int (5 : Int32))] Z h0 (QSw5 Z x t kt b0 b1 b2 b3 b4 b5 y u ku zc fm h0 n0) := by
  refine own_enter (plainFor_of_name pn_java_lang_String) (efSw5 x y) ?_
  intro p e s m below meth c s₁ Bd hx hby hml hZ hown X0 e0
  have N0 := Fr.nil n0
  have K0 : Keep h0 h0 [] := Keep.refl _ _
  refine P1.iloadN X0.here hx (hb hby d19_0) rfl ?_
  refine P1.ifNo X0.here hx (hb hby d19_1) ((if0 _ _).trans (flt (by decide : ¬ ((5 : Int32) < (0 : Int32)))).1) ?_
  refine P1.iloadN X0.here hx (hb hby d19_4) rfl ?_
  refine P1.aloadN X0.here hx (hb hby d19_5) rfl rfl ?_
  refine Goes.callV X0 hx hZ (y := y10_) (z := y10_) hown (mvT hZ (own_w hw 53 rfl)) (mvT hZ (own_w hw 54 rfl)) (notFace_of_selects (args := #[]) (mvT hZ (own_w hw 56 rfl))) (mvT hZ (own_w hw 56 rfl)) (mvT hZ (own_w hw 55 rfl)) (by decide) (kc' := 0) (ks' := 0) (backOf (W := 1) (rmLen6 l Z a0 hw [] x t kt [(.int b0), (.int b1), (.int b2), (.int b3), (.int b4), (.int b5)] zc fm h0 n0 Z0 O0 S_CS hzc S_FM hfm Ex Fv Fc Vt) hZ (own_w hw 57 rfl) (own_w hw 7 rfl) (ok rfl) (ok rfl)) (b := x) e0 Ex (g := (mkF m 6 #[.val (.ref x), .val (.ref y), .val (.int (5 : Int32)), .unset, .unset, .unset, .unset, .unset] [(.ref x), (.int (5 : Int32))])) rfl (by rw [hml]; rfl) (argsL := []) (rest := [(.int (5 : Int32))]) (lenOf pd_341 rfl) rfl (by show 2 * 0 + _ ≤ _; exact Nat.le_of_eq rfl) (hb hby d19_6) rfl (ok rfl) (ok rfl) ?_
  intro v152 T152 L152 q152 X152
  obtain ⟨rfl, N152q, hE152⟩ := q152
  have N152 := Fr.app N0 N152q
  show Goes p e below _ T152 (mkF m 9 #[.val (.ref x), .val (.ref y), .val (.int (5 : Int32)), .unset, .unset, .unset, .unset, .unset] [(.int (6 : Int32)), (.int (5 : Int32))])
  refine P1.aloadN X152.here hx (hb hby d19_9) rfl rfl ?_
  refine Goes.callV X152 hx hZ (y := y10_) (z := y10_) hown (mvT hZ (own_w hw 53 rfl)) (mvT hZ (own_w hw 54 rfl)) (notFace_of_selects (args := #[]) (mvT hZ (own_w hw 56 rfl))) (mvT hZ (own_w hw 56 rfl)) (mvT hZ (own_w hw 55 rfl)) (by decide) (kc' := 0) (ks' := 0) (backOf (W := 2) (rmLen2 l Z a0 hw [] y u ku [(.int (47 : Int32)), (.int (47 : Int32))] zc fm h0 n0 Z0 O0 S_CS hzc S_FM hfm Ey Vy Cy Ku) hZ (own_w hw 57 rfl) (own_w hw 7 rfl) (ok rfl) (ok rfl)) (b := y) hE152 Ey (g := (mkF m 10 #[.val (.ref x), .val (.ref y), .val (.int (5 : Int32)), .unset, .unset, .unset, .unset, .unset] [(.ref y), (.int (6 : Int32)), (.int (5 : Int32))])) rfl (by rw [hml]; rfl) (argsL := []) (rest := [(.int (6 : Int32)), (.int (5 : Int32))]) (lenOf pd_341 rfl) rfl (by show 2 * 0 + _ ≤ _; exact Nat.le_of_eq rfl) (hb hby d19_10) rfl (ok rfl) (ok rfl) ?_
  intro v153 T153 L153 q153 X153
  obtain ⟨rfl, N153q, hE153⟩ := q153
  have N153 := Fr.app N152 N153q
  show Goes p e below _ T153 (mkF m 13 #[.val (.ref x), .val (.ref y), .val (.int (5 : Int32)), .unset, .unset, .unset, .unset, .unset] [(.int (2 : Int32)), (.int (6 : Int32)), (.int (5 : Int32))])
  refine P1.isub X153.here hx (hb hby d19_13) ?_
  have rw154 : ((6 : Int32) - (2 : Int32)) = (4 : Int32) := by decide
  rw [rw154]
  refine P1.icmpNo X153.here hx (hb hby d19_14) (tlt (by decide : (4 : Int32) < (5 : Int32))).2.2.2 ?_
  refine P1.iconst X153.here hx (0 : Int32) (hb hby d19_17) rfl ?_
  refine Goes.retN X153 hx Bd.notSynchronized (t := .boolean) Bd.returns (by simp) (hb hby d19_18) (ok rfl) (ok rfl) ?_
  rw [hE153]
  exact ⟨rfl, N153, rfl⟩
theorem efSw6 (x y : Addr) (m : MethodId) : entryFrame m #[(.ref x), (.ref y), (.int (6 : Int32))] 8 = mkF m 0 #[.val (.ref x), .val (.ref y), .val (.int (6 : Int32)), .unset, .unset, .unset, .unset, .unset] [] := by first | (simp [entryFrame, mkF, argsToLocals, Value.category]; done) | rfl
def QSw6 (Z : State) (x t : Addr) (kt : ClassId) (b0 b1 b2 b3 b4 b5 : Int32) (y u : Addr) (ku : ClassId) (zc : Int32) (fm : Value) (h0 : Heap) (n0 : Nat) (v : Option Value) (h : Heap) (L : List Loc) : Prop := v = some (.int 0) ∧ Fr n0 L ∧ h = h0
set_option maxRecDepth 65536 in
set_option maxHeartbeats 40000000 in
theorem rmSw6 (l : Launch) (Z : State) (a0 : Array Value) (hw : ∀ d ∈ tables_1, d.before a0 Z = true) (ws : List Jvm.Cond) (x t : Addr) (kt : ClassId) (b0 b1 b2 b3 b4 b5 : Int32) (y u : Addr) (ku : ClassId) (zc : Int32) (fm : Value) (h0 : Heap) (n0 : Nat) (Z0 : n0 ≤ h0.size) (O0 : Old Z n0 h0) (S_CS : Sta Z Z.heap "java/lang/String" "COMPACT_STRINGS" "Z" (.int zc)) (hzc : ¬ zc = 0) (S_FM : Sta Z Z.heap "jdk/internal/util/Preconditions" "SIOOBE_FORMATTER" "Ljava/util/function/BiFunction;" fm) (hfm : fm.isRef = true) (Ex : Exa Z h0 x "java/lang/String") (Fv : Fld Z h0 x "java/lang/String" "value" "[B" (.ref t)) (Fc : Fld Z h0 x "java/lang/String" "coder" "B" (.int (0 : Int32))) (Vt : Arv Z h0 t kt .byte (6 : Int32) [(.int b0), (.int b1), (.int b2), (.int b3), (.int b4), (.int b5)] (.int (0 : Int32))) (Ey : Exa Z h0 y "java/lang/String") (Vy : Fld Z h0 y "java/lang/String" "value" "[B" (.ref u)) (Cy : Fld Z h0 y "java/lang/String" "coder" "B" (.int (0 : Int32))) (Ku : Arv Z h0 u ku .byte (2 : Int32) [(.int (47 : Int32)), (.int (47 : Int32))] (.int (0 : Int32))) :
    OwnLaw l y11_ jdk_42_method_75_code 8 (some .boolean) ws (rR 2 0 0 27) #[(.ref x), (.ref y), (.int (6 : Int32))] Z h0 (QSw6 Z x t kt b0 b1 b2 b3 b4 b5 y u ku zc fm h0 n0) := by
  refine own_enter (plainFor_of_name pn_java_lang_String) (efSw6 x y) ?_
  intro p e s m below meth c s₁ Bd hx hby hml hZ hown X0 e0
  have N0 := Fr.nil n0
  have K0 : Keep h0 h0 [] := Keep.refl _ _
  refine P1.iloadN X0.here hx (hb hby d19_0) rfl ?_
  refine P1.ifNo X0.here hx (hb hby d19_1) ((if0 _ _).trans (flt (by decide : ¬ ((6 : Int32) < (0 : Int32)))).1) ?_
  refine P1.iloadN X0.here hx (hb hby d19_4) rfl ?_
  refine P1.aloadN X0.here hx (hb hby d19_5) rfl rfl ?_
  refine Goes.callV X0 hx hZ (y := y10_) (z := y10_) hown (mvT hZ (own_w hw 53 rfl)) (mvT hZ (own_w hw 54 rfl)) (notFace_of_selects (args := #[]) (mvT hZ (own_w hw 56 rfl))) (mvT hZ (own_w hw 56 rfl)) (mvT hZ (own_w hw 55 rfl)) (by decide) (kc' := 0) (ks' := 0) (backOf (W := 1) (rmLen6 l Z a0 hw [] x t kt [(.int b0), (.int b1), (.int b2), (.int b3), (.int b4), (.int b5)] zc fm h0 n0 Z0 O0 S_CS hzc S_FM hfm Ex Fv Fc Vt) hZ (own_w hw 57 rfl) (own_w hw 7 rfl) (ok rfl) (ok rfl)) (b := x) e0 Ex (g := (mkF m 6 #[.val (.ref x), .val (.ref y), .val (.int (6 : Int32)), .unset, .unset, .unset, .unset, .unset] [(.ref x), (.int (6 : Int32))])) rfl (by rw [hml]; rfl) (argsL := []) (rest := [(.int (6 : Int32))]) (lenOf pd_341 rfl) rfl (by show 2 * 0 + _ ≤ _; exact Nat.le_of_eq rfl) (hb hby d19_6) rfl (ok rfl) (ok rfl) ?_
  intro v155 T155 L155 q155 X155
  obtain ⟨rfl, N155q, hE155⟩ := q155
  have N155 := Fr.app N0 N155q
  show Goes p e below _ T155 (mkF m 9 #[.val (.ref x), .val (.ref y), .val (.int (6 : Int32)), .unset, .unset, .unset, .unset, .unset] [(.int (6 : Int32)), (.int (6 : Int32))])
  refine P1.aloadN X155.here hx (hb hby d19_9) rfl rfl ?_
  refine Goes.callV X155 hx hZ (y := y10_) (z := y10_) hown (mvT hZ (own_w hw 53 rfl)) (mvT hZ (own_w hw 54 rfl)) (notFace_of_selects (args := #[]) (mvT hZ (own_w hw 56 rfl))) (mvT hZ (own_w hw 56 rfl)) (mvT hZ (own_w hw 55 rfl)) (by decide) (kc' := 0) (ks' := 0) (backOf (W := 2) (rmLen2 l Z a0 hw [] y u ku [(.int (47 : Int32)), (.int (47 : Int32))] zc fm h0 n0 Z0 O0 S_CS hzc S_FM hfm Ey Vy Cy Ku) hZ (own_w hw 57 rfl) (own_w hw 7 rfl) (ok rfl) (ok rfl)) (b := y) hE155 Ey (g := (mkF m 10 #[.val (.ref x), .val (.ref y), .val (.int (6 : Int32)), .unset, .unset, .unset, .unset, .unset] [(.ref y), (.int (6 : Int32)), (.int (6 : Int32))])) rfl (by rw [hml]; rfl) (argsL := []) (rest := [(.int (6 : Int32)), (.int (6 : Int32))]) (lenOf pd_341 rfl) rfl (by show 2 * 0 + _ ≤ _; exact Nat.le_of_eq rfl) (hb hby d19_10) rfl (ok rfl) (ok rfl) ?_
  intro v156 T156 L156 q156 X156
  obtain ⟨rfl, N156q, hE156⟩ := q156
  have N156 := Fr.app N155 N156q
  show Goes p e below _ T156 (mkF m 13 #[.val (.ref x), .val (.ref y), .val (.int (6 : Int32)), .unset, .unset, .unset, .unset, .unset] [(.int (2 : Int32)), (.int (6 : Int32)), (.int (6 : Int32))])
  refine P1.isub X156.here hx (hb hby d19_13) ?_
  have rw157 : ((6 : Int32) - (2 : Int32)) = (4 : Int32) := by decide
  rw [rw157]
  refine P1.icmpNo X156.here hx (hb hby d19_14) (tlt (by decide : (4 : Int32) < (6 : Int32))).2.2.2 ?_
  refine P1.iconst X156.here hx (0 : Int32) (hb hby d19_17) rfl ?_
  refine Goes.retN X156 hx Bd.notSynchronized (t := .boolean) Bd.returns (by simp) (hb hby d19_18) (ok rfl) (ok rfl) ?_
  rw [hE156]
  exact ⟨rfl, N156, rfl⟩
theorem d8_0 : decode prog_10_method_16_code 0 = .ok (.aload_n 0, 1) := by decide +kernel
theorem d8_1 : decode prog_10_method_16_code 1 = .ok (.bipush 58, 2) := by decide +kernel
theorem d8_3 : decode prog_10_method_16_code 3 = .ok (.invokevirtual 124, 3) := by decide +kernel
theorem d8_6 : decode prog_10_method_16_code 6 = .ok (.istore_n 1, 1) := by decide +kernel
theorem d8_7 : decode prog_10_method_16_code 7 = .ok (.iload_n 1, 1) := by decide +kernel
theorem d8_8 : decode prog_10_method_16_code 8 = .ok (.ifCond .lt 16, 3) := by decide +kernel
theorem d8_11 : decode prog_10_method_16_code 11 = .ok (.aload_n 0, 1) := by decide +kernel
theorem d8_12 : decode prog_10_method_16_code 12 = .ok (.ldc_w 283, 3) := by decide +kernel
theorem d8_15 : decode prog_10_method_16_code 15 = .ok (.iload_n 1, 1) := by decide +kernel
theorem d8_16 : decode prog_10_method_16_code 16 = .ok (.iconst 1, 1) := by decide +kernel
theorem d8_17 : decode prog_10_method_16_code 17 = .ok (.iadd, 1) := by decide +kernel
theorem d8_18 : decode prog_10_method_16_code 18 = .ok (.invokevirtual 285, 3) := by decide +kernel
theorem d8_21 : decode prog_10_method_16_code 21 = .ok (.ifCond .ne 7, 3) := by decide +kernel
theorem d8_24 : decode prog_10_method_16_code 24 = .ok (.iconst 0, 1) := by decide +kernel
theorem d8_25 : decode prog_10_method_16_code 25 = .ok (.goto 6, 3) := by decide +kernel
theorem d8_28 : decode prog_10_method_16_code 28 = .ok (.iload_n 1, 1) := by decide +kernel
theorem d8_29 : decode prog_10_method_16_code 29 = .ok (.iconst 3, 1) := by decide +kernel
theorem d8_30 : decode prog_10_method_16_code 30 = .ok (.iadd, 1) := by decide +kernel
theorem d8_31 : decode prog_10_method_16_code 31 = .ok (.ireturn, 1) := by decide +kernel
theorem pn_com_example_hoist_hoist_model_RepositoryUrl : plainName "com/example/hoist/hoist/model/RepositoryUrl" = true := by first | (simp [plainName, overriddenIn]; done) | decide +kernel
theorem pd_601 : parseMethodDescriptor "(I)I" = some ⟨[.int], some .int⟩ := by decide +kernel
theorem pd_22172 : parseMethodDescriptor "(Ljava/lang/String;I)Z" = some ⟨[(.object "java/lang/String"), .int], some .boolean⟩ := by decide +kernel
theorem efAs (x : Addr) (m : MethodId) : entryFrame m #[(.ref x)] 2 = mkF m 0 #[.val (.ref x), .unset] [] := by first | (simp [entryFrame, mkF, argsToLocals, Value.category]; done) | rfl
def QAs (Z : State) (x t : Addr) (kt : ClassId) (b0 b1 b2 b3 b4 b5 zc : Int32) (fm : Value) (h0 : Heap) (n0 : Nat) (v : Option Value) (h : Heap) (L : List Loc) : Prop := v = some (.int (auth b0 b1 b2 b3 b4 b5)) ∧ Fr n0 L ∧ Keep h0 h []
set_option maxRecDepth 65536 in
set_option maxHeartbeats 40000000 in
theorem rmAs (l : Launch) (Z : State) (a0 : Array Value) (hw : ∀ d ∈ tables_1, d.before a0 Z = true) (ws : List Jvm.Cond) (x t : Addr) (kt : ClassId) (b0 b1 b2 b3 b4 b5 zc : Int32) (fm : Value) (h0 : Heap) (n0 : Nat) (Z0 : n0 ≤ h0.size) (O0 : Old Z n0 h0) (S_CS : Sta Z Z.heap "java/lang/String" "COMPACT_STRINGS" "Z" (.int zc)) (hzc : ¬ zc = 0) (S_FM : Sta Z Z.heap "jdk/internal/util/Preconditions" "SIOOBE_FORMATTER" "Ljava/util/function/BiFunction;" fm) (hfm : fm.isRef = true) (Ex : Exa Z h0 x "java/lang/String") (Fv : Fld Z h0 x "java/lang/String" "value" "[B" (.ref t)) (Fc : Fld Z h0 x "java/lang/String" "coder" "B" (.int (0 : Int32))) (Vt : Arv Z h0 t kt .byte (6 : Int32) [(.int b0), (.int b1), (.int b2), (.int b3), (.int b4), (.int b5)] (.int (0 : Int32))) :
    OwnLawW l (⟨"com/example/hoist/hoist/model/RepositoryUrl", "authorityStart", "(Ljava/lang/String;)I"⟩ : MethodName) prog_10_method_16_code 2 (some .int) ws (rR 4 2 12 59) #[(.ref x)] Z EL1 h0 (QAs Z x t kt b0 b1 b2 b3 b4 b5 zc fm h0 n0) := by
  refine own_enterW (plainFor_of_name pn_com_example_hoist_hoist_model_RepositoryUrl) (efAs x) ?_
  intro p e s m below meth c s₁ Bd hx hby hml hZ hown X0 e0 hh hS0 CR0
  have N0 := Fr.nil n0
  have hEL : EW Z a0 EL1 := own_EL hw
  have ks0 : h0.size ≤ h0.size := Nat.le_refl _
  have K0 : Keep h0 h0 [] := Keep.refl _ _
  refine P1.aloadN X0.here hx (hb hby d8_0) rfl rfl ?_
  refine P1.bipush X0.here hx (58 : Int32) (hb hby d8_1) rfl ?_
  refine Goes.callV X0 hx hZ (y := y7_) (z := y7_) hown (mvT hZ (own_w hw 38 rfl)) (mvT hZ (own_w hw 39 rfl)) (notFace_of_selects (args := #[]) (mvT hZ (own_w hw 41 rfl))) (mvT hZ (own_w hw 41 rfl)) (mvT hZ (own_w hw 40 rfl)) (by decide) (kc' := 0) (ks' := 0) (backOf (W := 0) (rmIx1 l Z a0 hw [] x t kt b0 b1 b2 b3 b4 b5 zc fm h0 n0 Z0 O0 S_CS hzc S_FM hfm Ex Fv Fc Vt) hZ (own_w hw 42 rfl) (own_w hw 7 rfl) (ok rfl) (ok rfl)) (b := x) e0 Ex (g := (mkF m 3 #[.val (.ref x), .unset] [(.int (58 : Int32)), (.ref x)])) rfl (by rw [hml]; rfl) (argsL := [(.int (58 : Int32))]) (rest := []) (lenOf pd_601 rfl) rfl (by show 2 * 0 + _ ≤ _; exact Nat.le_of_eq rfl) (hb hby d8_3) rfl (ok rfl) (ok rfl) ?_
  intro v158 T158 L158 q158 X158
  obtain ⟨rfl, N158q, hE158⟩ := q158
  have N158 := Fr.app N0 N158q
  show Goes p e below _ T158 (mkF m 6 #[.val (.ref x), .unset] [(.int (ix6 b0 b1 b2 b3 b4 b5))])
  by_cases hc0 : b0 = (58 : Int32)
  ·
    have rw159 : (ix6 b0 b1 b2 b3 b4 b5) = (0 : Int32) := by simp [ix6, hc0]
    rw [rw159]
    refine P1.istoreN X158.here hx #[.val (.ref x), .val (.int (0 : Int32))] (hb hby d8_6) rfl ?_
    refine P1.iloadN X158.here hx (hb hby d8_7) rfl ?_
    refine P1.ifNo X158.here hx (hb hby d8_8) ((if0 _ _).trans (flt (by decide : ¬ ((0 : Int32) < (0 : Int32)))).1) ?_
    refine P1.aloadN X158.here hx (hb hby d8_11) rfl rfl ?_
    obtain ⟨la160, T160, h160, k1_160, lb160, lk160, X160, e160, E160, hS160, ks160, hZ, hown, LE160, LC160, LV160, LK160, -, -, CW160, -, hsf160, st160⟩ := ldcCHw X158 hx hZ hown (own_w hw 80 rfl) (fun d hd => hw d (in_atoms d hd)) hE158 hS0 ks0 hEL (by decide) CR0.1 (vs := [(.int (47 : Int32)), (.int (47 : Int32))]) (z := (2 : Int32)) (by decide) (by decide) rfl (g := (mkF m 12 #[.val (.ref x), .val (.int (0 : Int32))] [(.ref x)])) rfl (hb hby d8_12) (n := 8) (by decide) (by decide) (ok rfl) (ok rfl)
    refine Goes.step (T' := T160) (g' := (mkF m 15 #[.val (.ref x), .val (.int (0 : Int32))] [(.ref la160), (.ref x)])) st160 ?_
    refine P1.iloadN X160.here hx (hb hby d8_15) rfl ?_
    refine P1.iconst X160.here hx (1 : Int32) (hb hby d8_16) rfl ?_
    refine P1.iadd X160.here hx (hb hby d8_17) ?_
    have rw161 : ((0 : Int32) + (1 : Int32)) = (1 : Int32) := by decide
    rw [rw161]
    have E162 : Exa Z h160 x "java/lang/String" := Ex.ext E160
    have F163 : Fld Z h160 x "java/lang/String" "value" "[B" (.ref t) := Fv.ext E160
    have F164 : Fld Z h160 x "java/lang/String" "coder" "B" (.int (0 : Int32)) := Fc.ext E160
    have V165 : Arv Z h160 t kt .byte (6 : Int32) [(.int b0), (.int b1), (.int b2), (.int b3), (.int b4), (.int b5)] (.int (0 : Int32)) := Vt.ext E160
    have Z166 : n0 ≤ h160.size := Nat.le_trans Z0 E160.1
    have O167 : Old Z n0 h160 := O0.ext E160
    refine Goes.callV X160 hx hZ (y := y11_) (z := y11_) hown (mvT hZ (own_w hw 83 rfl)) (mvT hZ (own_w hw 84 rfl)) (notFace_of_selects (args := #[]) (mvT hZ (own_w hw 86 rfl))) (mvT hZ (own_w hw 86 rfl)) (mvT hZ (own_w hw 85 rfl)) (by decide) (kc' := 0) (ks' := 0) (backOf (W := 0) (rmSw1 l Z a0 hw [] x t kt b0 b1 b2 b3 b4 b5 la160 lb160 lk160 zc fm h160 n0 Z166 O167 S_CS hzc S_FM hfm E162 F163 F164 V165 LE160 LV160 LC160 LK160) hZ (own_w hw 87 rfl) (own_w hw 7 rfl) (ok rfl) (ok rfl)) (b := x) e160 E162 (g := (mkF m 18 #[.val (.ref x), .val (.int (0 : Int32))] [(.int (1 : Int32)), (.ref la160), (.ref x)])) rfl (by rw [hml]; rfl) (argsL := [(.ref la160), (.int (1 : Int32))]) (rest := []) (lenOf pd_22172 rfl) rfl (by show 2 * 0 + _ ≤ _; exact Nat.le_of_eq rfl) (hb hby d8_18) rfl (ok rfl) (ok rfl) ?_
    intro v168 T168 L168 q168 X168
    obtain ⟨rfl, N168q, hE168⟩ := q168
    have N168 := Fr.app N158 N168q
    show Goes p e below _ T168 (mkF m 21 #[.val (.ref x), .val (.int (0 : Int32))] [(.int (if b1 = (47 : Int32) ∧ b2 = (47 : Int32) then (1 : Int32) else 0))])
    by_cases hs : b1 = (47 : Int32) ∧ b2 = (47 : Int32)
    ·
      have rw169 : (if b1 = (47 : Int32) ∧ b2 = (47 : Int32) then (1 : Int32) else 0) = (1 : Int32) := by simp [hs]
      rw [rw169]
      refine P1.ifYes X168.here hx 28 (hb hby d8_21) ((if0 _ _).trans (feq (by decide : ¬ ((1 : Int32) = (0 : Int32)))).2) (by decide) (by decide) ?_
      refine P1.iloadN X168.here hx (hb hby d8_28) rfl ?_
      refine P1.iconst X168.here hx (3 : Int32) (hb hby d8_29) rfl ?_
      refine P1.iadd X168.here hx (hb hby d8_30) ?_
      have rw170 : ((0 : Int32) + (3 : Int32)) = (3 : Int32) := by decide
      rw [rw170]
      have CR171 : CHr Z EL1 s.vm h0 T160.vm h160 := CR0.trans CW160
      refine Goes.retIW X168 hx Bd.notSynchronized hS160 ks160 hZ hEL (hh ▸ CR171) hE168 Bd.returns (hb hby d8_31) (ok rfl) (ok rfl) ?_
      have K172 : Keep h0 h160 [] := K0.ext E160
      exact ⟨by simp [auth, hs, hc0], N168, K172⟩
    ·
      have rw173 : (if b1 = (47 : Int32) ∧ b2 = (47 : Int32) then (1 : Int32) else 0) = (0 : Int32) := by simp [hs]
      rw [rw173]
      refine P1.ifNo X168.here hx (hb hby d8_21) ((if0 _ _).trans (teq (by decide : (0 : Int32) = (0 : Int32))).2) ?_
      refine P1.iconst X168.here hx (0 : Int32) (hb hby d8_24) rfl ?_
      refine P1.goto X168.here hx 31 (hb hby d8_25) (by decide) (by decide) ?_
      have CR174 : CHr Z EL1 s.vm h0 T160.vm h160 := CR0.trans CW160
      refine Goes.retIW X168 hx Bd.notSynchronized hS160 ks160 hZ hEL (hh ▸ CR174) hE168 Bd.returns (hb hby d8_31) (ok rfl) (ok rfl) ?_
      have K175 : Keep h0 h160 [] := K0.ext E160
      exact ⟨by simp [auth, hs, hc0], N168, K175⟩
  ·
    by_cases hc1 : b1 = (58 : Int32)
    ·
      have rw176 : (ix6 b0 b1 b2 b3 b4 b5) = (1 : Int32) := by simp [ix6, hc0, hc1]
      rw [rw176]
      refine P1.istoreN X158.here hx #[.val (.ref x), .val (.int (1 : Int32))] (hb hby d8_6) rfl ?_
      refine P1.iloadN X158.here hx (hb hby d8_7) rfl ?_
      refine P1.ifNo X158.here hx (hb hby d8_8) ((if0 _ _).trans (flt (by decide : ¬ ((1 : Int32) < (0 : Int32)))).1) ?_
      refine P1.aloadN X158.here hx (hb hby d8_11) rfl rfl ?_
      obtain ⟨la177, T177, h177, k1_177, lb177, lk177, X177, e177, E177, hS177, ks177, hZ, hown, LE177, LC177, LV177, LK177, -, -, CW177, -, hsf177, st177⟩ := ldcCHw X158 hx hZ hown (own_w hw 80 rfl) (fun d hd => hw d (in_atoms d hd)) hE158 hS0 ks0 hEL (by decide) CR0.1 (vs := [(.int (47 : Int32)), (.int (47 : Int32))]) (z := (2 : Int32)) (by decide) (by decide) rfl (g := (mkF m 12 #[.val (.ref x), .val (.int (1 : Int32))] [(.ref x)])) rfl (hb hby d8_12) (n := 8) (by decide) (by decide) (ok rfl) (ok rfl)
      refine Goes.step (T' := T177) (g' := (mkF m 15 #[.val (.ref x), .val (.int (1 : Int32))] [(.ref la177), (.ref x)])) st177 ?_
      refine P1.iloadN X177.here hx (hb hby d8_15) rfl ?_
      refine P1.iconst X177.here hx (1 : Int32) (hb hby d8_16) rfl ?_
      refine P1.iadd X177.here hx (hb hby d8_17) ?_
      have rw178 : ((1 : Int32) + (1 : Int32)) = (2 : Int32) := by decide
      rw [rw178]
      have E179 : Exa Z h177 x "java/lang/String" := Ex.ext E177
      have F180 : Fld Z h177 x "java/lang/String" "value" "[B" (.ref t) := Fv.ext E177
      have F181 : Fld Z h177 x "java/lang/String" "coder" "B" (.int (0 : Int32)) := Fc.ext E177
      have V182 : Arv Z h177 t kt .byte (6 : Int32) [(.int b0), (.int b1), (.int b2), (.int b3), (.int b4), (.int b5)] (.int (0 : Int32)) := Vt.ext E177
      have Z183 : n0 ≤ h177.size := Nat.le_trans Z0 E177.1
      have O184 : Old Z n0 h177 := O0.ext E177
      refine Goes.callV X177 hx hZ (y := y11_) (z := y11_) hown (mvT hZ (own_w hw 83 rfl)) (mvT hZ (own_w hw 84 rfl)) (notFace_of_selects (args := #[]) (mvT hZ (own_w hw 86 rfl))) (mvT hZ (own_w hw 86 rfl)) (mvT hZ (own_w hw 85 rfl)) (by decide) (kc' := 0) (ks' := 0) (backOf (W := 0) (rmSw2 l Z a0 hw [] x t kt b0 b1 b2 b3 b4 b5 la177 lb177 lk177 zc fm h177 n0 Z183 O184 S_CS hzc S_FM hfm E179 F180 F181 V182 LE177 LV177 LC177 LK177) hZ (own_w hw 87 rfl) (own_w hw 7 rfl) (ok rfl) (ok rfl)) (b := x) e177 E179 (g := (mkF m 18 #[.val (.ref x), .val (.int (1 : Int32))] [(.int (2 : Int32)), (.ref la177), (.ref x)])) rfl (by rw [hml]; rfl) (argsL := [(.ref la177), (.int (2 : Int32))]) (rest := []) (lenOf pd_22172 rfl) rfl (by show 2 * 0 + _ ≤ _; exact Nat.le_of_eq rfl) (hb hby d8_18) rfl (ok rfl) (ok rfl) ?_
      intro v185 T185 L185 q185 X185
      obtain ⟨rfl, N185q, hE185⟩ := q185
      have N185 := Fr.app N158 N185q
      show Goes p e below _ T185 (mkF m 21 #[.val (.ref x), .val (.int (1 : Int32))] [(.int (if b2 = (47 : Int32) ∧ b3 = (47 : Int32) then (1 : Int32) else 0))])
      by_cases hs : b2 = (47 : Int32) ∧ b3 = (47 : Int32)
      ·
        have rw186 : (if b2 = (47 : Int32) ∧ b3 = (47 : Int32) then (1 : Int32) else 0) = (1 : Int32) := by simp [hs]
        rw [rw186]
        refine P1.ifYes X185.here hx 28 (hb hby d8_21) ((if0 _ _).trans (feq (by decide : ¬ ((1 : Int32) = (0 : Int32)))).2) (by decide) (by decide) ?_
        refine P1.iloadN X185.here hx (hb hby d8_28) rfl ?_
        refine P1.iconst X185.here hx (3 : Int32) (hb hby d8_29) rfl ?_
        refine P1.iadd X185.here hx (hb hby d8_30) ?_
        have rw187 : ((1 : Int32) + (3 : Int32)) = (4 : Int32) := by decide
        rw [rw187]
        have CR188 : CHr Z EL1 s.vm h0 T177.vm h177 := CR0.trans CW177
        refine Goes.retIW X185 hx Bd.notSynchronized hS177 ks177 hZ hEL (hh ▸ CR188) hE185 Bd.returns (hb hby d8_31) (ok rfl) (ok rfl) ?_
        have K189 : Keep h0 h177 [] := K0.ext E177
        exact ⟨by simp [auth, hs, hc0, hc1], N185, K189⟩
      ·
        have rw190 : (if b2 = (47 : Int32) ∧ b3 = (47 : Int32) then (1 : Int32) else 0) = (0 : Int32) := by simp [hs]
        rw [rw190]
        refine P1.ifNo X185.here hx (hb hby d8_21) ((if0 _ _).trans (teq (by decide : (0 : Int32) = (0 : Int32))).2) ?_
        refine P1.iconst X185.here hx (0 : Int32) (hb hby d8_24) rfl ?_
        refine P1.goto X185.here hx 31 (hb hby d8_25) (by decide) (by decide) ?_
        have CR191 : CHr Z EL1 s.vm h0 T177.vm h177 := CR0.trans CW177
        refine Goes.retIW X185 hx Bd.notSynchronized hS177 ks177 hZ hEL (hh ▸ CR191) hE185 Bd.returns (hb hby d8_31) (ok rfl) (ok rfl) ?_
        have K192 : Keep h0 h177 [] := K0.ext E177
        exact ⟨by simp [auth, hs, hc0, hc1], N185, K192⟩
    ·
      by_cases hc2 : b2 = (58 : Int32)
      ·
        have rw193 : (ix6 b0 b1 b2 b3 b4 b5) = (2 : Int32) := by simp [ix6, hc0, hc1, hc2]
        rw [rw193]
        refine P1.istoreN X158.here hx #[.val (.ref x), .val (.int (2 : Int32))] (hb hby d8_6) rfl ?_
        refine P1.iloadN X158.here hx (hb hby d8_7) rfl ?_
        refine P1.ifNo X158.here hx (hb hby d8_8) ((if0 _ _).trans (flt (by decide : ¬ ((2 : Int32) < (0 : Int32)))).1) ?_
        refine P1.aloadN X158.here hx (hb hby d8_11) rfl rfl ?_
        obtain ⟨la194, T194, h194, k1_194, lb194, lk194, X194, e194, E194, hS194, ks194, hZ, hown, LE194, LC194, LV194, LK194, -, -, CW194, -, hsf194, st194⟩ := ldcCHw X158 hx hZ hown (own_w hw 80 rfl) (fun d hd => hw d (in_atoms d hd)) hE158 hS0 ks0 hEL (by decide) CR0.1 (vs := [(.int (47 : Int32)), (.int (47 : Int32))]) (z := (2 : Int32)) (by decide) (by decide) rfl (g := (mkF m 12 #[.val (.ref x), .val (.int (2 : Int32))] [(.ref x)])) rfl (hb hby d8_12) (n := 8) (by decide) (by decide) (ok rfl) (ok rfl)
        refine Goes.step (T' := T194) (g' := (mkF m 15 #[.val (.ref x), .val (.int (2 : Int32))] [(.ref la194), (.ref x)])) st194 ?_
        refine P1.iloadN X194.here hx (hb hby d8_15) rfl ?_
        refine P1.iconst X194.here hx (1 : Int32) (hb hby d8_16) rfl ?_
        refine P1.iadd X194.here hx (hb hby d8_17) ?_
        have rw195 : ((2 : Int32) + (1 : Int32)) = (3 : Int32) := by decide
        rw [rw195]
        have E196 : Exa Z h194 x "java/lang/String" := Ex.ext E194
        have F197 : Fld Z h194 x "java/lang/String" "value" "[B" (.ref t) := Fv.ext E194
        have F198 : Fld Z h194 x "java/lang/String" "coder" "B" (.int (0 : Int32)) := Fc.ext E194
        have V199 : Arv Z h194 t kt .byte (6 : Int32) [(.int b0), (.int b1), (.int b2), (.int b3), (.int b4), (.int b5)] (.int (0 : Int32)) := Vt.ext E194
        have Z200 : n0 ≤ h194.size := Nat.le_trans Z0 E194.1
        have O201 : Old Z n0 h194 := O0.ext E194
        refine Goes.callV X194 hx hZ (y := y11_) (z := y11_) hown (mvT hZ (own_w hw 83 rfl)) (mvT hZ (own_w hw 84 rfl)) (notFace_of_selects (args := #[]) (mvT hZ (own_w hw 86 rfl))) (mvT hZ (own_w hw 86 rfl)) (mvT hZ (own_w hw 85 rfl)) (by decide) (kc' := 0) (ks' := 0) (backOf (W := 0) (rmSw3 l Z a0 hw [] x t kt b0 b1 b2 b3 b4 b5 la194 lb194 lk194 zc fm h194 n0 Z200 O201 S_CS hzc S_FM hfm E196 F197 F198 V199 LE194 LV194 LC194 LK194) hZ (own_w hw 87 rfl) (own_w hw 7 rfl) (ok rfl) (ok rfl)) (b := x) e194 E196 (g := (mkF m 18 #[.val (.ref x), .val (.int (2 : Int32))] [(.int (3 : Int32)), (.ref la194), (.ref x)])) rfl (by rw [hml]; rfl) (argsL := [(.ref la194), (.int (3 : Int32))]) (rest := []) (lenOf pd_22172 rfl) rfl (by show 2 * 0 + _ ≤ _; exact Nat.le_of_eq rfl) (hb hby d8_18) rfl (ok rfl) (ok rfl) ?_
        intro v202 T202 L202 q202 X202
        obtain ⟨rfl, N202q, hE202⟩ := q202
        have N202 := Fr.app N158 N202q
        show Goes p e below _ T202 (mkF m 21 #[.val (.ref x), .val (.int (2 : Int32))] [(.int (if b3 = (47 : Int32) ∧ b4 = (47 : Int32) then (1 : Int32) else 0))])
        by_cases hs : b3 = (47 : Int32) ∧ b4 = (47 : Int32)
        ·
          have rw203 : (if b3 = (47 : Int32) ∧ b4 = (47 : Int32) then (1 : Int32) else 0) = (1 : Int32) := by simp [hs]
          rw [rw203]
          refine P1.ifYes X202.here hx 28 (hb hby d8_21) ((if0 _ _).trans (feq (by decide : ¬ ((1 : Int32) = (0 : Int32)))).2) (by decide) (by decide) ?_
          refine P1.iloadN X202.here hx (hb hby d8_28) rfl ?_
          refine P1.iconst X202.here hx (3 : Int32) (hb hby d8_29) rfl ?_
          refine P1.iadd X202.here hx (hb hby d8_30) ?_
          have rw204 : ((2 : Int32) + (3 : Int32)) = (5 : Int32) := by decide
          rw [rw204]
          have CR205 : CHr Z EL1 s.vm h0 T194.vm h194 := CR0.trans CW194
          refine Goes.retIW X202 hx Bd.notSynchronized hS194 ks194 hZ hEL (hh ▸ CR205) hE202 Bd.returns (hb hby d8_31) (ok rfl) (ok rfl) ?_
          have K206 : Keep h0 h194 [] := K0.ext E194
          exact ⟨by simp [auth, hs, hc0, hc1, hc2], N202, K206⟩
        ·
          have rw207 : (if b3 = (47 : Int32) ∧ b4 = (47 : Int32) then (1 : Int32) else 0) = (0 : Int32) := by simp [hs]
          rw [rw207]
          refine P1.ifNo X202.here hx (hb hby d8_21) ((if0 _ _).trans (teq (by decide : (0 : Int32) = (0 : Int32))).2) ?_
          refine P1.iconst X202.here hx (0 : Int32) (hb hby d8_24) rfl ?_
          refine P1.goto X202.here hx 31 (hb hby d8_25) (by decide) (by decide) ?_
          have CR208 : CHr Z EL1 s.vm h0 T194.vm h194 := CR0.trans CW194
          refine Goes.retIW X202 hx Bd.notSynchronized hS194 ks194 hZ hEL (hh ▸ CR208) hE202 Bd.returns (hb hby d8_31) (ok rfl) (ok rfl) ?_
          have K209 : Keep h0 h194 [] := K0.ext E194
          exact ⟨by simp [auth, hs, hc0, hc1, hc2], N202, K209⟩
      ·
        by_cases hc3 : b3 = (58 : Int32)
        ·
          have rw210 : (ix6 b0 b1 b2 b3 b4 b5) = (3 : Int32) := by simp [ix6, hc0, hc1, hc2, hc3]
          rw [rw210]
          refine P1.istoreN X158.here hx #[.val (.ref x), .val (.int (3 : Int32))] (hb hby d8_6) rfl ?_
          refine P1.iloadN X158.here hx (hb hby d8_7) rfl ?_
          refine P1.ifNo X158.here hx (hb hby d8_8) ((if0 _ _).trans (flt (by decide : ¬ ((3 : Int32) < (0 : Int32)))).1) ?_
          refine P1.aloadN X158.here hx (hb hby d8_11) rfl rfl ?_
          obtain ⟨la211, T211, h211, k1_211, lb211, lk211, X211, e211, E211, hS211, ks211, hZ, hown, LE211, LC211, LV211, LK211, -, -, CW211, -, hsf211, st211⟩ := ldcCHw X158 hx hZ hown (own_w hw 80 rfl) (fun d hd => hw d (in_atoms d hd)) hE158 hS0 ks0 hEL (by decide) CR0.1 (vs := [(.int (47 : Int32)), (.int (47 : Int32))]) (z := (2 : Int32)) (by decide) (by decide) rfl (g := (mkF m 12 #[.val (.ref x), .val (.int (3 : Int32))] [(.ref x)])) rfl (hb hby d8_12) (n := 8) (by decide) (by decide) (ok rfl) (ok rfl)
          refine Goes.step (T' := T211) (g' := (mkF m 15 #[.val (.ref x), .val (.int (3 : Int32))] [(.ref la211), (.ref x)])) st211 ?_
          refine P1.iloadN X211.here hx (hb hby d8_15) rfl ?_
          refine P1.iconst X211.here hx (1 : Int32) (hb hby d8_16) rfl ?_
          refine P1.iadd X211.here hx (hb hby d8_17) ?_
          have rw212 : ((3 : Int32) + (1 : Int32)) = (4 : Int32) := by decide
          rw [rw212]
          have E213 : Exa Z h211 x "java/lang/String" := Ex.ext E211
          have F214 : Fld Z h211 x "java/lang/String" "value" "[B" (.ref t) := Fv.ext E211
          have F215 : Fld Z h211 x "java/lang/String" "coder" "B" (.int (0 : Int32)) := Fc.ext E211
          have V216 : Arv Z h211 t kt .byte (6 : Int32) [(.int b0), (.int b1), (.int b2), (.int b3), (.int b4), (.int b5)] (.int (0 : Int32)) := Vt.ext E211
          have Z217 : n0 ≤ h211.size := Nat.le_trans Z0 E211.1
          have O218 : Old Z n0 h211 := O0.ext E211
          refine Goes.callV X211 hx hZ (y := y11_) (z := y11_) hown (mvT hZ (own_w hw 83 rfl)) (mvT hZ (own_w hw 84 rfl)) (notFace_of_selects (args := #[]) (mvT hZ (own_w hw 86 rfl))) (mvT hZ (own_w hw 86 rfl)) (mvT hZ (own_w hw 85 rfl)) (by decide) (kc' := 0) (ks' := 0) (backOf (W := 0) (rmSw4 l Z a0 hw [] x t kt b0 b1 b2 b3 b4 b5 la211 lb211 lk211 zc fm h211 n0 Z217 O218 S_CS hzc S_FM hfm E213 F214 F215 V216 LE211 LV211 LC211 LK211) hZ (own_w hw 87 rfl) (own_w hw 7 rfl) (ok rfl) (ok rfl)) (b := x) e211 E213 (g := (mkF m 18 #[.val (.ref x), .val (.int (3 : Int32))] [(.int (4 : Int32)), (.ref la211), (.ref x)])) rfl (by rw [hml]; rfl) (argsL := [(.ref la211), (.int (4 : Int32))]) (rest := []) (lenOf pd_22172 rfl) rfl (by show 2 * 0 + _ ≤ _; exact Nat.le_of_eq rfl) (hb hby d8_18) rfl (ok rfl) (ok rfl) ?_
          intro v219 T219 L219 q219 X219
          obtain ⟨rfl, N219q, hE219⟩ := q219
          have N219 := Fr.app N158 N219q
          show Goes p e below _ T219 (mkF m 21 #[.val (.ref x), .val (.int (3 : Int32))] [(.int (if b4 = (47 : Int32) ∧ b5 = (47 : Int32) then (1 : Int32) else 0))])
          by_cases hs : b4 = (47 : Int32) ∧ b5 = (47 : Int32)
          ·
            have rw220 : (if b4 = (47 : Int32) ∧ b5 = (47 : Int32) then (1 : Int32) else 0) = (1 : Int32) := by simp [hs]
            rw [rw220]
            refine P1.ifYes X219.here hx 28 (hb hby d8_21) ((if0 _ _).trans (feq (by decide : ¬ ((1 : Int32) = (0 : Int32)))).2) (by decide) (by decide) ?_
            refine P1.iloadN X219.here hx (hb hby d8_28) rfl ?_
            refine P1.iconst X219.here hx (3 : Int32) (hb hby d8_29) rfl ?_
            refine P1.iadd X219.here hx (hb hby d8_30) ?_
            have rw221 : ((3 : Int32) + (3 : Int32)) = (6 : Int32) := by decide
            rw [rw221]
            have CR222 : CHr Z EL1 s.vm h0 T211.vm h211 := CR0.trans CW211
            refine Goes.retIW X219 hx Bd.notSynchronized hS211 ks211 hZ hEL (hh ▸ CR222) hE219 Bd.returns (hb hby d8_31) (ok rfl) (ok rfl) ?_
            have K223 : Keep h0 h211 [] := K0.ext E211
            exact ⟨by simp [auth, hs, hc0, hc1, hc2, hc3], N219, K223⟩
          ·
            have rw224 : (if b4 = (47 : Int32) ∧ b5 = (47 : Int32) then (1 : Int32) else 0) = (0 : Int32) := by simp [hs]
            rw [rw224]
            refine P1.ifNo X219.here hx (hb hby d8_21) ((if0 _ _).trans (teq (by decide : (0 : Int32) = (0 : Int32))).2) ?_
            refine P1.iconst X219.here hx (0 : Int32) (hb hby d8_24) rfl ?_
            refine P1.goto X219.here hx 31 (hb hby d8_25) (by decide) (by decide) ?_
            have CR225 : CHr Z EL1 s.vm h0 T211.vm h211 := CR0.trans CW211
            refine Goes.retIW X219 hx Bd.notSynchronized hS211 ks211 hZ hEL (hh ▸ CR225) hE219 Bd.returns (hb hby d8_31) (ok rfl) (ok rfl) ?_
            have K226 : Keep h0 h211 [] := K0.ext E211
            exact ⟨by simp [auth, hs, hc0, hc1, hc2, hc3], N219, K226⟩
        ·
          by_cases hc4 : b4 = (58 : Int32)
          ·
            have rw227 : (ix6 b0 b1 b2 b3 b4 b5) = (4 : Int32) := by simp [ix6, hc0, hc1, hc2, hc3, hc4]
            rw [rw227]
            refine P1.istoreN X158.here hx #[.val (.ref x), .val (.int (4 : Int32))] (hb hby d8_6) rfl ?_
            refine P1.iloadN X158.here hx (hb hby d8_7) rfl ?_
            refine P1.ifNo X158.here hx (hb hby d8_8) ((if0 _ _).trans (flt (by decide : ¬ ((4 : Int32) < (0 : Int32)))).1) ?_
            refine P1.aloadN X158.here hx (hb hby d8_11) rfl rfl ?_
            obtain ⟨la228, T228, h228, k1_228, lb228, lk228, X228, e228, E228, hS228, ks228, hZ, hown, LE228, LC228, LV228, LK228, -, -, CW228, -, hsf228, st228⟩ := ldcCHw X158 hx hZ hown (own_w hw 80 rfl) (fun d hd => hw d (in_atoms d hd)) hE158 hS0 ks0 hEL (by decide) CR0.1 (vs := [(.int (47 : Int32)), (.int (47 : Int32))]) (z := (2 : Int32)) (by decide) (by decide) rfl (g := (mkF m 12 #[.val (.ref x), .val (.int (4 : Int32))] [(.ref x)])) rfl (hb hby d8_12) (n := 8) (by decide) (by decide) (ok rfl) (ok rfl)
            refine Goes.step (T' := T228) (g' := (mkF m 15 #[.val (.ref x), .val (.int (4 : Int32))] [(.ref la228), (.ref x)])) st228 ?_
            refine P1.iloadN X228.here hx (hb hby d8_15) rfl ?_
            refine P1.iconst X228.here hx (1 : Int32) (hb hby d8_16) rfl ?_
            refine P1.iadd X228.here hx (hb hby d8_17) ?_
            have rw229 : ((4 : Int32) + (1 : Int32)) = (5 : Int32) := by decide
            rw [rw229]
            have E230 : Exa Z h228 x "java/lang/String" := Ex.ext E228
            have F231 : Fld Z h228 x "java/lang/String" "value" "[B" (.ref t) := Fv.ext E228
            have F232 : Fld Z h228 x "java/lang/String" "coder" "B" (.int (0 : Int32)) := Fc.ext E228
            have V233 : Arv Z h228 t kt .byte (6 : Int32) [(.int b0), (.int b1), (.int b2), (.int b3), (.int b4), (.int b5)] (.int (0 : Int32)) := Vt.ext E228
            have Z234 : n0 ≤ h228.size := Nat.le_trans Z0 E228.1
            have O235 : Old Z n0 h228 := O0.ext E228
            refine Goes.callV X228 hx hZ (y := y11_) (z := y11_) hown (mvT hZ (own_w hw 83 rfl)) (mvT hZ (own_w hw 84 rfl)) (notFace_of_selects (args := #[]) (mvT hZ (own_w hw 86 rfl))) (mvT hZ (own_w hw 86 rfl)) (mvT hZ (own_w hw 85 rfl)) (by decide) (kc' := 0) (ks' := 0) (backOf (W := 0) (rmSw5 l Z a0 hw [] x t kt b0 b1 b2 b3 b4 b5 la228 lb228 lk228 zc fm h228 n0 Z234 O235 S_CS hzc S_FM hfm E230 F231 F232 V233 LE228 LV228 LC228 LK228) hZ (own_w hw 87 rfl) (own_w hw 7 rfl) (ok rfl) (ok rfl)) (b := x) e228 E230 (g := (mkF m 18 #[.val (.ref x), .val (.int (4 : Int32))] [(.int (5 : Int32)), (.ref la228), (.ref x)])) rfl (by rw [hml]; rfl) (argsL := [(.ref la228), (.int (5 : Int32))]) (rest := []) (lenOf pd_22172 rfl) rfl (by show 2 * 0 + _ ≤ _; exact Nat.le_of_eq rfl) (hb hby d8_18) rfl (ok rfl) (ok rfl) ?_
            intro v236 T236 L236 q236 X236
            obtain ⟨rfl, N236q, hE236⟩ := q236
            have N236 := Fr.app N158 N236q
            show Goes p e below _ T236 (mkF m 21 #[.val (.ref x), .val (.int (4 : Int32))] [(.int (0 : Int32))])
            refine P1.ifNo X236.here hx (hb hby d8_21) ((if0 _ _).trans (teq (by decide : (0 : Int32) = (0 : Int32))).2) ?_
            refine P1.iconst X236.here hx (0 : Int32) (hb hby d8_24) rfl ?_
            refine P1.goto X236.here hx 31 (hb hby d8_25) (by decide) (by decide) ?_
            have CR237 : CHr Z EL1 s.vm h0 T228.vm h228 := CR0.trans CW228
            refine Goes.retIW X236 hx Bd.notSynchronized hS228 ks228 hZ hEL (hh ▸ CR237) hE236 Bd.returns (hb hby d8_31) (ok rfl) (ok rfl) ?_
            have K238 : Keep h0 h228 [] := K0.ext E228
            exact ⟨by simp [auth, hc0, hc1, hc2, hc3, hc4], N236, K238⟩
          ·
            by_cases hc5 : b5 = (58 : Int32)
            ·
              have rw239 : (ix6 b0 b1 b2 b3 b4 b5) = (5 : Int32) := by simp [ix6, hc0, hc1, hc2, hc3, hc4, hc5]
              rw [rw239]
              refine P1.istoreN X158.here hx #[.val (.ref x), .val (.int (5 : Int32))] (hb hby d8_6) rfl ?_
              refine P1.iloadN X158.here hx (hb hby d8_7) rfl ?_
              refine P1.ifNo X158.here hx (hb hby d8_8) ((if0 _ _).trans (flt (by decide : ¬ ((5 : Int32) < (0 : Int32)))).1) ?_
              refine P1.aloadN X158.here hx (hb hby d8_11) rfl rfl ?_
              obtain ⟨la240, T240, h240, k1_240, lb240, lk240, X240, e240, E240, hS240, ks240, hZ, hown, LE240, LC240, LV240, LK240, -, -, CW240, -, hsf240, st240⟩ := ldcCHw X158 hx hZ hown (own_w hw 80 rfl) (fun d hd => hw d (in_atoms d hd)) hE158 hS0 ks0 hEL (by decide) CR0.1 (vs := [(.int (47 : Int32)), (.int (47 : Int32))]) (z := (2 : Int32)) (by decide) (by decide) rfl (g := (mkF m 12 #[.val (.ref x), .val (.int (5 : Int32))] [(.ref x)])) rfl (hb hby d8_12) (n := 8) (by decide) (by decide) (ok rfl) (ok rfl)
              refine Goes.step (T' := T240) (g' := (mkF m 15 #[.val (.ref x), .val (.int (5 : Int32))] [(.ref la240), (.ref x)])) st240 ?_
              refine P1.iloadN X240.here hx (hb hby d8_15) rfl ?_
              refine P1.iconst X240.here hx (1 : Int32) (hb hby d8_16) rfl ?_
              refine P1.iadd X240.here hx (hb hby d8_17) ?_
              have rw241 : ((5 : Int32) + (1 : Int32)) = (6 : Int32) := by decide
              rw [rw241]
              have E242 : Exa Z h240 x "java/lang/String" := Ex.ext E240
              have F243 : Fld Z h240 x "java/lang/String" "value" "[B" (.ref t) := Fv.ext E240
              have F244 : Fld Z h240 x "java/lang/String" "coder" "B" (.int (0 : Int32)) := Fc.ext E240
              have V245 : Arv Z h240 t kt .byte (6 : Int32) [(.int b0), (.int b1), (.int b2), (.int b3), (.int b4), (.int b5)] (.int (0 : Int32)) := Vt.ext E240
              have Z246 : n0 ≤ h240.size := Nat.le_trans Z0 E240.1
              have O247 : Old Z n0 h240 := O0.ext E240
              refine Goes.callV X240 hx hZ (y := y11_) (z := y11_) hown (mvT hZ (own_w hw 83 rfl)) (mvT hZ (own_w hw 84 rfl)) (notFace_of_selects (args := #[]) (mvT hZ (own_w hw 86 rfl))) (mvT hZ (own_w hw 86 rfl)) (mvT hZ (own_w hw 85 rfl)) (by decide) (kc' := 0) (ks' := 0) (backOf (W := 0) (rmSw6 l Z a0 hw [] x t kt b0 b1 b2 b3 b4 b5 la240 lb240 lk240 zc fm h240 n0 Z246 O247 S_CS hzc S_FM hfm E242 F243 F244 V245 LE240 LV240 LC240 LK240) hZ (own_w hw 87 rfl) (own_w hw 7 rfl) (ok rfl) (ok rfl)) (b := x) e240 E242 (g := (mkF m 18 #[.val (.ref x), .val (.int (5 : Int32))] [(.int (6 : Int32)), (.ref la240), (.ref x)])) rfl (by rw [hml]; rfl) (argsL := [(.ref la240), (.int (6 : Int32))]) (rest := []) (lenOf pd_22172 rfl) rfl (by show 2 * 0 + _ ≤ _; exact Nat.le_of_eq rfl) (hb hby d8_18) rfl (ok rfl) (ok rfl) ?_
              intro v248 T248 L248 q248 X248
              obtain ⟨rfl, N248q, hE248⟩ := q248
              have N248 := Fr.app N158 N248q
              show Goes p e below _ T248 (mkF m 21 #[.val (.ref x), .val (.int (5 : Int32))] [(.int (0 : Int32))])
              refine P1.ifNo X248.here hx (hb hby d8_21) ((if0 _ _).trans (teq (by decide : (0 : Int32) = (0 : Int32))).2) ?_
              refine P1.iconst X248.here hx (0 : Int32) (hb hby d8_24) rfl ?_
              refine P1.goto X248.here hx 31 (hb hby d8_25) (by decide) (by decide) ?_
              have CR249 : CHr Z EL1 s.vm h0 T240.vm h240 := CR0.trans CW240
              refine Goes.retIW X248 hx Bd.notSynchronized hS240 ks240 hZ hEL (hh ▸ CR249) hE248 Bd.returns (hb hby d8_31) (ok rfl) (ok rfl) ?_
              have K250 : Keep h0 h240 [] := K0.ext E240
              exact ⟨by simp [auth, hc0, hc1, hc2, hc3, hc4, hc5], N248, K250⟩
            ·
              have rw251 : (ix6 b0 b1 b2 b3 b4 b5) = (-1 : Int32) := by simp [ix6, hc0, hc1, hc2, hc3, hc4, hc5]
              rw [rw251]
              refine P1.istoreN X158.here hx #[.val (.ref x), .val (.int (-1 : Int32))] (hb hby d8_6) rfl ?_
              refine P1.iloadN X158.here hx (hb hby d8_7) rfl ?_
              refine P1.ifYes X158.here hx 24 (hb hby d8_8) ((if0 _ _).trans (tlt (by decide : (-1 : Int32) < (0 : Int32))).1) (by decide) (by decide) ?_
              refine P1.iconst X158.here hx (0 : Int32) (hb hby d8_24) rfl ?_
              refine P1.goto X158.here hx 31 (hb hby d8_25) (by decide) (by decide) ?_
              refine Goes.retIW X158 hx Bd.notSynchronized hS0 ks0 hZ hEL (hh ▸ CR0) hE158 Bd.returns (hb hby d8_31) (ok rfl) (ok rfl) ?_
              exact ⟨by simp [auth, hc0, hc1, hc2, hc3, hc4, hc5], N158, K0⟩
theorem pd_1307 : parseMethodDescriptor "(IJI)C" = some ⟨[.int, .long, .int], some .char⟩ := by decide +kernel
theorem in_words : ∀ d ∈ StrChars.Road.words, d ∈ tables_1 := by decide +kernel
theorem pd_1017 : parseMethodDescriptor "([C)V" = some ⟨[(.array .char)], none⟩ := by decide +kernel
theorem pd_20224 : parseMethodDescriptor "(Ljava/lang/String;)I" = some ⟨[(.object "java/lang/String")], some .int⟩ := by decide +kernel
theorem pd_1322 : parseMethodDescriptor "([CI)C" = some ⟨[(.array .char), .int], some .char⟩ := by decide +kernel
theorem ef0 (p0 : Int32) (q1 : Int64) (m : MethodId) : entryFrame m #[(.int p0), (.long q1)] maxLocals = mkF m 0 #[.val (.int p0), .val (.long q1), .second, .unset, .unset, .unset, .unset, .unset] [] := by first | (simp [entryFrame, mkF, argsToLocals, Value.category, maxLocals]; done) | rfl
def Q0 (Z : State) (p0 : Int32) (q1 : Int64) (zc : Int32) (fm : Value) (h0 : Heap) (n0 : Nat) (v : Option Value) (h : Heap) (L : List Loc) : Prop := v = some (.int 1) ∧ Fr n0 L
set_option maxRecDepth 65536 in
set_option maxHeartbeats 40000000 in
theorem rm0 (l : Launch) (Z : State) (a0 : Array Value) (hw : ∀ d ∈ tables_1, d.before a0 Z = true) (ws : List Jvm.Cond) (p0 : Int32) (q1 : Int64) (zc : Int32) (fm : Value) (h0 : Heap) (n0 : Nat) (Z0 : n0 ≤ h0.size) (O0 : Old Z n0 h0) (S_CS : Sta Z Z.heap "java/lang/String" "COMPACT_STRINGS" "Z" (.int zc)) (hzc : ¬ zc = 0) (S_FM : Sta Z Z.heap "jdk/internal/util/Preconditions" "SIOOBE_FORMATTER" "Ljava/util/function/BiFunction;" fm) (hfm : fm.isRef = true) :
    OwnLawW l x code maxLocals ret ws room_1 #[(.int p0), (.long q1)] Z EL1 h0 (Q0 Z p0 q1 zc fm h0 n0) := by
  refine own_enterW (plainFor_of_name pn_com_example_hoist_hoist_model_RepositoryUrlAuthorityStartPinLaw) (ef0 p0 q1) ?_
  intro p e s m below meth c s₁ Bd hx hby hml hZ hown X0 e0 hh hS0 CR0
  have hml : c.maxLocals = 8 := hml
  have N0 := Fr.nil n0
  have hEL : EW Z a0 EL1 := own_EL hw
  have ks0 : h0.size ≤ h0.size := Nat.le_refl _
  have K0 : Keep h0 h0 [] := Keep.refl _ _
  refine P1.bipush X0.here hx (6 : Int32) (hb hby at_0) rfl ?_
  obtain ⟨T252, h252, k252, X252, e252, E252, A252, st252⟩ := newP X0 hx hZ (own_w hw 0 rfl) e0 (g := (mkF m 2 #[.val (.int p0), .val (.long q1), .second, .unset, .unset, .unset, .unset, .unset] [(.int (6 : Int32))])) rfl (hb hby at_2) rfl (by decide) (cap := 6) (ok rfl) (ok rfl) (ok rfl) (ok rfl)
  obtain ⟨b252, g252⟩ : ∃ z, z = h0.size := ⟨_, rfl⟩
  rw [← g252] at A252 st252
  have ge_b252 : n0 ≤ b252 := Nat.le_trans Z0 (Nat.le_of_eq g252.symm)
  have sz_b252 : h0.size ≤ b252 := Nat.le_trans K0.1 (Nat.le_of_eq g252.symm)
  have sf_b252 : Safe Z EL1 s.vm h0 b252 := Safe.new (Nat.le_of_eq g252.symm)
  have V252 : Arv Z h252 b252 k252 .char (6 : Int32) [(.int (0 : Int32)), (.int (0 : Int32)), (.int (0 : Int32)), (.int (0 : Int32)), (.int (0 : Int32)), (.int (0 : Int32))] (.int (0 : Int32)) := (Arv.new A252 (by decide)).pad (pad_rep [] (.int (0 : Int32)) 6)
  refine Goes.step (T' := T252) (g' := (mkF m 4 #[.val (.int p0), .val (.long q1), .second, .unset, .unset, .unset, .unset, .unset] [(.ref b252)])) st252 ?_
  refine P1.astoreN X252.here hx #[.val (.int p0), .val (.long q1), .second, .val (.ref b252), .unset, .unset, .unset, .unset] (hb hby at_4) rfl rfl ?_
  refine P1.aloadN X252.here hx (hb hby at_5) rfl rfl ?_
  refine P1.iconst X252.here hx (0 : Int32) (hb hby at_6) rfl ?_
  refine P1.iloadN X252.here hx (hb hby at_7) rfl ?_
  refine P1.lloadN X252.here hx (hb hby at_8) rfl ?_
  refine P1.iconst X252.here hx (0 : Int32) (hb hby at_9) rfl ?_
  have Z253 : n0 ≤ h252.size := Nat.le_trans Z0 E252.1
  have O254 : Old Z n0 h252 := O0.ext E252
  refine P1.callS X252 hx hZ hown (own_w hw 1 rfl) (own_w hw 2 rfl) (own_w hw 3 rfl) (own_w hw 4 rfl) (by decide) (rmPk l Z a0 hw [] p0 q1 (0 : Int32) h252 n0 Z253 O254 ) hml [(.int p0), (.long q1), (.int (0 : Int32))] [(.int (0 : Int32)), (.ref b252)] (lenOf pd_1307 rfl) rfl rfl (hb hby at_10) rfl e252 (ok rfl) (ok rfl) (ok rfl) (ok rfl) ?_
  intro v255 T255 L255 q255 X255
  obtain ⟨r255, rfl, bd_r255, N255q, hE255⟩ := q255
  have N255 := Fr.app N0 N255q
  show Goes p e below _ T255 (mkF m 13 #[.val (.int p0), .val (.long q1), .second, .val (.ref b252), .unset, .unset, .unset, .unset] [(.int r255), (.int (0 : Int32)), (.ref b252)])
  obtain ⟨cl256, Ar256, qk256, sl256, nz256, ha256, fi256⟩ := id V252
  obtain ⟨T257, h257, X257, e257, W257, st257⟩ := stC X255 hx hZ hE255 Ar256 (j := (0 : Int32)) (inb_of sl256 ⟨by decide, by decide⟩) (g := (mkF m 13 #[.val (.int p0), .val (.long q1), .second, .val (.ref b252), .unset, .unset, .unset, .unset] [(.int r255), (.int (0 : Int32)), (.ref b252)])) rfl rfl (hb hby at_13)
  rw [(own_nar bd_r255)] at W257
  have V257 : Arv Z h257 b252 k252 .char (6 : Int32) [(.int r255), (.int (0 : Int32)), (.int (0 : Int32)), (.int (0 : Int32)), (.int (0 : Int32)), (.int (0 : Int32))] (.int (0 : Int32)) := Arv.set Ar256 qk256 sl256 nz256 ha256 fi256 ((own_nar bd_r255) ▸ fits_nar_char r255) W257 0 rfl (ok rfl)
  have N257 := Fr.snoc X257 N255 ge_b252
  refine Goes.step (T' := T257) (g' := (mkF m 14 #[.val (.int p0), .val (.long q1), .second, .val (.ref b252), .unset, .unset, .unset, .unset] [])) st257 ?_
  refine P1.aloadN X257.here hx (hb hby at_14) rfl rfl ?_
  refine P1.iconst X257.here hx (1 : Int32) (hb hby at_15) rfl ?_
  refine P1.iloadN X257.here hx (hb hby at_16) rfl ?_
  refine P1.lloadN X257.here hx (hb hby at_17) rfl ?_
  refine P1.iconst X257.here hx (1 : Int32) (hb hby at_18) rfl ?_
  have Z258 : n0 ≤ h257.size := Nat.le_trans Z253 (Keep.of_wr W257).1
  have O259 : Old Z n0 h257 := O254.wr W257 ge_b252
  refine P1.callS X257 hx hZ hown (own_w hw 1 rfl) (own_w hw 2 rfl) (own_w hw 3 rfl) (own_w hw 4 rfl) (by decide) (rmPk l Z a0 hw [] p0 q1 (1 : Int32) h257 n0 Z258 O259 ) hml [(.int p0), (.long q1), (.int (1 : Int32))] [(.int (1 : Int32)), (.ref b252)] (lenOf pd_1307 rfl) rfl rfl (hb hby at_19) rfl e257 (ok rfl) (ok rfl) (ok rfl) (ok rfl) ?_
  intro v260 T260 L260 q260 X260
  obtain ⟨r260, rfl, bd_r260, N260q, hE260⟩ := q260
  have N260 := Fr.app N257 N260q
  show Goes p e below _ T260 (mkF m 22 #[.val (.int p0), .val (.long q1), .second, .val (.ref b252), .unset, .unset, .unset, .unset] [(.int r260), (.int (1 : Int32)), (.ref b252)])
  obtain ⟨cl261, Ar261, qk261, sl261, nz261, ha261, fi261⟩ := id V257
  obtain ⟨T262, h262, X262, e262, W262, st262⟩ := stC X260 hx hZ hE260 Ar261 (j := (1 : Int32)) (inb_of sl261 ⟨by decide, by decide⟩) (g := (mkF m 22 #[.val (.int p0), .val (.long q1), .second, .val (.ref b252), .unset, .unset, .unset, .unset] [(.int r260), (.int (1 : Int32)), (.ref b252)])) rfl rfl (hb hby at_22)
  rw [(own_nar bd_r260)] at W262
  have V262 : Arv Z h262 b252 k252 .char (6 : Int32) [(.int r255), (.int r260), (.int (0 : Int32)), (.int (0 : Int32)), (.int (0 : Int32)), (.int (0 : Int32))] (.int (0 : Int32)) := Arv.set Ar261 qk261 sl261 nz261 ha261 fi261 ((own_nar bd_r260) ▸ fits_nar_char r260) W262 1 rfl (ok rfl)
  have N262 := Fr.snoc X262 N260 ge_b252
  refine Goes.step (T' := T262) (g' := (mkF m 23 #[.val (.int p0), .val (.long q1), .second, .val (.ref b252), .unset, .unset, .unset, .unset] [])) st262 ?_
  refine P1.aloadN X262.here hx (hb hby at_23) rfl rfl ?_
  refine P1.iconst X262.here hx (2 : Int32) (hb hby at_24) rfl ?_
  refine P1.iloadN X262.here hx (hb hby at_25) rfl ?_
  refine P1.lloadN X262.here hx (hb hby at_26) rfl ?_
  refine P1.iconst X262.here hx (2 : Int32) (hb hby at_27) rfl ?_
  have Z263 : n0 ≤ h262.size := Nat.le_trans Z258 (Keep.of_wr W262).1
  have O264 : Old Z n0 h262 := O259.wr W262 ge_b252
  refine P1.callS X262 hx hZ hown (own_w hw 1 rfl) (own_w hw 2 rfl) (own_w hw 3 rfl) (own_w hw 4 rfl) (by decide) (rmPk l Z a0 hw [] p0 q1 (2 : Int32) h262 n0 Z263 O264 ) hml [(.int p0), (.long q1), (.int (2 : Int32))] [(.int (2 : Int32)), (.ref b252)] (lenOf pd_1307 rfl) rfl rfl (hb hby at_28) rfl e262 (ok rfl) (ok rfl) (ok rfl) (ok rfl) ?_
  intro v265 T265 L265 q265 X265
  obtain ⟨r265, rfl, bd_r265, N265q, hE265⟩ := q265
  have N265 := Fr.app N262 N265q
  show Goes p e below _ T265 (mkF m 31 #[.val (.int p0), .val (.long q1), .second, .val (.ref b252), .unset, .unset, .unset, .unset] [(.int r265), (.int (2 : Int32)), (.ref b252)])
  obtain ⟨cl266, Ar266, qk266, sl266, nz266, ha266, fi266⟩ := id V262
  obtain ⟨T267, h267, X267, e267, W267, st267⟩ := stC X265 hx hZ hE265 Ar266 (j := (2 : Int32)) (inb_of sl266 ⟨by decide, by decide⟩) (g := (mkF m 31 #[.val (.int p0), .val (.long q1), .second, .val (.ref b252), .unset, .unset, .unset, .unset] [(.int r265), (.int (2 : Int32)), (.ref b252)])) rfl rfl (hb hby at_31)
  rw [(own_nar bd_r265)] at W267
  have V267 : Arv Z h267 b252 k252 .char (6 : Int32) [(.int r255), (.int r260), (.int r265), (.int (0 : Int32)), (.int (0 : Int32)), (.int (0 : Int32))] (.int (0 : Int32)) := Arv.set Ar266 qk266 sl266 nz266 ha266 fi266 ((own_nar bd_r265) ▸ fits_nar_char r265) W267 2 rfl (ok rfl)
  have N267 := Fr.snoc X267 N265 ge_b252
  refine Goes.step (T' := T267) (g' := (mkF m 32 #[.val (.int p0), .val (.long q1), .second, .val (.ref b252), .unset, .unset, .unset, .unset] [])) st267 ?_
  refine P1.aloadN X267.here hx (hb hby at_32) rfl rfl ?_
  refine P1.iconst X267.here hx (3 : Int32) (hb hby at_33) rfl ?_
  refine P1.iloadN X267.here hx (hb hby at_34) rfl ?_
  refine P1.lloadN X267.here hx (hb hby at_35) rfl ?_
  refine P1.iconst X267.here hx (3 : Int32) (hb hby at_36) rfl ?_
  have Z268 : n0 ≤ h267.size := Nat.le_trans Z263 (Keep.of_wr W267).1
  have O269 : Old Z n0 h267 := O264.wr W267 ge_b252
  refine P1.callS X267 hx hZ hown (own_w hw 1 rfl) (own_w hw 2 rfl) (own_w hw 3 rfl) (own_w hw 4 rfl) (by decide) (rmPk l Z a0 hw [] p0 q1 (3 : Int32) h267 n0 Z268 O269 ) hml [(.int p0), (.long q1), (.int (3 : Int32))] [(.int (3 : Int32)), (.ref b252)] (lenOf pd_1307 rfl) rfl rfl (hb hby at_37) rfl e267 (ok rfl) (ok rfl) (ok rfl) (ok rfl) ?_
  intro v270 T270 L270 q270 X270
  obtain ⟨r270, rfl, bd_r270, N270q, hE270⟩ := q270
  have N270 := Fr.app N267 N270q
  show Goes p e below _ T270 (mkF m 40 #[.val (.int p0), .val (.long q1), .second, .val (.ref b252), .unset, .unset, .unset, .unset] [(.int r270), (.int (3 : Int32)), (.ref b252)])
  obtain ⟨cl271, Ar271, qk271, sl271, nz271, ha271, fi271⟩ := id V267
  obtain ⟨T272, h272, X272, e272, W272, st272⟩ := stC X270 hx hZ hE270 Ar271 (j := (3 : Int32)) (inb_of sl271 ⟨by decide, by decide⟩) (g := (mkF m 40 #[.val (.int p0), .val (.long q1), .second, .val (.ref b252), .unset, .unset, .unset, .unset] [(.int r270), (.int (3 : Int32)), (.ref b252)])) rfl rfl (hb hby at_40)
  rw [(own_nar bd_r270)] at W272
  have V272 : Arv Z h272 b252 k252 .char (6 : Int32) [(.int r255), (.int r260), (.int r265), (.int r270), (.int (0 : Int32)), (.int (0 : Int32))] (.int (0 : Int32)) := Arv.set Ar271 qk271 sl271 nz271 ha271 fi271 ((own_nar bd_r270) ▸ fits_nar_char r270) W272 3 rfl (ok rfl)
  have N272 := Fr.snoc X272 N270 ge_b252
  refine Goes.step (T' := T272) (g' := (mkF m 41 #[.val (.int p0), .val (.long q1), .second, .val (.ref b252), .unset, .unset, .unset, .unset] [])) st272 ?_
  refine P1.aloadN X272.here hx (hb hby at_41) rfl rfl ?_
  refine P1.iconst X272.here hx (4 : Int32) (hb hby at_42) rfl ?_
  refine P1.iloadN X272.here hx (hb hby at_43) rfl ?_
  refine P1.lloadN X272.here hx (hb hby at_44) rfl ?_
  refine P1.iconst X272.here hx (4 : Int32) (hb hby at_45) rfl ?_
  have Z273 : n0 ≤ h272.size := Nat.le_trans Z268 (Keep.of_wr W272).1
  have O274 : Old Z n0 h272 := O269.wr W272 ge_b252
  refine P1.callS X272 hx hZ hown (own_w hw 1 rfl) (own_w hw 2 rfl) (own_w hw 3 rfl) (own_w hw 4 rfl) (by decide) (rmPk l Z a0 hw [] p0 q1 (4 : Int32) h272 n0 Z273 O274 ) hml [(.int p0), (.long q1), (.int (4 : Int32))] [(.int (4 : Int32)), (.ref b252)] (lenOf pd_1307 rfl) rfl rfl (hb hby at_46) rfl e272 (ok rfl) (ok rfl) (ok rfl) (ok rfl) ?_
  intro v275 T275 L275 q275 X275
  obtain ⟨r275, rfl, bd_r275, N275q, hE275⟩ := q275
  have N275 := Fr.app N272 N275q
  show Goes p e below _ T275 (mkF m 49 #[.val (.int p0), .val (.long q1), .second, .val (.ref b252), .unset, .unset, .unset, .unset] [(.int r275), (.int (4 : Int32)), (.ref b252)])
  obtain ⟨cl276, Ar276, qk276, sl276, nz276, ha276, fi276⟩ := id V272
  obtain ⟨T277, h277, X277, e277, W277, st277⟩ := stC X275 hx hZ hE275 Ar276 (j := (4 : Int32)) (inb_of sl276 ⟨by decide, by decide⟩) (g := (mkF m 49 #[.val (.int p0), .val (.long q1), .second, .val (.ref b252), .unset, .unset, .unset, .unset] [(.int r275), (.int (4 : Int32)), (.ref b252)])) rfl rfl (hb hby at_49)
  rw [(own_nar bd_r275)] at W277
  have V277 : Arv Z h277 b252 k252 .char (6 : Int32) [(.int r255), (.int r260), (.int r265), (.int r270), (.int r275), (.int (0 : Int32))] (.int (0 : Int32)) := Arv.set Ar276 qk276 sl276 nz276 ha276 fi276 ((own_nar bd_r275) ▸ fits_nar_char r275) W277 4 rfl (ok rfl)
  have N277 := Fr.snoc X277 N275 ge_b252
  refine Goes.step (T' := T277) (g' := (mkF m 50 #[.val (.int p0), .val (.long q1), .second, .val (.ref b252), .unset, .unset, .unset, .unset] [])) st277 ?_
  refine P1.aloadN X277.here hx (hb hby at_50) rfl rfl ?_
  refine P1.iconst X277.here hx (5 : Int32) (hb hby at_51) rfl ?_
  refine P1.iloadN X277.here hx (hb hby at_52) rfl ?_
  refine P1.lloadN X277.here hx (hb hby at_53) rfl ?_
  refine P1.iconst X277.here hx (5 : Int32) (hb hby at_54) rfl ?_
  have Z278 : n0 ≤ h277.size := Nat.le_trans Z273 (Keep.of_wr W277).1
  have O279 : Old Z n0 h277 := O274.wr W277 ge_b252
  refine P1.callS X277 hx hZ hown (own_w hw 1 rfl) (own_w hw 2 rfl) (own_w hw 3 rfl) (own_w hw 4 rfl) (by decide) (rmPk l Z a0 hw [] p0 q1 (5 : Int32) h277 n0 Z278 O279 ) hml [(.int p0), (.long q1), (.int (5 : Int32))] [(.int (5 : Int32)), (.ref b252)] (lenOf pd_1307 rfl) rfl rfl (hb hby at_55) rfl e277 (ok rfl) (ok rfl) (ok rfl) (ok rfl) ?_
  intro v280 T280 L280 q280 X280
  obtain ⟨r280, rfl, bd_r280, N280q, hE280⟩ := q280
  have N280 := Fr.app N277 N280q
  show Goes p e below _ T280 (mkF m 58 #[.val (.int p0), .val (.long q1), .second, .val (.ref b252), .unset, .unset, .unset, .unset] [(.int r280), (.int (5 : Int32)), (.ref b252)])
  obtain ⟨cl281, Ar281, qk281, sl281, nz281, ha281, fi281⟩ := id V277
  obtain ⟨T282, h282, X282, e282, W282, st282⟩ := stC X280 hx hZ hE280 Ar281 (j := (5 : Int32)) (inb_of sl281 ⟨by decide, by decide⟩) (g := (mkF m 58 #[.val (.int p0), .val (.long q1), .second, .val (.ref b252), .unset, .unset, .unset, .unset] [(.int r280), (.int (5 : Int32)), (.ref b252)])) rfl rfl (hb hby at_58)
  rw [(own_nar bd_r280)] at W282
  have V282 : Arv Z h282 b252 k252 .char (6 : Int32) [(.int r255), (.int r260), (.int r265), (.int r270), (.int r275), (.int r280)] (.int (0 : Int32)) := Arv.set Ar281 qk281 sl281 nz281 ha281 fi281 ((own_nar bd_r280) ▸ fits_nar_char r280) W282 5 rfl (ok rfl)
  have N282 := Fr.snoc X282 N280 ge_b252
  refine Goes.step (T' := T282) (g' := (mkF m 59 #[.val (.int p0), .val (.long q1), .second, .val (.ref b252), .unset, .unset, .unset, .unset] [])) st282 ?_
  obtain ⟨T283, h283, X283, e283, E283, A283, D283, -, st283⟩ := newO X282 hx hZ hown (own_w hw 5 rfl) (own_w hw 6 rfl) (own_w hw 7 rfl) e282 (g := (mkF m 59 #[.val (.int p0), .val (.long q1), .second, .val (.ref b252), .unset, .unset, .unset, .unset] [])) rfl (hb hby at_59) (ok rfl) (ok rfl)
  have Z284 : n0 ≤ h282.size := Nat.le_trans Z278 (Keep.of_wr W282).1
  have K285 : Keep h0 h252 [] := K0.ext E252
  have K286 : Keep h0 h257 [] := K285.wr W257 (Or.inr sz_b252)
  have K287 : Keep h0 h262 [] := K286.wr W262 (Or.inr sz_b252)
  have K288 : Keep h0 h267 [] := K287.wr W267 (Or.inr sz_b252)
  have K289 : Keep h0 h272 [] := K288.wr W272 (Or.inr sz_b252)
  have K290 : Keep h0 h277 [] := K289.wr W277 (Or.inr sz_b252)
  have K291 : Keep h0 h282 [] := K290.wr W282 (Or.inr sz_b252)
  obtain ⟨b283, g283⟩ : ∃ z, z = h282.size := ⟨_, rfl⟩
  rw [← g283] at A283 D283 st283
  have ge_b283 : n0 ≤ b283 := Nat.le_trans Z284 (Nat.le_of_eq g283.symm)
  have sz_b283 : h0.size ≤ b283 := Nat.le_trans K291.1 (Nat.le_of_eq g283.symm)
  have sf_b283 : Safe Z EL1 s.vm h282 b283 := Safe.new (Nat.le_of_eq g283.symm)
  have F283_coder : Fld Z h283 b283 "java/lang/String" "coder" "B" (.int (0 : Int32)) := D283 (Or.inr (own_w hw 31 rfl)) (ty := .byte) (by decide)
  have F283_value : Fld Z h283 b283 "java/lang/String" "value" "[B" .null := D283 (Or.inr (own_w hw 33 rfl)) (ty := (.array .byte)) (by decide)
  refine Goes.step (T' := T283) (g' := (mkF m 62 #[.val (.int p0), .val (.long q1), .second, .val (.ref b252), .unset, .unset, .unset, .unset] [(.ref b283)])) st283 ?_
  refine P1.dup X283.here hx (hb hby at_62) rfl ?_
  refine P1.aloadN X283.here hx (hb hby at_63) rfl rfl ?_
  have V292 : Arv Z h283 b252 k252 .char (6 : Int32) [(.int r255), (.int r260), (.int r265), (.int r270), (.int r275), (.int r280)] (.int (0 : Int32)) := V282.ext E283
  have Z293 : n0 ≤ h283.size := Nat.le_trans Z284 E283.1
  have hq294 : ∀ c ∈ ([r255, r260, r265, r270, r275, r280] : List Int32), ¬ c < 0 ∧ ¬ (255 : Int32) < c := by
    intro c hc
    simp only [List.mem_cons, List.not_mem_nil, or_false] at hc
    rcases hc with rfl | rfl | rfl | rfl | rfl | rfl
    · exact bd_r255
    · exact bd_r260
    · exact bd_r265
    · exact bd_r270
    · exact bd_r275
    · exact bd_r280
  have hp295 : ∀ c ∈ ([r255, r260, r265, r270, r275, r280] : List Int32), ¬ c < 0 ∧ ¬ (255 : Int32) < c := hq294
  have O296 : Old Z n0 h282 := O279.wr W282 ge_b252
  have O297 : Old Z n0 h283 := O296.ext E283
  refine Goes.callC X283 hx (y := (⟨"java/lang/String", "<init>", "([C)V"⟩ : MethodName)) rfl hown (mvT hZ (own_w hw 8 rfl)) (mvT hZ (own_w hw 9 rfl)) (mvT hZ (own_w hw 10 rfl)) (by decide) (kc' := 1) (ks' := 6) (StrChars.Road.backV (W := 1) hZ (fun d hd => hw d (in_words d hd)) (kI := 4) (own_w hw 6 rfl) (cs := ([r255, r260, r265, r270, r275, r280] : List Int32)) (bs := ([r255, r260, r265, r270, r275, r280] : List Int32).map (fun c => c.toInt8.toInt32)) (n := 6) ge_b283 Z293 A283 F283_value F283_coder V292 (S_CS.ext O297.2) hzc rfl rfl (by decide) (by decide) hp295 rfl (ok rfl) (ok rfl)) (g := (mkF m 64 #[.val (.int p0), .val (.long q1), .second, .val (.ref b252), .unset, .unset, .unset, .unset] [(.ref b252), (.ref b283), (.ref b283)])) (a := b283) rfl (by rw [hml]; rfl) (argsL := [(.ref b252)]) (rest := [(.ref b283)]) (lenOf pd_1017 rfl) rfl (by show 2 * 0 + _ ≤ _; exact Nat.le_of_eq rfl) (hb hby at_64) rfl e283 (ok rfl) (ok rfl) ?_
  intro v298 T298 L298 q298 X298
  obtain ⟨rfl, N298q, K298, g298E, g298C, t298, kb298, ge_t298, szt298, net298, g298V, g298K⟩ := q298
  have K299 : Keep h0 h283 [] := K291.ext E283
  have N298 := Fr.app N282 N298q
  have sz_t298 : h0.size ≤ t298 := Nat.le_trans K299.1 szt298
  show Goes p e below _ T298 (mkF m 67 #[.val (.int p0), .val (.long q1), .second, .val (.ref b252), .unset, .unset, .unset, .unset] [(.ref b283)])
  refine P1.astore X298.here hx #[.val (.int p0), .val (.long q1), .second, .val (.ref b252), .val (.ref b283), .unset, .unset, .unset] (hb hby at_67) rfl rfl ?_
  refine P1.aload X298.here hx (hb hby at_69) rfl rfl ?_
  have Z300 : n0 ≤ T298.heap.size := Nat.le_trans Z293 K298.1
  have O301 : Old Z n0 T298.heap := O297.keep K298 (allS ge_b283 all0)
  have CR302 : CHr Z EL1 s.vm h0 s.vm h252 := CR0.trans (CHr.ext E252 CR0.1)
  have sf303 : Safe Z EL1 s.vm h252 b252 := Safe.ext E252 CR0.1 sf_b252
  have CR304 : CHr Z EL1 s.vm h0 s.vm h257 := CR302.trans (CHr.wr W257 sf303 CR302.1)
  have sf305 : Safe Z EL1 s.vm h257 b252 := Safe.wr W257 sf303 CR302.1 sf303
  have CR306 : CHr Z EL1 s.vm h0 s.vm h262 := CR304.trans (CHr.wr W262 sf305 CR304.1)
  have sf307 : Safe Z EL1 s.vm h262 b252 := Safe.wr W262 sf305 CR304.1 sf305
  have CR308 : CHr Z EL1 s.vm h0 s.vm h267 := CR306.trans (CHr.wr W267 sf307 CR306.1)
  have sf309 : Safe Z EL1 s.vm h267 b252 := Safe.wr W267 sf307 CR306.1 sf307
  have CR310 : CHr Z EL1 s.vm h0 s.vm h272 := CR308.trans (CHr.wr W272 sf309 CR308.1)
  have sf311 : Safe Z EL1 s.vm h272 b252 := Safe.wr W272 sf309 CR308.1 sf309
  have CR312 : CHr Z EL1 s.vm h0 s.vm h277 := CR310.trans (CHr.wr W277 sf311 CR310.1)
  have sf313 : Safe Z EL1 s.vm h277 b252 := Safe.wr W277 sf311 CR310.1 sf311
  have CR314 : CHr Z EL1 s.vm h0 s.vm h282 := CR312.trans (CHr.wr W282 sf313 CR312.1)
  have CR315 : CHr Z EL1 s.vm h0 s.vm h283 := CR314.trans (CHr.ext E283 CR314.1)
  have sf316 : Safe Z EL1 s.vm h283 b283 := Safe.ext E283 CR314.1 sf_b283
  have CR317 : CHr Z EL1 s.vm h0 s.vm T298.heap := CR315.trans (CHr.keep K298 (sfS sf316 sf0) CR315.1)
  have ks319 : h0.size ≤ h252.size := Nat.le_trans ks0 E252.1
  have ks320 : h0.size ≤ h257.size := Nat.le_trans ks319 (Keep.of_wr W257).1
  have ks321 : h0.size ≤ h262.size := Nat.le_trans ks320 (Keep.of_wr W262).1
  have ks322 : h0.size ≤ h267.size := Nat.le_trans ks321 (Keep.of_wr W267).1
  have ks323 : h0.size ≤ h272.size := Nat.le_trans ks322 (Keep.of_wr W272).1
  have ks324 : h0.size ≤ h277.size := Nat.le_trans ks323 (Keep.of_wr W277).1
  have ks325 : h0.size ≤ h282.size := Nat.le_trans ks324 (Keep.of_wr W282).1
  have ks326 : h0.size ≤ h283.size := Nat.le_trans ks325 E283.1
  have ks327 : h0.size ≤ T298.heap.size := Nat.le_trans ks326 K298.1
  refine Goes.callSW X298 hx (y := (⟨"com/example/hoist/hoist/model/RepositoryUrl", "authorityStart", "(Ljava/lang/String;)I"⟩ : MethodName)) hS0 ks327 hZ hown (mvT hZ (own_w hw 34 rfl)) (mvT hZ (own_w hw 35 rfl)) (mvT hZ (own_w hw 36 rfl)) (mvT hZ (own_w hw 37 rfl)) (by decide) (kc' := 2) (ks' := 12) (backOfSH (W := 0) (rmAs l Z a0 hw [] b283 t298 kb298 (r255).toInt8.toInt32 (r260).toInt8.toInt32 (r265).toInt8.toInt32 (r270).toInt8.toInt32 (r275).toInt8.toInt32 (r280).toInt8.toInt32 zc fm T298.heap n0 Z300 O301 S_CS hzc S_FM hfm g298E g298V g298C g298K) hZ (own_w hw 37 rfl) (own_w hw 36 rfl) (ok rfl) (ok rfl) hEL CR317.1) (g := (mkF m 71 #[.val (.int p0), .val (.long q1), .second, .val (.ref b252), .val (.ref b283), .unset, .unset, .unset] [(.ref b283)])) rfl (by rw [hml]; rfl) (argsL := [(.ref b283)]) (rest := []) (lenOf pd_20224 rfl) rfl (by show 2 * 0 + _ ≤ _; exact Nat.le_of_eq rfl) (hb hby at_71) rfl rfl (ok rfl) (ok rfl) ?_
  intro v318 T318 L318 q318 Y318
  obtain ⟨X318, hS318, hZ, hown, CW318⟩ := Y318
  obtain ⟨rfl, N318q, K318⟩ := q318
  have N318 := Fr.app N298 N318q
  have ks318 : T318.heap.size ≤ T318.heap.size := Nat.le_refl _
  show Goes p e below _ T318 (mkF m 74 #[.val (.int p0), .val (.long q1), .second, .val (.ref b252), .val (.ref b283), .unset, .unset, .unset] [(.int (auth ((r255).toInt8.toInt32) ((r260).toInt8.toInt32) ((r265).toInt8.toInt32) ((r270).toInt8.toInt32) ((r275).toInt8.toInt32) ((r280).toInt8.toInt32)))])
  refine P1.istore X318.here hx #[.val (.int p0), .val (.long q1), .second, .val (.ref b252), .val (.ref b283), .val (.int (auth ((r255).toInt8.toInt32) ((r260).toInt8.toInt32) ((r265).toInt8.toInt32) ((r270).toInt8.toInt32) ((r275).toInt8.toInt32) ((r280).toInt8.toInt32))), .unset, .unset] (hb hby at_74) rfl ?_
  refine P1.aloadN X318.here hx (hb hby at_76) rfl rfl ?_
  refine P1.iconst X318.here hx (0 : Int32) (hb hby at_77) rfl ?_
  have ne328 : b252 ≠ b283 := Nat.ne_of_lt (Nat.lt_of_lt_of_le V282.lt (Nat.le_of_eq g283.symm))
  have V329 : Arv Z T298.heap b252 k252 .char (6 : Int32) [(.int r255), (.int r260), (.int r265), (.int r270), (.int r275), (.int r280)] (.int (0 : Int32)) := V292.keep K298 (ninS ne328 nin0)
  have V330 : Arv Z T318.heap b252 k252 .char (6 : Int32) [(.int r255), (.int r260), (.int r265), (.int r270), (.int r275), (.int r280)] (.int (0 : Int32)) := V329.keep K318 nin0
  obtain ⟨cl331, Ar331, qk331, sl331, nz331, ha331, fi331⟩ := id V330
  have i332 := inb_of (j := (0 : Int32)) sl331 ⟨by decide, by decide⟩
  refine Goes.step (T' := T318) (g' := (mkF m 79 #[.val (.int p0), .val (.long q1), .second, .val (.ref b252), .val (.ref b283), .val (.int (auth ((r255).toInt8.toInt32) ((r260).toInt8.toInt32) ((r265).toInt8.toInt32) ((r270).toInt8.toInt32) ((r275).toInt8.toInt32) ((r280).toInt8.toInt32))), .unset, .unset] [(.int r255)])) (fun t_ k_ => X318.caload hx (j := (0 : Int32)) (v := (.int r255)) Ar331.1 (State.isArrayOf_alike hZ.alike Ar331.2.1) Ar331.2.2 i332 (Has.at ha331 i332 rfl) (g := (mkF m 78 #[.val (.int p0), .val (.long q1), .second, .val (.ref b252), .val (.ref b283), .val (.int (auth ((r255).toInt8.toInt32) ((r260).toInt8.toInt32) ((r265).toInt8.toInt32) ((r270).toInt8.toInt32) ((r275).toInt8.toInt32) ((r280).toInt8.toInt32))), .unset, .unset] [(.int (0 : Int32)), (.ref b252)])) rfl rfl (hb hby at_78) _ k_) ?_
  refine P1.bipush X318.here hx (58 : Int32) (hb hby at_79) rfl ?_
  by_cases hc333 : r255 = (58 : Int32)
  ·
    have he334 : (r255.toInt8.toInt32 = (58 : Int32)) := (own_b58 bd_r255).mpr hc333
    refine P1.icmpNo X318.here hx (hb hby at_81) (teq (hc333 : r255 = (58 : Int32))).2 ?_
    refine P1.iconst X318.here hx (0 : Int32) (hb hby at_84) rfl ?_
    refine P1.istore X318.here hx #[.val (.int p0), .val (.long q1), .second, .val (.ref b252), .val (.ref b283), .val (.int (auth ((r255).toInt8.toInt32) ((r260).toInt8.toInt32) ((r265).toInt8.toInt32) ((r270).toInt8.toInt32) ((r275).toInt8.toInt32) ((r280).toInt8.toInt32))), .val (.int (0 : Int32)), .unset] (hb hby at_85) rfl ?_
    refine P1.goto X318.here hx 163 (hb hby at_87) (by decide) (by decide) ?_
    refine P1.iconst X318.here hx (0 : Int32) (hb hby at_163) rfl ?_
    refine P1.istore X318.here hx #[.val (.int p0), .val (.long q1), .second, .val (.ref b252), .val (.ref b283), .val (.int (auth ((r255).toInt8.toInt32) ((r260).toInt8.toInt32) ((r265).toInt8.toInt32) ((r270).toInt8.toInt32) ((r275).toInt8.toInt32) ((r280).toInt8.toInt32))), .val (.int (0 : Int32)), .val (.int (0 : Int32))] (hb hby at_164) rfl ?_
    refine P1.iload X318.here hx (hb hby at_166) rfl ?_
    refine P1.ifNo X318.here hx (hb hby at_168) ((if0 _ _).trans (flt (by decide : ¬ ((0 : Int32) < (0 : Int32)))).1) ?_
    refine P1.aloadN X318.here hx (hb hby at_171) rfl rfl ?_
    refine P1.iload X318.here hx (hb hby at_172) rfl ?_
    refine P1.iconst X318.here hx (1 : Int32) (hb hby at_174) rfl ?_
    refine P1.iadd X318.here hx (hb hby at_175) ?_
    have rw335 : ((0 : Int32) + (1 : Int32)) = (1 : Int32) := by decide
    rw [rw335]
    have Z336 : n0 ≤ T318.heap.size := Nat.le_trans Z300 K318.1
    have O337 : Old Z n0 T318.heap := O301.keep K318 all0
    refine P1.callS X318 hx hZ hown (own_w hw 92 rfl) (own_w hw 93 rfl) (own_w hw 3 rfl) (own_w hw 94 rfl) (by decide) (rmAt1 l Z a0 hw [] b252 k252 r255 r260 r265 r270 r275 r280 T318.heap n0 Z336 O337 V330 bd_r255 bd_r260 bd_r265 bd_r270 bd_r275 bd_r280) hml [(.ref b252), (.int (1 : Int32))] [] (lenOf pd_1322 rfl) rfl rfl (hb hby at_176) rfl rfl (ok rfl) (ok rfl) (ok rfl) (ok rfl) ?_
    intro v338 T338 L338 q338 X338
    obtain ⟨rfl, N338q, hE338⟩ := q338
    have N338 := Fr.app N318 N338q
    show Goes p e below _ T338 (mkF m 179 #[.val (.int p0), .val (.long q1), .second, .val (.ref b252), .val (.ref b283), .val (.int (auth ((r255).toInt8.toInt32) ((r260).toInt8.toInt32) ((r265).toInt8.toInt32) ((r270).toInt8.toInt32) ((r275).toInt8.toInt32) ((r280).toInt8.toInt32))), .val (.int (0 : Int32)), .val (.int (0 : Int32))] [(.int r260)])
    refine P1.bipush X338.here hx (47 : Int32) (hb hby at_179) rfl ?_
    by_cases hc339 : r260 = (47 : Int32)
    ·
      have he340 : (r260.toInt8.toInt32 = (47 : Int32)) := (own_b47 bd_r260).mpr hc339
      refine P1.icmpNo X338.here hx (hb hby at_181) (teq (hc339 : r260 = (47 : Int32))).2 ?_
      refine P1.aloadN X338.here hx (hb hby at_184) rfl rfl ?_
      refine P1.iload X338.here hx (hb hby at_185) rfl ?_
      refine P1.iconst X338.here hx (2 : Int32) (hb hby at_187) rfl ?_
      refine P1.iadd X338.here hx (hb hby at_188) ?_
      have rw341 : ((0 : Int32) + (2 : Int32)) = (2 : Int32) := by decide
      rw [rw341]
      refine P1.callS X338 hx hZ hown (own_w hw 92 rfl) (own_w hw 93 rfl) (own_w hw 3 rfl) (own_w hw 94 rfl) (by decide) (rmAt2 l Z a0 hw [] b252 k252 r255 r260 r265 r270 r275 r280 T318.heap n0 Z336 O337 V330 bd_r255 bd_r260 bd_r265 bd_r270 bd_r275 bd_r280) hml [(.ref b252), (.int (2 : Int32))] [] (lenOf pd_1322 rfl) rfl rfl (hb hby at_189) rfl hE338 (ok rfl) (ok rfl) (ok rfl) (ok rfl) ?_
      intro v342 T342 L342 q342 X342
      obtain ⟨rfl, N342q, hE342⟩ := q342
      have N342 := Fr.app N338 N342q
      show Goes p e below _ T342 (mkF m 192 #[.val (.int p0), .val (.long q1), .second, .val (.ref b252), .val (.ref b283), .val (.int (auth ((r255).toInt8.toInt32) ((r260).toInt8.toInt32) ((r265).toInt8.toInt32) ((r270).toInt8.toInt32) ((r275).toInt8.toInt32) ((r280).toInt8.toInt32))), .val (.int (0 : Int32)), .val (.int (0 : Int32))] [(.int r265)])
      refine P1.bipush X342.here hx (47 : Int32) (hb hby at_192) rfl ?_
      by_cases hc343 : r265 = (47 : Int32)
      ·
        have he344 : (r265.toInt8.toInt32 = (47 : Int32)) := (own_b47 bd_r265).mpr hc343
        refine P1.icmpNo X342.here hx (hb hby at_194) (teq (hc343 : r265 = (47 : Int32))).2 ?_
        refine P1.iload X342.here hx (hb hby at_197) rfl ?_
        refine P1.iconst X342.here hx (3 : Int32) (hb hby at_199) rfl ?_
        refine P1.iadd X342.here hx (hb hby at_200) ?_
        have rw345 : ((0 : Int32) + (3 : Int32)) = (3 : Int32) := by decide
        rw [rw345]
        refine P1.istore X342.here hx #[.val (.int p0), .val (.long q1), .second, .val (.ref b252), .val (.ref b283), .val (.int (auth ((r255).toInt8.toInt32) ((r260).toInt8.toInt32) ((r265).toInt8.toInt32) ((r270).toInt8.toInt32) ((r275).toInt8.toInt32) ((r280).toInt8.toInt32))), .val (.int (0 : Int32)), .val (.int (3 : Int32))] (hb hby at_201) rfl ?_
        have rw346 : (auth ((r255).toInt8.toInt32) ((r260).toInt8.toInt32) ((r265).toInt8.toInt32) ((r270).toInt8.toInt32) ((r275).toInt8.toInt32) ((r280).toInt8.toInt32)) = (3 : Int32) := by simp [auth, he334, he340, he344]
        rw [rw346]
        refine P1.iload X342.here hx (hb hby at_203) rfl ?_
        refine P1.iload X342.here hx (hb hby at_205) rfl ?_
        refine P1.icmpNo X342.here hx (hb hby at_207) (teq (by decide : (3 : Int32) = (3 : Int32))).2 ?_
        refine P1.iconst X342.here hx (1 : Int32) (hb hby at_210) rfl ?_
        refine P1.goto X342.here hx 215 (hb hby at_211) (by decide) (by decide) ?_
        have CR347 : CHr Z EL1 s.vm h0 T318.vm T318.heap := CR317.trans CW318
        refine Goes.retNW X342 hx Bd.notSynchronized hS318 ks318 hZ hEL (hh ▸ CR347) hE342 (t := .boolean) Bd.returns (by simp) (hb hby at_215) (ok rfl) (ok rfl) ?_
        exact ⟨rfl, N342⟩
      ·
        have he348 : ¬ (r265.toInt8.toInt32 = (47 : Int32)) := fun q => hc343 ((own_b47 bd_r265).mp q)
        refine P1.icmpYes X342.here hx 203 (hb hby at_194) (feq (hc343 : ¬ (r265 = (47 : Int32)))).2 (by decide) (by decide) ?_
        have rw349 : (auth ((r255).toInt8.toInt32) ((r260).toInt8.toInt32) ((r265).toInt8.toInt32) ((r270).toInt8.toInt32) ((r275).toInt8.toInt32) ((r280).toInt8.toInt32)) = (0 : Int32) := by simp [auth, he334, he340, he348]
        rw [rw349]
        refine P1.iload X342.here hx (hb hby at_203) rfl ?_
        refine P1.iload X342.here hx (hb hby at_205) rfl ?_
        refine P1.icmpNo X342.here hx (hb hby at_207) (teq (by decide : (0 : Int32) = (0 : Int32))).2 ?_
        refine P1.iconst X342.here hx (1 : Int32) (hb hby at_210) rfl ?_
        refine P1.goto X342.here hx 215 (hb hby at_211) (by decide) (by decide) ?_
        have CR350 : CHr Z EL1 s.vm h0 T318.vm T318.heap := CR317.trans CW318
        refine Goes.retNW X342 hx Bd.notSynchronized hS318 ks318 hZ hEL (hh ▸ CR350) hE342 (t := .boolean) Bd.returns (by simp) (hb hby at_215) (ok rfl) (ok rfl) ?_
        exact ⟨rfl, N342⟩
    ·
      have he351 : ¬ (r260.toInt8.toInt32 = (47 : Int32)) := fun q => hc339 ((own_b47 bd_r260).mp q)
      refine P1.icmpYes X338.here hx 203 (hb hby at_181) (feq (hc339 : ¬ (r260 = (47 : Int32)))).2 (by decide) (by decide) ?_
      have rw352 : (auth ((r255).toInt8.toInt32) ((r260).toInt8.toInt32) ((r265).toInt8.toInt32) ((r270).toInt8.toInt32) ((r275).toInt8.toInt32) ((r280).toInt8.toInt32)) = (0 : Int32) := by simp [auth, he334, he351]
      rw [rw352]
      refine P1.iload X338.here hx (hb hby at_203) rfl ?_
      refine P1.iload X338.here hx (hb hby at_205) rfl ?_
      refine P1.icmpNo X338.here hx (hb hby at_207) (teq (by decide : (0 : Int32) = (0 : Int32))).2 ?_
      refine P1.iconst X338.here hx (1 : Int32) (hb hby at_210) rfl ?_
      refine P1.goto X338.here hx 215 (hb hby at_211) (by decide) (by decide) ?_
      have CR353 : CHr Z EL1 s.vm h0 T318.vm T318.heap := CR317.trans CW318
      refine Goes.retNW X338 hx Bd.notSynchronized hS318 ks318 hZ hEL (hh ▸ CR353) hE338 (t := .boolean) Bd.returns (by simp) (hb hby at_215) (ok rfl) (ok rfl) ?_
      exact ⟨rfl, N338⟩
  ·
    have he354 : ¬ (r255.toInt8.toInt32 = (58 : Int32)) := fun q => hc333 ((own_b58 bd_r255).mp q)
    refine P1.icmpYes X318.here hx 90 (hb hby at_81) (feq (hc333 : ¬ (r255 = (58 : Int32)))).2 (by decide) (by decide) ?_
    refine P1.aloadN X318.here hx (hb hby at_90) rfl rfl ?_
    refine P1.iconst X318.here hx (1 : Int32) (hb hby at_91) rfl ?_
    obtain ⟨cl355, Ar355, qk355, sl355, nz355, ha355, fi355⟩ := id V330
    have i356 := inb_of (j := (1 : Int32)) sl355 ⟨by decide, by decide⟩
    refine Goes.step (T' := T318) (g' := (mkF m 93 #[.val (.int p0), .val (.long q1), .second, .val (.ref b252), .val (.ref b283), .val (.int (auth ((r255).toInt8.toInt32) ((r260).toInt8.toInt32) ((r265).toInt8.toInt32) ((r270).toInt8.toInt32) ((r275).toInt8.toInt32) ((r280).toInt8.toInt32))), .unset, .unset] [(.int r260)])) (fun t_ k_ => X318.caload hx (j := (1 : Int32)) (v := (.int r260)) Ar355.1 (State.isArrayOf_alike hZ.alike Ar355.2.1) Ar355.2.2 i356 (Has.at ha355 i356 rfl) (g := (mkF m 92 #[.val (.int p0), .val (.long q1), .second, .val (.ref b252), .val (.ref b283), .val (.int (auth ((r255).toInt8.toInt32) ((r260).toInt8.toInt32) ((r265).toInt8.toInt32) ((r270).toInt8.toInt32) ((r275).toInt8.toInt32) ((r280).toInt8.toInt32))), .unset, .unset] [(.int (1 : Int32)), (.ref b252)])) rfl rfl (hb hby at_92) _ k_) ?_
    refine P1.bipush X318.here hx (58 : Int32) (hb hby at_93) rfl ?_
    by_cases hc357 : r260 = (58 : Int32)
    ·
      have he358 : (r260.toInt8.toInt32 = (58 : Int32)) := (own_b58 bd_r260).mpr hc357
      refine P1.icmpNo X318.here hx (hb hby at_95) (teq (hc357 : r260 = (58 : Int32))).2 ?_
      refine P1.iconst X318.here hx (1 : Int32) (hb hby at_98) rfl ?_
      refine P1.istore X318.here hx #[.val (.int p0), .val (.long q1), .second, .val (.ref b252), .val (.ref b283), .val (.int (auth ((r255).toInt8.toInt32) ((r260).toInt8.toInt32) ((r265).toInt8.toInt32) ((r270).toInt8.toInt32) ((r275).toInt8.toInt32) ((r280).toInt8.toInt32))), .val (.int (1 : Int32)), .unset] (hb hby at_99) rfl ?_
      refine P1.goto X318.here hx 163 (hb hby at_101) (by decide) (by decide) ?_
      refine P1.iconst X318.here hx (0 : Int32) (hb hby at_163) rfl ?_
      refine P1.istore X318.here hx #[.val (.int p0), .val (.long q1), .second, .val (.ref b252), .val (.ref b283), .val (.int (auth ((r255).toInt8.toInt32) ((r260).toInt8.toInt32) ((r265).toInt8.toInt32) ((r270).toInt8.toInt32) ((r275).toInt8.toInt32) ((r280).toInt8.toInt32))), .val (.int (1 : Int32)), .val (.int (0 : Int32))] (hb hby at_164) rfl ?_
      refine P1.iload X318.here hx (hb hby at_166) rfl ?_
      refine P1.ifNo X318.here hx (hb hby at_168) ((if0 _ _).trans (flt (by decide : ¬ ((1 : Int32) < (0 : Int32)))).1) ?_
      refine P1.aloadN X318.here hx (hb hby at_171) rfl rfl ?_
      refine P1.iload X318.here hx (hb hby at_172) rfl ?_
      refine P1.iconst X318.here hx (1 : Int32) (hb hby at_174) rfl ?_
      refine P1.iadd X318.here hx (hb hby at_175) ?_
      have rw359 : ((1 : Int32) + (1 : Int32)) = (2 : Int32) := by decide
      rw [rw359]
      have Z360 : n0 ≤ T318.heap.size := Nat.le_trans Z300 K318.1
      have O361 : Old Z n0 T318.heap := O301.keep K318 all0
      refine P1.callS X318 hx hZ hown (own_w hw 92 rfl) (own_w hw 93 rfl) (own_w hw 3 rfl) (own_w hw 94 rfl) (by decide) (rmAt2 l Z a0 hw [] b252 k252 r255 r260 r265 r270 r275 r280 T318.heap n0 Z360 O361 V330 bd_r255 bd_r260 bd_r265 bd_r270 bd_r275 bd_r280) hml [(.ref b252), (.int (2 : Int32))] [] (lenOf pd_1322 rfl) rfl rfl (hb hby at_176) rfl rfl (ok rfl) (ok rfl) (ok rfl) (ok rfl) ?_
      intro v362 T362 L362 q362 X362
      obtain ⟨rfl, N362q, hE362⟩ := q362
      have N362 := Fr.app N318 N362q
      show Goes p e below _ T362 (mkF m 179 #[.val (.int p0), .val (.long q1), .second, .val (.ref b252), .val (.ref b283), .val (.int (auth ((r255).toInt8.toInt32) ((r260).toInt8.toInt32) ((r265).toInt8.toInt32) ((r270).toInt8.toInt32) ((r275).toInt8.toInt32) ((r280).toInt8.toInt32))), .val (.int (1 : Int32)), .val (.int (0 : Int32))] [(.int r265)])
      refine P1.bipush X362.here hx (47 : Int32) (hb hby at_179) rfl ?_
      by_cases hc363 : r265 = (47 : Int32)
      ·
        have he364 : (r265.toInt8.toInt32 = (47 : Int32)) := (own_b47 bd_r265).mpr hc363
        refine P1.icmpNo X362.here hx (hb hby at_181) (teq (hc363 : r265 = (47 : Int32))).2 ?_
        refine P1.aloadN X362.here hx (hb hby at_184) rfl rfl ?_
        refine P1.iload X362.here hx (hb hby at_185) rfl ?_
        refine P1.iconst X362.here hx (2 : Int32) (hb hby at_187) rfl ?_
        refine P1.iadd X362.here hx (hb hby at_188) ?_
        have rw365 : ((1 : Int32) + (2 : Int32)) = (3 : Int32) := by decide
        rw [rw365]
        refine P1.callS X362 hx hZ hown (own_w hw 92 rfl) (own_w hw 93 rfl) (own_w hw 3 rfl) (own_w hw 94 rfl) (by decide) (rmAt3 l Z a0 hw [] b252 k252 r255 r260 r265 r270 r275 r280 T318.heap n0 Z360 O361 V330 bd_r255 bd_r260 bd_r265 bd_r270 bd_r275 bd_r280) hml [(.ref b252), (.int (3 : Int32))] [] (lenOf pd_1322 rfl) rfl rfl (hb hby at_189) rfl hE362 (ok rfl) (ok rfl) (ok rfl) (ok rfl) ?_
        intro v366 T366 L366 q366 X366
        obtain ⟨rfl, N366q, hE366⟩ := q366
        have N366 := Fr.app N362 N366q
        show Goes p e below _ T366 (mkF m 192 #[.val (.int p0), .val (.long q1), .second, .val (.ref b252), .val (.ref b283), .val (.int (auth ((r255).toInt8.toInt32) ((r260).toInt8.toInt32) ((r265).toInt8.toInt32) ((r270).toInt8.toInt32) ((r275).toInt8.toInt32) ((r280).toInt8.toInt32))), .val (.int (1 : Int32)), .val (.int (0 : Int32))] [(.int r270)])
        refine P1.bipush X366.here hx (47 : Int32) (hb hby at_192) rfl ?_
        by_cases hc367 : r270 = (47 : Int32)
        ·
          have he368 : (r270.toInt8.toInt32 = (47 : Int32)) := (own_b47 bd_r270).mpr hc367
          refine P1.icmpNo X366.here hx (hb hby at_194) (teq (hc367 : r270 = (47 : Int32))).2 ?_
          refine P1.iload X366.here hx (hb hby at_197) rfl ?_
          refine P1.iconst X366.here hx (3 : Int32) (hb hby at_199) rfl ?_
          refine P1.iadd X366.here hx (hb hby at_200) ?_
          have rw369 : ((1 : Int32) + (3 : Int32)) = (4 : Int32) := by decide
          rw [rw369]
          refine P1.istore X366.here hx #[.val (.int p0), .val (.long q1), .second, .val (.ref b252), .val (.ref b283), .val (.int (auth ((r255).toInt8.toInt32) ((r260).toInt8.toInt32) ((r265).toInt8.toInt32) ((r270).toInt8.toInt32) ((r275).toInt8.toInt32) ((r280).toInt8.toInt32))), .val (.int (1 : Int32)), .val (.int (4 : Int32))] (hb hby at_201) rfl ?_
          have rw370 : (auth ((r255).toInt8.toInt32) ((r260).toInt8.toInt32) ((r265).toInt8.toInt32) ((r270).toInt8.toInt32) ((r275).toInt8.toInt32) ((r280).toInt8.toInt32)) = (4 : Int32) := by simp [auth, he354, he358, he364, he368]
          rw [rw370]
          refine P1.iload X366.here hx (hb hby at_203) rfl ?_
          refine P1.iload X366.here hx (hb hby at_205) rfl ?_
          refine P1.icmpNo X366.here hx (hb hby at_207) (teq (by decide : (4 : Int32) = (4 : Int32))).2 ?_
          refine P1.iconst X366.here hx (1 : Int32) (hb hby at_210) rfl ?_
          refine P1.goto X366.here hx 215 (hb hby at_211) (by decide) (by decide) ?_
          have CR371 : CHr Z EL1 s.vm h0 T318.vm T318.heap := CR317.trans CW318
          refine Goes.retNW X366 hx Bd.notSynchronized hS318 ks318 hZ hEL (hh ▸ CR371) hE366 (t := .boolean) Bd.returns (by simp) (hb hby at_215) (ok rfl) (ok rfl) ?_
          exact ⟨rfl, N366⟩
        ·
          have he372 : ¬ (r270.toInt8.toInt32 = (47 : Int32)) := fun q => hc367 ((own_b47 bd_r270).mp q)
          refine P1.icmpYes X366.here hx 203 (hb hby at_194) (feq (hc367 : ¬ (r270 = (47 : Int32)))).2 (by decide) (by decide) ?_
          have rw373 : (auth ((r255).toInt8.toInt32) ((r260).toInt8.toInt32) ((r265).toInt8.toInt32) ((r270).toInt8.toInt32) ((r275).toInt8.toInt32) ((r280).toInt8.toInt32)) = (0 : Int32) := by simp [auth, he354, he358, he364, he372]
          rw [rw373]
          refine P1.iload X366.here hx (hb hby at_203) rfl ?_
          refine P1.iload X366.here hx (hb hby at_205) rfl ?_
          refine P1.icmpNo X366.here hx (hb hby at_207) (teq (by decide : (0 : Int32) = (0 : Int32))).2 ?_
          refine P1.iconst X366.here hx (1 : Int32) (hb hby at_210) rfl ?_
          refine P1.goto X366.here hx 215 (hb hby at_211) (by decide) (by decide) ?_
          have CR374 : CHr Z EL1 s.vm h0 T318.vm T318.heap := CR317.trans CW318
          refine Goes.retNW X366 hx Bd.notSynchronized hS318 ks318 hZ hEL (hh ▸ CR374) hE366 (t := .boolean) Bd.returns (by simp) (hb hby at_215) (ok rfl) (ok rfl) ?_
          exact ⟨rfl, N366⟩
      ·
        have he375 : ¬ (r265.toInt8.toInt32 = (47 : Int32)) := fun q => hc363 ((own_b47 bd_r265).mp q)
        refine P1.icmpYes X362.here hx 203 (hb hby at_181) (feq (hc363 : ¬ (r265 = (47 : Int32)))).2 (by decide) (by decide) ?_
        have rw376 : (auth ((r255).toInt8.toInt32) ((r260).toInt8.toInt32) ((r265).toInt8.toInt32) ((r270).toInt8.toInt32) ((r275).toInt8.toInt32) ((r280).toInt8.toInt32)) = (0 : Int32) := by simp [auth, he354, he358, he375]
        rw [rw376]
        refine P1.iload X362.here hx (hb hby at_203) rfl ?_
        refine P1.iload X362.here hx (hb hby at_205) rfl ?_
        refine P1.icmpNo X362.here hx (hb hby at_207) (teq (by decide : (0 : Int32) = (0 : Int32))).2 ?_
        refine P1.iconst X362.here hx (1 : Int32) (hb hby at_210) rfl ?_
        refine P1.goto X362.here hx 215 (hb hby at_211) (by decide) (by decide) ?_
        have CR377 : CHr Z EL1 s.vm h0 T318.vm T318.heap := CR317.trans CW318
        refine Goes.retNW X362 hx Bd.notSynchronized hS318 ks318 hZ hEL (hh ▸ CR377) hE362 (t := .boolean) Bd.returns (by simp) (hb hby at_215) (ok rfl) (ok rfl) ?_
        exact ⟨rfl, N362⟩
    ·
      have he378 : ¬ (r260.toInt8.toInt32 = (58 : Int32)) := fun q => hc357 ((own_b58 bd_r260).mp q)
      refine P1.icmpYes X318.here hx 104 (hb hby at_95) (feq (hc357 : ¬ (r260 = (58 : Int32)))).2 (by decide) (by decide) ?_
      refine P1.aloadN X318.here hx (hb hby at_104) rfl rfl ?_
      refine P1.iconst X318.here hx (2 : Int32) (hb hby at_105) rfl ?_
      obtain ⟨cl379, Ar379, qk379, sl379, nz379, ha379, fi379⟩ := id V330
      have i380 := inb_of (j := (2 : Int32)) sl379 ⟨by decide, by decide⟩
      refine Goes.step (T' := T318) (g' := (mkF m 107 #[.val (.int p0), .val (.long q1), .second, .val (.ref b252), .val (.ref b283), .val (.int (auth ((r255).toInt8.toInt32) ((r260).toInt8.toInt32) ((r265).toInt8.toInt32) ((r270).toInt8.toInt32) ((r275).toInt8.toInt32) ((r280).toInt8.toInt32))), .unset, .unset] [(.int r265)])) (fun t_ k_ => X318.caload hx (j := (2 : Int32)) (v := (.int r265)) Ar379.1 (State.isArrayOf_alike hZ.alike Ar379.2.1) Ar379.2.2 i380 (Has.at ha379 i380 rfl) (g := (mkF m 106 #[.val (.int p0), .val (.long q1), .second, .val (.ref b252), .val (.ref b283), .val (.int (auth ((r255).toInt8.toInt32) ((r260).toInt8.toInt32) ((r265).toInt8.toInt32) ((r270).toInt8.toInt32) ((r275).toInt8.toInt32) ((r280).toInt8.toInt32))), .unset, .unset] [(.int (2 : Int32)), (.ref b252)])) rfl rfl (hb hby at_106) _ k_) ?_
      refine P1.bipush X318.here hx (58 : Int32) (hb hby at_107) rfl ?_
      by_cases hc381 : r265 = (58 : Int32)
      ·
        have he382 : (r265.toInt8.toInt32 = (58 : Int32)) := (own_b58 bd_r265).mpr hc381
        refine P1.icmpNo X318.here hx (hb hby at_109) (teq (hc381 : r265 = (58 : Int32))).2 ?_
        refine P1.iconst X318.here hx (2 : Int32) (hb hby at_112) rfl ?_
        refine P1.istore X318.here hx #[.val (.int p0), .val (.long q1), .second, .val (.ref b252), .val (.ref b283), .val (.int (auth ((r255).toInt8.toInt32) ((r260).toInt8.toInt32) ((r265).toInt8.toInt32) ((r270).toInt8.toInt32) ((r275).toInt8.toInt32) ((r280).toInt8.toInt32))), .val (.int (2 : Int32)), .unset] (hb hby at_113) rfl ?_
        refine P1.goto X318.here hx 163 (hb hby at_115) (by decide) (by decide) ?_
        refine P1.iconst X318.here hx (0 : Int32) (hb hby at_163) rfl ?_
        refine P1.istore X318.here hx #[.val (.int p0), .val (.long q1), .second, .val (.ref b252), .val (.ref b283), .val (.int (auth ((r255).toInt8.toInt32) ((r260).toInt8.toInt32) ((r265).toInt8.toInt32) ((r270).toInt8.toInt32) ((r275).toInt8.toInt32) ((r280).toInt8.toInt32))), .val (.int (2 : Int32)), .val (.int (0 : Int32))] (hb hby at_164) rfl ?_
        refine P1.iload X318.here hx (hb hby at_166) rfl ?_
        refine P1.ifNo X318.here hx (hb hby at_168) ((if0 _ _).trans (flt (by decide : ¬ ((2 : Int32) < (0 : Int32)))).1) ?_
        refine P1.aloadN X318.here hx (hb hby at_171) rfl rfl ?_
        refine P1.iload X318.here hx (hb hby at_172) rfl ?_
        refine P1.iconst X318.here hx (1 : Int32) (hb hby at_174) rfl ?_
        refine P1.iadd X318.here hx (hb hby at_175) ?_
        have rw383 : ((2 : Int32) + (1 : Int32)) = (3 : Int32) := by decide
        rw [rw383]
        have Z384 : n0 ≤ T318.heap.size := Nat.le_trans Z300 K318.1
        have O385 : Old Z n0 T318.heap := O301.keep K318 all0
        refine P1.callS X318 hx hZ hown (own_w hw 92 rfl) (own_w hw 93 rfl) (own_w hw 3 rfl) (own_w hw 94 rfl) (by decide) (rmAt3 l Z a0 hw [] b252 k252 r255 r260 r265 r270 r275 r280 T318.heap n0 Z384 O385 V330 bd_r255 bd_r260 bd_r265 bd_r270 bd_r275 bd_r280) hml [(.ref b252), (.int (3 : Int32))] [] (lenOf pd_1322 rfl) rfl rfl (hb hby at_176) rfl rfl (ok rfl) (ok rfl) (ok rfl) (ok rfl) ?_
        intro v386 T386 L386 q386 X386
        obtain ⟨rfl, N386q, hE386⟩ := q386
        have N386 := Fr.app N318 N386q
        show Goes p e below _ T386 (mkF m 179 #[.val (.int p0), .val (.long q1), .second, .val (.ref b252), .val (.ref b283), .val (.int (auth ((r255).toInt8.toInt32) ((r260).toInt8.toInt32) ((r265).toInt8.toInt32) ((r270).toInt8.toInt32) ((r275).toInt8.toInt32) ((r280).toInt8.toInt32))), .val (.int (2 : Int32)), .val (.int (0 : Int32))] [(.int r270)])
        refine P1.bipush X386.here hx (47 : Int32) (hb hby at_179) rfl ?_
        by_cases hc387 : r270 = (47 : Int32)
        ·
          have he388 : (r270.toInt8.toInt32 = (47 : Int32)) := (own_b47 bd_r270).mpr hc387
          refine P1.icmpNo X386.here hx (hb hby at_181) (teq (hc387 : r270 = (47 : Int32))).2 ?_
          refine P1.aloadN X386.here hx (hb hby at_184) rfl rfl ?_
          refine P1.iload X386.here hx (hb hby at_185) rfl ?_
          refine P1.iconst X386.here hx (2 : Int32) (hb hby at_187) rfl ?_
          refine P1.iadd X386.here hx (hb hby at_188) ?_
          have rw389 : ((2 : Int32) + (2 : Int32)) = (4 : Int32) := by decide
          rw [rw389]
          refine P1.callS X386 hx hZ hown (own_w hw 92 rfl) (own_w hw 93 rfl) (own_w hw 3 rfl) (own_w hw 94 rfl) (by decide) (rmAt4 l Z a0 hw [] b252 k252 r255 r260 r265 r270 r275 r280 T318.heap n0 Z384 O385 V330 bd_r255 bd_r260 bd_r265 bd_r270 bd_r275 bd_r280) hml [(.ref b252), (.int (4 : Int32))] [] (lenOf pd_1322 rfl) rfl rfl (hb hby at_189) rfl hE386 (ok rfl) (ok rfl) (ok rfl) (ok rfl) ?_
          intro v390 T390 L390 q390 X390
          obtain ⟨rfl, N390q, hE390⟩ := q390
          have N390 := Fr.app N386 N390q
          show Goes p e below _ T390 (mkF m 192 #[.val (.int p0), .val (.long q1), .second, .val (.ref b252), .val (.ref b283), .val (.int (auth ((r255).toInt8.toInt32) ((r260).toInt8.toInt32) ((r265).toInt8.toInt32) ((r270).toInt8.toInt32) ((r275).toInt8.toInt32) ((r280).toInt8.toInt32))), .val (.int (2 : Int32)), .val (.int (0 : Int32))] [(.int r275)])
          refine P1.bipush X390.here hx (47 : Int32) (hb hby at_192) rfl ?_
          by_cases hc391 : r275 = (47 : Int32)
          ·
            have he392 : (r275.toInt8.toInt32 = (47 : Int32)) := (own_b47 bd_r275).mpr hc391
            refine P1.icmpNo X390.here hx (hb hby at_194) (teq (hc391 : r275 = (47 : Int32))).2 ?_
            refine P1.iload X390.here hx (hb hby at_197) rfl ?_
            refine P1.iconst X390.here hx (3 : Int32) (hb hby at_199) rfl ?_
            refine P1.iadd X390.here hx (hb hby at_200) ?_
            have rw393 : ((2 : Int32) + (3 : Int32)) = (5 : Int32) := by decide
            rw [rw393]
            refine P1.istore X390.here hx #[.val (.int p0), .val (.long q1), .second, .val (.ref b252), .val (.ref b283), .val (.int (auth ((r255).toInt8.toInt32) ((r260).toInt8.toInt32) ((r265).toInt8.toInt32) ((r270).toInt8.toInt32) ((r275).toInt8.toInt32) ((r280).toInt8.toInt32))), .val (.int (2 : Int32)), .val (.int (5 : Int32))] (hb hby at_201) rfl ?_
            have rw394 : (auth ((r255).toInt8.toInt32) ((r260).toInt8.toInt32) ((r265).toInt8.toInt32) ((r270).toInt8.toInt32) ((r275).toInt8.toInt32) ((r280).toInt8.toInt32)) = (5 : Int32) := by simp [auth, he354, he378, he382, he388, he392]
            rw [rw394]
            refine P1.iload X390.here hx (hb hby at_203) rfl ?_
            refine P1.iload X390.here hx (hb hby at_205) rfl ?_
            refine P1.icmpNo X390.here hx (hb hby at_207) (teq (by decide : (5 : Int32) = (5 : Int32))).2 ?_
            refine P1.iconst X390.here hx (1 : Int32) (hb hby at_210) rfl ?_
            refine P1.goto X390.here hx 215 (hb hby at_211) (by decide) (by decide) ?_
            have CR395 : CHr Z EL1 s.vm h0 T318.vm T318.heap := CR317.trans CW318
            refine Goes.retNW X390 hx Bd.notSynchronized hS318 ks318 hZ hEL (hh ▸ CR395) hE390 (t := .boolean) Bd.returns (by simp) (hb hby at_215) (ok rfl) (ok rfl) ?_
            exact ⟨rfl, N390⟩
          ·
            have he396 : ¬ (r275.toInt8.toInt32 = (47 : Int32)) := fun q => hc391 ((own_b47 bd_r275).mp q)
            refine P1.icmpYes X390.here hx 203 (hb hby at_194) (feq (hc391 : ¬ (r275 = (47 : Int32)))).2 (by decide) (by decide) ?_
            have rw397 : (auth ((r255).toInt8.toInt32) ((r260).toInt8.toInt32) ((r265).toInt8.toInt32) ((r270).toInt8.toInt32) ((r275).toInt8.toInt32) ((r280).toInt8.toInt32)) = (0 : Int32) := by simp [auth, he354, he378, he382, he388, he396]
            rw [rw397]
            refine P1.iload X390.here hx (hb hby at_203) rfl ?_
            refine P1.iload X390.here hx (hb hby at_205) rfl ?_
            refine P1.icmpNo X390.here hx (hb hby at_207) (teq (by decide : (0 : Int32) = (0 : Int32))).2 ?_
            refine P1.iconst X390.here hx (1 : Int32) (hb hby at_210) rfl ?_
            refine P1.goto X390.here hx 215 (hb hby at_211) (by decide) (by decide) ?_
            have CR398 : CHr Z EL1 s.vm h0 T318.vm T318.heap := CR317.trans CW318
            refine Goes.retNW X390 hx Bd.notSynchronized hS318 ks318 hZ hEL (hh ▸ CR398) hE390 (t := .boolean) Bd.returns (by simp) (hb hby at_215) (ok rfl) (ok rfl) ?_
            exact ⟨rfl, N390⟩
        ·
          have he399 : ¬ (r270.toInt8.toInt32 = (47 : Int32)) := fun q => hc387 ((own_b47 bd_r270).mp q)
          refine P1.icmpYes X386.here hx 203 (hb hby at_181) (feq (hc387 : ¬ (r270 = (47 : Int32)))).2 (by decide) (by decide) ?_
          have rw400 : (auth ((r255).toInt8.toInt32) ((r260).toInt8.toInt32) ((r265).toInt8.toInt32) ((r270).toInt8.toInt32) ((r275).toInt8.toInt32) ((r280).toInt8.toInt32)) = (0 : Int32) := by simp [auth, he354, he378, he382, he399]
          rw [rw400]
          refine P1.iload X386.here hx (hb hby at_203) rfl ?_
          refine P1.iload X386.here hx (hb hby at_205) rfl ?_
          refine P1.icmpNo X386.here hx (hb hby at_207) (teq (by decide : (0 : Int32) = (0 : Int32))).2 ?_
          refine P1.iconst X386.here hx (1 : Int32) (hb hby at_210) rfl ?_
          refine P1.goto X386.here hx 215 (hb hby at_211) (by decide) (by decide) ?_
          have CR401 : CHr Z EL1 s.vm h0 T318.vm T318.heap := CR317.trans CW318
          refine Goes.retNW X386 hx Bd.notSynchronized hS318 ks318 hZ hEL (hh ▸ CR401) hE386 (t := .boolean) Bd.returns (by simp) (hb hby at_215) (ok rfl) (ok rfl) ?_
          exact ⟨rfl, N386⟩
      ·
        have he402 : ¬ (r265.toInt8.toInt32 = (58 : Int32)) := fun q => hc381 ((own_b58 bd_r265).mp q)
        refine P1.icmpYes X318.here hx 118 (hb hby at_109) (feq (hc381 : ¬ (r265 = (58 : Int32)))).2 (by decide) (by decide) ?_
        refine P1.aloadN X318.here hx (hb hby at_118) rfl rfl ?_
        refine P1.iconst X318.here hx (3 : Int32) (hb hby at_119) rfl ?_
        obtain ⟨cl403, Ar403, qk403, sl403, nz403, ha403, fi403⟩ := id V330
        have i404 := inb_of (j := (3 : Int32)) sl403 ⟨by decide, by decide⟩
        refine Goes.step (T' := T318) (g' := (mkF m 121 #[.val (.int p0), .val (.long q1), .second, .val (.ref b252), .val (.ref b283), .val (.int (auth ((r255).toInt8.toInt32) ((r260).toInt8.toInt32) ((r265).toInt8.toInt32) ((r270).toInt8.toInt32) ((r275).toInt8.toInt32) ((r280).toInt8.toInt32))), .unset, .unset] [(.int r270)])) (fun t_ k_ => X318.caload hx (j := (3 : Int32)) (v := (.int r270)) Ar403.1 (State.isArrayOf_alike hZ.alike Ar403.2.1) Ar403.2.2 i404 (Has.at ha403 i404 rfl) (g := (mkF m 120 #[.val (.int p0), .val (.long q1), .second, .val (.ref b252), .val (.ref b283), .val (.int (auth ((r255).toInt8.toInt32) ((r260).toInt8.toInt32) ((r265).toInt8.toInt32) ((r270).toInt8.toInt32) ((r275).toInt8.toInt32) ((r280).toInt8.toInt32))), .unset, .unset] [(.int (3 : Int32)), (.ref b252)])) rfl rfl (hb hby at_120) _ k_) ?_
        refine P1.bipush X318.here hx (58 : Int32) (hb hby at_121) rfl ?_
        by_cases hc405 : r270 = (58 : Int32)
        ·
          have he406 : (r270.toInt8.toInt32 = (58 : Int32)) := (own_b58 bd_r270).mpr hc405
          refine P1.icmpNo X318.here hx (hb hby at_123) (teq (hc405 : r270 = (58 : Int32))).2 ?_
          refine P1.iconst X318.here hx (3 : Int32) (hb hby at_126) rfl ?_
          refine P1.istore X318.here hx #[.val (.int p0), .val (.long q1), .second, .val (.ref b252), .val (.ref b283), .val (.int (auth ((r255).toInt8.toInt32) ((r260).toInt8.toInt32) ((r265).toInt8.toInt32) ((r270).toInt8.toInt32) ((r275).toInt8.toInt32) ((r280).toInt8.toInt32))), .val (.int (3 : Int32)), .unset] (hb hby at_127) rfl ?_
          refine P1.goto X318.here hx 163 (hb hby at_129) (by decide) (by decide) ?_
          refine P1.iconst X318.here hx (0 : Int32) (hb hby at_163) rfl ?_
          refine P1.istore X318.here hx #[.val (.int p0), .val (.long q1), .second, .val (.ref b252), .val (.ref b283), .val (.int (auth ((r255).toInt8.toInt32) ((r260).toInt8.toInt32) ((r265).toInt8.toInt32) ((r270).toInt8.toInt32) ((r275).toInt8.toInt32) ((r280).toInt8.toInt32))), .val (.int (3 : Int32)), .val (.int (0 : Int32))] (hb hby at_164) rfl ?_
          refine P1.iload X318.here hx (hb hby at_166) rfl ?_
          refine P1.ifNo X318.here hx (hb hby at_168) ((if0 _ _).trans (flt (by decide : ¬ ((3 : Int32) < (0 : Int32)))).1) ?_
          refine P1.aloadN X318.here hx (hb hby at_171) rfl rfl ?_
          refine P1.iload X318.here hx (hb hby at_172) rfl ?_
          refine P1.iconst X318.here hx (1 : Int32) (hb hby at_174) rfl ?_
          refine P1.iadd X318.here hx (hb hby at_175) ?_
          have rw407 : ((3 : Int32) + (1 : Int32)) = (4 : Int32) := by decide
          rw [rw407]
          have Z408 : n0 ≤ T318.heap.size := Nat.le_trans Z300 K318.1
          have O409 : Old Z n0 T318.heap := O301.keep K318 all0
          refine P1.callS X318 hx hZ hown (own_w hw 92 rfl) (own_w hw 93 rfl) (own_w hw 3 rfl) (own_w hw 94 rfl) (by decide) (rmAt4 l Z a0 hw [] b252 k252 r255 r260 r265 r270 r275 r280 T318.heap n0 Z408 O409 V330 bd_r255 bd_r260 bd_r265 bd_r270 bd_r275 bd_r280) hml [(.ref b252), (.int (4 : Int32))] [] (lenOf pd_1322 rfl) rfl rfl (hb hby at_176) rfl rfl (ok rfl) (ok rfl) (ok rfl) (ok rfl) ?_
          intro v410 T410 L410 q410 X410
          obtain ⟨rfl, N410q, hE410⟩ := q410
          have N410 := Fr.app N318 N410q
          show Goes p e below _ T410 (mkF m 179 #[.val (.int p0), .val (.long q1), .second, .val (.ref b252), .val (.ref b283), .val (.int (auth ((r255).toInt8.toInt32) ((r260).toInt8.toInt32) ((r265).toInt8.toInt32) ((r270).toInt8.toInt32) ((r275).toInt8.toInt32) ((r280).toInt8.toInt32))), .val (.int (3 : Int32)), .val (.int (0 : Int32))] [(.int r275)])
          refine P1.bipush X410.here hx (47 : Int32) (hb hby at_179) rfl ?_
          by_cases hc411 : r275 = (47 : Int32)
          ·
            have he412 : (r275.toInt8.toInt32 = (47 : Int32)) := (own_b47 bd_r275).mpr hc411
            refine P1.icmpNo X410.here hx (hb hby at_181) (teq (hc411 : r275 = (47 : Int32))).2 ?_
            refine P1.aloadN X410.here hx (hb hby at_184) rfl rfl ?_
            refine P1.iload X410.here hx (hb hby at_185) rfl ?_
            refine P1.iconst X410.here hx (2 : Int32) (hb hby at_187) rfl ?_
            refine P1.iadd X410.here hx (hb hby at_188) ?_
            have rw413 : ((3 : Int32) + (2 : Int32)) = (5 : Int32) := by decide
            rw [rw413]
            refine P1.callS X410 hx hZ hown (own_w hw 92 rfl) (own_w hw 93 rfl) (own_w hw 3 rfl) (own_w hw 94 rfl) (by decide) (rmAt5 l Z a0 hw [] b252 k252 r255 r260 r265 r270 r275 r280 T318.heap n0 Z408 O409 V330 bd_r255 bd_r260 bd_r265 bd_r270 bd_r275 bd_r280) hml [(.ref b252), (.int (5 : Int32))] [] (lenOf pd_1322 rfl) rfl rfl (hb hby at_189) rfl hE410 (ok rfl) (ok rfl) (ok rfl) (ok rfl) ?_
            intro v414 T414 L414 q414 X414
            obtain ⟨rfl, N414q, hE414⟩ := q414
            have N414 := Fr.app N410 N414q
            show Goes p e below _ T414 (mkF m 192 #[.val (.int p0), .val (.long q1), .second, .val (.ref b252), .val (.ref b283), .val (.int (auth ((r255).toInt8.toInt32) ((r260).toInt8.toInt32) ((r265).toInt8.toInt32) ((r270).toInt8.toInt32) ((r275).toInt8.toInt32) ((r280).toInt8.toInt32))), .val (.int (3 : Int32)), .val (.int (0 : Int32))] [(.int r280)])
            refine P1.bipush X414.here hx (47 : Int32) (hb hby at_192) rfl ?_
            by_cases hc415 : r280 = (47 : Int32)
            ·
              have he416 : (r280.toInt8.toInt32 = (47 : Int32)) := (own_b47 bd_r280).mpr hc415
              refine P1.icmpNo X414.here hx (hb hby at_194) (teq (hc415 : r280 = (47 : Int32))).2 ?_
              refine P1.iload X414.here hx (hb hby at_197) rfl ?_
              refine P1.iconst X414.here hx (3 : Int32) (hb hby at_199) rfl ?_
              refine P1.iadd X414.here hx (hb hby at_200) ?_
              have rw417 : ((3 : Int32) + (3 : Int32)) = (6 : Int32) := by decide
              rw [rw417]
              refine P1.istore X414.here hx #[.val (.int p0), .val (.long q1), .second, .val (.ref b252), .val (.ref b283), .val (.int (auth ((r255).toInt8.toInt32) ((r260).toInt8.toInt32) ((r265).toInt8.toInt32) ((r270).toInt8.toInt32) ((r275).toInt8.toInt32) ((r280).toInt8.toInt32))), .val (.int (3 : Int32)), .val (.int (6 : Int32))] (hb hby at_201) rfl ?_
              have rw418 : (auth ((r255).toInt8.toInt32) ((r260).toInt8.toInt32) ((r265).toInt8.toInt32) ((r270).toInt8.toInt32) ((r275).toInt8.toInt32) ((r280).toInt8.toInt32)) = (6 : Int32) := by simp [auth, he354, he378, he402, he406, he412, he416]
              rw [rw418]
              refine P1.iload X414.here hx (hb hby at_203) rfl ?_
              refine P1.iload X414.here hx (hb hby at_205) rfl ?_
              refine P1.icmpNo X414.here hx (hb hby at_207) (teq (by decide : (6 : Int32) = (6 : Int32))).2 ?_
              refine P1.iconst X414.here hx (1 : Int32) (hb hby at_210) rfl ?_
              refine P1.goto X414.here hx 215 (hb hby at_211) (by decide) (by decide) ?_
              have CR419 : CHr Z EL1 s.vm h0 T318.vm T318.heap := CR317.trans CW318
              refine Goes.retNW X414 hx Bd.notSynchronized hS318 ks318 hZ hEL (hh ▸ CR419) hE414 (t := .boolean) Bd.returns (by simp) (hb hby at_215) (ok rfl) (ok rfl) ?_
              exact ⟨rfl, N414⟩
            ·
              have he420 : ¬ (r280.toInt8.toInt32 = (47 : Int32)) := fun q => hc415 ((own_b47 bd_r280).mp q)
              refine P1.icmpYes X414.here hx 203 (hb hby at_194) (feq (hc415 : ¬ (r280 = (47 : Int32)))).2 (by decide) (by decide) ?_
              have rw421 : (auth ((r255).toInt8.toInt32) ((r260).toInt8.toInt32) ((r265).toInt8.toInt32) ((r270).toInt8.toInt32) ((r275).toInt8.toInt32) ((r280).toInt8.toInt32)) = (0 : Int32) := by simp [auth, he354, he378, he402, he406, he412, he420]
              rw [rw421]
              refine P1.iload X414.here hx (hb hby at_203) rfl ?_
              refine P1.iload X414.here hx (hb hby at_205) rfl ?_
              refine P1.icmpNo X414.here hx (hb hby at_207) (teq (by decide : (0 : Int32) = (0 : Int32))).2 ?_
              refine P1.iconst X414.here hx (1 : Int32) (hb hby at_210) rfl ?_
              refine P1.goto X414.here hx 215 (hb hby at_211) (by decide) (by decide) ?_
              have CR422 : CHr Z EL1 s.vm h0 T318.vm T318.heap := CR317.trans CW318
              refine Goes.retNW X414 hx Bd.notSynchronized hS318 ks318 hZ hEL (hh ▸ CR422) hE414 (t := .boolean) Bd.returns (by simp) (hb hby at_215) (ok rfl) (ok rfl) ?_
              exact ⟨rfl, N414⟩
          ·
            have he423 : ¬ (r275.toInt8.toInt32 = (47 : Int32)) := fun q => hc411 ((own_b47 bd_r275).mp q)
            refine P1.icmpYes X410.here hx 203 (hb hby at_181) (feq (hc411 : ¬ (r275 = (47 : Int32)))).2 (by decide) (by decide) ?_
            have rw424 : (auth ((r255).toInt8.toInt32) ((r260).toInt8.toInt32) ((r265).toInt8.toInt32) ((r270).toInt8.toInt32) ((r275).toInt8.toInt32) ((r280).toInt8.toInt32)) = (0 : Int32) := by simp [auth, he354, he378, he402, he406, he423]
            rw [rw424]
            refine P1.iload X410.here hx (hb hby at_203) rfl ?_
            refine P1.iload X410.here hx (hb hby at_205) rfl ?_
            refine P1.icmpNo X410.here hx (hb hby at_207) (teq (by decide : (0 : Int32) = (0 : Int32))).2 ?_
            refine P1.iconst X410.here hx (1 : Int32) (hb hby at_210) rfl ?_
            refine P1.goto X410.here hx 215 (hb hby at_211) (by decide) (by decide) ?_
            have CR425 : CHr Z EL1 s.vm h0 T318.vm T318.heap := CR317.trans CW318
            refine Goes.retNW X410 hx Bd.notSynchronized hS318 ks318 hZ hEL (hh ▸ CR425) hE410 (t := .boolean) Bd.returns (by simp) (hb hby at_215) (ok rfl) (ok rfl) ?_
            exact ⟨rfl, N410⟩
        ·
          have he426 : ¬ (r270.toInt8.toInt32 = (58 : Int32)) := fun q => hc405 ((own_b58 bd_r270).mp q)
          refine P1.icmpYes X318.here hx 132 (hb hby at_123) (feq (hc405 : ¬ (r270 = (58 : Int32)))).2 (by decide) (by decide) ?_
          refine P1.aloadN X318.here hx (hb hby at_132) rfl rfl ?_
          refine P1.iconst X318.here hx (4 : Int32) (hb hby at_133) rfl ?_
          obtain ⟨cl427, Ar427, qk427, sl427, nz427, ha427, fi427⟩ := id V330
          have i428 := inb_of (j := (4 : Int32)) sl427 ⟨by decide, by decide⟩
          refine Goes.step (T' := T318) (g' := (mkF m 135 #[.val (.int p0), .val (.long q1), .second, .val (.ref b252), .val (.ref b283), .val (.int (auth ((r255).toInt8.toInt32) ((r260).toInt8.toInt32) ((r265).toInt8.toInt32) ((r270).toInt8.toInt32) ((r275).toInt8.toInt32) ((r280).toInt8.toInt32))), .unset, .unset] [(.int r275)])) (fun t_ k_ => X318.caload hx (j := (4 : Int32)) (v := (.int r275)) Ar427.1 (State.isArrayOf_alike hZ.alike Ar427.2.1) Ar427.2.2 i428 (Has.at ha427 i428 rfl) (g := (mkF m 134 #[.val (.int p0), .val (.long q1), .second, .val (.ref b252), .val (.ref b283), .val (.int (auth ((r255).toInt8.toInt32) ((r260).toInt8.toInt32) ((r265).toInt8.toInt32) ((r270).toInt8.toInt32) ((r275).toInt8.toInt32) ((r280).toInt8.toInt32))), .unset, .unset] [(.int (4 : Int32)), (.ref b252)])) rfl rfl (hb hby at_134) _ k_) ?_
          refine P1.bipush X318.here hx (58 : Int32) (hb hby at_135) rfl ?_
          by_cases hc429 : r275 = (58 : Int32)
          ·
            have he430 : (r275.toInt8.toInt32 = (58 : Int32)) := (own_b58 bd_r275).mpr hc429
            refine P1.icmpNo X318.here hx (hb hby at_137) (teq (hc429 : r275 = (58 : Int32))).2 ?_
            refine P1.iconst X318.here hx (4 : Int32) (hb hby at_140) rfl ?_
            refine P1.istore X318.here hx #[.val (.int p0), .val (.long q1), .second, .val (.ref b252), .val (.ref b283), .val (.int (auth ((r255).toInt8.toInt32) ((r260).toInt8.toInt32) ((r265).toInt8.toInt32) ((r270).toInt8.toInt32) ((r275).toInt8.toInt32) ((r280).toInt8.toInt32))), .val (.int (4 : Int32)), .unset] (hb hby at_141) rfl ?_
            refine P1.goto X318.here hx 163 (hb hby at_143) (by decide) (by decide) ?_
            refine P1.iconst X318.here hx (0 : Int32) (hb hby at_163) rfl ?_
            refine P1.istore X318.here hx #[.val (.int p0), .val (.long q1), .second, .val (.ref b252), .val (.ref b283), .val (.int (auth ((r255).toInt8.toInt32) ((r260).toInt8.toInt32) ((r265).toInt8.toInt32) ((r270).toInt8.toInt32) ((r275).toInt8.toInt32) ((r280).toInt8.toInt32))), .val (.int (4 : Int32)), .val (.int (0 : Int32))] (hb hby at_164) rfl ?_
            refine P1.iload X318.here hx (hb hby at_166) rfl ?_
            refine P1.ifNo X318.here hx (hb hby at_168) ((if0 _ _).trans (flt (by decide : ¬ ((4 : Int32) < (0 : Int32)))).1) ?_
            refine P1.aloadN X318.here hx (hb hby at_171) rfl rfl ?_
            refine P1.iload X318.here hx (hb hby at_172) rfl ?_
            refine P1.iconst X318.here hx (1 : Int32) (hb hby at_174) rfl ?_
            refine P1.iadd X318.here hx (hb hby at_175) ?_
            have rw431 : ((4 : Int32) + (1 : Int32)) = (5 : Int32) := by decide
            rw [rw431]
            have Z432 : n0 ≤ T318.heap.size := Nat.le_trans Z300 K318.1
            have O433 : Old Z n0 T318.heap := O301.keep K318 all0
            refine P1.callS X318 hx hZ hown (own_w hw 92 rfl) (own_w hw 93 rfl) (own_w hw 3 rfl) (own_w hw 94 rfl) (by decide) (rmAt5 l Z a0 hw [] b252 k252 r255 r260 r265 r270 r275 r280 T318.heap n0 Z432 O433 V330 bd_r255 bd_r260 bd_r265 bd_r270 bd_r275 bd_r280) hml [(.ref b252), (.int (5 : Int32))] [] (lenOf pd_1322 rfl) rfl rfl (hb hby at_176) rfl rfl (ok rfl) (ok rfl) (ok rfl) (ok rfl) ?_
            intro v434 T434 L434 q434 X434
            obtain ⟨rfl, N434q, hE434⟩ := q434
            have N434 := Fr.app N318 N434q
            show Goes p e below _ T434 (mkF m 179 #[.val (.int p0), .val (.long q1), .second, .val (.ref b252), .val (.ref b283), .val (.int (auth ((r255).toInt8.toInt32) ((r260).toInt8.toInt32) ((r265).toInt8.toInt32) ((r270).toInt8.toInt32) ((r275).toInt8.toInt32) ((r280).toInt8.toInt32))), .val (.int (4 : Int32)), .val (.int (0 : Int32))] [(.int r280)])
            refine P1.bipush X434.here hx (47 : Int32) (hb hby at_179) rfl ?_
            by_cases hc435 : r280 = (47 : Int32)
            ·
              have he436 : (r280.toInt8.toInt32 = (47 : Int32)) := (own_b47 bd_r280).mpr hc435
              refine P1.icmpNo X434.here hx (hb hby at_181) (teq (hc435 : r280 = (47 : Int32))).2 ?_
              refine P1.aloadN X434.here hx (hb hby at_184) rfl rfl ?_
              refine P1.iload X434.here hx (hb hby at_185) rfl ?_
              refine P1.iconst X434.here hx (2 : Int32) (hb hby at_187) rfl ?_
              refine P1.iadd X434.here hx (hb hby at_188) ?_
              have rw437 : ((4 : Int32) + (2 : Int32)) = (6 : Int32) := by decide
              rw [rw437]
              refine P1.callS X434 hx hZ hown (own_w hw 92 rfl) (own_w hw 93 rfl) (own_w hw 3 rfl) (own_w hw 94 rfl) (by decide) (rmAt6 l Z a0 hw [] b252 k252 r255 r260 r265 r270 r275 r280 T318.heap n0 Z432 O433 V330 bd_r255 bd_r260 bd_r265 bd_r270 bd_r275 bd_r280) hml [(.ref b252), (.int (6 : Int32))] [] (lenOf pd_1322 rfl) rfl rfl (hb hby at_189) rfl hE434 (ok rfl) (ok rfl) (ok rfl) (ok rfl) ?_
              intro v438 T438 L438 q438 X438
              obtain ⟨rfl, N438q, hE438⟩ := q438
              have N438 := Fr.app N434 N438q
              show Goes p e below _ T438 (mkF m 192 #[.val (.int p0), .val (.long q1), .second, .val (.ref b252), .val (.ref b283), .val (.int (auth ((r255).toInt8.toInt32) ((r260).toInt8.toInt32) ((r265).toInt8.toInt32) ((r270).toInt8.toInt32) ((r275).toInt8.toInt32) ((r280).toInt8.toInt32))), .val (.int (4 : Int32)), .val (.int (0 : Int32))] [(.int (120 : Int32))])
              refine P1.bipush X438.here hx (47 : Int32) (hb hby at_192) rfl ?_
              refine P1.icmpYes X438.here hx 203 (hb hby at_194) (feq (by decide : ¬ ((120 : Int32) = (47 : Int32)))).2 (by decide) (by decide) ?_
              have rw439 : (auth ((r255).toInt8.toInt32) ((r260).toInt8.toInt32) ((r265).toInt8.toInt32) ((r270).toInt8.toInt32) ((r275).toInt8.toInt32) ((r280).toInt8.toInt32)) = (0 : Int32) := by simp [auth, he354, he378, he402, he426, he430, he436]
              rw [rw439]
              refine P1.iload X438.here hx (hb hby at_203) rfl ?_
              refine P1.iload X438.here hx (hb hby at_205) rfl ?_
              refine P1.icmpNo X438.here hx (hb hby at_207) (teq (by decide : (0 : Int32) = (0 : Int32))).2 ?_
              refine P1.iconst X438.here hx (1 : Int32) (hb hby at_210) rfl ?_
              refine P1.goto X438.here hx 215 (hb hby at_211) (by decide) (by decide) ?_
              have CR440 : CHr Z EL1 s.vm h0 T318.vm T318.heap := CR317.trans CW318
              refine Goes.retNW X438 hx Bd.notSynchronized hS318 ks318 hZ hEL (hh ▸ CR440) hE438 (t := .boolean) Bd.returns (by simp) (hb hby at_215) (ok rfl) (ok rfl) ?_
              exact ⟨rfl, N438⟩
            ·
              have he441 : ¬ (r280.toInt8.toInt32 = (47 : Int32)) := fun q => hc435 ((own_b47 bd_r280).mp q)
              refine P1.icmpYes X434.here hx 203 (hb hby at_181) (feq (hc435 : ¬ (r280 = (47 : Int32)))).2 (by decide) (by decide) ?_
              have rw442 : (auth ((r255).toInt8.toInt32) ((r260).toInt8.toInt32) ((r265).toInt8.toInt32) ((r270).toInt8.toInt32) ((r275).toInt8.toInt32) ((r280).toInt8.toInt32)) = (0 : Int32) := by simp [auth, he354, he378, he402, he426, he430, he441]
              rw [rw442]
              refine P1.iload X434.here hx (hb hby at_203) rfl ?_
              refine P1.iload X434.here hx (hb hby at_205) rfl ?_
              refine P1.icmpNo X434.here hx (hb hby at_207) (teq (by decide : (0 : Int32) = (0 : Int32))).2 ?_
              refine P1.iconst X434.here hx (1 : Int32) (hb hby at_210) rfl ?_
              refine P1.goto X434.here hx 215 (hb hby at_211) (by decide) (by decide) ?_
              have CR443 : CHr Z EL1 s.vm h0 T318.vm T318.heap := CR317.trans CW318
              refine Goes.retNW X434 hx Bd.notSynchronized hS318 ks318 hZ hEL (hh ▸ CR443) hE434 (t := .boolean) Bd.returns (by simp) (hb hby at_215) (ok rfl) (ok rfl) ?_
              exact ⟨rfl, N434⟩
          ·
            have he444 : ¬ (r275.toInt8.toInt32 = (58 : Int32)) := fun q => hc429 ((own_b58 bd_r275).mp q)
            refine P1.icmpYes X318.here hx 146 (hb hby at_137) (feq (hc429 : ¬ (r275 = (58 : Int32)))).2 (by decide) (by decide) ?_
            refine P1.aloadN X318.here hx (hb hby at_146) rfl rfl ?_
            refine P1.iconst X318.here hx (5 : Int32) (hb hby at_147) rfl ?_
            obtain ⟨cl445, Ar445, qk445, sl445, nz445, ha445, fi445⟩ := id V330
            have i446 := inb_of (j := (5 : Int32)) sl445 ⟨by decide, by decide⟩
            refine Goes.step (T' := T318) (g' := (mkF m 149 #[.val (.int p0), .val (.long q1), .second, .val (.ref b252), .val (.ref b283), .val (.int (auth ((r255).toInt8.toInt32) ((r260).toInt8.toInt32) ((r265).toInt8.toInt32) ((r270).toInt8.toInt32) ((r275).toInt8.toInt32) ((r280).toInt8.toInt32))), .unset, .unset] [(.int r280)])) (fun t_ k_ => X318.caload hx (j := (5 : Int32)) (v := (.int r280)) Ar445.1 (State.isArrayOf_alike hZ.alike Ar445.2.1) Ar445.2.2 i446 (Has.at ha445 i446 rfl) (g := (mkF m 148 #[.val (.int p0), .val (.long q1), .second, .val (.ref b252), .val (.ref b283), .val (.int (auth ((r255).toInt8.toInt32) ((r260).toInt8.toInt32) ((r265).toInt8.toInt32) ((r270).toInt8.toInt32) ((r275).toInt8.toInt32) ((r280).toInt8.toInt32))), .unset, .unset] [(.int (5 : Int32)), (.ref b252)])) rfl rfl (hb hby at_148) _ k_) ?_
            refine P1.bipush X318.here hx (58 : Int32) (hb hby at_149) rfl ?_
            by_cases hc447 : r280 = (58 : Int32)
            ·
              have he448 : (r280.toInt8.toInt32 = (58 : Int32)) := (own_b58 bd_r280).mpr hc447
              refine P1.icmpNo X318.here hx (hb hby at_151) (teq (hc447 : r280 = (58 : Int32))).2 ?_
              refine P1.iconst X318.here hx (5 : Int32) (hb hby at_154) rfl ?_
              refine P1.istore X318.here hx #[.val (.int p0), .val (.long q1), .second, .val (.ref b252), .val (.ref b283), .val (.int (auth ((r255).toInt8.toInt32) ((r260).toInt8.toInt32) ((r265).toInt8.toInt32) ((r270).toInt8.toInt32) ((r275).toInt8.toInt32) ((r280).toInt8.toInt32))), .val (.int (5 : Int32)), .unset] (hb hby at_155) rfl ?_
              refine P1.goto X318.here hx 163 (hb hby at_157) (by decide) (by decide) ?_
              refine P1.iconst X318.here hx (0 : Int32) (hb hby at_163) rfl ?_
              refine P1.istore X318.here hx #[.val (.int p0), .val (.long q1), .second, .val (.ref b252), .val (.ref b283), .val (.int (auth ((r255).toInt8.toInt32) ((r260).toInt8.toInt32) ((r265).toInt8.toInt32) ((r270).toInt8.toInt32) ((r275).toInt8.toInt32) ((r280).toInt8.toInt32))), .val (.int (5 : Int32)), .val (.int (0 : Int32))] (hb hby at_164) rfl ?_
              refine P1.iload X318.here hx (hb hby at_166) rfl ?_
              refine P1.ifNo X318.here hx (hb hby at_168) ((if0 _ _).trans (flt (by decide : ¬ ((5 : Int32) < (0 : Int32)))).1) ?_
              refine P1.aloadN X318.here hx (hb hby at_171) rfl rfl ?_
              refine P1.iload X318.here hx (hb hby at_172) rfl ?_
              refine P1.iconst X318.here hx (1 : Int32) (hb hby at_174) rfl ?_
              refine P1.iadd X318.here hx (hb hby at_175) ?_
              have rw449 : ((5 : Int32) + (1 : Int32)) = (6 : Int32) := by decide
              rw [rw449]
              have Z450 : n0 ≤ T318.heap.size := Nat.le_trans Z300 K318.1
              have O451 : Old Z n0 T318.heap := O301.keep K318 all0
              refine P1.callS X318 hx hZ hown (own_w hw 92 rfl) (own_w hw 93 rfl) (own_w hw 3 rfl) (own_w hw 94 rfl) (by decide) (rmAt6 l Z a0 hw [] b252 k252 r255 r260 r265 r270 r275 r280 T318.heap n0 Z450 O451 V330 bd_r255 bd_r260 bd_r265 bd_r270 bd_r275 bd_r280) hml [(.ref b252), (.int (6 : Int32))] [] (lenOf pd_1322 rfl) rfl rfl (hb hby at_176) rfl rfl (ok rfl) (ok rfl) (ok rfl) (ok rfl) ?_
              intro v452 T452 L452 q452 X452
              obtain ⟨rfl, N452q, hE452⟩ := q452
              have N452 := Fr.app N318 N452q
              show Goes p e below _ T452 (mkF m 179 #[.val (.int p0), .val (.long q1), .second, .val (.ref b252), .val (.ref b283), .val (.int (auth ((r255).toInt8.toInt32) ((r260).toInt8.toInt32) ((r265).toInt8.toInt32) ((r270).toInt8.toInt32) ((r275).toInt8.toInt32) ((r280).toInt8.toInt32))), .val (.int (5 : Int32)), .val (.int (0 : Int32))] [(.int (120 : Int32))])
              refine P1.bipush X452.here hx (47 : Int32) (hb hby at_179) rfl ?_
              refine P1.icmpYes X452.here hx 203 (hb hby at_181) (feq (by decide : ¬ ((120 : Int32) = (47 : Int32)))).2 (by decide) (by decide) ?_
              have rw453 : (auth ((r255).toInt8.toInt32) ((r260).toInt8.toInt32) ((r265).toInt8.toInt32) ((r270).toInt8.toInt32) ((r275).toInt8.toInt32) ((r280).toInt8.toInt32)) = (0 : Int32) := by simp [auth, he354, he378, he402, he426, he444, he448]
              rw [rw453]
              refine P1.iload X452.here hx (hb hby at_203) rfl ?_
              refine P1.iload X452.here hx (hb hby at_205) rfl ?_
              refine P1.icmpNo X452.here hx (hb hby at_207) (teq (by decide : (0 : Int32) = (0 : Int32))).2 ?_
              refine P1.iconst X452.here hx (1 : Int32) (hb hby at_210) rfl ?_
              refine P1.goto X452.here hx 215 (hb hby at_211) (by decide) (by decide) ?_
              have CR454 : CHr Z EL1 s.vm h0 T318.vm T318.heap := CR317.trans CW318
              refine Goes.retNW X452 hx Bd.notSynchronized hS318 ks318 hZ hEL (hh ▸ CR454) hE452 (t := .boolean) Bd.returns (by simp) (hb hby at_215) (ok rfl) (ok rfl) ?_
              exact ⟨rfl, N452⟩
            ·
              have he455 : ¬ (r280.toInt8.toInt32 = (58 : Int32)) := fun q => hc447 ((own_b58 bd_r280).mp q)
              refine P1.icmpYes X318.here hx 160 (hb hby at_151) (feq (hc447 : ¬ (r280 = (58 : Int32)))).2 (by decide) (by decide) ?_
              refine P1.iconst X318.here hx (-1 : Int32) (hb hby at_160) rfl ?_
              refine P1.istore X318.here hx #[.val (.int p0), .val (.long q1), .second, .val (.ref b252), .val (.ref b283), .val (.int (auth ((r255).toInt8.toInt32) ((r260).toInt8.toInt32) ((r265).toInt8.toInt32) ((r270).toInt8.toInt32) ((r275).toInt8.toInt32) ((r280).toInt8.toInt32))), .val (.int (-1 : Int32)), .unset] (hb hby at_161) rfl ?_
              refine P1.iconst X318.here hx (0 : Int32) (hb hby at_163) rfl ?_
              refine P1.istore X318.here hx #[.val (.int p0), .val (.long q1), .second, .val (.ref b252), .val (.ref b283), .val (.int (auth ((r255).toInt8.toInt32) ((r260).toInt8.toInt32) ((r265).toInt8.toInt32) ((r270).toInt8.toInt32) ((r275).toInt8.toInt32) ((r280).toInt8.toInt32))), .val (.int (-1 : Int32)), .val (.int (0 : Int32))] (hb hby at_164) rfl ?_
              refine P1.iload X318.here hx (hb hby at_166) rfl ?_
              refine P1.ifYes X318.here hx 203 (hb hby at_168) ((if0 _ _).trans (tlt (by decide : (-1 : Int32) < (0 : Int32))).1) (by decide) (by decide) ?_
              have rw456 : (auth ((r255).toInt8.toInt32) ((r260).toInt8.toInt32) ((r265).toInt8.toInt32) ((r270).toInt8.toInt32) ((r275).toInt8.toInt32) ((r280).toInt8.toInt32)) = (0 : Int32) := by simp [auth, he354, he378, he402, he426, he444, he455]
              rw [rw456]
              refine P1.iload X318.here hx (hb hby at_203) rfl ?_
              refine P1.iload X318.here hx (hb hby at_205) rfl ?_
              refine P1.icmpNo X318.here hx (hb hby at_207) (teq (by decide : (0 : Int32) = (0 : Int32))).2 ?_
              refine P1.iconst X318.here hx (1 : Int32) (hb hby at_210) rfl ?_
              refine P1.goto X318.here hx 215 (hb hby at_211) (by decide) (by decide) ?_
              have CR457 : CHr Z EL1 s.vm h0 T318.vm T318.heap := CR317.trans CW318
              refine Goes.retNW X318 hx Bd.notSynchronized hS318 ks318 hZ hEL (hh ▸ CR457) rfl (t := .boolean) Bd.returns (by simp) (hb hby at_215) (ok rfl) (ok rfl) ?_
              exact ⟨rfl, N318⟩
set_option maxRecDepth 65536 in
set_option maxHeartbeats 40000000 in
theorem comes_1 {Post : Tables → Env → Array Value → State → Outcome → State → Prop} (hpost : ∀ tb e args s v u, (limb_1_1.after args s (.returned v) u = true ∧ limb_1_2.after args s (.returned v) u = true ∧ True) → ReturnedEndW s (.returned v) u (Jvm.fieldLocs frame_1_writes args s ++ Jvm.arrayLocs frame_1_arrays args s ++ Jvm.staticLocs frame_1_statics s) 16 1152 → Post tb e args s (.returned v) u) :
    ArmFor flags0 classFile x code maxLocals ret World_1 tables_1 room_1 Calls_1 rest_1 Pre_1 Post := by
  intro l hfl _ _ p e ha hc hk s m args below hf hA hF happ hP
  obtain ⟨hcalls, hrest, hpre⟩ := hP
  obtain ⟨-, -, -, hnamed, -, -, -, hat⟩ := (Spec.applies_iff hf).mp happ
  obtain ⟨hg, hn⟩ := and_e (Cond.before_iff.mp (show (Jvm.Cond.and given_1 narrow_1).before args s = true from hpre))
  obtain ⟨hg0, hg1⟩ := and_e hg
  obtain ⟨ha0, hgr0⟩ := and_e hg1
  obtain ⟨w0, w1, rfl⟩ : ∃ w0 w1 : Value, args = #[w0, w1] := by
    have hs : args.size = 2 := by simpa [Cond.value, given_1] using hg0
    obtain ⟨L⟩ := args
    match L, hs with
    | [w0, w1], _ => exact ⟨w0, w1, rfl⟩
  have hw := fun d (hd : d ∈ tables_1) => atoms_spec (ws := Jvm.Cond.code x code maxLocals ret :: tables_1) hat d (List.mem_cons_of_mem _ hd)
  have hfit : Fit s := fun {y c} hc i hi => by
    obtain ⟨ha, rfl⟩ := Array.getElem?_eq_some_iff.mp hc
    have q := List.all_eq_true.mp ((Array.all_eq_true_iff_forall_mem.mp hF) _ (Array.getElem_mem ha)) i (List.mem_range.mpr hi)
    simpa [Array.getElem?_eq_getElem hi] using q
  obtain ⟨hsets, hown0⟩ := atoms_of _ (rest_1_c_eq ▸ (show rest_1_c.before _ s = true from hrest))
  obtain ⟨i0, ei0⟩ := is_v ha0
  obtain rfl : w0 = (.int i0) := Option.some.inj ei0
  obtain ⟨i1, ei1⟩ := isL_v hgr0
  obtain rfl : w1 = (.long i1) := Option.some.inj ei1
  obtain ⟨zc, ev_zc⟩ := is_v (Cond.before_iff.mp (hsets _ (List.mem_of_getElem? (i := 1) rfl)))
  have S_CS : Sta s s.heap "java/lang/String" "COMPACT_STRINGS" "Z" (.int zc) := Sta.start ev_zc (Or.inl (hsets _ (List.mem_of_getElem? (i := 0) rfl)))
  have hzc : ¬ zc = 0 := gotF (Cond.eq_ints ev_zc (Term.int_eval (0))) (not_v (Cond.before_iff.mp (hsets _ (List.mem_of_getElem? (i := 2) rfl))))
  obtain ⟨fm, ev_fm, hfm⟩ := isR_v (Cond.before_iff.mp (hsets _ (List.mem_of_getElem? (i := 8) rfl)))
  have S_FM : Sta s s.heap "jdk/internal/util/Preconditions" "SIOOBE_FORMATTER" "Ljava/util/function/BiFunction;" fm := Sta.start ev_fm (Or.inl (hsets _ (List.mem_of_getElem? (i := 7) rfl)))
  have hCH : CHv s EL1 s.vm s.heap := CHv.start (own_EL hw) (fun p hp => hcalls.1 p hp) (hsets _ (List.mem_of_getElem? (i := 2) rfl)) (own_w hw 23 rfl) (own_w hw 6 rfl)
  obtain ⟨n, o, h1, h2, h3, _, L, rfl, ⟨rfl, N⟩, -, hq⟩ := rm0 l s _ hw tables_1 i0 i1 zc fm s.heap s.heap.size (Nat.le_refl _) (Old.start s) S_CS hzc S_FM hfm p e ha hc hk s m _ below hf ((Spec.applies_iff_loose hf).mp happ).1 ⟨rfl, State.Warmed39.refl s, rfl, hCH⟩ trivial
  refine ⟨n, _, h1, h2, h3, hpost _ _ _ _ _ _ ⟨Cond.after_iff.mpr rfl, Cond.after_iff.mpr (eq_i res_at (Term.int_eval (1)) rfl), trivial⟩ ⟨hq.1, hq.2.1, hq.2.2.1, (hq.2.2.2.sift fun y hy => Or.inr (N y hy)).mono (ok rfl) (ok rfl)⟩⟩
theorem main_1_1 : Claimed_1_1 := comes_1 fun _ _ _ _ _ _ h hF => ⟨h.1, hF⟩
theorem main_1_2 : Claimed_1_2 := comes_1 fun _ _ _ _ _ _ h hF => ⟨h.2.1, hF⟩
end Jvm.Pilot.@@N@@
namespace Jvm.Pilot.@@N@@
open Jvm Jvm.ClassFile Sem Op Lib Jvm.Free Jvm.Stand Jvm.Pilot.@@N@@.Jvm.D
/-! MADE BY PROGRAM (witnessworld.py) out of the Statement's table words and the real class files: 22 classes; the members and pool entries that the words name. The judged class is class 1, her method 1. -/
namespace start1
open Jvm.ClassFile
def u (s : String) : CpInfo := .utf8 (stringToUtf16 s)
/-- a pool by its gaps: so many unusable entries, then the entry; so many at the end -/
def gap : Nat → List CpInfo → List CpInfo
  | 0, r => r
  | n + 1, r => .unusable :: gap n r
def poolList (es : List (Nat × CpInfo)) (last : Nat) : List CpInfo := es.foldr (fun e r => gap e.1 (e.2 :: r)) (gap last [])
def pool (es : List (Nat × CpInfo)) (last : Nat) : Array CpInfo := ⟨poolList es last⟩
def fileOf (pool : Array CpInfo) (this : Nat) (attrs : Array Attribute := #[]) (ms : Array MethodInfo := #[]) (fl : Nat := 33) (sup : Nat := 0) (ifs : Array Nat := #[]) (fds : Array FieldInfo := #[]) : ClassFile where
  minorVersion := 0
  majorVersion := 65
  constantPool := pool
  accessFlags := fl
  thisClass := this
  superClass := sup
  interfaces := ifs
  fields := fds
  methods := ms
  attributes := attrs
def plain (name : String) (sup : Option ClassId) : Class where
  name := name
  kind := .ordinary
  loader := none
  accessFlags := 33
  super := sup
  interfaces := #[]
  cf := none
  fields := #[]
  methods := #[]
  instanceTypes := #[]
  staticTypes := #[]
  resolved := #[]
  callSites := []
  init := .initialized
  statics := none
  mirror := none

def pool0 : Array CpInfo := pool [(5, u "<init>"), (0, u "()V"), (1, .class_ 10), (1, u "java/lang/Object")] 113

def k0c0 : Code := { maxStack := 0, maxLocals := 1, code := object_method_1_code, exceptionTable := #[], attributes := #[] }
def k0m0 : Method := { name := "<init>", desc := "()V", sig := { parameters := [], returnType := none }, accessFlags := 1, code := some k0c0 }
/-- java/lang/Object -/
def k0 : Class := { plain "java/lang/Object" none with
  accessFlags := 33
  interfaces := #[]
  cf := some (fileOf pool0 8 #[] #[{ accessFlags := 1, nameIndex := 5, descriptorIndex := 6, attributes := #[] }] 33 0 #[] #[])
  fields := #[]
  methods := #[k0m0]
  instanceTypes := #[]
  staticTypes := #[]
  resolved := Array.replicate 124 none
  statics := none }

def pool1 : Array CpInfo := pool [(2, .class_ 4), (1, u "java/lang/Object"), (0, u "<init>"), (0, u "()V"), (0, .methodref 8 9), (0, .class_ 10), (0, .nameAndType 11 12), (0, u "com/example/hoist/hoist/model/RepositoryUrlAuthorityStartPinLaw"), (0, u "pick"), (0, u "(IJI)C"), (0, .class_ 14), (0, u "java/lang/String"), (0, .methodref 13 16), (0, .nameAndType 5 17), (0, u "([C)V"), (0, .methodref 19 20), (0, .class_ 21), (0, .nameAndType 22 23), (0, u "com/example/hoist/hoist/model/RepositoryUrl"), (0, u "authorityStart"), (0, u "(Ljava/lang/String;)I"), (0, .methodref 8 25), (0, .nameAndType 26 27), (0, u "at"), (0, u "([CI)C"), (0, .long 255), (3, u "law"), (0, u "(IJ)Z")] 5

def k1m0 : Method := { name := "<init>", desc := "()V", sig := { parameters := [], returnType := none }, accessFlags := 1, code := none }
def k1c1 : Code := { maxStack := 6, maxLocals := 8, code := code, exceptionTable := #[], attributes := #[] }
def k1m1 : Method := { name := "law", desc := "(IJ)Z", sig := { parameters := [.int, .long], returnType := some .boolean }, accessFlags := 9, code := some k1c1 }
def k1c2 : Code := { maxStack := 4, maxLocals := 5, code := method_3_code, exceptionTable := #[], attributes := #[] }
def k1m2 : Method := { name := "pick", desc := "(IJI)C", sig := { parameters := [.int, .long, .int], returnType := some .char }, accessFlags := 10, code := some k1c2 }
def k1c3 : Code := { maxStack := 2, maxLocals := 2, code := method_4_code, exceptionTable := #[], attributes := #[] }
def k1m3 : Method := { name := "at", desc := "([CI)C", sig := { parameters := [(.array .char), .int], returnType := some .char }, accessFlags := 10, code := some k1c3 }
/-- com/example/hoist/hoist/model/RepositoryUrlAuthorityStartPinLaw -/
def k1 : Class := { plain "com/example/hoist/hoist/model/RepositoryUrlAuthorityStartPinLaw" (some 0) with
  accessFlags := 49
  interfaces := #[]
  cf := some (fileOf pool1 8 #[] #[{ accessFlags := 1, nameIndex := 5, descriptorIndex := 6, attributes := #[] }, { accessFlags := 9, nameIndex := 32, descriptorIndex := 33, attributes := #[] }, { accessFlags := 10, nameIndex := 11, descriptorIndex := 12, attributes := #[] }, { accessFlags := 10, nameIndex := 26, descriptorIndex := 27, attributes := #[] }] 49 2 #[] #[])
  fields := #[]
  methods := #[k1m0, k1m1, k1m2, k1m3]
  instanceTypes := #[]
  staticTypes := #[]
  resolved := Array.replicate 39 none
  statics := none }

def pool2 : Array CpInfo := pool [(1, .class_ 2), (0, u "java/io/Serializable"), (0, .class_ 4), (0, u "java/lang/Object")] 2

/-- java/io/Serializable -/
def k2 : Class := { plain "java/io/Serializable" (some 0) with
  accessFlags := 1537
  interfaces := #[]
  cf := some (fileOf pool2 1 #[] #[] 1537 3 #[] #[])
  fields := #[]
  methods := #[]
  instanceTypes := #[]
  staticTypes := #[]
  resolved := Array.replicate 7 none
  statics := none }

def pool3 : Array CpInfo := pool [(1, .class_ 2), (0, u "java/lang/Comparable"), (0, .class_ 4), (0, u "java/lang/Object")] 7

/-- java/lang/Comparable -/
def k3 : Class := { plain "java/lang/Comparable" (some 0) with
  accessFlags := 1537
  interfaces := #[]
  cf := some (fileOf pool3 1 #[] #[] 1537 3 #[] #[])
  fields := #[]
  methods := #[]
  instanceTypes := #[]
  staticTypes := #[]
  resolved := Array.replicate 12 none
  statics := none }

def pool4 : Array CpInfo := pool [(2, .class_ 4), (1, u "java/lang/CharSequence"), (42, .class_ 48), (0, u "java/lang/CharSequence$1CodePointIterator"), (10, .class_ 60), (0, u "java/lang/CharSequence$1CharIterator"), (5, .class_ 67), (0, u "java/lang/Object")] 63

/-- java/lang/CharSequence -/
def k4 : Class := { plain "java/lang/CharSequence" (some 0) with
  accessFlags := 1537
  interfaces := #[]
  cf := some (fileOf pool4 2 #[.nestMembers #[47, 59]] #[] 1537 66 #[] #[])
  fields := #[]
  methods := #[]
  instanceTypes := #[]
  staticTypes := #[]
  resolved := Array.replicate 131 none
  statics := none }

def pool5 : Array CpInfo := pool [(1, .class_ 2), (0, u "java/lang/constant/Constable"), (0, .class_ 4), (0, u "java/lang/Object")] 6

/-- java/lang/constant/Constable -/
def k5 : Class := { plain "java/lang/constant/Constable" (some 0) with
  accessFlags := 1537
  interfaces := #[]
  cf := some (fileOf pool5 1 #[] #[] 1537 3 #[] #[])
  fields := #[]
  methods := #[]
  instanceTypes := #[]
  staticTypes := #[]
  resolved := Array.replicate 11 none
  statics := none }

def pool6 : Array CpInfo := pool [(1, .class_ 2), (0, u "java/lang/constant/ConstantDesc"), (0, .class_ 4), (0, u "java/lang/Object")] 32

/-- java/lang/constant/ConstantDesc -/
def k6 : Class := { plain "java/lang/constant/ConstantDesc" (some 0) with
  accessFlags := 1537
  interfaces := #[]
  cf := some (fileOf pool6 1 #[] #[] 1537 3 #[] #[])
  fields := #[]
  methods := #[]
  instanceTypes := #[]
  staticTypes := #[]
  resolved := Array.replicate 37 none
  statics := none }

def pool7 : Array CpInfo := pool [(1, .methodref 2 3), (0, .class_ 4), (0, .nameAndType 5 6), (0, u "java/lang/Object"), (0, u "<init>"), (0, u "()V"), (2, .fieldref 10 11), (0, .class_ 12), (0, .nameAndType 13 14), (0, u "java/lang/String"), (0, u "value"), (0, u "[B"), (0, .fieldref 10 16), (0, .nameAndType 17 18), (0, u "coder"), (0, u "B"), (2, u "hash"), (0, u "I"), (2, u "hashIsZero"), (0, u "Z"), (0, .methodref 10 28), (0, .nameAndType 5 29), (0, u "([CIILjava/lang/Void;)V"), (8, .fieldref 10 39), (0, .nameAndType 40 26), (0, u "COMPACT_STRINGS"), (1, .class_ 44), (1, u "java/lang/StringUTF16"), (0, u "compress"), (1, .methodref 42 48), (0, .nameAndType 49 50), (0, u "coderFromArrayLen"), (0, u "([BI)B"), (56, .class_ 109), (1, u "java/lang/StringLatin1"), (32, u "()Z"), (34, .methodref 42 178), (0, .nameAndType 45 179), (0, u "([CII)[B"), (154, u "()I"), (0, .methodref 10 336), (0, .nameAndType 17 337), (0, u "()B"), (38, u "([BI[BII)I"), (115, .methodref 10 493), (0, .nameAndType 494 142), (0, u "isLatin1"), (10, .methodref 10 506), (0, .nameAndType 507 334), (0, u "length"), (51, .class_ 561), (1, u "jdk/internal/util/ArraysSupport"), (0, u "mismatch"), (12, .class_ 576), (0, u "java/lang/CharSequence"), (22, u "CASE_INSENSITIVE_ORDER"), (0, u "Ljava/util/Comparator;"), (6, .methodref 559 608), (0, .nameAndType 562 376), (17, u "startsWith"), (0, u "(Ljava/lang/String;I)Z"), (5, .methodref 10 634), (0, .nameAndType 635 636), (0, u "indexOf"), (0, u "(II)I"), (0, .methodref 107 638), (0, .nameAndType 635 639), (0, u "([BIII)I"), (125, u "(I)I"), (244, u "([C)V"), (90, u "serialPersistentFields"), (0, u "[Ljava/io/ObjectStreamField;"), (0, .class_ 1104), (0, u "java/lang/String$CaseInsensitiveComparator"), (1, .class_ 1107), (0, u "java/io/Serializable"), (0, .class_ 1109), (0, u "java/lang/Comparable"), (0, .class_ 1111), (0, u "java/lang/constant/Constable"), (0, .class_ 1113), (0, u "java/lang/constant/ConstantDesc"), (2, u "serialVersionUID"), (0, u "J"), (3, u "REPL"), (0, u "C"), (2, u "LATIN1"), (1, u "UTF16")] 323

def k7m0 : Method := { name := "<init>", desc := "()V", sig := { parameters := [], returnType := none }, accessFlags := 1, code := none }
def k7c1 : Code := { maxStack := 5, maxLocals := 2, code := jdk_42_method_3_code, exceptionTable := #[], attributes := #[] }
def k7m1 : Method := { name := "<init>", desc := "([C)V", sig := { parameters := [(.array .char)], returnType := none }, accessFlags := 1, code := some k7c1 }
def k7c2 : Code := { maxStack := 2, maxLocals := 1, code := jdk_42_method_54_code, exceptionTable := #[], attributes := #[] }
def k7m2 : Method := { name := "length", desc := "()I", sig := { parameters := [], returnType := some .int }, accessFlags := 1, code := some k7c2 }
def k7c3 : Code := { maxStack := 5, maxLocals := 8, code := jdk_42_method_75_code, exceptionTable := #[], attributes := #[] }
def k7m3 : Method := { name := "startsWith", desc := "(Ljava/lang/String;I)Z", sig := { parameters := [(.object "java/lang/String"), .int], returnType := some .boolean }, accessFlags := 1, code := some k7c3 }
def k7c4 : Code := { maxStack := 3, maxLocals := 2, code := jdk_42_method_79_code, exceptionTable := #[], attributes := #[] }
def k7m4 : Method := { name := "indexOf", desc := "(I)I", sig := { parameters := [.int], returnType := some .int }, accessFlags := 1, code := some k7c4 }
def k7c5 : Code := { maxStack := 4, maxLocals := 3, code := jdk_42_method_80_code, exceptionTable := #[], attributes := #[] }
def k7m5 : Method := { name := "indexOf", desc := "(II)I", sig := { parameters := [.int, .int], returnType := some .int }, accessFlags := 1, code := some k7c5 }
def k7c6 : Code := { maxStack := 4, maxLocals := 6, code := jdk_42_method_149_code, exceptionTable := #[], attributes := #[] }
def k7m6 : Method := { name := "<init>", desc := "([CIILjava/lang/Void;)V", sig := { parameters := [(.array .char), .int, .int, (.object "java/lang/Void")], returnType := none }, accessFlags := 2, code := some k7c6 }
def k7c7 : Code := { maxStack := 1, maxLocals := 1, code := jdk_42_method_152_code, exceptionTable := #[], attributes := #[] }
def k7m7 : Method := { name := "coder", desc := "()B", sig := { parameters := [], returnType := some .byte }, accessFlags := 0, code := some k7c7 }
def k7c8 : Code := { maxStack := 1, maxLocals := 1, code := jdk_42_method_154_code, exceptionTable := #[], attributes := #[] }
def k7m8 : Method := { name := "isLatin1", desc := "()Z", sig := { parameters := [], returnType := some .boolean }, accessFlags := 0, code := some k7c8 }
/-- java/lang/String -/
def k7 : Class := { plain "java/lang/String" (some 0) with
  accessFlags := 49
  interfaces := #[2, 3, 4, 5, 6]
  cf := some (fileOf pool7 10 #[.nestMembers #[1103]] #[{ accessFlags := 1, nameIndex := 5, descriptorIndex := 6, attributes := #[] }, { accessFlags := 1, nameIndex := 5, descriptorIndex := 1010, attributes := #[] }, { accessFlags := 1, nameIndex := 507, descriptorIndex := 334, attributes := #[] }, { accessFlags := 1, nameIndex := 626, descriptorIndex := 627, attributes := #[] }, { accessFlags := 1, nameIndex := 635, descriptorIndex := 765, attributes := #[] }, { accessFlags := 1, nameIndex := 635, descriptorIndex := 636, attributes := #[] }, { accessFlags := 2, nameIndex := 5, descriptorIndex := 29, attributes := #[] }, { accessFlags := 0, nameIndex := 17, descriptorIndex := 337, attributes := #[] }, { accessFlags := 0, nameIndex := 494, descriptorIndex := 142, attributes := #[] }] 49 2 #[1106, 1108, 575, 1110, 1112] #[{ accessFlags := 18, nameIndex := 13, descriptorIndex := 14, attributes := #[] }, { accessFlags := 18, nameIndex := 17, descriptorIndex := 18, attributes := #[] }, { accessFlags := 2, nameIndex := 21, descriptorIndex := 22, attributes := #[] }, { accessFlags := 2, nameIndex := 25, descriptorIndex := 26, attributes := #[] }, { accessFlags := 26, nameIndex := 1116, descriptorIndex := 1117, attributes := #[] }, { accessFlags := 24, nameIndex := 40, descriptorIndex := 26, attributes := #[] }, { accessFlags := 26, nameIndex := 1101, descriptorIndex := 1102, attributes := #[] }, { accessFlags := 26, nameIndex := 1121, descriptorIndex := 1122, attributes := #[] }, { accessFlags := 25, nameIndex := 599, descriptorIndex := 600, attributes := #[] }, { accessFlags := 24, nameIndex := 1125, descriptorIndex := 18, attributes := #[] }, { accessFlags := 24, nameIndex := 1127, descriptorIndex := 18, attributes := #[] }])
  fields := #[{ name := "value", type := (.array .byte), accessFlags := 18, slot := 0, constantValue := 0 }, { name := "coder", type := .byte, accessFlags := 18, slot := 1, constantValue := 0 }, { name := "hash", type := .int, accessFlags := 2, slot := 2, constantValue := 0 }, { name := "hashIsZero", type := .boolean, accessFlags := 2, slot := 3, constantValue := 0 }, { name := "serialVersionUID", type := .long, accessFlags := 26, slot := 0, constantValue := 0 }, { name := "COMPACT_STRINGS", type := .boolean, accessFlags := 24, slot := 1, constantValue := 0 }, { name := "serialPersistentFields", type := (.array (.object "java/io/ObjectStreamField")), accessFlags := 26, slot := 2, constantValue := 0 }, { name := "REPL", type := .char, accessFlags := 26, slot := 3, constantValue := 0 }, { name := "CASE_INSENSITIVE_ORDER", type := (.object "java/util/Comparator"), accessFlags := 25, slot := 4, constantValue := 0 }, { name := "LATIN1", type := .byte, accessFlags := 24, slot := 5, constantValue := 0 }, { name := "UTF16", type := .byte, accessFlags := 24, slot := 6, constantValue := 0 }]
  methods := #[k7m0, k7m1, k7m2, k7m3, k7m4, k7m5, k7m6, k7m7, k7m8]
  instanceTypes := #[(.array .byte), .byte, .int, .boolean]
  staticTypes := #[.long, .boolean, (.array (.object "java/io/ObjectStreamField")), .char, (.object "java/util/Comparator"), .byte, .byte]
  resolved := Array.replicate 1451 none
  statics := some 0 }

def pool8 : Array CpInfo := pool [(6, .class_ 8), (1, u "java/lang/Object"), (0, u "<init>"), (0, u "()V"), (1, .class_ 14), (1, u "java/lang/StringUTF16"), (31, u "$assertionsDisabled"), (0, u "Z"), (13, u "HI_BYTE_SHIFT"), (0, u "I"), (2, u "LO_BYTE_SHIFT"), (49, .methodref 12 116), (0, .nameAndType 117 118), (0, u "compress"), (0, u "([CI[BII)I"), (3, u "([CII)[B"), (138, u "coderFromArrayLen"), (0, u "([BI)B"), (106, .class_ 371), (1, u "java/lang/StringUTF16$LinesSpliterator"), (58, u "MAX_LENGTH"), (196, .class_ 628), (0, u "java/lang/StringUTF16$CodePointsSpliterator"), (0, .class_ 630), (0, u "java/lang/StringUTF16$CharsSpliterator")] 4

def k8m0 : Method := { name := "<init>", desc := "()V", sig := { parameters := [], returnType := none }, accessFlags := 0, code := none }
def k8c1 : Code := { maxStack := 2, maxLocals := 2, code := jdk_52_method_15_code, exceptionTable := #[], attributes := #[] }
def k8m1 : Method := { name := "coderFromArrayLen", desc := "([BI)B", sig := { parameters := [(.array .byte), .int], returnType := some .byte }, accessFlags := 8, code := some k8c1 }
def k8c2 : Code := { maxStack := 5, maxLocals := 6, code := jdk_52_method_16_code, exceptionTable := #[], attributes := #[] }
def k8m2 : Method := { name := "compress", desc := "([CII)[B", sig := { parameters := [(.array .char), .int, .int], returnType := some (.array .byte) }, accessFlags := 9, code := some k8c2 }
def k8c3 : Code := { maxStack := 3, maxLocals := 7, code := jdk_52_method_21_code, exceptionTable := #[], attributes := #[] }
def k8m3 : Method := { name := "compress", desc := "([CI[BII)I", sig := { parameters := [(.array .char), .int, (.array .byte), .int, .int], returnType := some .int }, accessFlags := 9, code := some k8c3 }
/-- java/lang/StringUTF16 -/
def k8 : Class := { plain "java/lang/StringUTF16" (some 0) with
  accessFlags := 48
  interfaces := #[]
  cf := some (fileOf pool8 12 #[.nestMembers #[627, 629, 369]] #[{ accessFlags := 0, nameIndex := 9, descriptorIndex := 10, attributes := #[] }, { accessFlags := 8, nameIndex := 261, descriptorIndex := 262, attributes := #[] }, { accessFlags := 9, nameIndex := 117, descriptorIndex := 122, attributes := #[] }, { accessFlags := 9, nameIndex := 117, descriptorIndex := 118, attributes := #[] }] 48 6 #[] #[{ accessFlags := 26, nameIndex := 61, descriptorIndex := 62, attributes := #[] }, { accessFlags := 26, nameIndex := 65, descriptorIndex := 62, attributes := #[] }, { accessFlags := 24, nameIndex := 430, descriptorIndex := 62, attributes := #[] }, { accessFlags := 4120, nameIndex := 46, descriptorIndex := 47, attributes := #[] }])
  fields := #[{ name := "HI_BYTE_SHIFT", type := .int, accessFlags := 26, slot := 0, constantValue := 0 }, { name := "LO_BYTE_SHIFT", type := .int, accessFlags := 26, slot := 1, constantValue := 0 }, { name := "MAX_LENGTH", type := .int, accessFlags := 24, slot := 2, constantValue := 0 }, { name := "$assertionsDisabled", type := .boolean, accessFlags := 4120, slot := 3, constantValue := 0 }]
  methods := #[k8m0, k8m1, k8m2, k8m3]
  instanceTypes := #[]
  staticTypes := #[.int, .int, .int, .boolean]
  resolved := Array.replicate 635 none
  statics := none }

def pool9 : Array CpInfo := pool [(2, .class_ 4), (1, u "java/lang/Object"), (0, u "<init>"), (0, u "()V"), (0, .class_ 8), (0, u "java/lang/Record")] 13

def k9m0 : Method := { name := "<init>", desc := "()V", sig := { parameters := [], returnType := none }, accessFlags := 4, code := none }
/-- java/lang/Record -/
def k9 : Class := { plain "java/lang/Record" (some 0) with
  accessFlags := 1057
  interfaces := #[]
  cf := some (fileOf pool9 7 #[] #[{ accessFlags := 4, nameIndex := 5, descriptorIndex := 6, attributes := #[] }] 1057 2 #[] #[])
  fields := #[]
  methods := #[k9m0]
  instanceTypes := #[]
  staticTypes := #[]
  resolved := Array.replicate 22 none
  statics := none }

def pool10 : Array CpInfo := pool [(2, .class_ 4), (1, u "java/lang/Record"), (3, u "url"), (7, u "id"), (1, u "releasesChecksum"), (1, u "snapshotsChecksum"), (1, u "updatePolicy"), (1, .class_ 26), (1, u "com/example/hoist/hoist/model/RepositoryUrl"), (0, u "Ljava/lang/String;"), (4, u "releases"), (0, u "Z"), (2, u "snapshots"), (2, u "multi"), (2, u "Lcom/example/hoist/hoist/model/ChecksumPolicy;"), (4, u "Lcom/example/hoist/hoist/model/UpdatePolicy;"), (3, u "(Ljava/lang/String;)I"), (1, .class_ 55), (1, u "java/lang/String"), (11, u "indexOf"), (4, u "(I)I"), (20, .class_ 94), (0, u "com/example/hoist/hoist/model/RepositoryUrl$Flag"), (29, .methodref 53 125), (0, .nameAndType 67 72), (138, u "authorityStart"), (18, .string 284), (0, u "//"), (0, .methodref 53 286), (0, .nameAndType 287 288), (0, u "startsWith"), (0, u "(Ljava/lang/String;I)Z")] 116

def k10c0 : Code := { maxStack := 4, maxLocals := 2, code := prog_10_method_16_code, exceptionTable := #[], attributes := #[] }
def k10m0 : Method := { name := "authorityStart", desc := "(Ljava/lang/String;)I", sig := { parameters := [(.object "java/lang/String")], returnType := some .int }, accessFlags := 8, code := some k10c0 }
/-- com/example/hoist/hoist/model/RepositoryUrl -/
def k10 : Class := { plain "com/example/hoist/hoist/model/RepositoryUrl" (some 9) with
  accessFlags := 49
  interfaces := #[]
  cf := some (fileOf pool10 24 #[.nestMembers #[93]] #[{ accessFlags := 8, nameIndex := 264, descriptorIndex := 51, attributes := #[] }] 49 2 #[] #[{ accessFlags := 18, nameIndex := 8, descriptorIndex := 27, attributes := #[] }, { accessFlags := 18, nameIndex := 16, descriptorIndex := 27, attributes := #[] }, { accessFlags := 18, nameIndex := 32, descriptorIndex := 33, attributes := #[] }, { accessFlags := 18, nameIndex := 36, descriptorIndex := 33, attributes := #[] }, { accessFlags := 18, nameIndex := 39, descriptorIndex := 33, attributes := #[] }, { accessFlags := 18, nameIndex := 18, descriptorIndex := 42, attributes := #[] }, { accessFlags := 18, nameIndex := 20, descriptorIndex := 42, attributes := #[] }, { accessFlags := 18, nameIndex := 22, descriptorIndex := 47, attributes := #[] }])
  fields := #[{ name := "url", type := (.object "java/lang/String"), accessFlags := 18, slot := 0, constantValue := 0 }, { name := "id", type := (.object "java/lang/String"), accessFlags := 18, slot := 1, constantValue := 0 }, { name := "releases", type := .boolean, accessFlags := 18, slot := 2, constantValue := 0 }, { name := "snapshots", type := .boolean, accessFlags := 18, slot := 3, constantValue := 0 }, { name := "multi", type := .boolean, accessFlags := 18, slot := 4, constantValue := 0 }, { name := "releasesChecksum", type := (.object "com/example/hoist/hoist/model/ChecksumPolicy"), accessFlags := 18, slot := 5, constantValue := 0 }, { name := "snapshotsChecksum", type := (.object "com/example/hoist/hoist/model/ChecksumPolicy"), accessFlags := 18, slot := 6, constantValue := 0 }, { name := "updatePolicy", type := (.object "com/example/hoist/hoist/model/UpdatePolicy"), accessFlags := 18, slot := 7, constantValue := 0 }]
  methods := #[k10m0]
  instanceTypes := #[(.object "java/lang/String"), (.object "java/lang/String"), .boolean, .boolean, .boolean, (.object "com/example/hoist/hoist/model/ChecksumPolicy"), (.object "com/example/hoist/hoist/model/ChecksumPolicy"), (.object "com/example/hoist/hoist/model/UpdatePolicy")]
  staticTypes := #[]
  resolved := Array.replicate 405 none
  statics := none }

def pool11 : Array CpInfo := pool [(4, .class_ 6), (1, u "java/lang/Object"), (0, u "<init>"), (0, u "()V"), (5, .class_ 16), (1, u "java/lang/StringLatin1"), (21, .methodref 39 40), (0, .class_ 41), (0, .nameAndType 42 43), (0, u "java/lang/Math"), (0, u "min"), (0, u "(II)I"), (44, .methodref 14 89), (0, .nameAndType 90 91), (0, u "canEncode"), (0, u "(I)Z"), (0, .methodref 39 93), (0, .nameAndType 94 43), (0, u "max"), (0, .methodref 14 96), (0, .nameAndType 97 98), (0, u "indexOfChar"), (0, u "([BIII)I"), (2, u "indexOf"), (19, u "$assertionsDisabled"), (0, u "Z"), (98, .class_ 223), (1, u "java/lang/StringLatin1$LinesSpliterator"), (166, .class_ 391), (0, u "java/lang/StringLatin1$CharsSpliterator")] 3

def k11m0 : Method := { name := "<init>", desc := "()V", sig := { parameters := [], returnType := none }, accessFlags := 0, code := none }
def k11c1 : Code := { maxStack := 2, maxLocals := 1, code := jdk_43_method_4_code, exceptionTable := #[], attributes := #[] }
def k11m1 : Method := { name := "canEncode", desc := "(I)Z", sig := { parameters := [.int], returnType := some .boolean }, accessFlags := 9, code := some k11c1 }
def k11c2 : Code := { maxStack := 4, maxLocals := 4, code := jdk_43_method_22_code, exceptionTable := #[], attributes := #[] }
def k11m2 : Method := { name := "indexOf", desc := "([BIII)I", sig := { parameters := [(.array .byte), .int, .int, .int], returnType := some .int }, accessFlags := 9, code := some k11c2 }
def k11c3 : Code := { maxStack := 2, maxLocals := 6, code := jdk_43_method_23_code, exceptionTable := #[], attributes := #[] }
def k11m3 : Method := { name := "indexOfChar", desc := "([BIII)I", sig := { parameters := [(.array .byte), .int, .int, .int], returnType := some .int }, accessFlags := 10, code := some k11c3 }
/-- java/lang/StringLatin1 -/
def k11 : Class := { plain "java/lang/StringLatin1" (some 0) with
  accessFlags := 48
  interfaces := #[]
  cf := some (fileOf pool11 14 #[.nestMembers #[390, 221]] #[{ accessFlags := 0, nameIndex := 7, descriptorIndex := 8, attributes := #[] }, { accessFlags := 9, nameIndex := 90, descriptorIndex := 91, attributes := #[] }, { accessFlags := 9, nameIndex := 101, descriptorIndex := 98, attributes := #[] }, { accessFlags := 10, nameIndex := 97, descriptorIndex := 98, attributes := #[] }] 48 4 #[] #[{ accessFlags := 4120, nameIndex := 121, descriptorIndex := 122, attributes := #[] }])
  fields := #[{ name := "$assertionsDisabled", type := .boolean, accessFlags := 4120, slot := 0, constantValue := 0 }]
  methods := #[k11m0, k11m1, k11m2, k11m3]
  instanceTypes := #[]
  staticTypes := #[.boolean]
  resolved := Array.replicate 395 none
  statics := none }

def pool12 : Array CpInfo := pool [(1, .class_ 2), (0, u "java/lang/Math"), (1, .class_ 6), (1, u "java/lang/Object"), (0, u "<init>"), (0, u "()V"), (89, .class_ 100), (1, u "java/lang/Math$RandomNumberGeneratorHolder"), (71, u "negativeZeroFloatBits"), (0, u "J"), (2, u "negativeZeroDoubleBits"), (21, u "max"), (2, u "min"), (43, u "$assertionsDisabled"), (0, u "Z"), (88, u "(II)I"), (2, u "twoToTheDoubleScaleDown"), (0, u "D"), (4, u "twoToTheDoubleScaleUp"), (9, u "E"), (3, u "PI"), (2, u "TAU"), (2, u "DEGREES_TO_RADIANS"), (0, u "RADIANS_TO_DEGREES")] 94

def k12m0 : Method := { name := "<init>", desc := "()V", sig := { parameters := [], returnType := none }, accessFlags := 2, code := none }
def k12c1 : Code := { maxStack := 2, maxLocals := 2, code := jdk_29_method_65_code, exceptionTable := #[], attributes := #[] }
def k12m1 : Method := { name := "max", desc := "(II)I", sig := { parameters := [.int, .int], returnType := some .int }, accessFlags := 9, code := some k12c1 }
def k12c2 : Code := { maxStack := 2, maxLocals := 2, code := jdk_29_method_69_code, exceptionTable := #[], attributes := #[] }
def k12m2 : Method := { name := "min", desc := "(II)I", sig := { parameters := [.int, .int], returnType := some .int }, accessFlags := 9, code := some k12c2 }
/-- java/lang/Math -/
def k12 : Class := { plain "java/lang/Math" (some 0) with
  accessFlags := 49
  interfaces := #[]
  cf := some (fileOf pool12 1 #[.nestMembers #[98]] #[{ accessFlags := 2, nameIndex := 7, descriptorIndex := 8, attributes := #[] }, { accessFlags := 9, nameIndex := 198, descriptorIndex := 335, attributes := #[] }, { accessFlags := 9, nameIndex := 201, descriptorIndex := 335, attributes := #[] }] 49 4 #[] #[{ accessFlags := 25, nameIndex := 354, descriptorIndex := 339, attributes := #[] }, { accessFlags := 25, nameIndex := 358, descriptorIndex := 339, attributes := #[] }, { accessFlags := 25, nameIndex := 361, descriptorIndex := 339, attributes := #[] }, { accessFlags := 26, nameIndex := 364, descriptorIndex := 339, attributes := #[] }, { accessFlags := 26, nameIndex := 365, descriptorIndex := 339, attributes := #[] }, { accessFlags := 26, nameIndex := 172, descriptorIndex := 173, attributes := #[] }, { accessFlags := 26, nameIndex := 176, descriptorIndex := 173, attributes := #[] }, { accessFlags := 8, nameIndex := 344, descriptorIndex := 339, attributes := #[] }, { accessFlags := 8, nameIndex := 338, descriptorIndex := 339, attributes := #[] }, { accessFlags := 4120, nameIndex := 245, descriptorIndex := 246, attributes := #[] }])
  fields := #[{ name := "E", type := .double, accessFlags := 25, slot := 0, constantValue := 0 }, { name := "PI", type := .double, accessFlags := 25, slot := 1, constantValue := 0 }, { name := "TAU", type := .double, accessFlags := 25, slot := 2, constantValue := 0 }, { name := "DEGREES_TO_RADIANS", type := .double, accessFlags := 26, slot := 3, constantValue := 0 }, { name := "RADIANS_TO_DEGREES", type := .double, accessFlags := 26, slot := 4, constantValue := 0 }, { name := "negativeZeroFloatBits", type := .long, accessFlags := 26, slot := 5, constantValue := 0 }, { name := "negativeZeroDoubleBits", type := .long, accessFlags := 26, slot := 6, constantValue := 0 }, { name := "twoToTheDoubleScaleUp", type := .double, accessFlags := 8, slot := 7, constantValue := 0 }, { name := "twoToTheDoubleScaleDown", type := .double, accessFlags := 8, slot := 8, constantValue := 0 }, { name := "$assertionsDisabled", type := .boolean, accessFlags := 4120, slot := 9, constantValue := 0 }]
  methods := #[k12m0, k12m1, k12m2]
  instanceTypes := #[]
  staticTypes := #[.double, .double, .double, .double, .double, .long, .long, .double, .double, .boolean]
  resolved := Array.replicate 460 none
  statics := none }

def pool13 : Array CpInfo := pool [(9, u "<init>"), (6, .class_ 18), (1, u "java/lang/Object"), (0, u "()V"), (1, .class_ 23), (1, u "jdk/internal/util/ArraysSupport"), (0, u "LOG2_ARRAY_LONG_INDEX_SCALE"), (0, u "I"), (2, u "U"), (0, u "Ljdk/internal/misc/Unsafe;"), (8, u "BIG_ENDIAN"), (0, u "Z"), (8, u "LOG2_BYTE_BIT_SIZE"), (4, u "LOG2_ARRAY_INT_INDEX_SCALE"), (54, u "JLA"), (0, u "Ljdk/internal/access/JavaLangAccess;"), (11, u "LOG2_ARRAY_BOOLEAN_INDEX_SCALE"), (9, u "LOG2_ARRAY_BYTE_INDEX_SCALE"), (5, u "LOG2_ARRAY_CHAR_INDEX_SCALE"), (5, u "LOG2_ARRAY_SHORT_INDEX_SCALE"), (5, u "mismatch"), (12, u "LOG2_ARRAY_FLOAT_INDEX_SCALE"), (24, u "LOG2_ARRAY_DOUBLE_INDEX_SCALE"), (89, u "T_BOOLEAN"), (2, u "T_CHAR"), (1, u "T_FLOAT"), (1, u "T_DOUBLE"), (1, u "T_BYTE"), (1, u "T_SHORT"), (1, u "T_INT"), (1, u "T_LONG"), (1, u "SOFT_MAX_ARRAY_LENGTH"), (42, u "([BI[BII)I")] 40

def k13m0 : Method := { name := "<init>", desc := "()V", sig := { parameters := [], returnType := none }, accessFlags := 2, code := none }
def k13c1 : Code := { maxStack := 8, maxLocals := 8, code := jdk_48_method_14_code, exceptionTable := #[], attributes := #[] }
def k13m1 : Method := { name := "mismatch", desc := "([BI[BII)I", sig := { parameters := [(.array .byte), .int, (.array .byte), .int, .int], returnType := some .int }, accessFlags := 9, code := some k13c1 }
/-- jdk/internal/util/ArraysSupport -/
def k13 : Class := { plain "jdk/internal/util/ArraysSupport" (some 0) with
  accessFlags := 33
  interfaces := #[]
  cf := some (fileOf pool13 21 #[] #[{ accessFlags := 2, nameIndex := 9, descriptorIndex := 19, attributes := #[] }, { accessFlags := 9, nameIndex := 149, descriptorIndex := 337, attributes := #[] }] 33 16 #[] #[{ accessFlags := 24, nameIndex := 28, descriptorIndex := 29, attributes := #[] }, { accessFlags := 26, nameIndex := 38, descriptorIndex := 39, attributes := #[] }, { accessFlags := 25, nameIndex := 121, descriptorIndex := 25, attributes := #[] }, { accessFlags := 25, nameIndex := 131, descriptorIndex := 25, attributes := #[] }, { accessFlags := 25, nameIndex := 137, descriptorIndex := 25, attributes := #[] }, { accessFlags := 25, nameIndex := 143, descriptorIndex := 25, attributes := #[] }, { accessFlags := 25, nameIndex := 53, descriptorIndex := 25, attributes := #[] }, { accessFlags := 25, nameIndex := 24, descriptorIndex := 25, attributes := #[] }, { accessFlags := 25, nameIndex := 162, descriptorIndex := 25, attributes := #[] }, { accessFlags := 25, nameIndex := 187, descriptorIndex := 25, attributes := #[] }, { accessFlags := 26, nameIndex := 48, descriptorIndex := 25, attributes := #[] }, { accessFlags := 25, nameIndex := 277, descriptorIndex := 25, attributes := #[] }, { accessFlags := 25, nameIndex := 280, descriptorIndex := 25, attributes := #[] }, { accessFlags := 25, nameIndex := 282, descriptorIndex := 25, attributes := #[] }, { accessFlags := 25, nameIndex := 284, descriptorIndex := 25, attributes := #[] }, { accessFlags := 25, nameIndex := 286, descriptorIndex := 25, attributes := #[] }, { accessFlags := 25, nameIndex := 288, descriptorIndex := 25, attributes := #[] }, { accessFlags := 25, nameIndex := 290, descriptorIndex := 25, attributes := #[] }, { accessFlags := 25, nameIndex := 292, descriptorIndex := 25, attributes := #[] }, { accessFlags := 26, nameIndex := 108, descriptorIndex := 109, attributes := #[] }, { accessFlags := 25, nameIndex := 294, descriptorIndex := 25, attributes := #[] }])
  fields := #[{ name := "U", type := (.object "jdk/internal/misc/Unsafe"), accessFlags := 24, slot := 0, constantValue := 0 }, { name := "BIG_ENDIAN", type := .boolean, accessFlags := 26, slot := 1, constantValue := 0 }, { name := "LOG2_ARRAY_BOOLEAN_INDEX_SCALE", type := .int, accessFlags := 25, slot := 2, constantValue := 0 }, { name := "LOG2_ARRAY_BYTE_INDEX_SCALE", type := .int, accessFlags := 25, slot := 3, constantValue := 0 }, { name := "LOG2_ARRAY_CHAR_INDEX_SCALE", type := .int, accessFlags := 25, slot := 4, constantValue := 0 }, { name := "LOG2_ARRAY_SHORT_INDEX_SCALE", type := .int, accessFlags := 25, slot := 5, constantValue := 0 }, { name := "LOG2_ARRAY_INT_INDEX_SCALE", type := .int, accessFlags := 25, slot := 6, constantValue := 0 }, { name := "LOG2_ARRAY_LONG_INDEX_SCALE", type := .int, accessFlags := 25, slot := 7, constantValue := 0 }, { name := "LOG2_ARRAY_FLOAT_INDEX_SCALE", type := .int, accessFlags := 25, slot := 8, constantValue := 0 }, { name := "LOG2_ARRAY_DOUBLE_INDEX_SCALE", type := .int, accessFlags := 25, slot := 9, constantValue := 0 }, { name := "LOG2_BYTE_BIT_SIZE", type := .int, accessFlags := 26, slot := 10, constantValue := 0 }, { name := "T_BOOLEAN", type := .int, accessFlags := 25, slot := 11, constantValue := 0 }, { name := "T_CHAR", type := .int, accessFlags := 25, slot := 12, constantValue := 0 }, { name := "T_FLOAT", type := .int, accessFlags := 25, slot := 13, constantValue := 0 }, { name := "T_DOUBLE", type := .int, accessFlags := 25, slot := 14, constantValue := 0 }, { name := "T_BYTE", type := .int, accessFlags := 25, slot := 15, constantValue := 0 }, { name := "T_SHORT", type := .int, accessFlags := 25, slot := 16, constantValue := 0 }, { name := "T_INT", type := .int, accessFlags := 25, slot := 17, constantValue := 0 }, { name := "T_LONG", type := .int, accessFlags := 25, slot := 18, constantValue := 0 }, { name := "JLA", type := (.object "jdk/internal/access/JavaLangAccess"), accessFlags := 26, slot := 19, constantValue := 0 }, { name := "SOFT_MAX_ARRAY_LENGTH", type := .int, accessFlags := 25, slot := 20, constantValue := 0 }]
  methods := #[k13m0, k13m1]
  instanceTypes := #[]
  staticTypes := #[(.object "jdk/internal/misc/Unsafe"), .boolean, .int, .int, .int, .int, .int, .int, .int, .int, .int, .int, .int, .int, .int, .int, .int, .int, .int, (.object "jdk/internal/access/JavaLangAccess"), .int]
  resolved := Array.replicate 378 none
  statics := none }

def pool14 : Array CpInfo := pool [(2, .class_ 4), (1, u "java/lang/Object"), (0, u "<init>"), (0, u "()V"), (17, .class_ 26), (1, u "jdk/internal/util/Preconditions"), (28, .class_ 56), (0, u "jdk/internal/util/Preconditions$4"), (57, .class_ 115), (0, u "jdk/internal/util/Preconditions$1"), (7, u "SIOOBE_FORMATTER"), (0, u "Ljava/util/function/BiFunction;"), (0, .class_ 126), (0, u "jdk/internal/util/Preconditions$2"), (3, u "AIOOBE_FORMATTER"), (0, .class_ 132), (0, u "jdk/internal/util/Preconditions$3"), (3, u "IOOBE_FORMATTER")] 57

def k14m0 : Method := { name := "<init>", desc := "()V", sig := { parameters := [], returnType := none }, accessFlags := 1, code := none }
/-- jdk/internal/util/Preconditions -/
def k14 : Class := { plain "jdk/internal/util/Preconditions" (some 0) with
  accessFlags := 33
  interfaces := #[]
  cf := some (fileOf pool14 24 #[.nestMembers #[55, 131, 125, 114]] #[{ accessFlags := 1, nameIndex := 5, descriptorIndex := 6, attributes := #[] }] 33 2 #[] #[{ accessFlags := 25, nameIndex := 123, descriptorIndex := 124, attributes := #[] }, { accessFlags := 25, nameIndex := 130, descriptorIndex := 124, attributes := #[] }, { accessFlags := 25, nameIndex := 136, descriptorIndex := 124, attributes := #[] }])
  fields := #[{ name := "SIOOBE_FORMATTER", type := (.object "java/util/function/BiFunction"), accessFlags := 25, slot := 0, constantValue := 0 }, { name := "AIOOBE_FORMATTER", type := (.object "java/util/function/BiFunction"), accessFlags := 25, slot := 1, constantValue := 0 }, { name := "IOOBE_FORMATTER", type := (.object "java/util/function/BiFunction"), accessFlags := 25, slot := 2, constantValue := 0 }]
  methods := #[k14m0]
  instanceTypes := #[]
  staticTypes := #[(.object "java/util/function/BiFunction"), (.object "java/util/function/BiFunction"), (.object "java/util/function/BiFunction")]
  resolved := Array.replicate 194 none
  statics := some 1 }

def pool15 : Array CpInfo := pool [(1, u "java/lang/Cloneable"), (0, .class_ 1), (0, u "java/lang/Object"), (0, .class_ 3)] 3

/-- java/lang/Cloneable -/
def k15 : Class := { plain "java/lang/Cloneable" (some 0) with
  accessFlags := 1537
  interfaces := #[]
  cf := some (fileOf pool15 2 #[] #[] 1537 4 #[] #[])
  fields := #[]
  methods := #[]
  instanceTypes := #[]
  staticTypes := #[]
  resolved := Array.replicate 8 none
  statics := none }

/-- the primitive byte -/
def k16 : Class := { plain "byte" none with kind := .primitive 'B', accessFlags := 0x411 }
/-- [B -/
def k17 : Class := { plain "[B" (some 0) with kind := .array 16 .byte, interfaces := #[15, 2], accessFlags := 1041 }

/-- the primitive char -/
def k18 : Class := { plain "char" none with kind := .primitive 'C', accessFlags := 0x411 }
/-- [C -/
def k19 : Class := { plain "[C" (some 0) with kind := .array 18 .char, interfaces := #[15, 2], accessFlags := 1041 }

/-- the primitive int -/
def k20 : Class := { plain "int" none with kind := .primitive 'I', accessFlags := 0x411 }
/-- [I -/
def k21 : Class := { plain "[I" (some 0) with kind := .array 20 .int, interfaces := #[15, 2], accessFlags := 1041 }

def heap : Heap := #[{ cls := 7, slots := #[.long 0, .int 1, .null, .int 0, .null, .int 0, .int 0], vm := .statics 7 },
  { cls := 14, slots := #[.null, .null, .null], vm := .statics 14 }]
def classes : Array Class := #[k0, k1, k2, k3, k4, k5, k6, k7, k8, k9, k10, k11, k12, k13, k14, k15, k16, k17, k18, k19, k20, k21]
def interned : List (Array UInt16 × Addr) := []
def slotsUsed : Nat := 10
def theMethod : MethodId := ⟨1, 1⟩
def args0 : Array Value := #[.int 1, .long 3]
def aboutOver (below : List Frame) : State where
  vm := { classes := classes, interned := interned.toArray }
  heap := heap
  slotsUsed := slotsUsed
  threads := #[{ frames := .invoking theMethod args0 :: below }]
def below0 : List Frame := [.native { method := ⟨0, 0⟩, args := #[] }]
def about1 : State := aboutOver below0
def p0 : Program := .bare "" "" ""
def e0 : Env := launch0.env 0 0 0
theorem w_frames : about1.frames = Frame.invoking theMethod args0 :: below0 := rfl
set_option maxRecDepth 65536 in
theorem w_args : argsFit about1.vm theMethod args0 = true := by decide +kernel
set_option maxRecDepth 65536 in
theorem w_heap : heapFits about1 = true := by decide +kernel
set_option maxRecDepth 65536 in
theorem w_runnable : about1.curStatus? = some .runnable := by decide +kernel
set_option maxRecDepth 65536 in
theorem w_alone : about1.alone = true := by decide +kernel
set_option maxRecDepth 65536 in
theorem w_named : about1.methodNamed? x = some theMethod := by decide +kernel
set_option maxRecDepth 65536 in
theorem w_hears : about1.hears theMethod below0 = true := by decide +kernel
set_option maxRecDepth 65536 in
theorem w_ripe : about1.ripe theMethod args0 below0 = true := by decide +kernel
theorem w_running : about1.status = .running := rfl
set_option maxRecDepth 65536 in
theorem w_room : about1.hasRoom e0.platform room_1 = true :=
  launch0.hasRoom_least _ room_1 (by decide +kernel) (by decide +kernel) (by decide +kernel) (by decide +kernel) (by decide +kernel) (by decide +kernel)
theorem allAtoms_all (ts : List Jvm.Cond) (a : Array Jvm.Value) (st : Jvm.State) : (allAtoms ts).before a st = ts.all (fun c => c.before a st) := by
  induction ts with
  | nil => rfl
  | cons c t ih =>
    show (Jvm.Cond.and c (allAtoms t)).before a st = _
    rw [Jvm.Cond.before_and, ih, List.all_cons]
def words1 : List Jvm.Cond := Jvm.Cond.code x code maxLocals ret :: tables_1
/-- a 'code' word, met by the world's own term for the bytes: nothing is compared byte by byte -/
theorem code_word {y : MethodName} {bytes : ByteArray} {mx : Nat} {rt : Option FieldType} {a : Array Value} {s : State} {m : MethodId} {meth : Method} {c : Code} (h1 : s.methodNamed? y = some m) (h2 : s.vm.method? m = some meth) (h3 : meth.code = some c) (h4 : c.code = bytes)
    (h5 : (c.maxLocals == mx && c.exceptionTable.isEmpty && decide (c.maxStack ≤ mostOperands) && decide (meth.sig.returnType = rt) && !meth.locks && decide (parseMethodDescriptor y.desc = some meth.sig)) = true) : (Jvm.Cond.code y bytes mx rt).before a s = true := by
  simp only [Bool.and_eq_true, beq_iff_eq, Bool.not_eq_true', decide_eq_true_eq] at h5
  obtain ⟨⟨⟨⟨⟨g1, g2⟩, g3⟩, g4⟩, g5⟩, g6⟩ := h5
  simp [Cond.before, Cond.holds, Cond.value, h1, h2, h3, h4, g1, g2, g3, g4, g5, g6]
def isCode : Jvm.Cond → Bool
  | .code _ _ _ _ => true
  | _ => false
theorem all_split {L : List Jvm.Cond} {P : Jvm.Cond → Bool} (h1 : L.all (fun c => isCode c || P c) = true) (h2 : ∀ c ∈ L.filter isCode, P c = true) : L.all P = true := by
  refine List.all_eq_true.mpr fun c hc => ?_
  have h := List.all_eq_true.mp h1 c hc
  rcases Bool.eq_false_or_eq_true (isCode c) with hi | hi
  · exact h2 c (List.mem_filter.mpr ⟨hc, hi⟩)
  · simpa [hi] using h
set_option maxRecDepth 65536 in
theorem w_c0 : (Jvm.Cond.code x code maxLocals ret).before args0 about1 = true := code_word (m := ⟨1, 1⟩) (meth := k1m1) (c := k1c1) (by decide +kernel) rfl rfl rfl (by decide +kernel)
set_option maxRecDepth 65536 in
theorem w_c1 : (Jvm.Cond.code ({ cls := "com/example/hoist/hoist/model/RepositoryUrlAuthorityStartPinLaw", name := "pick", desc := "(IJI)C" } : Jvm.MethodName) method_3_code (5 : Nat) (Option.some Jvm.ClassFile.FieldType.char)).before args0 about1 = true := code_word (m := ⟨1, 2⟩) (meth := k1m2) (c := k1c2) (by decide +kernel) rfl rfl rfl (by decide +kernel)
set_option maxRecDepth 65536 in
theorem w_c2 : (Jvm.Cond.code ({ cls := "java/lang/String", name := "<init>", desc := "([C)V" } : Jvm.MethodName) jdk_42_method_3_code (2 : Nat) (Option.none : Option Jvm.ClassFile.FieldType)).before args0 about1 = true := code_word (m := ⟨7, 1⟩) (meth := k7m1) (c := k7c1) (by decide +kernel) rfl rfl rfl (by decide +kernel)
set_option maxRecDepth 65536 in
theorem w_c3 : (Jvm.Cond.code ({ cls := "java/lang/String", name := "<init>", desc := "([CIILjava/lang/Void;)V" } : Jvm.MethodName) jdk_42_method_149_code (6 : Nat) (Option.none : Option Jvm.ClassFile.FieldType)).before args0 about1 = true := code_word (m := ⟨7, 6⟩) (meth := k7m6) (c := k7c6) (by decide +kernel) rfl rfl rfl (by decide +kernel)
set_option maxRecDepth 65536 in
theorem w_c4 : (Jvm.Cond.code ({ cls := "java/lang/Object", name := "<init>", desc := "()V" } : Jvm.MethodName) object_method_1_code (1 : Nat) (Option.none : Option Jvm.ClassFile.FieldType)).before args0 about1 = true := code_word (m := ⟨0, 0⟩) (meth := k0m0) (c := k0c0) (by decide +kernel) rfl rfl rfl (by decide +kernel)
set_option maxRecDepth 65536 in
theorem w_c5 : (Jvm.Cond.code ({ cls := "java/lang/StringUTF16", name := "compress", desc := "([CII)[B" } : Jvm.MethodName) jdk_52_method_16_code (6 : Nat) (Option.some (Jvm.ClassFile.FieldType.array Jvm.ClassFile.FieldType.byte))).before args0 about1 = true := code_word (m := ⟨8, 2⟩) (meth := k8m2) (c := k8c2) (by decide +kernel) rfl rfl rfl (by decide +kernel)
set_option maxRecDepth 65536 in
theorem w_c6 : (Jvm.Cond.code ({ cls := "java/lang/StringUTF16", name := "compress", desc := "([CI[BII)I" } : Jvm.MethodName) jdk_52_method_21_code (7 : Nat) (Option.some Jvm.ClassFile.FieldType.int)).before args0 about1 = true := code_word (m := ⟨8, 3⟩) (meth := k8m3) (c := k8c3) (by decide +kernel) rfl rfl rfl (by decide +kernel)
set_option maxRecDepth 65536 in
theorem w_c7 : (Jvm.Cond.code ({ cls := "java/lang/StringUTF16", name := "coderFromArrayLen", desc := "([BI)B" } : Jvm.MethodName) jdk_52_method_15_code (2 : Nat) (Option.some Jvm.ClassFile.FieldType.byte)).before args0 about1 = true := code_word (m := ⟨8, 1⟩) (meth := k8m1) (c := k8c1) (by decide +kernel) rfl rfl rfl (by decide +kernel)
set_option maxRecDepth 65536 in
theorem w_c8 : (Jvm.Cond.code ({ cls := "com/example/hoist/hoist/model/RepositoryUrl", name := "authorityStart", desc := "(Ljava/lang/String;)I" } : Jvm.MethodName) prog_10_method_16_code (2 : Nat) (Option.some Jvm.ClassFile.FieldType.int)).before args0 about1 = true := code_word (m := ⟨10, 0⟩) (meth := k10m0) (c := k10c0) (by decide +kernel) rfl rfl rfl (by decide +kernel)
set_option maxRecDepth 65536 in
theorem w_c9 : (Jvm.Cond.code ({ cls := "java/lang/String", name := "indexOf", desc := "(I)I" } : Jvm.MethodName) jdk_42_method_79_code (2 : Nat) (Option.some Jvm.ClassFile.FieldType.int)).before args0 about1 = true := code_word (m := ⟨7, 4⟩) (meth := k7m4) (c := k7c4) (by decide +kernel) rfl rfl rfl (by decide +kernel)
set_option maxRecDepth 65536 in
theorem w_c10 : (Jvm.Cond.code ({ cls := "java/lang/String", name := "indexOf", desc := "(II)I" } : Jvm.MethodName) jdk_42_method_80_code (3 : Nat) (Option.some Jvm.ClassFile.FieldType.int)).before args0 about1 = true := code_word (m := ⟨7, 5⟩) (meth := k7m5) (c := k7c5) (by decide +kernel) rfl rfl rfl (by decide +kernel)
set_option maxRecDepth 65536 in
theorem w_c11 : (Jvm.Cond.code ({ cls := "java/lang/String", name := "isLatin1", desc := "()Z" } : Jvm.MethodName) jdk_42_method_154_code (1 : Nat) (Option.some Jvm.ClassFile.FieldType.boolean)).before args0 about1 = true := code_word (m := ⟨7, 8⟩) (meth := k7m8) (c := k7c8) (by decide +kernel) rfl rfl rfl (by decide +kernel)
set_option maxRecDepth 65536 in
theorem w_c12 : (Jvm.Cond.code ({ cls := "java/lang/String", name := "length", desc := "()I" } : Jvm.MethodName) jdk_42_method_54_code (1 : Nat) (Option.some Jvm.ClassFile.FieldType.int)).before args0 about1 = true := code_word (m := ⟨7, 2⟩) (meth := k7m2) (c := k7c2) (by decide +kernel) rfl rfl rfl (by decide +kernel)
set_option maxRecDepth 65536 in
theorem w_c13 : (Jvm.Cond.code ({ cls := "java/lang/String", name := "coder", desc := "()B" } : Jvm.MethodName) jdk_42_method_152_code (1 : Nat) (Option.some Jvm.ClassFile.FieldType.byte)).before args0 about1 = true := code_word (m := ⟨7, 7⟩) (meth := k7m7) (c := k7c7) (by decide +kernel) rfl rfl rfl (by decide +kernel)
set_option maxRecDepth 65536 in
theorem w_c14 : (Jvm.Cond.code ({ cls := "java/lang/StringLatin1", name := "indexOf", desc := "([BIII)I" } : Jvm.MethodName) jdk_43_method_22_code (4 : Nat) (Option.some Jvm.ClassFile.FieldType.int)).before args0 about1 = true := code_word (m := ⟨11, 2⟩) (meth := k11m2) (c := k11c2) (by decide +kernel) rfl rfl rfl (by decide +kernel)
set_option maxRecDepth 65536 in
theorem w_c15 : (Jvm.Cond.code ({ cls := "java/lang/StringLatin1", name := "canEncode", desc := "(I)Z" } : Jvm.MethodName) jdk_43_method_4_code (1 : Nat) (Option.some Jvm.ClassFile.FieldType.boolean)).before args0 about1 = true := code_word (m := ⟨11, 1⟩) (meth := k11m1) (c := k11c1) (by decide +kernel) rfl rfl rfl (by decide +kernel)
set_option maxRecDepth 65536 in
theorem w_c16 : (Jvm.Cond.code ({ cls := "java/lang/Math", name := "max", desc := "(II)I" } : Jvm.MethodName) jdk_29_method_65_code (2 : Nat) (Option.some Jvm.ClassFile.FieldType.int)).before args0 about1 = true := code_word (m := ⟨12, 1⟩) (meth := k12m1) (c := k12c1) (by decide +kernel) rfl rfl rfl (by decide +kernel)
set_option maxRecDepth 65536 in
theorem w_c17 : (Jvm.Cond.code ({ cls := "java/lang/Math", name := "min", desc := "(II)I" } : Jvm.MethodName) jdk_29_method_69_code (2 : Nat) (Option.some Jvm.ClassFile.FieldType.int)).before args0 about1 = true := code_word (m := ⟨12, 2⟩) (meth := k12m2) (c := k12c2) (by decide +kernel) rfl rfl rfl (by decide +kernel)
set_option maxRecDepth 65536 in
theorem w_c18 : (Jvm.Cond.code ({ cls := "java/lang/StringLatin1", name := "indexOfChar", desc := "([BIII)I" } : Jvm.MethodName) jdk_43_method_23_code (6 : Nat) (Option.some Jvm.ClassFile.FieldType.int)).before args0 about1 = true := code_word (m := ⟨11, 3⟩) (meth := k11m3) (c := k11c3) (by decide +kernel) rfl rfl rfl (by decide +kernel)
set_option maxRecDepth 65536 in
theorem w_c19 : (Jvm.Cond.code ({ cls := "java/lang/String", name := "startsWith", desc := "(Ljava/lang/String;I)Z" } : Jvm.MethodName) jdk_42_method_75_code (8 : Nat) (Option.some Jvm.ClassFile.FieldType.boolean)).before args0 about1 = true := code_word (m := ⟨7, 3⟩) (meth := k7m3) (c := k7c3) (by decide +kernel) rfl rfl rfl (by decide +kernel)
set_option maxRecDepth 65536 in
theorem w_c20 : (Jvm.Cond.code ({ cls := "jdk/internal/util/ArraysSupport", name := "mismatch", desc := "([BI[BII)I" } : Jvm.MethodName) jdk_48_method_14_code (8 : Nat) (Option.some Jvm.ClassFile.FieldType.int)).before args0 about1 = true := code_word (m := ⟨13, 1⟩) (meth := k13m1) (c := k13c1) (by decide +kernel) rfl rfl rfl (by decide +kernel)
set_option maxRecDepth 65536 in
theorem w_c21 : (Jvm.Cond.code ({ cls := "com/example/hoist/hoist/model/RepositoryUrlAuthorityStartPinLaw", name := "at", desc := "([CI)C" } : Jvm.MethodName) method_4_code (2 : Nat) (Option.some Jvm.ClassFile.FieldType.char)).before args0 about1 = true := code_word (m := ⟨1, 3⟩) (meth := k1m3) (c := k1c3) (by decide +kernel) rfl rfl rfl (by decide +kernel)
def codes1 : List Jvm.Cond := [Jvm.Cond.code x code maxLocals ret, Jvm.Cond.code ({ cls := "com/example/hoist/hoist/model/RepositoryUrlAuthorityStartPinLaw", name := "pick", desc := "(IJI)C" } : Jvm.MethodName) method_3_code (5 : Nat) (Option.some Jvm.ClassFile.FieldType.char), Jvm.Cond.code ({ cls := "java/lang/String", name := "<init>", desc := "([C)V" } : Jvm.MethodName) jdk_42_method_3_code (2 : Nat) (Option.none : Option Jvm.ClassFile.FieldType), Jvm.Cond.code ({ cls := "java/lang/String", name := "<init>", desc := "([CIILjava/lang/Void;)V" } : Jvm.MethodName) jdk_42_method_149_code (6 : Nat) (Option.none : Option Jvm.ClassFile.FieldType), Jvm.Cond.code ({ cls := "java/lang/Object", name := "<init>", desc := "()V" } : Jvm.MethodName) object_method_1_code (1 : Nat) (Option.none : Option Jvm.ClassFile.FieldType), Jvm.Cond.code ({ cls := "java/lang/StringUTF16", name := "compress", desc := "([CII)[B" } : Jvm.MethodName) jdk_52_method_16_code (6 : Nat) (Option.some (Jvm.ClassFile.FieldType.array Jvm.ClassFile.FieldType.byte)), Jvm.Cond.code ({ cls := "java/lang/StringUTF16", name := "compress", desc := "([CI[BII)I" } : Jvm.MethodName) jdk_52_method_21_code (7 : Nat) (Option.some Jvm.ClassFile.FieldType.int), Jvm.Cond.code ({ cls := "java/lang/StringUTF16", name := "coderFromArrayLen", desc := "([BI)B" } : Jvm.MethodName) jdk_52_method_15_code (2 : Nat) (Option.some Jvm.ClassFile.FieldType.byte), Jvm.Cond.code ({ cls := "com/example/hoist/hoist/model/RepositoryUrl", name := "authorityStart", desc := "(Ljava/lang/String;)I" } : Jvm.MethodName) prog_10_method_16_code (2 : Nat) (Option.some Jvm.ClassFile.FieldType.int), Jvm.Cond.code ({ cls := "java/lang/String", name := "indexOf", desc := "(I)I" } : Jvm.MethodName) jdk_42_method_79_code (2 : Nat) (Option.some Jvm.ClassFile.FieldType.int), Jvm.Cond.code ({ cls := "java/lang/String", name := "indexOf", desc := "(II)I" } : Jvm.MethodName) jdk_42_method_80_code (3 : Nat) (Option.some Jvm.ClassFile.FieldType.int), Jvm.Cond.code ({ cls := "java/lang/String", name := "isLatin1", desc := "()Z" } : Jvm.MethodName) jdk_42_method_154_code (1 : Nat) (Option.some Jvm.ClassFile.FieldType.boolean), Jvm.Cond.code ({ cls := "java/lang/String", name := "length", desc := "()I" } : Jvm.MethodName) jdk_42_method_54_code (1 : Nat) (Option.some Jvm.ClassFile.FieldType.int), Jvm.Cond.code ({ cls := "java/lang/String", name := "coder", desc := "()B" } : Jvm.MethodName) jdk_42_method_152_code (1 : Nat) (Option.some Jvm.ClassFile.FieldType.byte), Jvm.Cond.code ({ cls := "java/lang/StringLatin1", name := "indexOf", desc := "([BIII)I" } : Jvm.MethodName) jdk_43_method_22_code (4 : Nat) (Option.some Jvm.ClassFile.FieldType.int), Jvm.Cond.code ({ cls := "java/lang/StringLatin1", name := "canEncode", desc := "(I)Z" } : Jvm.MethodName) jdk_43_method_4_code (1 : Nat) (Option.some Jvm.ClassFile.FieldType.boolean), Jvm.Cond.code ({ cls := "java/lang/Math", name := "max", desc := "(II)I" } : Jvm.MethodName) jdk_29_method_65_code (2 : Nat) (Option.some Jvm.ClassFile.FieldType.int), Jvm.Cond.code ({ cls := "java/lang/Math", name := "min", desc := "(II)I" } : Jvm.MethodName) jdk_29_method_69_code (2 : Nat) (Option.some Jvm.ClassFile.FieldType.int), Jvm.Cond.code ({ cls := "java/lang/StringLatin1", name := "indexOfChar", desc := "([BIII)I" } : Jvm.MethodName) jdk_43_method_23_code (6 : Nat) (Option.some Jvm.ClassFile.FieldType.int), Jvm.Cond.code ({ cls := "java/lang/String", name := "startsWith", desc := "(Ljava/lang/String;I)Z" } : Jvm.MethodName) jdk_42_method_75_code (8 : Nat) (Option.some Jvm.ClassFile.FieldType.boolean), Jvm.Cond.code ({ cls := "jdk/internal/util/ArraysSupport", name := "mismatch", desc := "([BI[BII)I" } : Jvm.MethodName) jdk_48_method_14_code (8 : Nat) (Option.some Jvm.ClassFile.FieldType.int), Jvm.Cond.code ({ cls := "com/example/hoist/hoist/model/RepositoryUrlAuthorityStartPinLaw", name := "at", desc := "([CI)C" } : Jvm.MethodName) method_4_code (2 : Nat) (Option.some Jvm.ClassFile.FieldType.char)]
set_option maxRecDepth 65536 in
theorem codes_eq : words1.filter isCode = codes1 := rfl
theorem w_codes : ∀ c ∈ words1.filter isCode, c.before args0 about1 = true := by
  rw [codes_eq]
  intro c hc
  simp only [codes1, List.mem_cons, List.not_mem_nil, or_false] at hc
  rcases hc with rfl | rfl | rfl | rfl | rfl | rfl | rfl | rfl | rfl | rfl | rfl | rfl | rfl | rfl | rfl | rfl | rfl | rfl | rfl | rfl | rfl | rfl
  · exact w_c0
  · exact w_c1
  · exact w_c2
  · exact w_c3
  · exact w_c4
  · exact w_c5
  · exact w_c6
  · exact w_c7
  · exact w_c8
  · exact w_c9
  · exact w_c10
  · exact w_c11
  · exact w_c12
  · exact w_c13
  · exact w_c14
  · exact w_c15
  · exact w_c16
  · exact w_c17
  · exact w_c18
  · exact w_c19
  · exact w_c20
  · exact w_c21
set_option maxRecDepth 65536 in
theorem w_t1 : (words1.take 24).all (fun c => isCode c || c.before args0 about1) = true := by decide +kernel
set_option maxRecDepth 65536 in
theorem w_t2 : ((words1.drop 24).take 24).all (fun c => isCode c || c.before args0 about1) = true := by decide +kernel
set_option maxRecDepth 65536 in
theorem w_t3 : (((words1.drop 24).drop 24).take 24).all (fun c => isCode c || c.before args0 about1) = true := by decide +kernel
set_option maxRecDepth 65536 in
theorem w_t4 : ((((words1.drop 24).drop 24).drop 24).take 24).all (fun c => isCode c || c.before args0 about1) = true := by decide +kernel
set_option maxRecDepth 65536 in
theorem w_t5 : ((((words1.drop 24).drop 24).drop 24).drop 24).all (fun c => isCode c || c.before args0 about1) = true := by decide +kernel
theorem w_tables : (allAtoms (Jvm.Cond.code x code maxLocals ret :: tables_1)).before args0 about1 = true := by
  rw [allAtoms_all]
  show words1.all (fun c => c.before args0 about1) = true
  refine all_split ?_ w_codes
  rw [← List.take_append_drop 24 words1, List.all_append, w_t1, ← List.take_append_drop 24 (words1.drop 24), List.all_append, w_t2, ← List.take_append_drop 24 ((words1.drop 24).drop 24), List.all_append, w_t3, ← List.take_append_drop 24 (((words1.drop 24).drop 24).drop 24), List.all_append, w_t4, w_t5]
  rfl
set_option maxRecDepth 65536 in
theorem w_rest : rest_1_c.before args0 about1 = true := by decide +kernel
set_option maxRecDepth 65536 in
theorem w_case : (Jvm.Cond.and given_1 narrow_1).before args0 about1 = true := by decide +kernel
set_option maxRecDepth 65536 in
theorem w_consts : constsHeld consts_1 about1 := Jvm.Lit.constsHeldB_iff.mp (by decide +kernel)
theorem w_applies : (headSpec (Jvm.Cond.code x code maxLocals ret :: tables_1) room_1).applies x e0.platform about1 = true :=
  (Spec.applies_iff w_frames).mpr ⟨w_running, w_runnable, w_alone, w_named, w_hears, w_ripe, w_room, w_tables⟩
theorem atStart : AtStart classFile x code maxLocals ret World_1 tables_1 room_1 Calls_1 rest_1 Pre_1 launch0 p0 e0 about1 theMethod args0 below0 :=
  ⟨lists_1, trivial, launch0.admits_env _ _ _, launch0.least_env, fairChoices_fair.cas, fairChoices_fair.clock, w_frames, w_args, w_heap, w_applies, ⟨w_consts, trivial⟩, w_rest, w_case⟩
end start1
theorem witness_1 : WitnessClaimed_1 := ⟨start1.p0, start1.e0, start1.about1, start1.theMethod, start1.args0, start1.below0, start1.atStart⟩
end Jvm.Pilot.@@N@@
