import JvmDerived
import JvmDerived.Pilot.@@N@@Statement
import JvmDerived.Pilot.@@N@@Code
set_option linter.unusedVariables false
set_option linter.unusedSimpArgs false
namespace Jvm.RoadKit
open Sem ClassFile Op Lib Jvm.Stand Jvm.Free Jvm.LawKit
section New
variable {p : Program} {l : Launch} {e : Env} {R : Room} {s : State} {m : MethodId} {args : Array Value} {below : List Frame} {meth : Method} {c : Code} {T : State} {locs : List Loc} {cells slots : Nat}
theorem retI (X : Stand p l e R s m args below meth c T locs cells slots) (hx : p.tables.exec = Jvm.exec) {pc : Nat} {Ls : Array Slot} {z : Int32} {rest : List Value} (hret : meth.sig.returnType = some .int) (hd : decode c.code pc = .ok (.ireturn, 1)) {fs : List Frame}
    (hl : ∀ (f : JFrame) (acts : List Action), f.method = m → f.locked = none → f.entered = [] → (doReturn e (T.setTop f) acts (some (.int z))).1 = T.setFrames fs) : Steps p.tables e below (T.setTop (mkF m pc Ls (.int z :: rest))) (T.setFrames fs) := by
  have hm' : T.vm.method? m = some meth := X.method'
  have hn : narrow .int (.int z) = .int z := rfl
  show Steps p.tables e below (T.setTop { method := m, pc := pc, locals := Ls, stack := _ :: rest, locked := none }) _
  jvm_step X.here [X.here.top, hx, hd, hm', hret, hn]
  first | (intro acts; rw [hl _ acts rfl rfl rfl]) | rw [hl _ _ rfl rfl rfl]
  exact Steps.refl _
end New
end Jvm.RoadKit
namespace Jvm.RoadKit
open Sem ClassFile Op Lib Jvm.Stand Jvm.Free Jvm.LawKit
section Own
variable {p : Program} {l : Launch} {e : Env} {R : Room} {s : State} {m : MethodId} {args : Array Value} {below : List Frame} {meth : Method} {c : Code} {T T' : State} {locs : List Loc} {cells slots : Nat} {Q : Option Value → Heap → List Loc → Prop} {F : Option Value → State → Prop} {kc ks : Nat} {g g' : JFrame} {Z : State} {a0 : Array Value} {h : Heap}
/-- the body that stands at T with the frame g comes to its end, and leaves what F says -/
def Goes (p : Program) (e : Env) (below : List Frame) (F : Option Value → State → Prop) (T : State) (g : JFrame) : Prop :=
  ∃ s₂ o, Steps p.tables e below (T.setTop g) s₂ ∧ s₂.status = .running ∧ Ended s₂ below o ∧ ∃ v, o = .returned v ∧ F v s₂
def EndQ (s : State) (Q : Option Value → Heap → List Loc → Prop) (kc ks : Nat) (v : Option Value) (t : State) : Prop := ∃ L, Q v t.heap L ∧ FrameEnd s (.returned v) t L kc ks
theorem Goes.give (h : Goes p e below (EndQ s Q kc ks) T g) : ∃ s₂ o, Steps p.tables e below (T.setTop g) s₂ ∧ s₂.status = .running ∧ Ended s₂ below o ∧ ∃ v L, o = .returned v ∧ Q v s₂.heap L ∧ FrameEnd s o s₂ L kc ks := by
  obtain ⟨s2, o, h1, h2, h3, v, rfl, L, h4, h5⟩ := h
  exact ⟨s2, _, h1, h2, h3, v, L, rfl, h4, h5⟩
theorem Goes.step (k : ∀ t, Steps p.tables e below (T'.setTop g') t → Steps p.tables e below (T.setTop g) t) (h : Goes p e below F T' g') : Goes p e below F T g := by
  obtain ⟨s2, o, h1, r⟩ := h
  exact ⟨s2, o, k _ h1, r⟩
theorem Goes.out {v : Option Value} (X : Stand p l e R s m args below meth c T locs cells slots) (hlk : meth.locks = false) (hv : meth.sig.returnType = none → v = none) (hq : Q v T.heap locs) (hc : cells ≤ kc) (hs : slots ≤ ks)
    (k : ∀ fs, (∀ (f : JFrame) (acts : List Action), f.method = m → f.locked = none → f.entered = [] → (doReturn e (T.setTop f) acts v).1 = T.setFrames fs) → Steps p.tables e below (T.setTop g) (T.setFrames fs)) : Goes p e below (EndQ s Q kc ks) T g := by
  obtain ⟨fs, hr, hrun, hended, hW, hsame⟩ := X.leave (v := v) hv hlk
  exact ⟨_, _, k fs hr, hrun, hended, _, rfl, _, hq, ⟨_, rfl⟩, hW, hsame.mono hc hs⟩
theorem Goes.retI (X : Stand p l e R s m args below meth c T locs cells slots) (hx : p.tables.exec = Jvm.exec) (hlk : meth.locks = false) {pc : Nat} {Ls : Array Slot} {z : Int32} {rest : List Value} (hret : meth.sig.returnType = some .int) (hd : decode c.code pc = .ok (.ireturn, 1))
    (hc : cells ≤ kc) (hs : slots ≤ ks) (hq : Q (some (.int z)) T.heap locs) : Goes p e below (EndQ s Q kc ks) T (mkF m pc Ls (.int z :: rest)) :=
  Goes.out X hlk (fun h => by rw [hret] at h; cases h) hq hc hs fun fs hr => RoadKit.retI X hx hret hd hr
theorem Goes.retN (X : Stand p l e R s m args below meth c T locs cells slots) (hx : p.tables.exec = Jvm.exec) (hlk : meth.locks = false) {pc : Nat} {Ls : Array Slot} {z : Int32} {t : FieldType} {rest : List Value} (hret : meth.sig.returnType = some t) (ht : t = .boolean ∨ t = .byte ∨ t = .char ∨ t = .short) (hd : decode c.code pc = .ok (.ireturn, 1))
    (hc : cells ≤ kc) (hs : slots ≤ ks) (hq : Q (some (.int (nar t z))) T.heap locs) : Goes p e below (EndQ s Q kc ks) T (mkF m pc Ls (.int z :: rest)) :=
  Goes.out X hlk (fun h => by rw [hret] at h; cases h) hq hc hs fun fs hr => RoadKit.retN X hx hret ht hd hr
theorem Goes.retA (X : Stand p l e R s m args below meth c T locs cells slots) (hx : p.tables.exec = Jvm.exec) (hlk : meth.locks = false) {pc : Nat} {Ls : Array Slot} {w : Value} {t : FieldType} {rest : List Value} (hret : meth.sig.returnType = some t) (ht : t.isReference = true) (hw : w.isRef = true) (hd : decode c.code pc = .ok (.areturn, 1))
    (hc : cells ≤ kc) (hs : slots ≤ ks) (hq : Q (some w) T.heap locs) : Goes p e below (EndQ s Q kc ks) T (mkF m pc Ls (w :: rest)) :=
  Goes.out X hlk (fun h => by rw [hret] at h; cases h) hq hc hs fun fs hr => RoadKit.retOut X hx hret (by cases w <;> cases t <;> first | rfl | (simp [FieldType.isReference] at ht) | (simp [Value.isRef] at hw)) (Or.inr (Or.inr (Or.inr (Or.inr ⟨rfl, ht, hw⟩)))) hd hr
theorem Goes.retJ (X : Stand p l e R s m args below meth c T locs cells slots) (hx : p.tables.exec = Jvm.exec) (hlk : meth.locks = false) {pc : Nat} {Ls : Array Slot} {z : Int64} {rest : List Value} (hret : meth.sig.returnType = some .long) (hd : decode c.code pc = .ok (.lreturn, 1))
    (hc : cells ≤ kc) (hs : slots ≤ ks) (hq : Q (some (.long z)) T.heap locs) : Goes p e below (EndQ s Q kc ks) T (mkF m pc Ls (.long z :: rest)) :=
  Goes.out X hlk (fun h => by rw [hret] at h; cases h) hq hc hs fun fs hr => RoadKit.retOut X hx hret rfl (Or.inr (Or.inl ⟨rfl, rfl, _, rfl⟩)) hd hr
theorem Goes.retV (X : Stand p l e R s m args below meth c T locs cells slots) (hx : p.tables.exec = Jvm.exec) (hlk : meth.locks = false) {pc : Nat} {Ls : Array Slot} (hret : meth.sig.returnType = none) (hd : decode c.code pc = .ok (.return_, 1))
    (hc : cells ≤ kc) (hs : slots ≤ ks) (hq : Q none T.heap locs) : Goes p e below (EndQ s Q kc ks) T (mkF m pc Ls []) :=
  Goes.out X hlk (fun _ => rfl) hq hc hs fun fs hr => X.returnOut hx hret hd hr
/-- a static call, by its callee's contract -/
theorem Goes.callS (X : Stand p l e R s m args below meth c T locs cells slots) (hx : p.tables.exec = Jvm.exec) {own : String} {index : Nat} {y : MethodName} {bytes : ByteArray} {maxL : Nat} {ret : Option FieldType}
    (hown : s.vm.findClass own = some m.cls) (hlink : (Cond.methodLink own index y).before args s = true) (hstat : (Cond.static y).before args s = true) (hinit : (Cond.initialized y.cls).before args s = true)
    (hcode : (Cond.code y bytes maxL ret).before args s = true) (hy : y.cls ≠ "java/lang/invoke/MethodHandle" ∧ y.cls ≠ "java/lang/invoke/VarHandle")
    {W : Nat} {as' : Array Value} {Qc : Option Value → Heap → List Loc → Prop} {kc' ks' : Nat}
    (hK : Back l R p e below s args y 3 W (fun A a => a = as' ∧ A.U.heap = h ∧ A.cells + kc' ≤ R.cells ∧ A.slots + ks' ≤ R.slots) (fun A _ v B => ∃ L, Qc v B.U.heap L ∧ B.locs = A.locs ++ L ∧ B.cells = A.cells + kc' ∧ B.slots = A.slots + ks'))
    (hg : g.method = m) (hsize : g.locals.size = c.maxLocals) {argsL rest : List Value} (hlen : ∀ sig, parseMethodDescriptor y.desc = some sig → argsL.length = sig.parameters.length)
    (hstack : g.stack = argsL.reverse ++ rest) (hW : 2 * g.monitorRoom + (rest.map fun v => v.category).sum ≤ W) (hdg : decode c.code g.pc = .ok (.invokestatic index, 3)) (ha : argsL.toArray = as') (eT : T.heap = h) (hc : cells + kc' ≤ R.cells) (hs : slots + ks' ≤ R.slots)
    (k : ∀ (v : Option Value) (T' : State) (L : List Loc), Qc v T'.heap L → Stand p l e R s m args below meth c T' (locs ++ L) (cells + kc') (slots + ks') → Goes p e below F T' { g with pc := g.pc + 3, stack := v.toList ++ rest }) : Goes p e below F T g := by
  obtain ⟨v, vm₁, ⟨T', L', k', n'⟩, -, X', ⟨L, hQ, h1, h2, h3⟩, st⟩ := Jvm.LawKit.callS X hx hown hlink hstat hinit hcode hy hK hg hsize hlen hstack hW hdg (fun _ _ => ⟨ha, eT, hc, hs⟩)
  dsimp only [Pt.U, Pt.locs, Pt.cells, Pt.slots] at X' h1 h2 h3 st hQ
  subst h1 h2 h3
  exact Goes.step st (k v T' L hQ X')
/-- a constructor, by its contract -/
theorem Goes.callC (X : Stand p l e R s m args below meth c T locs cells slots) (hx : p.tables.exec = Jvm.exec) {own : String} {index : Nat} {y : MethodName} {bytes : ByteArray} {maxL : Nat} (hy1 : y.name = "<init>")
    (hown : s.vm.findClass own = some m.cls) (hlink : (Cond.methodLink own index y).before args s = true) (hinst : (Cond.instanceMethod y).before args s = true) (hcode : (Cond.code y bytes maxL none).before args s = true)
    (hy : y.cls ≠ "java/lang/invoke/MethodHandle" ∧ y.cls ≠ "java/lang/invoke/VarHandle")
    {W : Nat} {as' : Array Value} {Qc : Option Value → Heap → List Loc → Prop} {kc' ks' : Nat}
    (hK : Back l R p e below s args y 3 W (fun A a => a = as' ∧ A.U.heap = h ∧ A.cells + kc' ≤ R.cells ∧ A.slots + ks' ≤ R.slots) (fun A _ v B => ∃ L, Qc v B.U.heap L ∧ B.locs = A.locs ++ L ∧ B.cells = A.cells + kc' ∧ B.slots = A.slots + ks'))
    (hg : g.method = m) (hsize : g.locals.size = c.maxLocals) {a : Addr} {argsL rest : List Value} (hlen : ∀ sig, parseMethodDescriptor y.desc = some sig → argsL.length = sig.parameters.length)
    (hstack : g.stack = argsL.reverse ++ .ref a :: rest) (hW : 2 * g.monitorRoom + (rest.map fun v => v.category).sum ≤ W) (hdg : decode c.code g.pc = .ok (.invokespecial index, 3)) (ha : (.ref a :: argsL).toArray = as') (eT : T.heap = h) (hc : cells + kc' ≤ R.cells) (hs : slots + ks' ≤ R.slots)
    (k : ∀ (v : Option Value) (T' : State) (L : List Loc), Qc v T'.heap L → Stand p l e R s m args below meth c T' (locs ++ L) (cells + kc') (slots + ks') → Goes p e below F T' { g with pc := g.pc + 3, stack := v.toList ++ rest }) : Goes p e below F T g := by
  obtain ⟨v, vm₁, ⟨T', L', k', n'⟩, -, X', ⟨L, hQ, h1, h2, h3⟩, st⟩ := X.specialBack hx hy1 hown hlink hinst hcode hy hK hg hsize (Steps.refl _) hlen hstack hW hdg (fun _ _ => ⟨ha, eT, hc, hs⟩)
  dsimp only [Pt.U, Pt.locs, Pt.cells, Pt.slots] at X' h1 h2 h3 st hQ
  subst h1 h2 h3
  exact Goes.step (fun t q => st.trans q) (k v T' L hQ X')
/-- an instance method, by the contract of the body that is selected -/
theorem Goes.callV (X : Stand p l e R s m args below meth c T locs cells slots) (hx : p.tables.exec = Jvm.exec) (hZ : Z.Warmed39 s.vm) {own C : String} {index : Nat} {y z : MethodName}
    (hown : s.vm.findClass own = some m.cls) (hlink : (Cond.methodLink own index y).before args s = true) (hdecl : (Cond.declares y).before args s = true) (hnf : NotFace s y)
    (hsel : (Cond.selects C y z).before args s = true) (hinst : (Cond.instanceMethod z).before args s = true)
    (hy : y.cls ≠ "java/lang/invoke/MethodHandle" ∧ y.cls ≠ "java/lang/invoke/VarHandle")
    {W : Nat} {as' : Array Value} {Qc : Option Value → Heap → List Loc → Prop} {kc' ks' : Nat}
    (hK : Back l R p e below s args z 3 W (fun A a => a = as' ∧ A.U.heap = h ∧ A.cells + kc' ≤ R.cells ∧ A.slots + ks' ≤ R.slots) (fun A _ v B => ∃ L, Qc v B.U.heap L ∧ B.locs = A.locs ++ L ∧ B.cells = A.cells + kc' ∧ B.slots = A.slots + ks'))
    {b : Addr} (eT : T.heap = h) (E : Exa Z h b C)
    (hg : g.method = m) (hsize : g.locals.size = c.maxLocals) {argsL rest : List Value} (hlen : ∀ sig, parseMethodDescriptor y.desc = some sig → argsL.length = sig.parameters.length)
    (hstack : g.stack = argsL.reverse ++ .ref b :: rest) (hW : 2 * g.monitorRoom + (rest.map fun v => v.category).sum ≤ W) (hdg : decode c.code g.pc = .ok (.invokevirtual index, 3)) (ha : (.ref b :: argsL).toArray = as') (hc : cells + kc' ≤ R.cells) (hs : slots + ks' ≤ R.slots)
    (k : ∀ (v : Option Value) (T' : State) (L : List Loc), Qc v T'.heap L → Stand p l e R s m args below meth c T' (locs ++ L) (cells + kc') (slots + ks') → Goes p e below F T' { g with pc := g.pc + 3, stack := v.toList ++ rest }) : Goes p e below F T g := by
  obtain ⟨cq, kq, qa, qb, qc⟩ := isOf hZ eT E
  obtain ⟨v, vm₁, ⟨T', L', k', n'⟩, -, X', ⟨L, hQ, h1, h2, h3⟩, st⟩ := X.virtualBack hx hown hlink hdecl hnf hsel hinst hy hK qa qc hg hsize (Steps.refl _) hlen hstack hW hdg (fun _ _ => ⟨ha, eT, hc, hs⟩)
  dsimp only [Pt.U, Pt.locs, Pt.cells, Pt.slots] at X' h1 h2 h3 st hQ
  subst h1 h2 h3
  exact Goes.step (fun t q => st.trans q) (k v T' L hQ X')
/-- a private method called by invokevirtual -/
theorem Goes.callP (X : Stand p l e R s m args below meth c T locs cells slots) (hx : p.tables.exec = Jvm.exec) {own C : String} {index : Nat} {y : MethodName} {bytes : ByteArray} {maxL : Nat} {ret : Option FieldType}
    (hown : s.vm.findClass own = some m.cls) (hlink : (Cond.methodLink own index y).before args s = true) (hinst : (Cond.instanceMethod y).before args s = true) (hsel : (Cond.selects y.cls y y).before args s = true)
    (hpriv : s.PrivateAt y) (hcode : (Cond.code y bytes maxL ret).before args s = true)
    (hy : y.cls ≠ "java/lang/invoke/MethodHandle" ∧ y.cls ≠ "java/lang/invoke/VarHandle")
    {W : Nat} {as' : Array Value} {Qc : Option Value → Heap → List Loc → Prop} {kc' ks' : Nat}
    (hK : Back l R p e below s args y 3 W (fun A a => a = as' ∧ A.U.heap = h ∧ A.cells + kc' ≤ R.cells ∧ A.slots + ks' ≤ R.slots) (fun A _ v B => ∃ L, Qc v B.U.heap L ∧ B.locs = A.locs ++ L ∧ B.cells = A.cells + kc' ∧ B.slots = A.slots + ks'))
    {b : Addr} (eT : T.heap = h) (E : Exa Z h b C)
    (hg : g.method = m) (hsize : g.locals.size = c.maxLocals) {argsL rest : List Value} (hlen : ∀ sig, parseMethodDescriptor y.desc = some sig → argsL.length = sig.parameters.length)
    (hstack : g.stack = argsL.reverse ++ .ref b :: rest) (hW : 2 * g.monitorRoom + (rest.map fun v => v.category).sum ≤ W) (hdg : decode c.code g.pc = .ok (.invokevirtual index, 3)) (ha : (.ref b :: argsL).toArray = as') (hc : cells + kc' ≤ R.cells) (hs : slots + ks' ≤ R.slots)
    (k : ∀ (v : Option Value) (T' : State) (L : List Loc), Qc v T'.heap L → Stand p l e R s m args below meth c T' (locs ++ L) (cells + kc') (slots + ks') → Goes p e below F T' { g with pc := g.pc + 3, stack := v.toList ++ rest }) : Goes p e below F T g := by
  obtain ⟨cq, q1, q2⟩ := E.cell
  obtain ⟨v, vm₁, ⟨T', L', k', n'⟩, -, X', ⟨L, hQ, h1, h2, h3⟩, st⟩ := X.privateBack hx hown hlink hinst hsel hpriv hcode hy hK hg hsize (Steps.refl _) (by rw [eT]; exact q1) q2 hlen hstack hW hdg (fun _ _ => ⟨ha, eT, hc, hs⟩)
  dsimp only [Pt.U, Pt.locs, Pt.cells, Pt.slots] at X' h1 h2 h3 st hQ
  subst h1 h2 h3
  exact Goes.step (fun t q => st.trans q) (k v T' L hQ X')
/-- clone() of an array whose elements are known -/
theorem cloneV {a : Addr} {ty : FieldType} (X : Stand p l e R s m args below meth c T locs cells slots) (hx : p.tables.exec = Jvm.exec) (hZ : Z.Warmed39 s.vm) {own ad : String} {index : Nat} (hown : s.vm.findClass own = some m.cls)
    (w1 : (Cond.methodLink own index ⟨ad, "clone", "()Ljava/lang/Object;"⟩).before a0 Z = true) (w2 : (Cond.sameMethod ad "java/lang/Object" "clone" "()Ljava/lang/Object;").before a0 Z = true) (w3 : (Cond.native ⟨"java/lang/Object", "clone", "()Ljava/lang/Object;"⟩).before a0 Z = true)
    (w4 : (Cond.instanceMethod ⟨"java/lang/Object", "clone", "()Ljava/lang/Object;"⟩).before a0 Z = true) (w5 : (Cond.selects ad ⟨ad, "clone", "()Ljava/lang/Object;"⟩ ⟨"java/lang/Object", "clone", "()Ljava/lang/Object;"⟩).before a0 Z = true) (w6 : (Cond.castable ad "java/lang/Cloneable").before a0 Z = true)
    (eT : T.heap = h) {k : ClassId} {z : Int32} {vs : List Value} {dv : Value} (FA : Arv Z h a k ty z vs dv) (E : Exa Z h a ad) {g : JFrame} (hg : g.method = m) (hsize : g.locals.size = c.maxLocals) {rest : List Value} (hst : g.stack = .ref a :: rest) (hd : decode c.code g.pc = .ok (.invokevirtual index, 3))
    (hf : 1 ≤ R.frames) {W cap : Nat} (hW : 2 * g.monitorRoom + (rest.map fun v => v.category).sum ≤ W) (hl : W + 14 ≤ R.locals) (hcap : z.toNatClampNeg ≤ cap) (hc : cells + 1 ≤ R.cells) (hsl : slots + cap ≤ R.slots) :
    ∃ T' h', Stand p l e R s m args below meth c T' locs (cells + 1) (slots + cap) ∧ T'.heap = h' ∧ Ext h h' ∧ Arv Z h' h.size k ty z vs dv ∧ Exa Z h' h.size ad ∧
      ∀ target, Steps p.tables e below (T'.setTop { g with pc := g.pc + 3, stack := .ref h.size :: rest }) target → Steps p.tables e below (T.setTop g) target := by
  obtain ⟨cl, A, q1, S, q3, H, G⟩ := FA
  have FC : FitC Z cl := fitC_of A fun i hi v hv => by rw [H i hi] at hv; cases hv; exact G i hi
  obtain ⟨T', h', X', e', ex, A', E', st⟩ := cloneA X hx hZ hown w1 w2 w3 w4 w5 w6 eT A E FC hg hsize hst hd hf hW hl (by rw [S]; exact hcap) hc hsl
  exact ⟨T', h', X', e', ex, ⟨cloneOf cl, A', q1, S, q3, H, G⟩, E', st⟩
end Own
end Jvm.RoadKit
namespace Jvm.RoadKit
open Sem ClassFile Op Lib Jvm.Stand Jvm.Free Jvm.LawKit
namespace P1
section P1
variable {p : Program} {e : Env} {below : List Frame} {F : Option Value → State → Prop} {T : State} {m : MethodId} {c : Code} {pc : Nat} {Ls : Array Slot} {S : List Value}
theorem aloadN (h : At T m c below) (hx : p.tables.exec = Jvm.exec) {k : Fin 4} {v : Value} (hd : decode c.code pc = .ok (.aload_n k, 1)) (hl : Ls[k.val]? = some (.val v)) (hv : v.isRef = true) (hr : Goes p e below F T (mkF m (pc + 1) Ls (v :: S))) : Goes p e below F T (mkF m pc Ls (S)) := Goes.step (fun t k => XS.aloadN h hx rfl hd hl hv k) hr
theorem aload (h : At T m c below) (hx : p.tables.exec = Jvm.exec) {k : Nat} {v : Value} (hd : decode c.code pc = .ok (.aload k, 2)) (hl : Ls[k]? = some (.val v)) (hv : v.isRef = true) (hr : Goes p e below F T (mkF m (pc + 2) Ls (v :: S))) : Goes p e below F T (mkF m pc Ls (S)) := Goes.step (fun t k => XS.aload h hx rfl hd hl hv k) hr
theorem iloadN (h : At T m c below) (hx : p.tables.exec = Jvm.exec) {k : Fin 4} {v : Int32} (hd : decode c.code pc = .ok (.iload_n k, 1)) (hl : Ls[k.val]? = some (.val (.int v))) (hr : Goes p e below F T (mkF m (pc + 1) Ls ((.int v) :: S))) : Goes p e below F T (mkF m pc Ls (S)) := Goes.step (fun t k => XS.iloadN h hx rfl hd hl k) hr
theorem iload (h : At T m c below) (hx : p.tables.exec = Jvm.exec) {k : Nat} {v : Int32} (hd : decode c.code pc = .ok (.iload k, 2)) (hl : Ls[k]? = some (.val (.int v))) (hr : Goes p e below F T (mkF m (pc + 2) Ls ((.int v) :: S))) : Goes p e below F T (mkF m pc Ls (S)) := Goes.step (fun t k => XS.iload h hx rfl hd hl k) hr
theorem lloadN (h : At T m c below) (hx : p.tables.exec = Jvm.exec) {k : Fin 4} {v : Int64} (hd : decode c.code pc = .ok (.lload_n k, 1)) (hl : Ls[k.val]? = some (.val (.long v))) (hr : Goes p e below F T (mkF m (pc + 1) Ls ((.long v) :: S))) : Goes p e below F T (mkF m pc Ls (S)) := Goes.step (fun t k => XS.lloadN h hx rfl hd hl k) hr
theorem lload (h : At T m c below) (hx : p.tables.exec = Jvm.exec) {k : Nat} {v : Int64} (hd : decode c.code pc = .ok (.lload k, 2)) (hl : Ls[k]? = some (.val (.long v))) (hr : Goes p e below F T (mkF m (pc + 2) Ls ((.long v) :: S))) : Goes p e below F T (mkF m pc Ls (S)) := Goes.step (fun t k => XS.lload h hx rfl hd hl k) hr
theorem astoreN (h : At T m c below) (hx : p.tables.exec = Jvm.exec) {k : Fin 4} {x : Value} (l' : Array Slot) (hd : decode c.code pc = .ok (.astore_n k, 1)) (hv : x.isRef = true) (hl : storeLocals Ls k.val x = some l') (hr : Goes p e below F T (mkF m (pc + 1) l' (S))) : Goes p e below F T (mkF m pc Ls (x :: S)) := Goes.step (fun t k => XS.astoreN h hx rfl hd rfl hv hl k) hr
theorem astore (h : At T m c below) (hx : p.tables.exec = Jvm.exec) {k : Nat} {x : Value} (l' : Array Slot) (hd : decode c.code pc = .ok (.astore k, 2)) (hv : x.isRef = true) (hl : storeLocals Ls k x = some l') (hr : Goes p e below F T (mkF m (pc + 2) l' (S))) : Goes p e below F T (mkF m pc Ls (x :: S)) := Goes.step (fun t k => XS.astore h hx rfl hd rfl hv hl k) hr
theorem istoreN (h : At T m c below) (hx : p.tables.exec = Jvm.exec) {k : Fin 4} {x : Int32} (l' : Array Slot) (hd : decode c.code pc = .ok (.istore_n k, 1)) (hl : storeLocals Ls k.val (.int x) = some l') (hr : Goes p e below F T (mkF m (pc + 1) l' (S))) : Goes p e below F T (mkF m pc Ls ((.int x) :: S)) := Goes.step (fun t k => XS.istoreN h hx rfl hd rfl hl k) hr
theorem istore (h : At T m c below) (hx : p.tables.exec = Jvm.exec) {k : Nat} {x : Int32} (l' : Array Slot) (hd : decode c.code pc = .ok (.istore k, 2)) (hl : storeLocals Ls k (.int x) = some l') (hr : Goes p e below F T (mkF m (pc + 2) l' (S))) : Goes p e below F T (mkF m pc Ls ((.int x) :: S)) := Goes.step (fun t k => XS.istore h hx rfl hd rfl hl k) hr
theorem lstoreN (h : At T m c below) (hx : p.tables.exec = Jvm.exec) {k : Fin 4} {x : Int64} (l' : Array Slot) (hd : decode c.code pc = .ok (.lstore_n k, 1)) (hl : storeLocals Ls k.val (.long x) = some l') (hr : Goes p e below F T (mkF m (pc + 1) l' (S))) : Goes p e below F T (mkF m pc Ls ((.long x) :: S)) := Goes.step (fun t k => XS.lstoreN h hx rfl hd rfl hl k) hr
theorem lstore (h : At T m c below) (hx : p.tables.exec = Jvm.exec) {k : Nat} {x : Int64} (l' : Array Slot) (hd : decode c.code pc = .ok (.lstore k, 2)) (hl : storeLocals Ls k (.long x) = some l') (hr : Goes p e below F T (mkF m (pc + 2) l' (S))) : Goes p e below F T (mkF m pc Ls ((.long x) :: S)) := Goes.step (fun t k => XS.lstore h hx rfl hd rfl hl k) hr
theorem iconst (h : At T m c below) (hx : p.tables.exec = Jvm.exec) (z : Int32) {i : Int} (hd : decode c.code pc = .ok (.iconst i, 1)) (hz : Int32.ofInt i = z) (hr : Goes p e below F T (mkF m (pc + 1) Ls (.int z :: S))) : Goes p e below F T (mkF m pc Ls S) := by subst hz; exact Goes.step (fun t k => XS.iconst h hx rfl hd k) hr
theorem bipush (h : At T m c below) (hx : p.tables.exec = Jvm.exec) (z : Int32) {i : Int} (hd : decode c.code pc = .ok (.bipush i, 2)) (hz : (Int8.ofInt i).toInt32 = z) (hr : Goes p e below F T (mkF m (pc + 2) Ls (.int z :: S))) : Goes p e below F T (mkF m pc Ls S) := by subst hz; exact Goes.step (fun t k => XS.bipush h hx rfl hd k) hr
theorem sipush (h : At T m c below) (hx : p.tables.exec = Jvm.exec) (z : Int32) {i : Int} (hd : decode c.code pc = .ok (.sipush i, 3)) (hz : (Int16.ofInt i).toInt32 = z) (hr : Goes p e below F T (mkF m (pc + 3) Ls (.int z :: S))) : Goes p e below F T (mkF m pc Ls S) := by subst hz; exact Goes.step (fun t k => XS.sipush h hx rfl hd k) hr
theorem aconstNull (h : At T m c below) (hx : p.tables.exec = Jvm.exec)  (hd : decode c.code pc = .ok (.aconst_null, 1)) (hr : Goes p e below F T (mkF m (pc + 1) Ls (.null :: S))) : Goes p e below F T (mkF m pc Ls (S)) := Goes.step (fun t k => XS.aconstNull h hx rfl hd k) hr
theorem dup (h : At T m c below) (hx : p.tables.exec = Jvm.exec) {x : Value} (hd : decode c.code pc = .ok (.dup, 1)) (hc : x.category = 1) (hr : Goes p e below F T (mkF m (pc + 1) Ls (x :: x :: S))) : Goes p e below F T (mkF m pc Ls (x :: S)) := Goes.step (fun t k => XS.dup h hx rfl hd rfl hc k) hr
theorem pop (h : At T m c below) (hx : p.tables.exec = Jvm.exec) {x : Value} (hd : decode c.code pc = .ok (.pop, 1)) (hc : x.category = 1) (hr : Goes p e below F T (mkF m (pc + 1) Ls (S))) : Goes p e below F T (mkF m pc Ls (x :: S)) := Goes.step (fun t k => XS.pop h hx rfl hd rfl hc k) hr
theorem goto (h : At T m c below) (hx : p.tables.exec = Jvm.exec) {o : Int} (pc' : Nat) (hd : decode c.code pc = .ok (.goto o, 3)) (ho : 0 ≤ (pc : Int) + o) (hp : ((pc : Int) + o).toNat = pc') (hr : Goes p e below F T (mkF m pc' Ls (S))) : Goes p e below F T (mkF m pc Ls (S)) := Goes.step (fun t k => XS.goto h hx rfl (pc0 := pc) rfl hd ho hp k) hr
theorem iadd (h : At T m c below) (hx : p.tables.exec = Jvm.exec) {x y : Int32} (hd : decode c.code pc = .ok (.iadd, 1)) (hr : Goes p e below F T (mkF m (pc + 1) Ls (.int (x + y) :: S))) : Goes p e below F T (mkF m pc Ls (.int y :: .int x :: S)) := Goes.step (fun t k => XS.iadd h hx rfl hd rfl k) hr
theorem isub (h : At T m c below) (hx : p.tables.exec = Jvm.exec) {x y : Int32} (hd : decode c.code pc = .ok (.isub, 1)) (hr : Goes p e below F T (mkF m (pc + 1) Ls (.int (x - y) :: S))) : Goes p e below F T (mkF m pc Ls (.int y :: .int x :: S)) := Goes.step (fun t k => XS.isub h hx rfl hd rfl k) hr
theorem imul (h : At T m c below) (hx : p.tables.exec = Jvm.exec) {x y : Int32} (hd : decode c.code pc = .ok (.imul, 1)) (hr : Goes p e below F T (mkF m (pc + 1) Ls (.int (x * y) :: S))) : Goes p e below F T (mkF m pc Ls (.int y :: .int x :: S)) := Goes.step (fun t k => XS.imul h hx rfl hd rfl k) hr
theorem iand (h : At T m c below) (hx : p.tables.exec = Jvm.exec) {x y : Int32} (hd : decode c.code pc = .ok (.iand, 1)) (hr : Goes p e below F T (mkF m (pc + 1) Ls (.int (x &&& y) :: S))) : Goes p e below F T (mkF m pc Ls (.int y :: .int x :: S)) := Goes.step (fun t k => XS.iand h hx rfl hd rfl k) hr
theorem ior (h : At T m c below) (hx : p.tables.exec = Jvm.exec) {x y : Int32} (hd : decode c.code pc = .ok (.ior, 1)) (hr : Goes p e below F T (mkF m (pc + 1) Ls (.int (x ||| y) :: S))) : Goes p e below F T (mkF m pc Ls (.int y :: .int x :: S)) := Goes.step (fun t k => XS.ior h hx rfl hd rfl k) hr
theorem ixor (h : At T m c below) (hx : p.tables.exec = Jvm.exec) {x y : Int32} (hd : decode c.code pc = .ok (.ixor, 1)) (hr : Goes p e below F T (mkF m (pc + 1) Ls (.int (x ^^^ y) :: S))) : Goes p e below F T (mkF m pc Ls (.int y :: .int x :: S)) := Goes.step (fun t k => XS.ixor h hx rfl hd rfl k) hr
theorem icmpNo (h : At T m c below) (hx : p.tables.exec = Jvm.exec) {cd : ClassFile.Cond} {o : Int} {x y : Int32} (hd : decode c.code pc = .ok (.if_icmp cd o, 3)) (hc : if_icmp.holds cd x y = false) (hr : Goes p e below F T (mkF m (pc + 3) Ls (S))) : Goes p e below F T (mkF m pc Ls (.int y :: .int x :: S)) := Goes.step (fun t k => XS.icmpNo h hx rfl hd rfl hc k) hr
theorem icmpYes (h : At T m c below) (hx : p.tables.exec = Jvm.exec) {cd : ClassFile.Cond} {o : Int} {x y : Int32} (pc' : Nat) (hd : decode c.code pc = .ok (.if_icmp cd o, 3)) (hc : if_icmp.holds cd x y = true) (ho : 0 ≤ (pc : Int) + o) (hp : ((pc : Int) + o).toNat = pc') (hr : Goes p e below F T (mkF m pc' Ls (S))) : Goes p e below F T (mkF m pc Ls (.int y :: .int x :: S)) := Goes.step (fun t k => XS.icmpYes h hx rfl (pc0 := pc) rfl hd rfl hc ho hp k) hr
theorem ifNo (h : At T m c below) (hx : p.tables.exec = Jvm.exec) {cd : ClassFile.Cond} {o : Int} {x : Int32} (hd : decode c.code pc = .ok (.ifCond cd o, 3)) (hc : ifCond.holds cd x = false) (hr : Goes p e below F T (mkF m (pc + 3) Ls (S))) : Goes p e below F T (mkF m pc Ls (.int x :: S)) := Goes.step (fun t k => XS.ifNo h hx rfl hd rfl hc k) hr
theorem ifYes (h : At T m c below) (hx : p.tables.exec = Jvm.exec) {cd : ClassFile.Cond} {o : Int} {x : Int32} (pc' : Nat) (hd : decode c.code pc = .ok (.ifCond cd o, 3)) (hc : ifCond.holds cd x = true) (ho : 0 ≤ (pc : Int) + o) (hp : ((pc : Int) + o).toNat = pc') (hr : Goes p e below F T (mkF m pc' Ls (S))) : Goes p e below F T (mkF m pc Ls (.int x :: S)) := Goes.step (fun t k => XS.ifYes h hx rfl (pc0 := pc) rfl hd rfl hc ho hp k) hr
theorem ifnullNo (h : At T m c below) (hx : p.tables.exec = Jvm.exec) {o : Int} {b : Addr} (hd : decode c.code pc = .ok (.ifnull o, 3)) (hr : Goes p e below F T (mkF m (pc + 3) Ls (S))) : Goes p e below F T (mkF m pc Ls (.ref b :: S)) := Goes.step (fun t k => XS.ifnullNo h hx rfl hd rfl k) hr
theorem ifnullYes (h : At T m c below) (hx : p.tables.exec = Jvm.exec) {o : Int} (pc' : Nat) (hd : decode c.code pc = .ok (.ifnull o, 3)) (ho : 0 ≤ (pc : Int) + o) (hp : ((pc : Int) + o).toNat = pc') (hr : Goes p e below F T (mkF m pc' Ls (S))) : Goes p e below F T (mkF m pc Ls (.null :: S)) := Goes.step (fun t k => XS.ifnullYes h hx rfl (pc0 := pc) rfl hd rfl ho hp k) hr
theorem ifnonnullNo (h : At T m c below) (hx : p.tables.exec = Jvm.exec) {o : Int} (hd : decode c.code pc = .ok (.ifnonnull o, 3)) (hr : Goes p e below F T (mkF m (pc + 3) Ls (S))) : Goes p e below F T (mkF m pc Ls (.null :: S)) := Goes.step (fun t k => XS.ifnonnullNo h hx rfl hd rfl k) hr
theorem ifnonnullYes (h : At T m c below) (hx : p.tables.exec = Jvm.exec) {o : Int} {b : Addr} (pc' : Nat) (hd : decode c.code pc = .ok (.ifnonnull o, 3)) (ho : 0 ≤ (pc : Int) + o) (hp : ((pc : Int) + o).toNat = pc') (hr : Goes p e below F T (mkF m pc' Ls (S))) : Goes p e below F T (mkF m pc Ls (.ref b :: S)) := Goes.step (fun t k => XS.ifnonnullYes h hx rfl (pc0 := pc) rfl hd rfl ho hp k) hr
end P1
end P1
end Jvm.RoadKit
namespace Jvm.RoadKit
open Sem ClassFile Op Lib Jvm.Stand Jvm.Free Jvm.LawKit
section OwnStart
variable {Z : State} {args : Array Value} {t u : Term} {a : Addr} {cl : Cell} {ty : FieldType} {v : Value}
theorem own_eqV (h : (Cond.eq t u).value args Z none Z [] = some true) (hu : u.eval args Z none [] Z = some v) (hv : (∃ z, v = .int z) ∨ v.isRef = true) : t.eval args Z none [] Z = some v := by
  cases ht : t.eval args Z none [] Z with
  | none => simp [Cond.value, ht] at h
  | some x =>
    rcases hv with ⟨z, rfl⟩ | hv
    · cases x <;> simp_all [Cond.value, Value.isRef]
    · cases x <;> cases v <;> simp_all [Cond.value, Value.isRef]
theorem own_len {n : Int32} (A : Arr Z Z.heap a cl ty) (ev : t.eval args Z none [] Z = some (.ref a)) (h : (Cond.eq (.length t) (.int n)).value args Z none Z [] = some true) : cl.slots.size < 2 ^ 31 ∧ cl.slots.size.toInt32 = n := by
  have q := own_eqV h (Term.int_eval n) (Or.inl ⟨_, rfl⟩)
  have harr := Arr.fin (U := Z) (Vm.Alike.refl _) A
  by_cases hl : cl.slots.size < 2 ^ 31
  · rw [len_f ev harr hl] at q
    exact ⟨hl, Value.int.inj (Option.some.inj q)⟩
  · simp [Term.eval, ev, harr, hl] at q
theorem own_elem {j : Int32} (A : Arr Z Z.heap a cl ty) (ev : t.eval args Z none [] Z = some (.ref a)) (h : (Term.elem t (.int j)).eval args Z none [] Z = some v) : cl.slots[j.toNatClampNeg]? = some v := (elem_in h ev (Term.int_eval j) A.1).2
theorem own_fld {C n d : String} (ev : t.eval args Z none [] Z = some (.ref a)) (h : (Term.field t C n d).eval args Z none [] Z = some v) : Fld Z Z.heap a C n d v := Fld.start ((fld_at ev).symm.trans h)
end OwnStart
end Jvm.RoadKit
namespace Jvm.RoadKit
open Sem ClassFile Op Lib Jvm.Stand Jvm.Free Jvm.LawKit
/-- a room by its four figures -/
abbrev rR (f c s l : Nat) : Room := { frames := f, cells := c, slots := s, locals := l }
/-- the law of a body: from these arguments and this heap it returns, and Q tells what -/
abbrev OwnLaw (l : Launch) (y : MethodName) (bytes : ByteArray) (maxL : Nat) (ret : Option FieldType) (ws : List Cond) (R : Room) (as : Array Value) (Z : State) (h0 : Heap) (Q : Option Value → Heap → List Loc → Prop) : Prop :=
  MetFree l y (head1 (Cond.code y bytes maxL ret :: ws) R) (fun aa U => aa = as ∧ Z.Warmed39 U.vm ∧ U.heap = h0) (fun _ _ _ _ _ => True) (fun _ U oo U' => ∃ vv LL, oo = .returned vv ∧ Q vv U'.heap LL ∧ FrameEnd U oo U' LL R.cells R.slots)
theorem own_enter {l : Launch} {y : MethodName} {bytes : ByteArray} {maxL : Nat} {ret : Option FieldType} {ws : List Cond} {R : Room} {as : Array Value} {Z : State} {h0 : Heap} {Q : Option Value → Heap → List Loc → Prop} {Ls : Array Slot} (pf : plainFor y = true) (ef : ∀ m, entryFrame m as maxL = mkF m 0 Ls [])
    (k : ∀ (p : Program) (e : Env) (s : State) (m : MethodId) (below : List Frame) (meth : Method) (c : Code) (T : State), BodyLoose p l y (head1 (Cond.code y bytes maxL ret :: ws) R) bytes maxL ret e s m as below meth c T → p.tables.exec = Jvm.exec → c.code = bytes → c.maxLocals = maxL → Z.Warmed39 s.vm → s.vm.findClass y.cls = some m.cls → Stand p l e R s m as below meth c T [] 0 0 → T.heap = h0 → Goes p e below (EndQ s Q R.cells R.slots) T (mkF m 0 Ls [])) : OwnLaw l y bytes maxL ret ws R as Z h0 Q := by
  refine MetFree.of_bodySF pf hisR ?_
  intro p e s m args below meth c s₁ Bd hml hP hK
  obtain ⟨rfl, hZ, hh⟩ := hP
  refine Goes.give ?_
  rw [ef m]
  exact k p e s m below meth c s₁ Bd Bd.exec Bd.bytes hml hZ (findClass_of_methodNamed Bd.named) (Stand.of_body Bd) (by rw [← hh, Bd.state]; rfl)
end Jvm.RoadKit
namespace Jvm.RoadKit
open Sem ClassFile Op Lib Jvm.Stand Jvm.Free Jvm.LawKit
section Own2
variable {p : Program} {l : Launch} {e : Env} {R : Room} {s : State} {m : MethodId} {args : Array Value} {below : List Frame} {meth : Method} {c : Code} {T T' : State} {locs : List Loc} {cells slots : Nat} {F : Option Value → State → Prop} {g : JFrame} {Z : State} {a0 : Array Value} {h : Heap}
theorem own_declares {y : MethodName} {bytes : ByteArray} {mx : Nat} {rt : Option FieldType} (wi : (Cond.instanceMethod y).before a0 Z = true) (wc : (Cond.code y bytes mx rt).before a0 Z = true) : (Cond.declares y).before a0 Z = true := by
  obtain ⟨mk, methM, hnamed, hmethM, hst, -⟩ := Cond.instanceMethod_spec wi
  obtain ⟨m2, cM, q1, -, -, -, -, -, -, hsig⟩ := Cond.code_spec hnamed wc
  cases hmethM.symm.trans q1
  simp [Cond.before, Cond.holds, Cond.value, hnamed, hmethM, hst, hsig]
/-- a class that a selected method stands in is no interface -/
theorem own_noFace {C : String} {y z : MethodName} (w : (Cond.selects C y z).before a0 Z = true) {cz : ClassId} (hz : Z.vm.findClass z.cls = some cz) : ∃ k, Z.vm.classes[cz]? = some k ∧ k.isInterface = false := by
  obtain ⟨c2, r2, m2, q1, q2, q3, q4, kP, hkP, hkPi⟩ := Cond.selects_spec w
  have := findClass_of_methodNamed q3
  cases hz.symm.trans this
  exact ⟨kP, hkP, hkPi⟩
theorem own_sameMethod {C : String} {y y' z' : MethodName} (wi : (Cond.instanceMethod y).before a0 Z = true) (w : (Cond.selects C y' z').before a0 Z = true) (hc : z'.cls = y.cls) (hy : y.cls ≠ "java/lang/invoke/MethodHandle" ∧ y.cls ≠ "java/lang/invoke/VarHandle") : (Cond.sameMethod y.cls y.cls y.name y.desc).before a0 Z = true := by
  obtain ⟨mk, methM, hnamed, hmethM, hst, -⟩ := Cond.instanceMethod_spec wi
  have hf := State.methodFound?_of_named hnamed hy
  have hcl := findClass_of_methodNamed hnamed
  obtain ⟨k, hk, hni⟩ := own_noFace w (hc ▸ hcl)
  have hnamed' : Z.methodNamed? ⟨y.cls, y.name, y.desc⟩ = some mk := hnamed
  simp [Cond.before, Cond.holds, Cond.value, hcl, hf, hnamed', hk, hni]
theorem own_notFace {C : String} {y y' z' : MethodName} (w : (Cond.selects C y' z').before a0 s = true) (hc : z'.cls = y.cls) : NotFace s y := fun r0 h0 => by
  obtain ⟨k, hk, hni⟩ := own_noFace w (hc ▸ findClass_of_methodNamed h0)
  exact ⟨k, hk, hni⟩
theorem own_ne_arv {a b : Addr} {C : String} {kk : Nat} {k : ClassId} {ty : FieldType} {z : Int32} {vs : List Value} {dv : Value} (E : Exa Z h a C) (wi : (Cond.instantiable C kk).before a0 Z = true) (V : Arv Z h b k ty z vs dv) : a ≠ b := by
  obtain ⟨cl, A, -⟩ := V
  exact ne_arr E wi A
/-- super.m(..), by its contract -/
theorem Goes.callSup (X : Stand p l e R s m args below meth c T locs cells slots) (hx : p.tables.exec = Jvm.exec) (hZ : Z.Warmed39 s.vm) {own K : String} {index : Nat} {y : MethodName} {bytes : ByteArray} {maxL : Nat} {ret : Option FieldType}
    (hown : s.vm.findClass own = some m.cls) (w1 : (Cond.methodLink own index y).before a0 Z = true) (w2 : (Cond.sameMethod y.cls y.cls y.name y.desc).before a0 Z = true) (w3 : (Cond.instanceMethod y).before a0 Z = true) (w4 : (Cond.superclass own y.cls).before a0 Z = true) (hn : y.name ≠ "<init>")
    {W : Nat} {as' : Array Value} {Qc : Option Value → Heap → List Loc → Prop} {kc' ks' : Nat}
    (hK : Back l R p e below s args y 3 W (fun A a => a = as' ∧ A.U.heap = h ∧ A.cells + kc' ≤ R.cells ∧ A.slots + ks' ≤ R.slots) (fun A _ v B => ∃ L, Qc v B.U.heap L ∧ B.locs = A.locs ++ L ∧ B.cells = A.cells + kc' ∧ B.slots = A.slots + ks'))
    {a : Addr} (eT : T.heap = h) (FI : Ins Z h a K true) (wc : (Cond.code y bytes maxL ret).before a0 Z = true)
    (hg : g.method = m) (hsize : g.locals.size = c.maxLocals) {argsL rest : List Value} (hlen : ∀ sig, parseMethodDescriptor y.desc = some sig → argsL.length = sig.parameters.length)
    (hstack : g.stack = argsL.reverse ++ .ref a :: rest) (hW : 2 * g.monitorRoom + (rest.map fun v => v.category).sum ≤ W) (hdg : decode c.code g.pc = .ok (.invokespecial index, 3)) (ha : (.ref a :: argsL).toArray = as') (hc : cells + kc' ≤ R.cells) (hs : slots + ks' ≤ R.slots)
    (k : ∀ (v : Option Value) (T' : State) (L : List Loc), Qc v T'.heap L → Stand p l e R s m args below meth c T' (locs ++ L) (cells + kc') (slots + ks') → Goes p e below F T' { g with pc := g.pc + 3, stack := v.toList ++ rest }) : Goes p e below F T g := by
  obtain ⟨v, vm₁, ⟨T', L', k', n'⟩, -, X', ⟨L, hQ, h1, h2, h3⟩, st⟩ := superBack X hx hZ hown w1 w2 w3 w4 hn hK eT FI hg hsize wc hlen hstack hW hdg (fun _ _ => ⟨ha, eT, hc, hs⟩)
  dsimp only [Pt.U, Pt.locs, Pt.cells, Pt.slots] at X' h1 h2 h3 st hQ
  subst h1 h2 h3
  exact Goes.step (fun t q => st.trans q) (k v T' L hQ X')
end Own2
end Jvm.RoadKit
namespace Jvm.RoadKit
open Sem ClassFile Op Lib Jvm.Stand Jvm.Free Jvm.LawKit
theorem own_and255 (x : Int32) : ¬ (x &&& 255) < 0 ∧ ¬ (255 : Int32) < (x &&& 255) := by
  have t : ∀ k : Fin 256, ¬ (Int32.ofNat k.val) < 0 ∧ ¬ (255 : Int32) < (Int32.ofNat k.val) := by decide +kernel
  have h : (x &&& 255).toBitVec.toNat < 256 := by
    simp only [Int32.toBitVec_and, BitVec.toNat_and]
    exact Nat.lt_succ_of_le Nat.and_le_right
  have e : (x &&& 255) = Int32.ofNat (x &&& 255).toBitVec.toNat := by
    apply Int32.toBitVec_inj.mp
    show _ = BitVec.ofNat 32 _
    rw [BitVec.ofNat_toNat]; simp
  rw [e]
  exact t ⟨_, h⟩
theorem own_byteOf {c : Int32} (h : ¬ c < 0 ∧ ¬ (255 : Int32) < c) : ∃ k : Fin 256, c = Int32.ofNat k.val := by
  obtain ⟨h1, h2⟩ := h
  rw [Int32.lt_iff_toInt_lt] at h1 h2
  have e0 : (0 : Int32).toInt = 0 := rfl
  have e1 : (255 : Int32).toInt = 255 := rfl
  refine ⟨⟨c.toInt.toNat, by omega⟩, ?_⟩
  apply Int32.toInt_inj.mp
  show c.toInt = (Int32.ofNat c.toInt.toNat).toInt
  rw [Int32.toInt_ofNat_of_lt (by omega)]
  omega
theorem own_nar {c : Int32} (h : ¬ c < 0 ∧ ¬ (255 : Int32) < c) : nar .char c = c := by
  have t : ∀ k : Fin 256, nar .char (Int32.ofNat k.val) = Int32.ofNat k.val := by decide +kernel
  obtain ⟨k, rfl⟩ := own_byteOf h
  exact t k
theorem own_i2c {c : Int32} (h : ¬ c < 0 ∧ ¬ (255 : Int32) < c) : c.toUInt32.toUInt16.toUInt32.toInt32 = c := own_nar h
end Jvm.RoadKit
namespace Jvm.RoadKit
open Sem ClassFile Op Lib Jvm.Stand Jvm.Free Jvm.LawKit
/-- a char of the law's draw: U+0020 to U+005F -/
def Pr (c : Int32) : Prop := ¬ c < 32 ∧ ¬ (95 : Int32) < c
theorem Pr.of {c : Int32} (h : Pr c) : ∃ k : Fin 64, c = Int32.ofNat (32 + k.val) := by
  obtain ⟨h1, h2⟩ := h
  rw [Int32.lt_iff_toInt_lt] at h1 h2
  have e0 : (32 : Int32).toInt = 32 := rfl
  have e1 : (95 : Int32).toInt = 95 := rfl
  refine ⟨⟨c.toInt.toNat - 32, by omega⟩, ?_⟩
  apply Int32.toInt_inj.mp
  show c.toInt = (Int32.ofNat (32 + (c.toInt.toNat - 32))).toInt
  rw [Int32.toInt_ofNat_of_lt (by omega)]
  omega
theorem Pr.all {P : Int32 → Prop} (t : ∀ k : Fin 64, P (Int32.ofNat (32 + k.val))) {c : Int32} (h : Pr c) : P c := by
  obtain ⟨k, rfl⟩ := h.of
  exact t k
theorem Pr.nn {c : Int32} (h : Pr c) : ¬ (c < (0 : Int32)) := Pr.all (P := fun c => ¬ (c < (0 : Int32))) (by decide +kernel) h
theorem Pr.le {c : Int32} (h : Pr c) : ¬ ((255 : Int32) < c) := Pr.all (P := fun c => ¬ ((255 : Int32) < c)) (by decide +kernel) h
theorem Pr.ge {c : Int32} (h : Pr c) : ¬ (c < (32 : Int32)) := h.1
theorem Pr.hs {c : Int32} (h : Pr c) : c < (55296 : Int32) := Pr.all (P := fun c => c < (55296 : Int32)) (by decide +kernel) h
theorem Pr.n1 {c : Int32} (h : Pr c) : ¬ (c = (65534 : Int32)) := Pr.all (P := fun c => ¬ (c = (65534 : Int32))) (by decide +kernel) h
theorem Pr.n2 {c : Int32} (h : Pr c) : ¬ (c = (65535 : Int32)) := Pr.all (P := fun c => ¬ (c = (65535 : Int32))) (by decide +kernel) h
theorem Pr.i2b {c : Int32} (h : Pr c) : (c.toInt8.toInt32) = c := Pr.all (P := fun c => (c.toInt8.toInt32) = c) (by decide +kernel) h
theorem Pr.i2c {c : Int32} (h : Pr c) : c.toUInt32.toUInt16.toUInt32.toInt32 = c := Pr.all (P := fun c => c.toUInt32.toUInt16.toUInt32.toInt32 = c) (by decide +kernel) h
theorem Pr.and {c : Int32} (h : Pr c) : (c &&& (255 : Int32)) = c := Pr.all (P := fun c => (c &&& (255 : Int32)) = c) (by decide +kernel) h
theorem Pr.nc {c : Int32} (h : Pr c) : nar .char c = c := Pr.all (P := fun c => nar .char c = c) (by decide +kernel) h
theorem Pr.nb {c : Int32} (h : Pr c) : nar .byte c = c := Pr.all (P := fun c => nar .byte c = c) (by decide +kernel) h
theorem own_drawn (x : Int32) : Pr ((x &&& (63 : Int32)) + (32 : Int32)) := by
  have t : ∀ k : Fin 64, ¬ (Int32.ofNat k.val + (32 : Int32)) < 32 ∧ ¬ (95 : Int32) < (Int32.ofNat k.val + (32 : Int32)) := by decide +kernel
  have h : (x &&& 63).toBitVec.toNat < 64 := by
    simp only [Int32.toBitVec_and, BitVec.toNat_and]
    exact Nat.lt_succ_of_le Nat.and_le_right
  have e : (x &&& 63) = Int32.ofNat (x &&& 63).toBitVec.toNat := by
    apply Int32.toBitVec_inj.mp
    show _ = BitVec.ofNat 32 _
    rw [BitVec.ofNat_toNat]; simp
  rw [e]
  exact t ⟨_, h⟩
theorem own_rem (x : Int32) {m : Nat} (h0 : 0 < m) (h5 : m ≤ 5) : ∃ r : Nat, r < m ∧ (x &&& (2147483647 : Int32)) % Int32.ofNat m = Int32.ofNat r := by
  have hm : (Int32.ofNat m).toInt = m := Int32.toInt_ofNat_of_lt (by omega)
  have hy : 0 ≤ (x &&& (2147483647 : Int32)).toInt := by
    have h : (x &&& (2147483647 : Int32)).toBitVec.toNat ≤ 2147483647 := by
      simp only [Int32.toBitVec_and, BitVec.toNat_and]
      exact Nat.and_le_right
    show 0 ≤ (x &&& (2147483647 : Int32)).toBitVec.toInt
    rw [BitVec.toInt_eq_toNat_of_lt (by omega)]
    omega
  have hr : ((x &&& (2147483647 : Int32)) % Int32.ofNat m).toInt = (x &&& (2147483647 : Int32)).toInt % (m : Int) := by
    rw [Int32.toInt_mod, hm, Int.tmod_eq_emod_of_nonneg hy]
  have l1 := Int.emod_nonneg (x &&& (2147483647 : Int32)).toInt (show (m : Int) ≠ 0 by omega)
  have l2 := Int.emod_lt_of_pos (x &&& (2147483647 : Int32)).toInt (show (0 : Int) < m by omega)
  refine ⟨((x &&& (2147483647 : Int32)) % Int32.ofNat m).toInt.toNat, by omega, ?_⟩
  apply Int32.toInt_inj.mp
  rw [Int32.toInt_ofNat_of_lt (by omega)]
  omega
theorem own_rem5 (x : Int32) : ∃ o : Nat, o ≤ 4 ∧ ((x &&& (2147483647 : Int32)) % (5 : Int32)) = Int32.ofNat o := by
  obtain ⟨r, h1, h2⟩ := own_rem x (m := 5) (by omega) (by omega)
  exact ⟨r, by omega, h2⟩
theorem own_sub5 {o : Nat} (h : o ≤ 4) : ((5 : Int32) - (Int32.ofNat o)) = Int32.ofNat (5 - o) ∧ ¬ (((5 : Int32) - (Int32.ofNat o)) = (0 : Int32)) := by
  rcases (by omega : o = 0 ∨ o = 1 ∨ o = 2 ∨ o = 3 ∨ o = 4) with rfl | rfl | rfl | rfl | rfl <;> decide
theorem own_remN (x : Int32) {o : Nat} (h : o ≤ 4) : ∃ n : Nat, o + n ≤ 4 ∧ ((x &&& (2147483647 : Int32)) % ((5 : Int32) - (Int32.ofNat o))) = Int32.ofNat n := by
  rw [(own_sub5 h).1]
  obtain ⟨r, h1, h2⟩ := own_rem x (m := 5 - o) (by omega) (by omega)
  exact ⟨r, by omega, h2⟩
/-- what the builder holds behind the two writes -/
def ocs (pr c0 c1 c2 c3 : Int32) (o n : Nat) : List Int32 := pr :: (([c0, c1, c2, c3].drop o).take n)
theorem own_combos {o n : Nat} (h : o + n ≤ 4) : (o = 0 ∧ n = 0) ∨ (o = 0 ∧ n = 1) ∨ (o = 0 ∧ n = 2) ∨ (o = 0 ∧ n = 3) ∨ (o = 0 ∧ n = 4) ∨ (o = 1 ∧ n = 0) ∨ (o = 1 ∧ n = 1) ∨ (o = 1 ∧ n = 2) ∨ (o = 1 ∧ n = 3) ∨ (o = 2 ∧ n = 0) ∨ (o = 2 ∧ n = 1) ∨ (o = 2 ∧ n = 2) ∨ (o = 3 ∧ n = 0) ∨ (o = 3 ∧ n = 1) ∨ (o = 4 ∧ n = 0) := by
  rcases (by omega : o = 0 ∨ o = 1 ∨ o = 2 ∨ o = 3 ∨ o = 4) with rfl | rfl | rfl | rfl | rfl <;> rcases (by omega : n = 0 ∨ n = 1 ∨ n = 2 ∨ n = 3 ∨ n = 4) with rfl | rfl | rfl | rfl | rfl <;> first | (exfalso; omega) | simp
theorem own_ocs {pr c0 c1 c2 c3 : Int32} {o n : Nat} (h : o + n ≤ 4) : (ocs pr c0 c1 c2 c3 o n).length = 1 + n := by
  simp [ocs]; omega
theorem own_ocsPr {pr c0 c1 c2 c3 : Int32} {o n : Nat} (hp : Pr pr) (h0 : Pr c0) (h1 : Pr c1) (h2 : Pr c2) (h3 : Pr c3) : ∀ c ∈ ocs pr c0 c1 c2 c3 o n, Pr c := by
  intro c hc
  have q : c = pr ∨ c ∈ [c0, c1, c2, c3] := by
    rcases List.mem_cons.mp hc with q | q
    · exact Or.inl q
    · exact Or.inr (List.mem_of_mem_drop (List.mem_of_mem_take q))
  simp only [List.mem_cons, List.not_mem_nil, or_false] at q
  rcases q with rfl | rfl | rfl | rfl | rfl <;> assumption
theorem own_outlen {pr c0 c1 c2 c3 : Int32} {o n : Nat} (h : o + n ≤ 4) : (Int32.ofNat (ocs pr c0 c1 c2 c3 o n).length) = ((1 : Int32) + (Int32.ofNat n)) := by
  rw [own_ocs h]; exact Int32.ofNat_add 1 n
theorem own_at {pr c0 c1 c2 c3 i : Int32} {o n k : Nat} (hk : Int32.ofNat k = i) (h : o + n ≤ 4) (h3 : k ≤ 3) (hlt : i < (Int32.ofNat n)) : (¬ ((1 : Int32) + i) < 0 ∧ ((1 : Int32) + i) < (Int32.ofNat (ocs pr c0 c1 c2 c3 o n).length)) ∧ ((ocs pr c0 c1 c2 c3 o n).map Value.int).getD ((1 : Int32) + i).toNatClampNeg (.int (0 : Int32)) = .int ([c0, c1, c2, c3].getD (o + k) 0) ∧
    (¬ ((Int32.ofNat o) + i) < 0 ∧ ((Int32.ofNat o) + i) < (4 : Int32)) ∧ [(.int c0), (.int c1), (.int c2), (.int c3)].getD ((Int32.ofNat o) + i).toNatClampNeg (.int (0 : Int32)) = Value.int ([c0, c1, c2, c3].getD (o + k) 0) := by
  subst hk
  rcases own_combos h with ⟨rfl, rfl⟩ | ⟨rfl, rfl⟩ | ⟨rfl, rfl⟩ | ⟨rfl, rfl⟩ | ⟨rfl, rfl⟩ | ⟨rfl, rfl⟩ | ⟨rfl, rfl⟩ | ⟨rfl, rfl⟩ | ⟨rfl, rfl⟩ | ⟨rfl, rfl⟩ | ⟨rfl, rfl⟩ | ⟨rfl, rfl⟩ | ⟨rfl, rfl⟩ | ⟨rfl, rfl⟩ | ⟨rfl, rfl⟩ <;>
  rcases (by omega : k = 0 ∨ k = 1 ∨ k = 2 ∨ k = 3) with rfl | rfl | rfl | rfl <;>
  first
  | exact absurd hlt (by decide)
  | exact ⟨⟨by decide, by rw [own_ocs (by decide)]; decide⟩, rfl, by decide, rfl⟩
theorem own_n5 {k : Nat} (h : k ≤ 5) : ¬ ((Int32.ofNat k) < (0 : Int32)) ∧ ((Int32.ofNat k) < (8192 : Int32)) ∧ ¬ ((Int32.ofNat k) = (8192 : Int32)) ∧ (Int32.ofNat k).toNatClampNeg = k ∧ ((Int32.ofNat k) - (0 : Int32)) = (Int32.ofNat k) := by
  rcases (by omega : k = 0 ∨ k = 1 ∨ k = 2 ∨ k = 3 ∨ k = 4 ∨ k = 5) with rfl | rfl | rfl | rfl | rfl | rfl <;> decide
theorem own_pos {n : Nat} (h : n ≤ 4) : (0 : Int32) < (Int32.ofNat (1 + n)) := by
  rcases (by omega : n = 0 ∨ n = 1 ∨ n = 2 ∨ n = 3 ∨ n = 4) with rfl | rfl | rfl | rfl | rfl <;> decide
theorem own_room {n : Nat} (h : n ≤ 4) : ¬ ((0 : Int32) < (((1 : Int32) + (Int32.ofNat n)) - (8192 : Int32))) := by
  rcases (by omega : n = 0 ∨ n = 1 ∨ n = 2 ∨ n = 3 ∨ n = 4) with rfl | rfl | rfl | rfl | rfl <;> decide
theorem own_ft {o n : Nat} (h : o + n ≤ 4) : ¬ ((Int32.ofNat o) < (0 : Int32)) ∧ ¬ ((Int32.ofNat (o + n)) < (Int32.ofNat o)) ∧ ¬ ((4 : Int32) < (Int32.ofNat (o + n))) := by
  rcases own_combos h with ⟨rfl, rfl⟩ | ⟨rfl, rfl⟩ | ⟨rfl, rfl⟩ | ⟨rfl, rfl⟩ | ⟨rfl, rfl⟩ | ⟨rfl, rfl⟩ | ⟨rfl, rfl⟩ | ⟨rfl, rfl⟩ | ⟨rfl, rfl⟩ | ⟨rfl, rfl⟩ | ⟨rfl, rfl⟩ | ⟨rfl, rfl⟩ | ⟨rfl, rfl⟩ | ⟨rfl, rfl⟩ | ⟨rfl, rfl⟩ <;> decide
theorem own_copied {cs : List Int32} (h : cs.length ≤ 5) : cs.map Value.int = (List.range (Int32.ofNat cs.length).toNatClampNeg).map fun i => (cs.map Value.int).getD ((0 : Int32).toNatClampNeg + i) (.int (0 : Int32)) := by
  rw [(own_n5 h).2.2.2.1]
  apply List.ext_getElem
  · simp
  · intro i h1 h2
    have hi : i < cs.length := by simpa using h1
    simp [List.getD_eq_getElem?_getD, show (0 : Int32).toNatClampNeg = 0 from rfl, hi]
theorem own_cat {v : Value} (h : v.isRef = true) : v.category = 1 := by cases v <;> first | rfl | (simp [Value.isRef] at h)
/-- a static of a reference type that the tables lay holds a reference -/
theorem own_laysRef {Z : State} {args : Array Value} {O f d : String} {t : FieldType} (hfit : Fit Z) (ht : parseFieldDescriptor d = some t) (href : refSort t = true) (h : (Cond.laysStatic O f d).before args Z = true) : ∃ v, (Term.static O f d).eval args Z none [] Z = some v ∧ v.isRef = true := by
  obtain ⟨c, k, i, fd, a, cell, hc, hf, hst, hsta, hcell, hiss, hcls, hlt, hty⟩ := Cond.laysStatic_spec h
  have hv : cell.slots[fd.slot]? = some cell.slots[fd.slot] := Array.getElem?_eq_getElem hlt
  have hk : Z.vm.classes[c]? = some k := (State.fieldFound?_spec hf).1
  have h1 := hfit hcell hlt
  have h2 : fits t cell.slots[fd.slot] = true := by
    have htt := (State.fieldFound?_type hf ht).2
    cases hvm : cell.vm with
    | statics x => simpa [State.fitsSlot, State.slotType?, hcls, hk, hvm, hty, htt] using h1
    | _ => simp [hvm, VmData.isStatics] at hiss
  refine ⟨cell.slots[fd.slot], by simp [Term.eval, State.fieldNamed?, hf, hst, hsta, hcell, hiss, hv], ?_⟩
  rcases fits_refSort href h2 with e | ⟨x, e⟩ <;> simp [e, Value.isRef]
end Jvm.RoadKit
namespace Jvm.Pilot.@@N@@
open Jvm Jvm.ClassFile Sem Op Lib Jvm.Free Jvm.Stand Jvm.LawKit Jvm.RoadKit Bundle Jvm.Pilot.@@N@@.Jvm.D
theorem own_w {Z : State} {a0 : Array Value} (hw : ∀ d ∈ tables_1, d.before a0 Z = true) (i : Nat) {d : Jvm.Cond} (h : tables_1[i]? = some d) : d.before a0 Z = true := hw d (List.mem_of_getElem? h)
theorem ok {a b : Nat} (h : Nat.ble a b = true) : a ≤ b := Nat.le_of_ble_eq_true h
abbrev y1_ : MethodName := ⟨"com/example/medeweten/medeweten/core/XmlText", "isAllowed", "(C)Z"⟩
abbrev y2_ : MethodName := ⟨"com/example/medeweten/medeweten/core/XmlText", "replaceDisallowed", "(Ljava/lang/StringBuilder;)V"⟩
abbrev y3_ : MethodName := ⟨"com/example/medeweten/medeweten/core/XmlText", "toUtf8", "()[B"⟩
abbrev y4_ : MethodName := ⟨"com/example/medeweten/medeweten/core/XmlText", "write", "(I)V"⟩
abbrev y5_ : MethodName := ⟨"com/example/medeweten/medeweten/core/XmlText", "write", "([CII)V"⟩
abbrev y6_ : MethodName := ⟨"com/example/medeweten/medeweten/core/XmlTextWritePinLaw", "at", "([B[CIII)Z"⟩
abbrev y7_ : MethodName := ⟨"com/example/medeweten/medeweten/core/XmlTextWritePinLaw", "drawn", "(I)C"⟩
abbrev y12_ : MethodName := ⟨"java/lang/AbstractStringBuilder", "appendChars", "([CII)V"⟩
abbrev y14_ : MethodName := ⟨"java/lang/AbstractStringBuilder", "ensureCapacityInternal", "(I)V"⟩
abbrev y15_ : MethodName := ⟨"java/lang/AbstractStringBuilder", "getValue", "()[B"⟩
abbrev y16_ : MethodName := ⟨"java/lang/AbstractStringBuilder", "isLatin1", "()Z"⟩
abbrev y17_ : MethodName := ⟨"java/lang/AbstractStringBuilder", "length", "()I"⟩
abbrev y18_ : MethodName := ⟨"java/lang/Character", "isHighSurrogate", "(C)Z"⟩
abbrev y20_ : MethodName := ⟨"java/lang/Math", "min", "(II)I"⟩
abbrev y24_ : MethodName := ⟨"java/lang/String", "coder", "()B"⟩
abbrev y27_ : MethodName := ⟨"java/lang/String", "getBytes", "(Ljava/nio/charset/Charset;)[B"⟩
abbrev y29_ : MethodName := ⟨"java/lang/StringBuilder", "append", "(C)Ljava/lang/StringBuilder;"⟩
abbrev y30_ : MethodName := ⟨"java/lang/StringBuilder", "append", "([CII)Ljava/lang/StringBuilder;"⟩
abbrev y31_ : MethodName := ⟨"java/lang/StringBuilder", "charAt", "(I)C"⟩
abbrev y32_ : MethodName := ⟨"java/lang/StringBuilder", "length", "()I"⟩
abbrev y33_ : MethodName := ⟨"java/lang/StringBuilder", "toString", "()Ljava/lang/String;"⟩
abbrev y34_ : MethodName := ⟨"java/lang/StringCoding", "countPositives", "([BII)I"⟩
abbrev y36_ : MethodName := ⟨"java/lang/StringLatin1", "canEncode", "(C)Z"⟩
theorem d1_0 : decode method_2_code 0 = .ok (.iload_n 0, 1) := by decide +kernel
theorem d1_1 : decode method_2_code 1 = .ok (.bipush 63, 2) := by decide +kernel
theorem d1_3 : decode method_2_code 3 = .ok (.iand, 1) := by decide +kernel
theorem d1_4 : decode method_2_code 4 = .ok (.bipush 32, 2) := by decide +kernel
theorem d1_6 : decode method_2_code 6 = .ok (.iadd, 1) := by decide +kernel
theorem d1_7 : decode method_2_code 7 = .ok (.i2c, 1) := by decide +kernel
theorem d1_8 : decode method_2_code 8 = .ok (.ireturn, 1) := by decide +kernel
theorem pn_com_example_medeweten_medeweten_core_XmlTextWritePinLaw : plainName "com/example/medeweten/medeweten/core/XmlTextWritePinLaw" = true := by first | (simp [plainName, overriddenIn]; done) | decide +kernel
theorem efDr (q : Int32) (m : MethodId) : entryFrame m #[(.int q)] 1 = mkF m 0 #[.val (.int q)] [] := by first | (simp [entryFrame, mkF, argsToLocals, Value.category]; done) | rfl
def QDr (Z : State) (q : Int32) (h0 : Heap) (n0 : Nat) (v : Option Value) (h : Heap) (L : List Loc) : Prop := ∃ r, v = some (.int r) ∧ Pr r ∧ Fr n0 L ∧ h = h0
set_option maxRecDepth 65536 in
set_option maxHeartbeats 40000000 in
theorem rmDr (l : Launch) (Z : State) (a0 : Array Value) (hw : ∀ d ∈ tables_1, d.before a0 Z = true) (ws : List Jvm.Cond) (q : Int32) (h0 : Heap) (n0 : Nat) (Z0 : n0 ≤ h0.size) (O0 : Old Z n0 h0) :
    OwnLaw l y7_ method_2_code 1 (some .char) ws (rR 0 0 0 0) #[(.int q)] Z h0 (QDr Z q h0 n0) := by
  refine own_enter (plainFor_of_name pn_com_example_medeweten_medeweten_core_XmlTextWritePinLaw) (efDr q) ?_
  intro p e s m below meth c s₁ Bd hx hby hml hZ hown X0 e0
  have N0 := Fr.nil n0
  have K0 : Keep h0 h0 [] := Keep.refl _ _
  have bd := own_drawn q
  refine P1.iloadN X0.here hx (hb hby d1_0) rfl ?_
  refine P1.bipush X0.here hx (63 : Int32) (hb hby d1_1) rfl ?_
  refine P1.iand X0.here hx (hb hby d1_3) ?_
  refine P1.bipush X0.here hx (32 : Int32) (hb hby d1_4) rfl ?_
  refine P1.iadd X0.here hx (hb hby d1_6) ?_
  refine Goes.step (T' := s₁) (g' := (mkF m 8 #[.val (.int q)] [(.int (((q &&& (63 : Int32)) + (32 : Int32)).toUInt32.toUInt16.toUInt32.toInt32))])) (fun t_ k_ => XS.i2c X0.here hx rfl (hb hby d1_7) rfl k_) ?_
  have rw1 : (((q &&& (63 : Int32)) + (32 : Int32)).toUInt32.toUInt16.toUInt32.toInt32) = ((q &&& (63 : Int32)) + (32 : Int32)) := bd.i2c
  rw [rw1]
  refine Goes.retN X0 hx Bd.notSynchronized (t := .char) Bd.returns (by simp) (hb hby d1_8) (ok rfl) (ok rfl) ?_
  rw [e0]
  exact ⟨_, rfl, by rw [bd.nc]; exact bd, N0, rfl⟩
theorem d3_0 : decode jdk_2052_method_2_code 0 = .ok (.aload_n 0, 1) := by decide +kernel
theorem d3_1 : decode jdk_2052_method_2_code 1 = .ok (.invokespecial 7, 3) := by decide +kernel
theorem d3_4 : decode jdk_2052_method_2_code 4 = .ok (.aload_n 0, 1) := by decide +kernel
theorem d3_5 : decode jdk_2052_method_2_code 5 = .ok (.aload_n 0, 1) := by decide +kernel
theorem d3_6 : decode jdk_2052_method_2_code 6 = .ok (.putfield 10, 3) := by decide +kernel
theorem d3_9 : decode jdk_2052_method_2_code 9 = .ok (.return_, 1) := by decide +kernel
theorem pn_java_io_Writer : plainName "java/io/Writer" = true := by first | (simp [plainName, overriddenIn]; done) | decide +kernel
theorem efWI (x : Addr) (m : MethodId) : entryFrame m #[(.ref x)] 1 = mkF m 0 #[.val (.ref x)] [] := by first | (simp [entryFrame, mkF, argsToLocals, Value.category]; done) | rfl
def QWI (Z : State) (x : Addr) (h0 : Heap) (n0 : Nat) (v : Option Value) (h : Heap) (L : List Loc) : Prop := v = none ∧ Fr n0 L ∧ Keep h0 h [x] ∧ Exa Z h x "com/example/medeweten/medeweten/core/XmlText" ∧ Fld Z h x "java/io/Writer" "lock" "Ljava/lang/Object;" (.ref x) ∧ Fld Z h x "com/example/medeweten/medeweten/core/XmlText" "text" "Ljava/lang/StringBuilder;" .null
set_option maxRecDepth 65536 in
set_option maxHeartbeats 40000000 in
theorem rmWI (l : Launch) (Z : State) (a0 : Array Value) (hw : ∀ d ∈ tables_1, d.before a0 Z = true) (ws : List Jvm.Cond) (x : Addr) (h0 : Heap) (n0 : Nat) (Z0 : n0 ≤ h0.size) (O0 : Old Z n0 h0) (gx : n0 ≤ x) (Ex : Exa Z h0 x "com/example/medeweten/medeweten/core/XmlText") (Fl : Fld Z h0 x "java/io/Writer" "lock" "Ljava/lang/Object;" .null) (Ft : Fld Z h0 x "com/example/medeweten/medeweten/core/XmlText" "text" "Ljava/lang/StringBuilder;" .null) :
    OwnLaw l (⟨"java/io/Writer", "<init>", "()V"⟩ : MethodName) jdk_2052_method_2_code 1 none ws (rR 1 0 0 12) #[(.ref x)] Z h0 (QWI Z x h0 n0) := by
  refine own_enter (plainFor_of_name pn_java_io_Writer) (efWI x) ?_
  intro p e s m below meth c s₁ Bd hx hby hml hZ hown X0 e0
  have N0 := Fr.nil n0
  have K0 : Keep h0 h0 [] := Keep.refl _ _
  have K0 : Keep h0 h0 [x] := Keep.refl _ _
  refine P1.aloadN X0.here hx (hb hby d3_0) rfl rfl ?_
  obtain ⟨T2, X2, e2, st2⟩ := initO X0 hx hZ hown (own_w hw 17 rfl) (own_w hw 18 rfl) (own_w hw 19 rfl) e0 (g := (mkF m 1 #[.val (.ref x)] [(.ref x)])) rfl (by rw [hml]; rfl) rfl (hb hby d3_1) (by decide) (W := 0) (by show 2 * 0 + _ ≤ _; exact Nat.le_of_eq rfl) (by decide)
  refine Goes.step (T' := T2) (g' := (mkF m 4 #[.val (.ref x)] [])) st2 ?_
  refine P1.aloadN X2.here hx (hb hby d3_4) rfl rfl ?_
  refine P1.aloadN X2.here hx (hb hby d3_5) rfl rfl ?_
  obtain ⟨T3, h3, X3, e3, W3, st3⟩ := putF X2 hx hZ hown (host := "") (Or.inl (own_w hw 20 rfl)) Via.refl e2 Fl Ex (Or.inl (own_w hw 21 rfl)) (own_w hw 7 rfl) (ty := (.object "java/lang/Object")) (by decide) rfl rfl (g := (mkF m 6 #[.val (.ref x)] [(.ref x), (.ref x)])) rfl rfl (hb hby d3_6)
  have Fw3 : Fld Z h3 x "java/io/Writer" "lock" "Ljava/lang/Object;" (.ref x) := Fl.same W3
  have N3 := Fr.snoc X3 N0 gx
  refine Goes.step (T' := T3) (g' := (mkF m 9 #[.val (.ref x)] [])) st3 ?_
  refine Goes.retV X3 hx Bd.notSynchronized Bd.returns (hb hby d3_9) (ok rfl) (ok rfl) ?_
  rw [e3]
  have K4 : Keep h0 h3 [x] := K0.wr W3 (Or.inl (by simp))
  have E5 : Exa Z h3 x "com/example/medeweten/medeweten/core/XmlText" := Ex.wr W3
  have F6 : Fld Z h3 x "com/example/medeweten/medeweten/core/XmlText" "text" "Ljava/lang/StringBuilder;" .null := Ft.other W3 (Or.inr (slot_ne (Or.inr (own_w hw 43 rfl)) (Or.inl (own_w hw 21 rfl)) (by decide) (t := (.object "java/lang/StringBuilder")) (t' := (.object "java/lang/Object")) (by decide) (by decide)))
  exact ⟨rfl, N3, K4, E5, Fw3, F6⟩
theorem d6_0 : decode jdk_68_method_2_code 0 = .ok (.aload_n 0, 1) := by decide +kernel
theorem d6_1 : decode jdk_68_method_2_code 1 = .ok (.invokespecial 3, 3) := by decide +kernel
theorem d6_4 : decode jdk_68_method_2_code 4 = .ok (.getstatic 18, 3) := by decide +kernel
theorem d6_7 : decode jdk_68_method_2_code 7 = .ok (.ifCond .eq 18, 3) := by decide +kernel
theorem d6_10 : decode jdk_68_method_2_code 10 = .ok (.aload_n 0, 1) := by decide +kernel
theorem d6_11 : decode jdk_68_method_2_code 11 = .ok (.iload_n 1, 1) := by decide +kernel
theorem d6_12 : decode jdk_68_method_2_code 12 = .ok (.newarray .byte, 2) := by decide +kernel
theorem d6_14 : decode jdk_68_method_2_code 14 = .ok (.putfield 15, 3) := by decide +kernel
theorem d6_17 : decode jdk_68_method_2_code 17 = .ok (.aload_n 0, 1) := by decide +kernel
theorem d6_18 : decode jdk_68_method_2_code 18 = .ok (.iconst 0, 1) := by decide +kernel
theorem d6_19 : decode jdk_68_method_2_code 19 = .ok (.putfield 22, 3) := by decide +kernel
theorem d6_22 : decode jdk_68_method_2_code 22 = .ok (.goto 16, 3) := by decide +kernel
theorem d6_25 : decode jdk_68_method_2_code 25 = .ok (.aload_n 0, 1) := by decide +kernel
theorem d6_26 : decode jdk_68_method_2_code 26 = .ok (.iload_n 1, 1) := by decide +kernel
theorem d6_27 : decode jdk_68_method_2_code 27 = .ok (.invokestatic 26, 3) := by decide +kernel
theorem d6_30 : decode jdk_68_method_2_code 30 = .ok (.putfield 15, 3) := by decide +kernel
theorem d6_33 : decode jdk_68_method_2_code 33 = .ok (.aload_n 0, 1) := by decide +kernel
theorem d6_34 : decode jdk_68_method_2_code 34 = .ok (.iconst 1, 1) := by decide +kernel
theorem d6_35 : decode jdk_68_method_2_code 35 = .ok (.putfield 22, 3) := by decide +kernel
theorem d6_38 : decode jdk_68_method_2_code 38 = .ok (.return_, 1) := by decide +kernel
theorem pn_java_lang_AbstractStringBuilder : plainName "java/lang/AbstractStringBuilder" = true := by first | (simp [plainName, overriddenIn]; done) | decide +kernel
theorem efAI (x : Addr) (m : MethodId) : entryFrame m #[(.ref x), (.int (8192 : Int32))] 2 = mkF m 0 #[.val (.ref x), .val (.int (8192 : Int32))] [] := by first | (simp [entryFrame, mkF, argsToLocals, Value.category]; done) | rfl
def QAI (Z : State) (x : Addr) (zc : Int32) (fm fi : Value) (u8 : Addr) (h0 : Heap) (n0 : Nat) (v : Option Value) (h : Heap) (L : List Loc) : Prop := ∃ t kt, v = none ∧ Fr n0 L ∧ Keep h0 h [x] ∧ h0.size ≤ t ∧ Exa Z h x "java/lang/StringBuilder" ∧ Fld Z h x "java/lang/AbstractStringBuilder" "value" "[B" (.ref t) ∧ Fld Z h x "java/lang/AbstractStringBuilder" "coder" "B" (.int (0 : Int32)) ∧ Fld Z h x "java/lang/AbstractStringBuilder" "count" "I" (.int (0 : Int32)) ∧ Arv Z h t kt .byte (8192 : Int32) [] (.int (0 : Int32))
set_option maxRecDepth 65536 in
set_option maxHeartbeats 40000000 in
theorem rmAI (l : Launch) (Z : State) (a0 : Array Value) (hw : ∀ d ∈ tables_1, d.before a0 Z = true) (ws : List Jvm.Cond) (x : Addr) (zc : Int32) (fm fi : Value) (u8 : Addr) (h0 : Heap) (n0 : Nat) (Z0 : n0 ≤ h0.size) (O0 : Old Z n0 h0) (S_CS : Sta Z Z.heap "java/lang/String" "COMPACT_STRINGS" "Z" (.int zc)) (hzc : ¬ zc = 0) (S_FM : Sta Z Z.heap "jdk/internal/util/Preconditions" "SIOOBE_FORMATTER" "Ljava/util/function/BiFunction;" fm) (hfm : fm.isRef = true) (S_FI : Sta Z Z.heap "jdk/internal/util/Preconditions" "IOOBE_FORMATTER" "Ljava/util/function/BiFunction;" fi) (hfi : fi.isRef = true) (S_IN : Sta Z Z.heap "sun/nio/cs/UTF_8" "INSTANCE" "Lsun/nio/cs/UTF_8;" (.ref u8)) (S_U8 : Sta Z Z.heap "java/nio/charset/StandardCharsets" "UTF_8" "Ljava/nio/charset/Charset;" (.ref u8)) (gx : n0 ≤ x) (Ex : Exa Z h0 x "java/lang/StringBuilder") (Fv : Fld Z h0 x "java/lang/AbstractStringBuilder" "value" "[B" .null) (Fc : Fld Z h0 x "java/lang/AbstractStringBuilder" "coder" "B" (.int (0 : Int32))) (Fn : Fld Z h0 x "java/lang/AbstractStringBuilder" "count" "I" (.int (0 : Int32))) :
    OwnLaw l (⟨"java/lang/AbstractStringBuilder", "<init>", "(I)V"⟩ : MethodName) jdk_68_method_2_code 2 none ws (rR 1 1 8192 12) #[(.ref x), (.int (8192 : Int32))] Z h0 (QAI Z x zc fm fi u8 h0 n0) := by
  refine own_enter (plainFor_of_name pn_java_lang_AbstractStringBuilder) (efAI x) ?_
  intro p e s m below meth c s₁ Bd hx hby hml hZ hown X0 e0
  have N0 := Fr.nil n0
  have K0 : Keep h0 h0 [] := Keep.refl _ _
  have K0 : Keep h0 h0 [x] := Keep.refl _ _
  refine P1.aloadN X0.here hx (hb hby d6_0) rfl rfl ?_
  obtain ⟨T7, X7, e7, st7⟩ := initO X0 hx hZ hown (own_w hw 34 rfl) (own_w hw 18 rfl) (own_w hw 19 rfl) e0 (g := (mkF m 1 #[.val (.ref x), .val (.int (8192 : Int32))] [(.ref x)])) rfl (by rw [hml]; rfl) rfl (hb hby d6_1) (by decide) (W := 0) (by show 2 * 0 + _ ≤ _; exact Nat.le_of_eq rfl) (by decide)
  refine Goes.step (T' := T7) (g' := (mkF m 4 #[.val (.ref x), .val (.int (8192 : Int32))] [])) st7 ?_
  obtain ⟨T8, X8, e8, st8⟩ := getS2 X7 hx hZ hown (host := "") (Or.inl (own_w hw 35 rfl)) Via.refl e7 (S_CS.ext O0.2) (g := (mkF m 4 #[.val (.ref x), .val (.int (8192 : Int32))] [])) rfl (hb hby d6_4)
  refine Goes.step (T' := T8) (g' := (mkF m 7 #[.val (.ref x), .val (.int (8192 : Int32))] [(.int zc)])) st8 ?_
  refine P1.ifNo X8.here hx (hb hby d6_7) ((if0 _ _).trans (feq (hzc : ¬ (zc = (0 : Int32)))).1) ?_
  refine P1.aloadN X8.here hx (hb hby d6_10) rfl rfl ?_
  refine P1.iloadN X8.here hx (hb hby d6_11) rfl ?_
  obtain ⟨T9, h9, k9, X9, e9, E9, A9, st9⟩ := newP X8 hx hZ (own_w hw 37 rfl) e8 (g := (mkF m 12 #[.val (.ref x), .val (.int (8192 : Int32))] [(.int (8192 : Int32)), (.ref x)])) rfl (hb hby d6_12) rfl (by decide) (cap := 8192) (ok rfl) (ok rfl) (ok rfl) (ok rfl)
  obtain ⟨b9, g9⟩ : ∃ z, z = h0.size := ⟨_, rfl⟩
  rw [← g9] at A9 st9
  have ge_b9 : n0 ≤ b9 := Nat.le_trans Z0 (Nat.le_of_eq g9.symm)
  have sz_b9 : h0.size ≤ b9 := Nat.le_trans K0.1 (Nat.le_of_eq g9.symm)
  have V9 : Arv Z h9 b9 k9 .byte (8192 : Int32) [] (.int (0 : Int32)) := Arv.new A9 (by decide)
  refine Goes.step (T' := T9) (g' := (mkF m 14 #[.val (.ref x), .val (.int (8192 : Int32))] [(.ref b9), (.ref x)])) st9 ?_
  have F10 : Fld Z h9 x "java/lang/AbstractStringBuilder" "value" "[B" .null := Fv.ext E9
  have E11 : Exa Z h9 x "java/lang/StringBuilder" := Ex.ext E9
  obtain ⟨T12, h12, X12, e12, W12, st12⟩ := putF X9 hx hZ hown (host := "") (Or.inl (own_w hw 38 rfl)) Via.refl e9 F10 E11 (Or.inl (own_w hw 39 rfl)) (own_w hw 23 rfl) (ty := (.array .byte)) (by decide) rfl rfl (g := (mkF m 14 #[.val (.ref x), .val (.int (8192 : Int32))] [(.ref b9), (.ref x)])) rfl rfl (hb hby d6_14)
  have Fw12 : Fld Z h12 x "java/lang/AbstractStringBuilder" "value" "[B" (.ref b9) := F10.same W12
  have N12 := Fr.snoc X12 N0 gx
  refine Goes.step (T' := T12) (g' := (mkF m 17 #[.val (.ref x), .val (.int (8192 : Int32))] [])) st12 ?_
  refine P1.aloadN X12.here hx (hb hby d6_17) rfl rfl ?_
  refine P1.iconst X12.here hx (0 : Int32) (hb hby d6_18) rfl ?_
  have F13 : Fld Z h9 x "java/lang/AbstractStringBuilder" "coder" "B" (.int (0 : Int32)) := Fc.ext E9
  have F14 : Fld Z h12 x "java/lang/AbstractStringBuilder" "coder" "B" (.int (0 : Int32)) := F13.other W12 (Or.inr (slot_ne (Or.inl (own_w hw 41 rfl)) (Or.inl (own_w hw 39 rfl)) (by decide) (t := .byte) (t' := (.array .byte)) (by decide) (by decide)))
  have E15 : Exa Z h12 x "java/lang/StringBuilder" := E11.wr W12
  obtain ⟨T16, h16, X16, e16, W16, st16⟩ := putFN X12 hx hZ hown (own_w hw 40 rfl) Via.refl e12 F14 E15 (Or.inl (own_w hw 41 rfl)) (own_w hw 23 rfl) (ty := .byte) (v' := (.int (0 : Int32))) (by decide) rfl (by decide) (g := (mkF m 19 #[.val (.ref x), .val (.int (8192 : Int32))] [(.int (0 : Int32)), (.ref x)])) rfl rfl (hb hby d6_19)
  have Fw16 : Fld Z h16 x "java/lang/AbstractStringBuilder" "coder" "B" (.int (0 : Int32)) := F14.same W16
  have N16 := Fr.snoc X16 N12 gx
  refine Goes.step (T' := T16) (g' := (mkF m 22 #[.val (.ref x), .val (.int (8192 : Int32))] [])) st16 ?_
  refine P1.goto X16.here hx 38 (hb hby d6_22) (by decide) (by decide) ?_
  refine Goes.retV X16 hx Bd.notSynchronized Bd.returns (hb hby d6_38) (ok rfl) (ok rfl) ?_
  rw [e16]
  have K17 : Keep h0 h9 [x] := K0.ext E9
  have K18 : Keep h0 h12 [x] := K17.wr W12 (Or.inl (by simp))
  have K19 : Keep h0 h16 [x] := K18.wr W16 (Or.inl (by simp))
  have E20 : Exa Z h16 x "java/lang/StringBuilder" := E15.wr W16
  have F21 : Fld Z h16 x "java/lang/AbstractStringBuilder" "value" "[B" (.ref b9) := Fw12.other W16 (Or.inr (slot_ne (Or.inl (own_w hw 39 rfl)) (Or.inl (own_w hw 41 rfl)) (by decide) (t := (.array .byte)) (t' := .byte) (by decide) (by decide)))
  have F22 : Fld Z h9 x "java/lang/AbstractStringBuilder" "count" "I" (.int (0 : Int32)) := Fn.ext E9
  have F23 : Fld Z h12 x "java/lang/AbstractStringBuilder" "count" "I" (.int (0 : Int32)) := F22.other W12 (Or.inr (slot_ne (Or.inl (own_w hw 60 rfl)) (Or.inl (own_w hw 39 rfl)) (by decide) (t := .int) (t' := (.array .byte)) (by decide) (by decide)))
  have F24 : Fld Z h16 x "java/lang/AbstractStringBuilder" "count" "I" (.int (0 : Int32)) := F23.other W16 (Or.inr (slot_ne (Or.inl (own_w hw 60 rfl)) (Or.inl (own_w hw 41 rfl)) (by decide) (t := .int) (t' := .byte) (by decide) (by decide)))
  have ne25 : x ≠ b9 := Nat.ne_of_lt (Nat.lt_of_lt_of_le Ex.lt (Nat.le_of_eq g9.symm))
  have V26 : Arv Z h12 b9 k9 .byte (8192 : Int32) [] (.int (0 : Int32)) := V9.other W12 (Ne.symm ne25)
  have V27 : Arv Z h16 b9 k9 .byte (8192 : Int32) [] (.int (0 : Int32)) := V26.other W16 (Ne.symm ne25)
  exact ⟨b9, k9, rfl, N16, K19, sz_b9, E20, F21, Fw16, F24, V27⟩
theorem d5_0 : decode jdk_67_method_2_code 0 = .ok (.aload_n 0, 1) := by decide +kernel
theorem d5_1 : decode jdk_67_method_2_code 1 = .ok (.iload_n 1, 1) := by decide +kernel
theorem d5_2 : decode jdk_67_method_2_code 2 = .ok (.invokespecial 1, 3) := by decide +kernel
theorem d5_5 : decode jdk_67_method_2_code 5 = .ok (.return_, 1) := by decide +kernel
theorem pn_java_lang_StringBuilder : plainName "java/lang/StringBuilder" = true := by first | (simp [plainName, overriddenIn]; done) | decide +kernel
theorem pd_653 : parseMethodDescriptor "(I)V" = some ⟨[.int], none⟩ := by decide +kernel
theorem efBI (x : Addr) (m : MethodId) : entryFrame m #[(.ref x), (.int (8192 : Int32))] 2 = mkF m 0 #[.val (.ref x), .val (.int (8192 : Int32))] [] := by first | (simp [entryFrame, mkF, argsToLocals, Value.category]; done) | rfl
def QBI (Z : State) (x : Addr) (zc : Int32) (fm fi : Value) (u8 : Addr) (h0 : Heap) (n0 : Nat) (v : Option Value) (h : Heap) (L : List Loc) : Prop := ∃ t kt, v = none ∧ Fr n0 L ∧ Keep h0 h [x] ∧ h0.size ≤ t ∧ Exa Z h x "java/lang/StringBuilder" ∧ Fld Z h x "java/lang/AbstractStringBuilder" "value" "[B" (.ref t) ∧ Fld Z h x "java/lang/AbstractStringBuilder" "coder" "B" (.int (0 : Int32)) ∧ Fld Z h x "java/lang/AbstractStringBuilder" "count" "I" (.int (0 : Int32)) ∧ Arv Z h t kt .byte (8192 : Int32) [] (.int (0 : Int32))
set_option maxRecDepth 65536 in
set_option maxHeartbeats 40000000 in
theorem rmBI (l : Launch) (Z : State) (a0 : Array Value) (hw : ∀ d ∈ tables_1, d.before a0 Z = true) (ws : List Jvm.Cond) (x : Addr) (zc : Int32) (fm fi : Value) (u8 : Addr) (h0 : Heap) (n0 : Nat) (Z0 : n0 ≤ h0.size) (O0 : Old Z n0 h0) (S_CS : Sta Z Z.heap "java/lang/String" "COMPACT_STRINGS" "Z" (.int zc)) (hzc : ¬ zc = 0) (S_FM : Sta Z Z.heap "jdk/internal/util/Preconditions" "SIOOBE_FORMATTER" "Ljava/util/function/BiFunction;" fm) (hfm : fm.isRef = true) (S_FI : Sta Z Z.heap "jdk/internal/util/Preconditions" "IOOBE_FORMATTER" "Ljava/util/function/BiFunction;" fi) (hfi : fi.isRef = true) (S_IN : Sta Z Z.heap "sun/nio/cs/UTF_8" "INSTANCE" "Lsun/nio/cs/UTF_8;" (.ref u8)) (S_U8 : Sta Z Z.heap "java/nio/charset/StandardCharsets" "UTF_8" "Ljava/nio/charset/Charset;" (.ref u8)) (gx : n0 ≤ x) (Ex : Exa Z h0 x "java/lang/StringBuilder") (Fv : Fld Z h0 x "java/lang/AbstractStringBuilder" "value" "[B" .null) (Fc : Fld Z h0 x "java/lang/AbstractStringBuilder" "coder" "B" (.int (0 : Int32))) (Fn : Fld Z h0 x "java/lang/AbstractStringBuilder" "count" "I" (.int (0 : Int32))) :
    OwnLaw l (⟨"java/lang/StringBuilder", "<init>", "(I)V"⟩ : MethodName) jdk_67_method_2_code 2 none ws (rR 2 1 8192 25) #[(.ref x), (.int (8192 : Int32))] Z h0 (QBI Z x zc fm fi u8 h0 n0) := by
  refine own_enter (plainFor_of_name pn_java_lang_StringBuilder) (efBI x) ?_
  intro p e s m below meth c s₁ Bd hx hby hml hZ hown X0 e0
  have N0 := Fr.nil n0
  have K0 : Keep h0 h0 [] := Keep.refl _ _
  have K0 : Keep h0 h0 [x] := Keep.refl _ _
  refine P1.aloadN X0.here hx (hb hby d5_0) rfl rfl ?_
  refine P1.iloadN X0.here hx (hb hby d5_1) rfl ?_
  refine Goes.callC X0 hx (y := (⟨"java/lang/AbstractStringBuilder", "<init>", "(I)V"⟩ : MethodName)) rfl hown (mvT hZ (own_w hw 28 rfl)) (mvT hZ (own_w hw 29 rfl)) (mvT hZ (own_w hw 33 rfl)) (by decide) (kc' := 1) (ks' := 8192) (backOf (W := 0) (rmAI l Z a0 hw [] x zc fm fi u8 h0 n0 Z0 O0 S_CS hzc S_FM hfm S_FI hfi S_IN S_U8 gx Ex Fv Fc Fn) hZ (own_w hw 33 rfl) (own_w hw 32 rfl) (ok rfl) (ok rfl)) (g := (mkF m 2 #[.val (.ref x), .val (.int (8192 : Int32))] [(.int (8192 : Int32)), (.ref x)])) (a := x) rfl (by rw [hml]; rfl) (argsL := [(.int (8192 : Int32))]) (rest := []) (lenOf pd_653 rfl) rfl (by show 2 * 0 + _ ≤ _; exact Nat.le_of_eq rfl) (hb hby d5_2) rfl e0 (ok rfl) (ok rfl) ?_
  intro v28 T28 L28 q28 X28
  obtain ⟨t28, kt28, rfl, N28q, K28, szt28, g28E, g28v, g28c, g28n, g28V⟩ := q28
  have ge_t28 : n0 ≤ t28 := Nat.le_trans Z0 szt28
  have sz_t28 : h0.size ≤ t28 := Nat.le_trans K0.1 szt28
  have N28 := Fr.app N0 N28q
  show Goes p e below _ T28 (mkF m 5 #[.val (.ref x), .val (.int (8192 : Int32))] [])
  refine Goes.retV X28 hx Bd.notSynchronized Bd.returns (hb hby d5_5) (ok rfl) (ok rfl) ?_
  have K29 : Keep h0 T28.heap [x] := K0.trans K28 (allS (Or.inl (by simp)) all0)
  exact ⟨t28, kt28, rfl, N28, K29, sz_t28, g28E, g28v, g28c, g28n, g28V⟩
theorem d2_0 : decode prog_46_method_1_code 0 = .ok (.aload_n 0, 1) := by decide +kernel
theorem d2_1 : decode prog_46_method_1_code 1 = .ok (.invokespecial 1, 3) := by decide +kernel
theorem d2_4 : decode prog_46_method_1_code 4 = .ok (.aload_n 0, 1) := by decide +kernel
theorem d2_5 : decode prog_46_method_1_code 5 = .ok (.new 7, 3) := by decide +kernel
theorem d2_8 : decode prog_46_method_1_code 8 = .ok (.dup, 1) := by decide +kernel
theorem d2_9 : decode prog_46_method_1_code 9 = .ok (.sipush 8192, 3) := by decide +kernel
theorem d2_12 : decode prog_46_method_1_code 12 = .ok (.invokespecial 9, 3) := by decide +kernel
theorem d2_15 : decode prog_46_method_1_code 15 = .ok (.putfield 12, 3) := by decide +kernel
theorem d2_18 : decode prog_46_method_1_code 18 = .ok (.return_, 1) := by decide +kernel
theorem pn_com_example_medeweten_medeweten_core_XmlText : plainName "com/example/medeweten/medeweten/core/XmlText" = true := by first | (simp [plainName, overriddenIn]; done) | decide +kernel
theorem pd_380 : parseMethodDescriptor "()V" = some ⟨[], none⟩ := by decide +kernel
theorem efXI (x : Addr) (m : MethodId) : entryFrame m #[(.ref x)] 1 = mkF m 0 #[.val (.ref x)] [] := by first | (simp [entryFrame, mkF, argsToLocals, Value.category]; done) | rfl
def QXI (Z : State) (x : Addr) (zc : Int32) (fm fi : Value) (u8 : Addr) (h0 : Heap) (n0 : Nat) (v : Option Value) (h : Heap) (L : List Loc) : Prop := ∃ sx t kt, v = none ∧ Fr n0 L ∧ Keep h0 h [x] ∧ h0.size ≤ sx ∧ h0.size ≤ t ∧ Exa Z h x "com/example/medeweten/medeweten/core/XmlText" ∧ Fld Z h x "com/example/medeweten/medeweten/core/XmlText" "text" "Ljava/lang/StringBuilder;" (.ref sx) ∧ Exa Z h sx "java/lang/StringBuilder" ∧ Fld Z h sx "java/lang/AbstractStringBuilder" "value" "[B" (.ref t) ∧ Fld Z h sx "java/lang/AbstractStringBuilder" "coder" "B" (.int (0 : Int32)) ∧ Fld Z h sx "java/lang/AbstractStringBuilder" "count" "I" (.int (0 : Int32)) ∧ Arv Z h t kt .byte (8192 : Int32) [] (.int (0 : Int32))
set_option maxRecDepth 65536 in
set_option maxHeartbeats 40000000 in
theorem rmXI (l : Launch) (Z : State) (a0 : Array Value) (hw : ∀ d ∈ tables_1, d.before a0 Z = true) (ws : List Jvm.Cond) (x : Addr) (zc : Int32) (fm fi : Value) (u8 : Addr) (h0 : Heap) (n0 : Nat) (Z0 : n0 ≤ h0.size) (O0 : Old Z n0 h0) (S_CS : Sta Z Z.heap "java/lang/String" "COMPACT_STRINGS" "Z" (.int zc)) (hzc : ¬ zc = 0) (S_FM : Sta Z Z.heap "jdk/internal/util/Preconditions" "SIOOBE_FORMATTER" "Ljava/util/function/BiFunction;" fm) (hfm : fm.isRef = true) (S_FI : Sta Z Z.heap "jdk/internal/util/Preconditions" "IOOBE_FORMATTER" "Ljava/util/function/BiFunction;" fi) (hfi : fi.isRef = true) (S_IN : Sta Z Z.heap "sun/nio/cs/UTF_8" "INSTANCE" "Lsun/nio/cs/UTF_8;" (.ref u8)) (S_U8 : Sta Z Z.heap "java/nio/charset/StandardCharsets" "UTF_8" "Ljava/nio/charset/Charset;" (.ref u8)) (gx : n0 ≤ x) (Ex : Exa Z h0 x "com/example/medeweten/medeweten/core/XmlText") (Fl : Fld Z h0 x "java/io/Writer" "lock" "Ljava/lang/Object;" .null) (Ft : Fld Z h0 x "com/example/medeweten/medeweten/core/XmlText" "text" "Ljava/lang/StringBuilder;" .null) :
    OwnLaw l (⟨"com/example/medeweten/medeweten/core/XmlText", "<init>", "()V"⟩ : MethodName) prog_46_method_1_code 1 none ws (rR 3 2 8196 40) #[(.ref x)] Z h0 (QXI Z x zc fm fi u8 h0 n0) := by
  refine own_enter (plainFor_of_name pn_com_example_medeweten_medeweten_core_XmlText) (efXI x) ?_
  intro p e s m below meth c s₁ Bd hx hby hml hZ hown X0 e0
  have hnm := (name_of_methodNamed Bd.named Bd.method).1
  have N0 := Fr.nil n0
  have K0 : Keep h0 h0 [] := Keep.refl _ _
  have K0 : Keep h0 h0 [x] := Keep.refl _ _
  refine P1.aloadN X0.here hx (hb hby d2_0) rfl rfl ?_
  refine Goes.callC X0 hx (y := (⟨"java/io/Writer", "<init>", "()V"⟩ : MethodName)) rfl hown (mvT hZ (own_w hw 12 rfl)) (mvT hZ (own_w hw 13 rfl)) (mvT hZ (own_w hw 16 rfl)) (by decide) (kc' := 0) (ks' := 0) (backOf (W := 0) (rmWI l Z a0 hw [] x h0 n0 Z0 O0 gx Ex Fl Ft) hZ (own_w hw 16 rfl) (own_w hw 15 rfl) (ok rfl) (ok rfl)) (g := (mkF m 1 #[.val (.ref x)] [(.ref x)])) (a := x) rfl (by rw [hml]; rfl) (argsL := []) (rest := []) (lenOf pd_380 rfl) rfl (by show 2 * 0 + _ ≤ _; exact Nat.le_of_eq rfl) (hb hby d2_1) rfl e0 (ok rfl) (ok rfl) ?_
  intro v30 T30 L30 q30 X30
  obtain ⟨rfl, N30q, K30, g30E, g30l, g30t⟩ := q30
  have N30 := Fr.app N0 N30q
  show Goes p e below _ T30 (mkF m 4 #[.val (.ref x)] [])
  refine P1.aloadN X30.here hx (hb hby d2_4) rfl rfl ?_
  obtain ⟨T31, h31, X31, e31, E31, A31, D31, -, st31⟩ := newO X30 hx hZ hown (own_w hw 22 rfl) (own_w hw 23 rfl) (own_w hw 24 rfl) rfl (g := (mkF m 5 #[.val (.ref x)] [(.ref x)])) rfl (hb hby d2_5) (ok rfl) (ok rfl)
  have Z32 : n0 ≤ T30.heap.size := Nat.le_trans Z0 K30.1
  have K33 : Keep h0 T30.heap [x] := K0.trans K30 (allS (Or.inl (by simp)) all0)
  obtain ⟨b31, g31⟩ : ∃ z, z = T30.heap.size := ⟨_, rfl⟩
  rw [← g31] at A31 D31 st31
  have ge_b31 : n0 ≤ b31 := Nat.le_trans Z32 (Nat.le_of_eq g31.symm)
  have sz_b31 : h0.size ≤ b31 := Nat.le_trans K33.1 (Nat.le_of_eq g31.symm)
  have F31_value : Fld Z h31 b31 "java/lang/AbstractStringBuilder" "value" "[B" .null := D31 (Or.inl (own_w hw 39 rfl)) (ty := (.array .byte)) (by decide)
  have F31_coder : Fld Z h31 b31 "java/lang/AbstractStringBuilder" "coder" "B" (.int (0 : Int32)) := D31 (Or.inl (own_w hw 41 rfl)) (ty := .byte) (by decide)
  have F31_count : Fld Z h31 b31 "java/lang/AbstractStringBuilder" "count" "I" (.int (0 : Int32)) := D31 (Or.inl (own_w hw 60 rfl)) (ty := .int) (by decide)
  refine Goes.step (T' := T31) (g' := (mkF m 8 #[.val (.ref x)] [(.ref b31), (.ref x)])) st31 ?_
  refine P1.dup X31.here hx (hb hby d2_8) rfl ?_
  refine P1.sipush X31.here hx (8192 : Int32) (hb hby d2_9) rfl ?_
  have K34 : Keep h0 h31 [x] := K33.ext E31
  have Z35 : n0 ≤ h31.size := Nat.le_trans Z32 E31.1
  have O36 : Old Z n0 T30.heap := O0.keep K30 (allS gx all0)
  have O37 : Old Z n0 h31 := O36.ext E31
  refine Goes.callC X31 hx (y := (⟨"java/lang/StringBuilder", "<init>", "(I)V"⟩ : MethodName)) rfl hown (mvT hZ (own_w hw 25 rfl)) (mvT hZ (own_w hw 26 rfl)) (mvT hZ (own_w hw 27 rfl)) (by decide) (kc' := 1) (ks' := 8192) (backOf (W := 2) (rmBI l Z a0 hw [] b31 zc fm fi u8 h31 n0 Z35 O37 S_CS hzc S_FM hfm S_FI hfi S_IN S_U8 ge_b31 A31 F31_value F31_coder F31_count) hZ (own_w hw 27 rfl) (own_w hw 24 rfl) (ok rfl) (ok rfl)) (g := (mkF m 12 #[.val (.ref x)] [(.int (8192 : Int32)), (.ref b31), (.ref b31), (.ref x)])) (a := b31) rfl (by rw [hml]; rfl) (argsL := [(.int (8192 : Int32))]) (rest := [(.ref b31), (.ref x)]) (lenOf pd_653 rfl) rfl (by show 2 * 0 + _ ≤ _; exact Nat.le_of_eq rfl) (hb hby d2_12) rfl e31 (ok rfl) (ok rfl) ?_
  intro v38 T38 L38 q38 X38
  obtain ⟨t38, kt38, rfl, N38q, K38, szt38, g38E, g38v, g38c, g38n, g38V⟩ := q38
  have ge_t38 : n0 ≤ t38 := Nat.le_trans Z35 szt38
  have sz_t38 : h0.size ≤ t38 := Nat.le_trans K34.1 szt38
  have N38 := Fr.app N30 N38q
  show Goes p e below _ T38 (mkF m 15 #[.val (.ref x)] [(.ref b31), (.ref x)])
  have F39 : Fld Z h31 x "com/example/medeweten/medeweten/core/XmlText" "text" "Ljava/lang/StringBuilder;" .null := g30t.ext E31
  have ne40 : x ≠ b31 := Nat.ne_of_lt (Nat.lt_of_lt_of_le g30E.lt (Nat.le_of_eq g31.symm))
  have F41 : Fld Z T38.heap x "com/example/medeweten/medeweten/core/XmlText" "text" "Ljava/lang/StringBuilder;" .null := F39.keep K38 (ninS ne40 nin0)
  have E42 : Exa Z h31 x "com/example/medeweten/medeweten/core/XmlText" := g30E.ext E31
  have E43 : Exa Z T38.heap x "com/example/medeweten/medeweten/core/XmlText" := E42.keep K38
  obtain ⟨T44, h44, X44, e44, W44, st44⟩ := putF X38 hx hZ hown (host := "") (Or.inl (own_w hw 42 rfl)) Via.refl rfl F41 E43 (Or.inr ⟨(own_w hw 43 rfl), rfl, hnm⟩) (own_w hw 7 rfl) (ty := (.object "java/lang/StringBuilder")) (by decide) rfl rfl (g := (mkF m 15 #[.val (.ref x)] [(.ref b31), (.ref x)])) rfl rfl (hb hby d2_15)
  have Fw44 : Fld Z h44 x "com/example/medeweten/medeweten/core/XmlText" "text" "Ljava/lang/StringBuilder;" (.ref b31) := F41.same W44
  have N44 := Fr.snoc X44 N38 gx
  refine Goes.step (T' := T44) (g' := (mkF m 18 #[.val (.ref x)] [])) st44 ?_
  refine Goes.retV X44 hx Bd.notSynchronized Bd.returns (hb hby d2_18) (ok rfl) (ok rfl) ?_
  rw [e44]
  have K45 : Keep h0 T38.heap [x] := K34.trans K38 (allS (Or.inr sz_b31) all0)
  have K46 : Keep h0 h44 [x] := K45.wr W44 (Or.inl (by simp))
  have E47 : Exa Z h44 x "com/example/medeweten/medeweten/core/XmlText" := E43.wr W44
  have E48 : Exa Z h44 b31 "java/lang/StringBuilder" := g38E.wr W44
  have F49 : Fld Z h44 b31 "java/lang/AbstractStringBuilder" "value" "[B" (.ref t38) := g38v.other W44 (Or.inl (Ne.symm ne40))
  have F50 : Fld Z h44 b31 "java/lang/AbstractStringBuilder" "coder" "B" (.int (0 : Int32)) := g38c.other W44 (Or.inl (Ne.symm ne40))
  have F51 : Fld Z h44 b31 "java/lang/AbstractStringBuilder" "count" "I" (.int (0 : Int32)) := g38n.other W44 (Or.inl (Ne.symm ne40))
  have ne52 : x ≠ t38 := Nat.ne_of_lt (Nat.lt_of_lt_of_le E42.lt szt38)
  have V53 : Arv Z h44 t38 kt38 .byte (8192 : Int32) [] (.int (0 : Int32)) := g38V.other W44 (Ne.symm ne52)
  exact ⟨b31, t38, kt38, rfl, N44, K46, sz_b31, sz_t38, E47, Fw44, E48, F49, F50, F51, V53⟩
theorem d10_0 : decode jdk_68_method_9_code 0 = .ok (.aload_n 0, 1) := by decide +kernel
theorem d10_1 : decode jdk_68_method_9_code 1 = .ok (.getfield 15, 3) := by decide +kernel
theorem d10_4 : decode jdk_68_method_9_code 4 = .ok (.arraylength, 1) := by decide +kernel
theorem d10_5 : decode jdk_68_method_9_code 5 = .ok (.aload_n 0, 1) := by decide +kernel
theorem d10_6 : decode jdk_68_method_9_code 6 = .ok (.getfield 22, 3) := by decide +kernel
theorem d10_9 : decode jdk_68_method_9_code 9 = .ok (.ishr, 1) := by decide +kernel
theorem d10_10 : decode jdk_68_method_9_code 10 = .ok (.istore_n 2, 1) := by decide +kernel
theorem d10_11 : decode jdk_68_method_9_code 11 = .ok (.iload_n 1, 1) := by decide +kernel
theorem d10_12 : decode jdk_68_method_9_code 12 = .ok (.iload_n 2, 1) := by decide +kernel
theorem d10_13 : decode jdk_68_method_9_code 13 = .ok (.isub, 1) := by decide +kernel
theorem d10_14 : decode jdk_68_method_9_code 14 = .ok (.ifCond .le 24, 3) := by decide +kernel
theorem d10_17 : decode jdk_68_method_9_code 17 = .ok (.aload_n 0, 1) := by decide +kernel
theorem d10_18 : decode jdk_68_method_9_code 18 = .ok (.aload_n 0, 1) := by decide +kernel
theorem d10_19 : decode jdk_68_method_9_code 19 = .ok (.getfield 15, 3) := by decide +kernel
theorem d10_22 : decode jdk_68_method_9_code 22 = .ok (.aload_n 0, 1) := by decide +kernel
theorem d10_23 : decode jdk_68_method_9_code 23 = .ok (.iload_n 1, 1) := by decide +kernel
theorem d10_24 : decode jdk_68_method_9_code 24 = .ok (.invokevirtual 104, 3) := by decide +kernel
theorem d10_27 : decode jdk_68_method_9_code 27 = .ok (.aload_n 0, 1) := by decide +kernel
theorem d10_28 : decode jdk_68_method_9_code 28 = .ok (.getfield 22, 3) := by decide +kernel
theorem d10_31 : decode jdk_68_method_9_code 31 = .ok (.ishl, 1) := by decide +kernel
theorem d10_32 : decode jdk_68_method_9_code 32 = .ok (.invokestatic 108, 3) := by decide +kernel
theorem d10_35 : decode jdk_68_method_9_code 35 = .ok (.putfield 15, 3) := by decide +kernel
theorem d10_38 : decode jdk_68_method_9_code 38 = .ok (.return_, 1) := by decide +kernel
theorem efEns (x : Addr) (mc : Int32) (m : MethodId) : entryFrame m #[(.ref x), (.int mc)] 3 = mkF m 0 #[.val (.ref x), .val (.int mc), .unset] [] := by first | (simp [entryFrame, mkF, argsToLocals, Value.category]; done) | rfl
def QEns (Z : State) (x t : Addr) (kt : ClassId) (vs : List Value) (mc : Int32) (h0 : Heap) (n0 : Nat) (v : Option Value) (h : Heap) (L : List Loc) : Prop := v = none ∧ Fr n0 L ∧ h = h0
set_option maxRecDepth 65536 in
set_option maxHeartbeats 40000000 in
theorem rmEns (l : Launch) (Z : State) (a0 : Array Value) (hw : ∀ d ∈ tables_1, d.before a0 Z = true) (ws : List Jvm.Cond) (x t : Addr) (kt : ClassId) (vs : List Value) (mc : Int32) (h0 : Heap) (n0 : Nat) (Z0 : n0 ≤ h0.size) (O0 : Old Z n0 h0) (Ex : Exa Z h0 x "java/lang/StringBuilder") (Fv : Fld Z h0 x "java/lang/AbstractStringBuilder" "value" "[B" (.ref t)) (Fc : Fld Z h0 x "java/lang/AbstractStringBuilder" "coder" "B" (.int (0 : Int32))) (Vt : Arv Z h0 t kt .byte (8192 : Int32) vs (.int (0 : Int32))) (hmc : ¬ ((0 : Int32) < (mc - (8192 : Int32)))) :
    OwnLaw l y14_ jdk_68_method_9_code 3 none ws (rR 0 0 0 0) #[(.ref x), (.int mc)] Z h0 (QEns Z x t kt vs mc h0 n0) := by
  refine own_enter (plainFor_of_name pn_java_lang_AbstractStringBuilder) (efEns x mc) ?_
  intro p e s m below meth c s₁ Bd hx hby hml hZ hown X0 e0
  have N0 := Fr.nil n0
  have K0 : Keep h0 h0 [] := Keep.refl _ _
  refine P1.aloadN X0.here hx (hb hby d10_0) rfl rfl ?_
  obtain ⟨T54, X54, e54, st54⟩ := getF X0 hx hZ hown (host := "") (Or.inl (own_w hw 38 rfl)) Via.refl e0 Fv (g := (mkF m 1 #[.val (.ref x), .val (.int mc), .unset] [(.ref x)])) rfl rfl (hb hby d10_1)
  refine Goes.step (T' := T54) (g' := (mkF m 4 #[.val (.ref x), .val (.int mc), .unset] [(.ref t)])) st54 ?_
  obtain ⟨cl55, Ar55, qk55, sl55, nz55, ha55, fi55⟩ := id Vt
  have al56 : cl55.slots.size.toInt32 = (8192 : Int32) := len_of sl55 nz55
  refine Goes.step (T' := T54) (g' := (mkF m 5 #[.val (.ref x), .val (.int mc), .unset] [(.int (8192 : Int32))])) (fun t_ k_ => X54.arraylength hx (by rw [e54]; exact Ar55.1) (State.isArrayOf_alike hZ.alike Ar55.2.1) (g := (mkF m 4 #[.val (.ref x), .val (.int mc), .unset] [(.ref t)])) rfl rfl (hb hby d10_4) _ <| by rw [al56]; exact k_) ?_
  refine P1.aloadN X54.here hx (hb hby d10_5) rfl rfl ?_
  obtain ⟨T57, X57, e57, st57⟩ := getF X54 hx hZ hown (host := "") (Or.inl (own_w hw 40 rfl)) Via.refl e54 Fc (g := (mkF m 6 #[.val (.ref x), .val (.int mc), .unset] [(.ref x), (.int (8192 : Int32))])) rfl rfl (hb hby d10_6)
  refine Goes.step (T' := T57) (g' := (mkF m 9 #[.val (.ref x), .val (.int mc), .unset] [(.int (0 : Int32)), (.int (8192 : Int32))])) st57 ?_
  refine Goes.step (T' := T57) (g' := (mkF m 10 #[.val (.ref x), .val (.int mc), .unset] [(.int ((8192 : Int32) >>> ((0 : Int32) &&& 31)))])) (fun t_ k_ => XS.ishr X57.here hx rfl (hb hby d10_9) rfl k_) ?_
  have rw58 : ((8192 : Int32) >>> ((0 : Int32) &&& 31)) = (8192 : Int32) := by decide
  rw [rw58]
  refine P1.istoreN X57.here hx #[.val (.ref x), .val (.int mc), .val (.int (8192 : Int32))] (hb hby d10_10) rfl ?_
  refine P1.iloadN X57.here hx (hb hby d10_11) rfl ?_
  refine P1.iloadN X57.here hx (hb hby d10_12) rfl ?_
  refine P1.isub X57.here hx (hb hby d10_13) ?_
  refine P1.ifYes X57.here hx 38 (hb hby d10_14) ((if0 _ _).trans (flt (hmc : ¬ ((0 : Int32) < (mc - (8192 : Int32))))).2.2.2) (by decide) (by decide) ?_
  refine Goes.retV X57 hx Bd.notSynchronized Bd.returns (hb hby d10_38) (ok rfl) (ok rfl) ?_
  rw [e57]
  exact ⟨rfl, N0, rfl⟩
theorem d12_0 : decode jdk_43_method_3_code 0 = .ok (.iload_n 0, 1) := by decide +kernel
theorem d12_1 : decode jdk_43_method_3_code 1 = .ok (.sipush 255, 3) := by decide +kernel
theorem d12_4 : decode jdk_43_method_3_code 4 = .ok (.if_icmp .gt 7, 3) := by decide +kernel
theorem d12_7 : decode jdk_43_method_3_code 7 = .ok (.iconst 1, 1) := by decide +kernel
theorem d12_8 : decode jdk_43_method_3_code 8 = .ok (.goto 4, 3) := by decide +kernel
theorem d12_11 : decode jdk_43_method_3_code 11 = .ok (.iconst 0, 1) := by decide +kernel
theorem d12_12 : decode jdk_43_method_3_code 12 = .ok (.ireturn, 1) := by decide +kernel
theorem pn_java_lang_StringLatin1 : plainName "java/lang/StringLatin1" = true := by first | (simp [plainName, overriddenIn]; done) | decide +kernel
theorem efCan (q : Int32) (m : MethodId) : entryFrame m #[(.int q)] 1 = mkF m 0 #[.val (.int q)] [] := by first | (simp [entryFrame, mkF, argsToLocals, Value.category]; done) | rfl
def QCan (Z : State) (q : Int32) (h0 : Heap) (n0 : Nat) (v : Option Value) (h : Heap) (L : List Loc) : Prop := v = some (.int 1) ∧ Fr n0 L ∧ h = h0
set_option maxRecDepth 65536 in
set_option maxHeartbeats 40000000 in
theorem rmCan (l : Launch) (Z : State) (a0 : Array Value) (hw : ∀ d ∈ tables_1, d.before a0 Z = true) (ws : List Jvm.Cond) (q : Int32) (h0 : Heap) (n0 : Nat) (Z0 : n0 ≤ h0.size) (O0 : Old Z n0 h0) (hq : Pr q) :
    OwnLaw l y36_ jdk_43_method_3_code 1 (some .boolean) ws (rR 0 0 0 0) #[(.int q)] Z h0 (QCan Z q h0 n0) := by
  refine own_enter (plainFor_of_name pn_java_lang_StringLatin1) (efCan q) ?_
  intro p e s m below meth c s₁ Bd hx hby hml hZ hown X0 e0
  have N0 := Fr.nil n0
  have K0 : Keep h0 h0 [] := Keep.refl _ _
  refine P1.iloadN X0.here hx (hb hby d12_0) rfl ?_
  refine P1.sipush X0.here hx (255 : Int32) (hb hby d12_1) rfl ?_
  refine P1.icmpNo X0.here hx (hb hby d12_4) (flt (hq.le : ¬ ((255 : Int32) < q))).2.2.1 ?_
  refine P1.iconst X0.here hx (1 : Int32) (hb hby d12_7) rfl ?_
  refine P1.goto X0.here hx 12 (hb hby d12_8) (by decide) (by decide) ?_
  refine Goes.retN X0 hx Bd.notSynchronized (t := .boolean) Bd.returns (by simp) (hb hby d12_12) (ok rfl) (ok rfl) ?_
  rw [e0]
  exact ⟨rfl, N0, rfl⟩
theorem d24_0 : decode jdk_29_method_69_code 0 = .ok (.iload_n 0, 1) := by decide +kernel
theorem d24_1 : decode jdk_29_method_69_code 1 = .ok (.iload_n 1, 1) := by decide +kernel
theorem d24_2 : decode jdk_29_method_69_code 2 = .ok (.if_icmp .gt 7, 3) := by decide +kernel
theorem d24_5 : decode jdk_29_method_69_code 5 = .ok (.iload_n 0, 1) := by decide +kernel
theorem d24_6 : decode jdk_29_method_69_code 6 = .ok (.goto 4, 3) := by decide +kernel
theorem d24_9 : decode jdk_29_method_69_code 9 = .ok (.iload_n 1, 1) := by decide +kernel
theorem d24_10 : decode jdk_29_method_69_code 10 = .ok (.ireturn, 1) := by decide +kernel
theorem efMinA (i k : Int32) (m : MethodId) : entryFrame m #[(.int i), (.int k)] 2 = mkF m 0 #[.val (.int i), .val (.int k)] [] := by first | (simp [entryFrame, mkF, argsToLocals, Value.category]; done) | rfl
def QMinA (Z : State) (i k : Int32) (h0 : Heap) (n0 : Nat) (v : Option Value) (h : Heap) (L : List Loc) : Prop := v = some (.int i) ∧ Fr n0 L ∧ h = h0
set_option maxRecDepth 65536 in
set_option maxHeartbeats 40000000 in
theorem rmMinA (l : Launch) (Z : State) (a0 : Array Value) (hw : ∀ d ∈ tables_1, d.before a0 Z = true) (ws : List Jvm.Cond) (i k : Int32) (h0 : Heap) (n0 : Nat) (Z0 : n0 ≤ h0.size) (O0 : Old Z n0 h0) (hik : ¬ (k < i)) :
    OwnLaw l y20_ jdk_29_method_69_code 2 (some .int) ws (rR 0 0 0 0) #[(.int i), (.int k)] Z h0 (QMinA Z i k h0 n0) := by
  refine own_enter (Jvm.Free.JP.mathPlain rfl (by decide +kernel)) (efMinA i k) ?_
  intro p e s m below meth c s₁ Bd hx hby hml hZ hown X0 e0
  have N0 := Fr.nil n0
  have K0 : Keep h0 h0 [] := Keep.refl _ _
  refine P1.iloadN X0.here hx (hb hby d24_0) rfl ?_
  refine P1.iloadN X0.here hx (hb hby d24_1) rfl ?_
  refine P1.icmpNo X0.here hx (hb hby d24_2) (flt (hik : ¬ (k < i))).2.2.1 ?_
  refine P1.iloadN X0.here hx (hb hby d24_5) rfl ?_
  refine P1.goto X0.here hx 10 (hb hby d24_6) (by decide) (by decide) ?_
  refine Goes.retI X0 hx Bd.notSynchronized Bd.returns (hb hby d24_10) (ok rfl) (ok rfl) ?_
  rw [e0]
  exact ⟨rfl, N0, rfl⟩
theorem efMinB (i k : Int32) (m : MethodId) : entryFrame m #[(.int i), (.int k)] 2 = mkF m 0 #[.val (.int i), .val (.int k)] [] := by first | (simp [entryFrame, mkF, argsToLocals, Value.category]; done) | rfl
def QMinB (Z : State) (i k : Int32) (h0 : Heap) (n0 : Nat) (v : Option Value) (h : Heap) (L : List Loc) : Prop := v = some (.int k) ∧ Fr n0 L ∧ h = h0
set_option maxRecDepth 65536 in
set_option maxHeartbeats 40000000 in
theorem rmMinB (l : Launch) (Z : State) (a0 : Array Value) (hw : ∀ d ∈ tables_1, d.before a0 Z = true) (ws : List Jvm.Cond) (i k : Int32) (h0 : Heap) (n0 : Nat) (Z0 : n0 ≤ h0.size) (O0 : Old Z n0 h0) (hik : k < i) :
    OwnLaw l y20_ jdk_29_method_69_code 2 (some .int) ws (rR 0 0 0 0) #[(.int i), (.int k)] Z h0 (QMinB Z i k h0 n0) := by
  refine own_enter (Jvm.Free.JP.mathPlain rfl (by decide +kernel)) (efMinB i k) ?_
  intro p e s m below meth c s₁ Bd hx hby hml hZ hown X0 e0
  have N0 := Fr.nil n0
  have K0 : Keep h0 h0 [] := Keep.refl _ _
  refine P1.iloadN X0.here hx (hb hby d24_0) rfl ?_
  refine P1.iloadN X0.here hx (hb hby d24_1) rfl ?_
  refine P1.icmpYes X0.here hx 9 (hb hby d24_2) (tlt (hik : k < i)).2.2.1 (by decide) (by decide) ?_
  refine P1.iloadN X0.here hx (hb hby d24_9) rfl ?_
  refine Goes.retI X0 hx Bd.notSynchronized Bd.returns (hb hby d24_10) (ok rfl) (ok rfl) ?_
  rw [e0]
  exact ⟨rfl, N0, rfl⟩
theorem d26_0 : decode jdk_41_method_11_code 0 = .ok (.iload_n 0, 1) := by decide +kernel
theorem d26_1 : decode jdk_41_method_11_code 1 = .ok (.ifCond .lt 8, 3) := by decide +kernel
theorem d26_4 : decode jdk_41_method_11_code 4 = .ok (.iload_n 0, 1) := by decide +kernel
theorem d26_5 : decode jdk_41_method_11_code 5 = .ok (.iload_n 1, 1) := by decide +kernel
theorem d26_6 : decode jdk_41_method_11_code 6 = .ok (.if_icmp .lt 10, 3) := by decide +kernel
theorem d26_9 : decode jdk_41_method_11_code 9 = .ok (.aload_n 2, 1) := by decide +kernel
theorem d26_10 : decode jdk_41_method_11_code 10 = .ok (.iload_n 0, 1) := by decide +kernel
theorem d26_11 : decode jdk_41_method_11_code 11 = .ok (.iload_n 1, 1) := by decide +kernel
theorem d26_12 : decode jdk_41_method_11_code 12 = .ok (.invokestatic 95, 3) := by decide +kernel
theorem d26_15 : decode jdk_41_method_11_code 15 = .ok (.athrow, 1) := by decide +kernel
theorem d26_16 : decode jdk_41_method_11_code 16 = .ok (.iload_n 0, 1) := by decide +kernel
theorem d26_17 : decode jdk_41_method_11_code 17 = .ok (.ireturn, 1) := by decide +kernel
theorem pn_jdk_internal_util_Preconditions : plainName "jdk/internal/util/Preconditions" = true := by first | (simp [plainName, overriddenIn]; done) | decide +kernel
theorem efCki (i k : Int32) (f : Value) (hc_f : f.category = 1) (m : MethodId) : entryFrame m #[(.int i), (.int k), f] 3 = mkF m 0 #[.val (.int i), .val (.int k), .val f] [] := by cases f <;> simp_all [entryFrame, mkF, argsToLocals, Value.category]
def QCki (Z : State) (i k : Int32) (f : Value) (h0 : Heap) (n0 : Nat) (v : Option Value) (h : Heap) (L : List Loc) : Prop := v = some (.int i) ∧ Fr n0 L ∧ h = h0
set_option maxRecDepth 65536 in
set_option maxHeartbeats 40000000 in
theorem rmCki (l : Launch) (Z : State) (a0 : Array Value) (hw : ∀ d ∈ tables_1, d.before a0 Z = true) (ws : List Jvm.Cond) (i k : Int32) (f : Value) (h0 : Heap) (n0 : Nat) (Z0 : n0 ≤ h0.size) (O0 : Old Z n0 h0) (hi0 : ¬ (i < (0 : Int32))) (hik : i < k) (hc_f : f.category = 1) :
    OwnLaw l (⟨"jdk/internal/util/Preconditions", "checkIndex", "(IILjava/util/function/BiFunction;)I"⟩ : MethodName) jdk_41_method_11_code 3 (some .int) ws (rR 0 0 0 0) #[(.int i), (.int k), f] Z h0 (QCki Z i k f h0 n0) := by
  refine own_enter (plainFor_of_name pn_jdk_internal_util_Preconditions) (efCki i k f hc_f) ?_
  intro p e s m below meth c s₁ Bd hx hby hml hZ hown X0 e0
  have N0 := Fr.nil n0
  have K0 : Keep h0 h0 [] := Keep.refl _ _
  refine P1.iloadN X0.here hx (hb hby d26_0) rfl ?_
  refine P1.ifNo X0.here hx (hb hby d26_1) ((if0 _ _).trans (flt (hi0 : ¬ (i < (0 : Int32)))).1) ?_
  refine P1.iloadN X0.here hx (hb hby d26_4) rfl ?_
  refine P1.iloadN X0.here hx (hb hby d26_5) rfl ?_
  refine P1.icmpYes X0.here hx 16 (hb hby d26_6) (tlt (hik : i < k)).1 (by decide) (by decide) ?_
  refine P1.iloadN X0.here hx (hb hby d26_16) rfl ?_
  refine Goes.retI X0 hx Bd.notSynchronized Bd.returns (hb hby d26_17) (ok rfl) (ok rfl) ?_
  rw [e0]
  exact ⟨rfl, N0, rfl⟩
theorem d25_0 : decode jdk_42_method_155_code 0 = .ok (.iload_n 0, 1) := by decide +kernel
theorem d25_1 : decode jdk_42_method_155_code 1 = .ok (.iload_n 1, 1) := by decide +kernel
theorem d25_2 : decode jdk_42_method_155_code 2 = .ok (.getstatic 1053, 3) := by decide +kernel
theorem d25_5 : decode jdk_42_method_155_code 5 = .ok (.invokestatic 1059, 3) := by decide +kernel
theorem d25_8 : decode jdk_42_method_155_code 8 = .ok (.pop, 1) := by decide +kernel
theorem d25_9 : decode jdk_42_method_155_code 9 = .ok (.return_, 1) := by decide +kernel
theorem pn_java_lang_String : plainName "java/lang/String" = true := by first | (simp [plainName, overriddenIn]; done) | decide +kernel
theorem pd_61929 : parseMethodDescriptor "(IILjava/util/function/BiFunction;)I" = some ⟨[.int, .int, (.object "java/util/function/BiFunction")], some .int⟩ := by decide +kernel
theorem efSci (i k : Int32) (m : MethodId) : entryFrame m #[(.int i), (.int k)] 2 = mkF m 0 #[.val (.int i), .val (.int k)] [] := by first | (simp [entryFrame, mkF, argsToLocals, Value.category]; done) | rfl
def QSci (Z : State) (i k zc : Int32) (fm fi : Value) (u8 : Addr) (h0 : Heap) (n0 : Nat) (v : Option Value) (h : Heap) (L : List Loc) : Prop := v = none ∧ Fr n0 L ∧ h = h0
set_option maxRecDepth 65536 in
set_option maxHeartbeats 40000000 in
theorem rmSci (l : Launch) (Z : State) (a0 : Array Value) (hw : ∀ d ∈ tables_1, d.before a0 Z = true) (ws : List Jvm.Cond) (i k zc : Int32) (fm fi : Value) (u8 : Addr) (h0 : Heap) (n0 : Nat) (Z0 : n0 ≤ h0.size) (O0 : Old Z n0 h0) (S_CS : Sta Z Z.heap "java/lang/String" "COMPACT_STRINGS" "Z" (.int zc)) (hzc : ¬ zc = 0) (S_FM : Sta Z Z.heap "jdk/internal/util/Preconditions" "SIOOBE_FORMATTER" "Ljava/util/function/BiFunction;" fm) (hfm : fm.isRef = true) (S_FI : Sta Z Z.heap "jdk/internal/util/Preconditions" "IOOBE_FORMATTER" "Ljava/util/function/BiFunction;" fi) (hfi : fi.isRef = true) (S_IN : Sta Z Z.heap "sun/nio/cs/UTF_8" "INSTANCE" "Lsun/nio/cs/UTF_8;" (.ref u8)) (S_U8 : Sta Z Z.heap "java/nio/charset/StandardCharsets" "UTF_8" "Ljava/nio/charset/Charset;" (.ref u8)) (hi0 : ¬ (i < (0 : Int32))) (hik : i < k) :
    OwnLaw l (⟨"java/lang/String", "checkIndex", "(II)V"⟩ : MethodName) jdk_42_method_155_code 2 none ws (rR 1 0 0 14) #[(.int i), (.int k)] Z h0 (QSci Z i k zc fm fi u8 h0 n0) := by
  refine own_enter (plainFor_of_name pn_java_lang_String) (efSci i k) ?_
  intro p e s m below meth c s₁ Bd hx hby hml hZ hown X0 e0
  have N0 := Fr.nil n0
  have K0 : Keep h0 h0 [] := Keep.refl _ _
  refine P1.iloadN X0.here hx (hb hby d25_0) rfl ?_
  refine P1.iloadN X0.here hx (hb hby d25_1) rfl ?_
  obtain ⟨T59, X59, e59, st59⟩ := getS2 X0 hx hZ hown (host := "") (Or.inl (own_w hw 133 rfl)) Via.refl e0 (S_FM.ext O0.2) (g := (mkF m 2 #[.val (.int i), .val (.int k)] [(.int k), (.int i)])) rfl (hb hby d25_2)
  refine Goes.step (T' := T59) (g' := (mkF m 5 #[.val (.int i), .val (.int k)] [fm, (.int k), (.int i)])) st59 ?_
  refine Goes.callS X59 hx (y := (⟨"jdk/internal/util/Preconditions", "checkIndex", "(IILjava/util/function/BiFunction;)I"⟩ : MethodName)) hown (mvT hZ (own_w hw 134 rfl)) (mvT hZ (own_w hw 135 rfl)) (mvT hZ (own_w hw 90 rfl)) (mvT hZ (own_w hw 136 rfl)) (by decide) (kc' := 0) (ks' := 0) (backOf (W := 0) (rmCki l Z a0 hw [] i k fm h0 n0 Z0 O0 hi0 hik (own_cat hfm)) hZ (own_w hw 136 rfl) (own_w hw 90 rfl) (ok rfl) (ok rfl)) (g := (mkF m 5 #[.val (.int i), .val (.int k)] [fm, (.int k), (.int i)])) rfl (by rw [hml]; rfl) (argsL := [(.int i), (.int k), fm]) (rest := []) (lenOf pd_61929 rfl) rfl (by show 2 * 0 + _ ≤ _; exact Nat.le_of_eq rfl) (hb hby d25_5) rfl e59 (ok rfl) (ok rfl) ?_
  intro v60 T60 L60 q60 X60
  obtain ⟨rfl, N60q, hE60⟩ := q60
  have N60 := Fr.app N0 N60q
  show Goes p e below _ T60 (mkF m 8 #[.val (.int i), .val (.int k)] [(.int i)])
  refine P1.pop X60.here hx (hb hby d25_8) rfl ?_
  refine Goes.retV X60 hx Bd.notSynchronized Bd.returns (hb hby d25_9) (ok rfl) (ok rfl) ?_
  rw [hE60]
  exact ⟨rfl, N60, rfl⟩
theorem d16_0 : decode jdk_41_method_12_code 0 = .ok (.iload_n 0, 1) := by decide +kernel
theorem d16_1 : decode jdk_41_method_12_code 1 = .ok (.ifCond .lt 13, 3) := by decide +kernel
theorem d16_4 : decode jdk_41_method_12_code 4 = .ok (.iload_n 0, 1) := by decide +kernel
theorem d16_5 : decode jdk_41_method_12_code 5 = .ok (.iload_n 1, 1) := by decide +kernel
theorem d16_6 : decode jdk_41_method_12_code 6 = .ok (.if_icmp .gt 8, 3) := by decide +kernel
theorem d16_9 : decode jdk_41_method_12_code 9 = .ok (.iload_n 1, 1) := by decide +kernel
theorem d16_10 : decode jdk_41_method_12_code 10 = .ok (.iload_n 2, 1) := by decide +kernel
theorem d16_11 : decode jdk_41_method_12_code 11 = .ok (.if_icmp .le 11, 3) := by decide +kernel
theorem d16_14 : decode jdk_41_method_12_code 14 = .ok (.aload_n 3, 1) := by decide +kernel
theorem d16_15 : decode jdk_41_method_12_code 15 = .ok (.iload_n 0, 1) := by decide +kernel
theorem d16_16 : decode jdk_41_method_12_code 16 = .ok (.iload_n 1, 1) := by decide +kernel
theorem d16_17 : decode jdk_41_method_12_code 17 = .ok (.iload_n 2, 1) := by decide +kernel
theorem d16_18 : decode jdk_41_method_12_code 18 = .ok (.invokestatic 99, 3) := by decide +kernel
theorem d16_21 : decode jdk_41_method_12_code 21 = .ok (.athrow, 1) := by decide +kernel
theorem d16_22 : decode jdk_41_method_12_code 22 = .ok (.iload_n 0, 1) := by decide +kernel
theorem d16_23 : decode jdk_41_method_12_code 23 = .ok (.ireturn, 1) := by decide +kernel
theorem efCft (i j k : Int32) (f : Value) (hc_f : f.category = 1) (m : MethodId) : entryFrame m #[(.int i), (.int j), (.int k), f] 4 = mkF m 0 #[.val (.int i), .val (.int j), .val (.int k), .val f] [] := by cases f <;> simp_all [entryFrame, mkF, argsToLocals, Value.category]
def QCft (Z : State) (i j k : Int32) (f : Value) (h0 : Heap) (n0 : Nat) (v : Option Value) (h : Heap) (L : List Loc) : Prop := v = some (.int i) ∧ Fr n0 L ∧ h = h0
set_option maxRecDepth 65536 in
set_option maxHeartbeats 40000000 in
theorem rmCft (l : Launch) (Z : State) (a0 : Array Value) (hw : ∀ d ∈ tables_1, d.before a0 Z = true) (ws : List Jvm.Cond) (i j k : Int32) (f : Value) (h0 : Heap) (n0 : Nat) (Z0 : n0 ≤ h0.size) (O0 : Old Z n0 h0) (hi0 : ¬ (i < (0 : Int32))) (hij : ¬ (j < i)) (hjk : ¬ (k < j)) (hc_f : f.category = 1) :
    OwnLaw l (⟨"jdk/internal/util/Preconditions", "checkFromToIndex", "(IIILjava/util/function/BiFunction;)I"⟩ : MethodName) jdk_41_method_12_code 4 (some .int) ws (rR 0 0 0 0) #[(.int i), (.int j), (.int k), f] Z h0 (QCft Z i j k f h0 n0) := by
  refine own_enter (plainFor_of_name pn_jdk_internal_util_Preconditions) (efCft i j k f hc_f) ?_
  intro p e s m below meth c s₁ Bd hx hby hml hZ hown X0 e0
  have N0 := Fr.nil n0
  have K0 : Keep h0 h0 [] := Keep.refl _ _
  refine P1.iloadN X0.here hx (hb hby d16_0) rfl ?_
  refine P1.ifNo X0.here hx (hb hby d16_1) ((if0 _ _).trans (flt (hi0 : ¬ (i < (0 : Int32)))).1) ?_
  refine P1.iloadN X0.here hx (hb hby d16_4) rfl ?_
  refine P1.iloadN X0.here hx (hb hby d16_5) rfl ?_
  refine P1.icmpNo X0.here hx (hb hby d16_6) (flt (hij : ¬ (j < i))).2.2.1 ?_
  refine P1.iloadN X0.here hx (hb hby d16_9) rfl ?_
  refine P1.iloadN X0.here hx (hb hby d16_10) rfl ?_
  refine P1.icmpYes X0.here hx 22 (hb hby d16_11) (flt (hjk : ¬ (k < j))).2.2.2 (by decide) (by decide) ?_
  refine P1.iloadN X0.here hx (hb hby d16_22) rfl ?_
  refine Goes.retI X0 hx Bd.notSynchronized Bd.returns (hb hby d16_23) (ok rfl) (ok rfl) ?_
  rw [e0]
  exact ⟨rfl, N0, rfl⟩
theorem d36_0 : decode jdk_65_method_131_code 0 = .ok (.iload_n 1, 1) := by decide +kernel
theorem d36_1 : decode jdk_65_method_131_code 1 = .ok (.iload_n 0, 1) := by decide +kernel
theorem d36_2 : decode jdk_65_method_131_code 2 = .ok (.if_icmp .ge 35, 3) := by decide +kernel
theorem d36_5 : decode jdk_65_method_131_code 5 = .ok (.new 43, 3) := by decide +kernel
theorem d36_8 : decode jdk_65_method_131_code 8 = .ok (.dup, 1) := by decide +kernel
theorem d36_9 : decode jdk_65_method_131_code 9 = .ok (.new 45, 3) := by decide +kernel
theorem d36_12 : decode jdk_65_method_131_code 12 = .ok (.dup, 1) := by decide +kernel
theorem d36_13 : decode jdk_65_method_131_code 13 = .ok (.invokespecial 47, 3) := by decide +kernel
theorem d36_16 : decode jdk_65_method_131_code 16 = .ok (.iload_n 0, 1) := by decide +kernel
theorem d36_17 : decode jdk_65_method_131_code 17 = .ok (.invokevirtual 54, 3) := by decide +kernel
theorem d36_20 : decode jdk_65_method_131_code 20 = .ok (.ldc_w 337, 3) := by decide +kernel
theorem d36_23 : decode jdk_65_method_131_code 23 = .ok (.invokevirtual 50, 3) := by decide +kernel
theorem d36_26 : decode jdk_65_method_131_code 26 = .ok (.iload_n 1, 1) := by decide +kernel
theorem d36_27 : decode jdk_65_method_131_code 27 = .ok (.invokevirtual 54, 3) := by decide +kernel
theorem d36_30 : decode jdk_65_method_131_code 30 = .ok (.invokevirtual 61, 3) := by decide +kernel
theorem d36_33 : decode jdk_65_method_131_code 33 = .ok (.invokespecial 65, 3) := by decide +kernel
theorem d36_36 : decode jdk_65_method_131_code 36 = .ok (.athrow, 1) := by decide +kernel
theorem d36_37 : decode jdk_65_method_131_code 37 = .ok (.return_, 1) := by decide +kernel
theorem pn_java_util_Arrays : plainName "java/util/Arrays" = true := by first | (simp [plainName, overriddenIn]; done) | decide +kernel
theorem efCkl (i j : Int32) (m : MethodId) : entryFrame m #[(.int i), (.int j)] 2 = mkF m 0 #[.val (.int i), .val (.int j)] [] := by first | (simp [entryFrame, mkF, argsToLocals, Value.category]; done) | rfl
def QCkl (Z : State) (i j : Int32) (h0 : Heap) (n0 : Nat) (v : Option Value) (h : Heap) (L : List Loc) : Prop := v = none ∧ Fr n0 L ∧ h = h0
set_option maxRecDepth 65536 in
set_option maxHeartbeats 40000000 in
theorem rmCkl (l : Launch) (Z : State) (a0 : Array Value) (hw : ∀ d ∈ tables_1, d.before a0 Z = true) (ws : List Jvm.Cond) (i j : Int32) (h0 : Heap) (n0 : Nat) (Z0 : n0 ≤ h0.size) (O0 : Old Z n0 h0) (hij : ¬ (j < i)) :
    OwnLaw l (⟨"java/util/Arrays", "checkLength", "(II)V"⟩ : MethodName) jdk_65_method_131_code 2 none ws (rR 0 0 0 0) #[(.int i), (.int j)] Z h0 (QCkl Z i j h0 n0) := by
  refine own_enter (plainFor_of_name pn_java_util_Arrays) (efCkl i j) ?_
  intro p e s m below meth c s₁ Bd hx hby hml hZ hown X0 e0
  have N0 := Fr.nil n0
  have K0 : Keep h0 h0 [] := Keep.refl _ _
  refine P1.iloadN X0.here hx (hb hby d36_0) rfl ?_
  refine P1.iloadN X0.here hx (hb hby d36_1) rfl ?_
  refine P1.icmpYes X0.here hx 37 (hb hby d36_2) (flt (hij : ¬ (j < i))).2.1 (by decide) (by decide) ?_
  refine Goes.retV X0 hx Bd.notSynchronized Bd.returns (hb hby d36_37) (ok rfl) (ok rfl) ?_
  rw [e0]
  exact ⟨rfl, N0, rfl⟩
theorem d33_0 : decode jdk_68_method_64_code 0 = .ok (.aload_n 0, 1) := by decide +kernel
theorem d33_1 : decode jdk_68_method_64_code 1 = .ok (.getfield 15, 3) := by decide +kernel
theorem d33_4 : decode jdk_68_method_64_code 4 = .ok (.areturn, 1) := by decide +kernel
theorem efGv (x : Addr) (m : MethodId) : entryFrame m #[(.ref x)] 1 = mkF m 0 #[.val (.ref x)] [] := by first | (simp [entryFrame, mkF, argsToLocals, Value.category]; done) | rfl
def QGv (Z : State) (x t : Addr) (h0 : Heap) (n0 : Nat) (v : Option Value) (h : Heap) (L : List Loc) : Prop := v = some (.ref t) ∧ Fr n0 L ∧ h = h0
set_option maxRecDepth 65536 in
set_option maxHeartbeats 40000000 in
theorem rmGv (l : Launch) (Z : State) (a0 : Array Value) (hw : ∀ d ∈ tables_1, d.before a0 Z = true) (ws : List Jvm.Cond) (x t : Addr) (h0 : Heap) (n0 : Nat) (Z0 : n0 ≤ h0.size) (O0 : Old Z n0 h0) (Fv : Fld Z h0 x "java/lang/AbstractStringBuilder" "value" "[B" (.ref t)) :
    OwnLaw l y15_ jdk_68_method_64_code 1 (some (.array .byte)) ws (rR 0 0 0 0) #[(.ref x)] Z h0 (QGv Z x t h0 n0) := by
  refine own_enter (plainFor_of_name pn_java_lang_AbstractStringBuilder) (efGv x) ?_
  intro p e s m below meth c s₁ Bd hx hby hml hZ hown X0 e0
  have N0 := Fr.nil n0
  have K0 : Keep h0 h0 [] := Keep.refl _ _
  refine P1.aloadN X0.here hx (hb hby d33_0) rfl rfl ?_
  obtain ⟨T61, X61, e61, st61⟩ := getF X0 hx hZ hown (host := "") (Or.inl (own_w hw 38 rfl)) Via.refl e0 Fv (g := (mkF m 1 #[.val (.ref x)] [(.ref x)])) rfl rfl (hb hby d33_1)
  refine Goes.step (T' := T61) (g' := (mkF m 4 #[.val (.ref x)] [(.ref t)])) st61 ?_
  refine Goes.retA X61 hx Bd.notSynchronized Bd.returns rfl rfl (hb hby d33_4) (ok rfl) (ok rfl) ?_
  rw [e61]
  exact ⟨rfl, N0, rfl⟩
theorem d21_0 : decode jdk_68_method_6_code 0 = .ok (.aload_n 0, 1) := by decide +kernel
theorem d21_1 : decode jdk_68_method_6_code 1 = .ok (.getfield 79, 3) := by decide +kernel
theorem d21_4 : decode jdk_68_method_6_code 4 = .ok (.ireturn, 1) := by decide +kernel
theorem efAl (x : Addr) (m : MethodId) : entryFrame m #[(.ref x)] 1 = mkF m 0 #[.val (.ref x)] [] := by first | (simp [entryFrame, mkF, argsToLocals, Value.category]; done) | rfl
def QAl (Z : State) (x : Addr) (n : Int32) (h0 : Heap) (n0 : Nat) (v : Option Value) (h : Heap) (L : List Loc) : Prop := v = some (.int n) ∧ Fr n0 L ∧ h = h0
set_option maxRecDepth 65536 in
set_option maxHeartbeats 40000000 in
theorem rmAl (l : Launch) (Z : State) (a0 : Array Value) (hw : ∀ d ∈ tables_1, d.before a0 Z = true) (ws : List Jvm.Cond) (x : Addr) (n : Int32) (h0 : Heap) (n0 : Nat) (Z0 : n0 ≤ h0.size) (O0 : Old Z n0 h0) (Fn : Fld Z h0 x "java/lang/AbstractStringBuilder" "count" "I" (.int n)) :
    OwnLaw l y17_ jdk_68_method_6_code 1 (some .int) ws (rR 0 0 0 0) #[(.ref x)] Z h0 (QAl Z x n h0 n0) := by
  refine own_enter (plainFor_of_name pn_java_lang_AbstractStringBuilder) (efAl x) ?_
  intro p e s m below meth c s₁ Bd hx hby hml hZ hown X0 e0
  have N0 := Fr.nil n0
  have K0 : Keep h0 h0 [] := Keep.refl _ _
  refine P1.aloadN X0.here hx (hb hby d21_0) rfl rfl ?_
  obtain ⟨T62, X62, e62, st62⟩ := getF X0 hx hZ hown (host := "") (Or.inl (own_w hw 59 rfl)) Via.refl e0 Fn (g := (mkF m 1 #[.val (.ref x)] [(.ref x)])) rfl rfl (hb hby d21_1)
  refine Goes.step (T' := T62) (g' := (mkF m 4 #[.val (.ref x)] [(.int n)])) st62 ?_
  refine Goes.retI X62 hx Bd.notSynchronized Bd.returns (hb hby d21_4) (ok rfl) (ok rfl) ?_
  rw [e62]
  exact ⟨rfl, N0, rfl⟩
theorem d20_0 : decode jdk_67_method_93_code 0 = .ok (.aload_n 0, 1) := by decide +kernel
theorem d20_1 : decode jdk_67_method_93_code 1 = .ok (.invokespecial 343, 3) := by decide +kernel
theorem d20_4 : decode jdk_67_method_93_code 4 = .ok (.ireturn, 1) := by decide +kernel
theorem pd_341 : parseMethodDescriptor "()I" = some ⟨[], some .int⟩ := by decide +kernel
theorem efSl (x : Addr) (m : MethodId) : entryFrame m #[(.ref x)] 1 = mkF m 0 #[.val (.ref x)] [] := by first | (simp [entryFrame, mkF, argsToLocals, Value.category]; done) | rfl
def QSl (Z : State) (x : Addr) (n : Int32) (h0 : Heap) (n0 : Nat) (v : Option Value) (h : Heap) (L : List Loc) : Prop := v = some (.int n) ∧ Fr n0 L ∧ h = h0
set_option maxRecDepth 65536 in
set_option maxHeartbeats 40000000 in
theorem rmSl (l : Launch) (Z : State) (a0 : Array Value) (hw : ∀ d ∈ tables_1, d.before a0 Z = true) (ws : List Jvm.Cond) (x : Addr) (n : Int32) (h0 : Heap) (n0 : Nat) (Z0 : n0 ≤ h0.size) (O0 : Old Z n0 h0) (Ex : Exa Z h0 x "java/lang/StringBuilder") (Fn : Fld Z h0 x "java/lang/AbstractStringBuilder" "count" "I" (.int n)) :
    OwnLaw l y32_ jdk_67_method_93_code 1 (some .int) ws (rR 1 0 0 12) #[(.ref x)] Z h0 (QSl Z x n h0 n0) := by
  refine own_enter (plainFor_of_name pn_java_lang_StringBuilder) (efSl x) ?_
  intro p e s m below meth c s₁ Bd hx hby hml hZ hown X0 e0
  have N0 := Fr.nil n0
  have K0 : Keep h0 h0 [] := Keep.refl _ _
  refine P1.aloadN X0.here hx (hb hby d20_0) rfl rfl ?_
  refine Goes.callSup X0 hx hZ (y := y17_) hown (own_w hw 113 rfl) (own_sameMethod (own_w hw 114 rfl) (own_w hw 64 rfl) rfl (by decide)) (own_w hw 114 rfl) (own_w hw 56 rfl) (by decide) (kc' := 0) (ks' := 0) (backOf (W := 0) (rmAl l Z a0 hw [] x n h0 n0 Z0 O0 Fn) hZ (own_w hw 116 rfl) (own_w hw 32 rfl) (ok rfl) (ok rfl)) (a := x) e0 (Ins.of_exa Ex (own_w hw 31 rfl)) (own_w hw 116 rfl) (g := (mkF m 1 #[.val (.ref x)] [(.ref x)])) rfl (by rw [hml]; rfl) (argsL := []) (rest := []) (lenOf pd_341 rfl) rfl (by show 2 * 0 + _ ≤ _; exact Nat.le_of_eq rfl) (hb hby d20_1) rfl (ok rfl) (ok rfl) ?_
  intro v63 T63 L63 q63 X63
  obtain ⟨rfl, N63q, hE63⟩ := q63
  have N63 := Fr.app N0 N63q
  show Goes p e below _ T63 (mkF m 4 #[.val (.ref x)] [(.int n)])
  refine Goes.retI X63 hx Bd.notSynchronized Bd.returns (hb hby d20_4) (ok rfl) (ok rfl) ?_
  rw [hE63]
  exact ⟨rfl, N63, rfl⟩
theorem d11_0 : decode jdk_68_method_68_code 0 = .ok (.getstatic 18, 3) := by decide +kernel
theorem d11_3 : decode jdk_68_method_68_code 3 = .ok (.ifCond .eq 14, 3) := by decide +kernel
theorem d11_6 : decode jdk_68_method_68_code 6 = .ok (.aload_n 0, 1) := by decide +kernel
theorem d11_7 : decode jdk_68_method_68_code 7 = .ok (.getfield 22, 3) := by decide +kernel
theorem d11_10 : decode jdk_68_method_68_code 10 = .ok (.ifCond .ne 7, 3) := by decide +kernel
theorem d11_13 : decode jdk_68_method_68_code 13 = .ok (.iconst 1, 1) := by decide +kernel
theorem d11_14 : decode jdk_68_method_68_code 14 = .ok (.goto 4, 3) := by decide +kernel
theorem d11_17 : decode jdk_68_method_68_code 17 = .ok (.iconst 0, 1) := by decide +kernel
theorem d11_18 : decode jdk_68_method_68_code 18 = .ok (.ireturn, 1) := by decide +kernel
theorem efIl (x : Addr) (m : MethodId) : entryFrame m #[(.ref x)] 1 = mkF m 0 #[.val (.ref x)] [] := by first | (simp [entryFrame, mkF, argsToLocals, Value.category]; done) | rfl
def QIl (Z : State) (x : Addr) (zc : Int32) (fm fi : Value) (u8 : Addr) (h0 : Heap) (n0 : Nat) (v : Option Value) (h : Heap) (L : List Loc) : Prop := v = some (.int 1) ∧ Fr n0 L ∧ h = h0
set_option maxRecDepth 65536 in
set_option maxHeartbeats 40000000 in
theorem rmIl (l : Launch) (Z : State) (a0 : Array Value) (hw : ∀ d ∈ tables_1, d.before a0 Z = true) (ws : List Jvm.Cond) (x : Addr) (zc : Int32) (fm fi : Value) (u8 : Addr) (h0 : Heap) (n0 : Nat) (Z0 : n0 ≤ h0.size) (O0 : Old Z n0 h0) (S_CS : Sta Z Z.heap "java/lang/String" "COMPACT_STRINGS" "Z" (.int zc)) (hzc : ¬ zc = 0) (S_FM : Sta Z Z.heap "jdk/internal/util/Preconditions" "SIOOBE_FORMATTER" "Ljava/util/function/BiFunction;" fm) (hfm : fm.isRef = true) (S_FI : Sta Z Z.heap "jdk/internal/util/Preconditions" "IOOBE_FORMATTER" "Ljava/util/function/BiFunction;" fi) (hfi : fi.isRef = true) (S_IN : Sta Z Z.heap "sun/nio/cs/UTF_8" "INSTANCE" "Lsun/nio/cs/UTF_8;" (.ref u8)) (S_U8 : Sta Z Z.heap "java/nio/charset/StandardCharsets" "UTF_8" "Ljava/nio/charset/Charset;" (.ref u8)) (Fc : Fld Z h0 x "java/lang/AbstractStringBuilder" "coder" "B" (.int (0 : Int32))) :
    OwnLaw l y16_ jdk_68_method_68_code 1 (some .boolean) ws (rR 0 0 0 0) #[(.ref x)] Z h0 (QIl Z x zc fm fi u8 h0 n0) := by
  refine own_enter (plainFor_of_name pn_java_lang_AbstractStringBuilder) (efIl x) ?_
  intro p e s m below meth c s₁ Bd hx hby hml hZ hown X0 e0
  have N0 := Fr.nil n0
  have K0 : Keep h0 h0 [] := Keep.refl _ _
  obtain ⟨T64, X64, e64, st64⟩ := getS2 X0 hx hZ hown (host := "") (Or.inl (own_w hw 35 rfl)) Via.refl e0 (S_CS.ext O0.2) (g := (mkF m 0 #[.val (.ref x)] [])) rfl (hb hby d11_0)
  refine Goes.step (T' := T64) (g' := (mkF m 3 #[.val (.ref x)] [(.int zc)])) st64 ?_
  refine P1.ifNo X64.here hx (hb hby d11_3) ((if0 _ _).trans (feq (hzc : ¬ (zc = (0 : Int32)))).1) ?_
  refine P1.aloadN X64.here hx (hb hby d11_6) rfl rfl ?_
  obtain ⟨T65, X65, e65, st65⟩ := getF X64 hx hZ hown (host := "") (Or.inl (own_w hw 40 rfl)) Via.refl e64 Fc (g := (mkF m 7 #[.val (.ref x)] [(.ref x)])) rfl rfl (hb hby d11_7)
  refine Goes.step (T' := T65) (g' := (mkF m 10 #[.val (.ref x)] [(.int (0 : Int32))])) st65 ?_
  refine P1.ifNo X65.here hx (hb hby d11_10) ((if0 _ _).trans (teq (by decide : (0 : Int32) = (0 : Int32))).2) ?_
  refine P1.iconst X65.here hx (1 : Int32) (hb hby d11_13) rfl ?_
  refine P1.goto X65.here hx 18 (hb hby d11_14) (by decide) (by decide) ?_
  refine Goes.retN X65 hx Bd.notSynchronized (t := .boolean) Bd.returns (by simp) (hb hby d11_18) (ok rfl) (ok rfl) ?_
  rw [e65]
  exact ⟨rfl, N0, rfl⟩
theorem d9_0 : decode jdk_68_method_31_code 0 = .ok (.aload_n 0, 1) := by decide +kernel
theorem d9_1 : decode jdk_68_method_31_code 1 = .ok (.aload_n 0, 1) := by decide +kernel
theorem d9_2 : decode jdk_68_method_31_code 2 = .ok (.getfield 79, 3) := by decide +kernel
theorem d9_5 : decode jdk_68_method_31_code 5 = .ok (.iconst 1, 1) := by decide +kernel
theorem d9_6 : decode jdk_68_method_31_code 6 = .ok (.iadd, 1) := by decide +kernel
theorem d9_7 : decode jdk_68_method_31_code 7 = .ok (.invokevirtual 100, 3) := by decide +kernel
theorem d9_10 : decode jdk_68_method_31_code 10 = .ok (.aload_n 0, 1) := by decide +kernel
theorem d9_11 : decode jdk_68_method_31_code 11 = .ok (.invokevirtual 83, 3) := by decide +kernel
theorem d9_14 : decode jdk_68_method_31_code 14 = .ok (.ifCond .eq 31, 3) := by decide +kernel
theorem d9_17 : decode jdk_68_method_31_code 17 = .ok (.iload_n 1, 1) := by decide +kernel
theorem d9_18 : decode jdk_68_method_31_code 18 = .ok (.invokestatic 191, 3) := by decide +kernel
theorem d9_21 : decode jdk_68_method_31_code 21 = .ok (.ifCond .eq 24, 3) := by decide +kernel
theorem d9_24 : decode jdk_68_method_31_code 24 = .ok (.aload_n 0, 1) := by decide +kernel
theorem d9_25 : decode jdk_68_method_31_code 25 = .ok (.getfield 15, 3) := by decide +kernel
theorem d9_28 : decode jdk_68_method_31_code 28 = .ok (.aload_n 0, 1) := by decide +kernel
theorem d9_29 : decode jdk_68_method_31_code 29 = .ok (.dup, 1) := by decide +kernel
theorem d9_30 : decode jdk_68_method_31_code 30 = .ok (.getfield 79, 3) := by decide +kernel
theorem d9_33 : decode jdk_68_method_31_code 33 = .ok (.dup_x1, 1) := by decide +kernel
theorem d9_34 : decode jdk_68_method_31_code 34 = .ok (.iconst 1, 1) := by decide +kernel
theorem d9_35 : decode jdk_68_method_31_code 35 = .ok (.iadd, 1) := by decide +kernel
theorem d9_36 : decode jdk_68_method_31_code 36 = .ok (.putfield 79, 3) := by decide +kernel
theorem d9_39 : decode jdk_68_method_31_code 39 = .ok (.iload_n 1, 1) := by decide +kernel
theorem d9_40 : decode jdk_68_method_31_code 40 = .ok (.i2b, 1) := by decide +kernel
theorem d9_41 : decode jdk_68_method_31_code 41 = .ok (.bastore, 1) := by decide +kernel
theorem d9_42 : decode jdk_68_method_31_code 42 = .ok (.goto 33, 3) := by decide +kernel
theorem d9_45 : decode jdk_68_method_31_code 45 = .ok (.aload_n 0, 1) := by decide +kernel
theorem d9_46 : decode jdk_68_method_31_code 46 = .ok (.invokevirtual 83, 3) := by decide +kernel
theorem d9_49 : decode jdk_68_method_31_code 49 = .ok (.ifCond .eq 7, 3) := by decide +kernel
theorem d9_52 : decode jdk_68_method_31_code 52 = .ok (.aload_n 0, 1) := by decide +kernel
theorem d9_53 : decode jdk_68_method_31_code 53 = .ok (.invokevirtual 195, 3) := by decide +kernel
theorem d9_56 : decode jdk_68_method_31_code 56 = .ok (.aload_n 0, 1) := by decide +kernel
theorem d9_57 : decode jdk_68_method_31_code 57 = .ok (.getfield 15, 3) := by decide +kernel
theorem d9_60 : decode jdk_68_method_31_code 60 = .ok (.aload_n 0, 1) := by decide +kernel
theorem d9_61 : decode jdk_68_method_31_code 61 = .ok (.dup, 1) := by decide +kernel
theorem d9_62 : decode jdk_68_method_31_code 62 = .ok (.getfield 79, 3) := by decide +kernel
theorem d9_65 : decode jdk_68_method_31_code 65 = .ok (.dup_x1, 1) := by decide +kernel
theorem d9_66 : decode jdk_68_method_31_code 66 = .ok (.iconst 1, 1) := by decide +kernel
theorem d9_67 : decode jdk_68_method_31_code 67 = .ok (.iadd, 1) := by decide +kernel
theorem d9_68 : decode jdk_68_method_31_code 68 = .ok (.putfield 79, 3) := by decide +kernel
theorem d9_71 : decode jdk_68_method_31_code 71 = .ok (.iload_n 1, 1) := by decide +kernel
theorem d9_72 : decode jdk_68_method_31_code 72 = .ok (.invokestatic 197, 3) := by decide +kernel
theorem d9_75 : decode jdk_68_method_31_code 75 = .ok (.aload_n 0, 1) := by decide +kernel
theorem d9_76 : decode jdk_68_method_31_code 76 = .ok (.areturn, 1) := by decide +kernel
theorem pd_392 : parseMethodDescriptor "()Z" = some ⟨[], some .boolean⟩ := by decide +kernel
theorem pd_657 : parseMethodDescriptor "(C)Z" = some ⟨[.char], some .boolean⟩ := by decide +kernel
theorem efAc1 (x : Addr) (pr : Int32) (m : MethodId) : entryFrame m #[(.ref x), (.int pr)] 2 = mkF m 0 #[.val (.ref x), .val (.int pr)] [] := by first | (simp [entryFrame, mkF, argsToLocals, Value.category]; done) | rfl
def QAc1 (Z : State) (x t : Addr) (kt : ClassId) (pr zc : Int32) (fm fi : Value) (u8 : Addr) (h0 : Heap) (n0 : Nat) (v : Option Value) (h : Heap) (L : List Loc) : Prop := v = some (.ref x) ∧ Fr n0 L ∧ Keep h0 h [x, t] ∧ Exa Z h x "java/lang/StringBuilder" ∧ Fld Z h x "java/lang/AbstractStringBuilder" "value" "[B" (.ref t) ∧ Fld Z h x "java/lang/AbstractStringBuilder" "coder" "B" (.int (0 : Int32)) ∧ Fld Z h x "java/lang/AbstractStringBuilder" "count" "I" (.int (1 : Int32)) ∧ Arv Z h t kt .byte (8192 : Int32) [(.int pr)] (.int (0 : Int32))
set_option maxRecDepth 65536 in
set_option maxHeartbeats 40000000 in
theorem rmAc1 (l : Launch) (Z : State) (a0 : Array Value) (hw : ∀ d ∈ tables_1, d.before a0 Z = true) (ws : List Jvm.Cond) (x t : Addr) (kt : ClassId) (pr zc : Int32) (fm fi : Value) (u8 : Addr) (h0 : Heap) (n0 : Nat) (Z0 : n0 ≤ h0.size) (O0 : Old Z n0 h0) (S_CS : Sta Z Z.heap "java/lang/String" "COMPACT_STRINGS" "Z" (.int zc)) (hzc : ¬ zc = 0) (S_FM : Sta Z Z.heap "jdk/internal/util/Preconditions" "SIOOBE_FORMATTER" "Ljava/util/function/BiFunction;" fm) (hfm : fm.isRef = true) (S_FI : Sta Z Z.heap "jdk/internal/util/Preconditions" "IOOBE_FORMATTER" "Ljava/util/function/BiFunction;" fi) (hfi : fi.isRef = true) (S_IN : Sta Z Z.heap "sun/nio/cs/UTF_8" "INSTANCE" "Lsun/nio/cs/UTF_8;" (.ref u8)) (S_U8 : Sta Z Z.heap "java/nio/charset/StandardCharsets" "UTF_8" "Ljava/nio/charset/Charset;" (.ref u8)) (gx : n0 ≤ x) (gt : n0 ≤ t) (Ex : Exa Z h0 x "java/lang/StringBuilder") (Fv : Fld Z h0 x "java/lang/AbstractStringBuilder" "value" "[B" (.ref t)) (Fc : Fld Z h0 x "java/lang/AbstractStringBuilder" "coder" "B" (.int (0 : Int32))) (Fn : Fld Z h0 x "java/lang/AbstractStringBuilder" "count" "I" (.int (0 : Int32))) (Vt : Arv Z h0 t kt .byte (8192 : Int32) [] (.int (0 : Int32))) (hp : Pr pr) :
    OwnLaw l (⟨"java/lang/AbstractStringBuilder", "append", "(C)Ljava/lang/AbstractStringBuilder;"⟩ : MethodName) jdk_68_method_31_code 2 (some (.object "java/lang/AbstractStringBuilder")) ws (rR 1 0 0 14) #[(.ref x), (.int pr)] Z h0 (QAc1 Z x t kt pr zc fm fi u8 h0 n0) := by
  refine own_enter (plainFor_of_name pn_java_lang_AbstractStringBuilder) (efAc1 x pr) ?_
  intro p e s m below meth c s₁ Bd hx hby hml hZ hown X0 e0
  have N0 := Fr.nil n0
  have K0 : Keep h0 h0 [] := Keep.refl _ _
  have K0 : Keep h0 h0 [x, t] := Keep.refl _ _
  refine P1.aloadN X0.here hx (hb hby d9_0) rfl rfl ?_
  refine P1.aloadN X0.here hx (hb hby d9_1) rfl rfl ?_
  obtain ⟨T66, X66, e66, st66⟩ := getF X0 hx hZ hown (host := "") (Or.inl (own_w hw 59 rfl)) Via.refl e0 Fn (g := (mkF m 2 #[.val (.ref x), .val (.int pr)] [(.ref x), (.ref x)])) rfl rfl (hb hby d9_2)
  refine Goes.step (T' := T66) (g' := (mkF m 5 #[.val (.ref x), .val (.int pr)] [(.int (0 : Int32)), (.ref x)])) st66 ?_
  refine P1.iconst X66.here hx (1 : Int32) (hb hby d9_5) rfl ?_
  refine P1.iadd X66.here hx (hb hby d9_6) ?_
  have rw67 : ((0 : Int32) + (1 : Int32)) = (1 : Int32) := by decide
  rw [rw67]
  refine Goes.callV X66 hx hZ (y := y14_) (z := y14_) hown (mvT hZ (own_w hw 61 rfl)) (mvT hZ (own_declares (own_w hw 62 rfl) (own_w hw 65 rfl))) (notFace_of_selects (args := #[]) (mvT hZ (own_w hw 64 rfl))) (mvT hZ (own_w hw 64 rfl)) (mvT hZ (own_w hw 62 rfl)) (by decide) (kc' := 0) (ks' := 0) (backOf (W := 0) (rmEns l Z a0 hw [] x t kt [] (1 : Int32) h0 n0 Z0 O0 Ex Fv Fc Vt (by decide)) hZ (own_w hw 65 rfl) (own_w hw 32 rfl) (ok rfl) (ok rfl)) (b := x) e66 Ex (g := (mkF m 7 #[.val (.ref x), .val (.int pr)] [(.int (1 : Int32)), (.ref x)])) rfl (by rw [hml]; rfl) (argsL := [(.int (1 : Int32))]) (rest := []) (lenOf pd_653 rfl) rfl (by show 2 * 0 + _ ≤ _; exact Nat.le_of_eq rfl) (hb hby d9_7) rfl (ok rfl) (ok rfl) ?_
  intro v68 T68 L68 q68 X68
  obtain ⟨rfl, N68q, hE68⟩ := q68
  have N68 := Fr.app N0 N68q
  show Goes p e below _ T68 (mkF m 10 #[.val (.ref x), .val (.int pr)] [])
  refine P1.aloadN X68.here hx (hb hby d9_10) rfl rfl ?_
  refine Goes.callV X68 hx hZ (y := y16_) (z := y16_) hown (mvT hZ (own_w hw 66 rfl)) (mvT hZ (own_w hw 67 rfl)) (notFace_of_selects (args := #[]) (mvT hZ (own_w hw 69 rfl))) (mvT hZ (own_w hw 69 rfl)) (mvT hZ (own_w hw 68 rfl)) (by decide) (kc' := 0) (ks' := 0) (backOf (W := 0) (rmIl l Z a0 hw [] x zc fm fi u8 h0 n0 Z0 O0 S_CS hzc S_FM hfm S_FI hfi S_IN S_U8 Fc) hZ (own_w hw 70 rfl) (own_w hw 32 rfl) (ok rfl) (ok rfl)) (b := x) hE68 Ex (g := (mkF m 11 #[.val (.ref x), .val (.int pr)] [(.ref x)])) rfl (by rw [hml]; rfl) (argsL := []) (rest := []) (lenOf pd_392 rfl) rfl (by show 2 * 0 + _ ≤ _; exact Nat.le_of_eq rfl) (hb hby d9_11) rfl (ok rfl) (ok rfl) ?_
  intro v69 T69 L69 q69 X69
  obtain ⟨rfl, N69q, hE69⟩ := q69
  have N69 := Fr.app N68 N69q
  show Goes p e below _ T69 (mkF m 14 #[.val (.ref x), .val (.int pr)] [(.int (1 : Int32))])
  refine P1.ifNo X69.here hx (hb hby d9_14) ((if0 _ _).trans (feq (by decide : ¬ ((1 : Int32) = (0 : Int32)))).1) ?_
  refine P1.iloadN X69.here hx (hb hby d9_17) rfl ?_
  refine Goes.callS X69 hx (y := y36_) hown (mvT hZ (own_w hw 71 rfl)) (mvT hZ (own_w hw 72 rfl)) (mvT hZ (own_w hw 73 rfl)) (mvT hZ (own_w hw 74 rfl)) (by decide) (kc' := 0) (ks' := 0) (backOf (W := 0) (rmCan l Z a0 hw [] pr h0 n0 Z0 O0 hp) hZ (own_w hw 74 rfl) (own_w hw 73 rfl) (ok rfl) (ok rfl)) (g := (mkF m 18 #[.val (.ref x), .val (.int pr)] [(.int pr)])) rfl (by rw [hml]; rfl) (argsL := [(.int pr)]) (rest := []) (lenOf pd_657 rfl) rfl (by show 2 * 0 + _ ≤ _; exact Nat.le_of_eq rfl) (hb hby d9_18) rfl hE69 (ok rfl) (ok rfl) ?_
  intro v70 T70 L70 q70 X70
  obtain ⟨rfl, N70q, hE70⟩ := q70
  have N70 := Fr.app N69 N70q
  show Goes p e below _ T70 (mkF m 21 #[.val (.ref x), .val (.int pr)] [(.int (1 : Int32))])
  refine P1.ifNo X70.here hx (hb hby d9_21) ((if0 _ _).trans (feq (by decide : ¬ ((1 : Int32) = (0 : Int32)))).1) ?_
  refine P1.aloadN X70.here hx (hb hby d9_24) rfl rfl ?_
  obtain ⟨T71, X71, e71, st71⟩ := getF X70 hx hZ hown (host := "") (Or.inl (own_w hw 38 rfl)) Via.refl hE70 Fv (g := (mkF m 25 #[.val (.ref x), .val (.int pr)] [(.ref x)])) rfl rfl (hb hby d9_25)
  refine Goes.step (T' := T71) (g' := (mkF m 28 #[.val (.ref x), .val (.int pr)] [(.ref t)])) st71 ?_
  refine P1.aloadN X71.here hx (hb hby d9_28) rfl rfl ?_
  refine P1.dup X71.here hx (hb hby d9_29) rfl ?_
  obtain ⟨T72, X72, e72, st72⟩ := getF X71 hx hZ hown (host := "") (Or.inl (own_w hw 59 rfl)) Via.refl e71 Fn (g := (mkF m 30 #[.val (.ref x), .val (.int pr)] [(.ref x), (.ref x), (.ref t)])) rfl rfl (hb hby d9_30)
  refine Goes.step (T' := T72) (g' := (mkF m 33 #[.val (.ref x), .val (.int pr)] [(.int (0 : Int32)), (.ref x), (.ref t)])) st72 ?_
  refine Goes.step (T' := T72) (g' := (mkF m 34 #[.val (.ref x), .val (.int pr)] [(.int (0 : Int32)), (.ref x), (.int (0 : Int32)), (.ref t)])) (fun t_ k_ => XS.dupX1 X72.here hx rfl (hb hby d9_33) rfl rfl rfl k_) ?_
  refine P1.iconst X72.here hx (1 : Int32) (hb hby d9_34) rfl ?_
  refine P1.iadd X72.here hx (hb hby d9_35) ?_
  have rw73 : ((0 : Int32) + (1 : Int32)) = (1 : Int32) := by decide
  rw [rw73]
  obtain ⟨T74, h74, X74, e74, W74, st74⟩ := putF X72 hx hZ hown (host := "") (Or.inl (own_w hw 59 rfl)) Via.refl e72 Fn Ex (Or.inl (own_w hw 60 rfl)) (own_w hw 23 rfl) (ty := .int) (by decide) rfl rfl (g := (mkF m 36 #[.val (.ref x), .val (.int pr)] [(.int (1 : Int32)), (.ref x), (.int (0 : Int32)), (.ref t)])) rfl rfl (hb hby d9_36)
  have Fw74 : Fld Z h74 x "java/lang/AbstractStringBuilder" "count" "I" (.int (1 : Int32)) := Fn.same W74
  have N74 := Fr.snoc X74 N70 gx
  refine Goes.step (T' := T74) (g' := (mkF m 39 #[.val (.ref x), .val (.int pr)] [(.int (0 : Int32)), (.ref t)])) st74 ?_
  refine P1.iloadN X74.here hx (hb hby d9_39) rfl ?_
  refine Goes.step (T' := T74) (g' := (mkF m 41 #[.val (.ref x), .val (.int pr)] [(.int (pr.toInt8.toInt32)), (.int (0 : Int32)), (.ref t)])) (fun t_ k_ => XS.i2b X74.here hx rfl (hb hby d9_40) rfl k_) ?_
  have rw75 : (pr.toInt8.toInt32) = pr := hp.i2b
  rw [rw75]
  have ne76 : x ≠ t := own_ne_arv Ex (own_w hw 23 rfl) Vt
  have V77 : Arv Z h74 t kt .byte (8192 : Int32) [] (.int (0 : Int32)) := Vt.other W74 (Ne.symm ne76)
  have V78 : Arv Z h74 t kt .byte (8192 : Int32) [(.int (0 : Int32))] (.int (0 : Int32)) := V77.pad (pad_rep [] (.int (0 : Int32)) 1)
  obtain ⟨cl79, Ar79, qk79, sl79, nz79, ha79, fi79⟩ := id V78
  obtain ⟨T80, h80, X80, e80, W80, st80⟩ := stB X74 hx hZ e74 Ar79 (j := (0 : Int32)) (inb_of sl79 ⟨by decide, by decide⟩) (g := (mkF m 41 #[.val (.ref x), .val (.int pr)] [(.int pr), (.int (0 : Int32)), (.ref t)])) rfl rfl (hb hby d9_41)
  rw [hp.nb] at W80
  have V80 : Arv Z h80 t kt .byte (8192 : Int32) [(.int pr)] (.int (0 : Int32)) := Arv.set Ar79 qk79 sl79 nz79 ha79 fi79 (hp.nb ▸ fits_nar_byte pr) W80 0 rfl (ok rfl)
  have N80 := Fr.snoc X80 N74 gt
  refine Goes.step (T' := T80) (g' := (mkF m 42 #[.val (.ref x), .val (.int pr)] [])) st80 ?_
  refine P1.goto X80.here hx 75 (hb hby d9_42) (by decide) (by decide) ?_
  refine P1.aloadN X80.here hx (hb hby d9_75) rfl rfl ?_
  refine Goes.retA X80 hx Bd.notSynchronized Bd.returns rfl rfl (hb hby d9_76) (ok rfl) (ok rfl) ?_
  rw [e80]
  have K81 : Keep h0 h74 [x, t] := K0.wr W74 (Or.inl (by simp))
  have K82 : Keep h0 h80 [x, t] := K81.wr W80 (Or.inl (by simp))
  have E83 : Exa Z h74 x "java/lang/StringBuilder" := Ex.wr W74
  have E84 : Exa Z h80 x "java/lang/StringBuilder" := E83.wr W80
  have F85 : Fld Z h74 x "java/lang/AbstractStringBuilder" "value" "[B" (.ref t) := Fv.other W74 (Or.inr (slot_ne (Or.inl (own_w hw 39 rfl)) (Or.inl (own_w hw 60 rfl)) (by decide) (t := (.array .byte)) (t' := .int) (by decide) (by decide)))
  have F86 : Fld Z h80 x "java/lang/AbstractStringBuilder" "value" "[B" (.ref t) := F85.other W80 (Or.inl ne76)
  have F87 : Fld Z h74 x "java/lang/AbstractStringBuilder" "coder" "B" (.int (0 : Int32)) := Fc.other W74 (Or.inr (slot_ne (Or.inl (own_w hw 41 rfl)) (Or.inl (own_w hw 60 rfl)) (by decide) (t := .byte) (t' := .int) (by decide) (by decide)))
  have F88 : Fld Z h80 x "java/lang/AbstractStringBuilder" "coder" "B" (.int (0 : Int32)) := F87.other W80 (Or.inl ne76)
  have F89 : Fld Z h80 x "java/lang/AbstractStringBuilder" "count" "I" (.int (1 : Int32)) := Fw74.other W80 (Or.inl ne76)
  exact ⟨rfl, N80, K82, E84, F86, F88, F89, V80⟩
theorem d8_0 : decode jdk_67_method_14_code 0 = .ok (.aload_n 0, 1) := by decide +kernel
theorem d8_1 : decode jdk_67_method_14_code 1 = .ok (.iload_n 1, 1) := by decide +kernel
theorem d8_2 : decode jdk_67_method_14_code 2 = .ok (.invokespecial 50, 3) := by decide +kernel
theorem d8_5 : decode jdk_67_method_14_code 5 = .ok (.pop, 1) := by decide +kernel
theorem d8_6 : decode jdk_67_method_14_code 6 = .ok (.aload_n 0, 1) := by decide +kernel
theorem d8_7 : decode jdk_67_method_14_code 7 = .ok (.areturn, 1) := by decide +kernel
theorem pd_65635 : parseMethodDescriptor "(C)Ljava/lang/AbstractStringBuilder;" = some ⟨[.char], some (.object "java/lang/AbstractStringBuilder")⟩ := by decide +kernel
theorem efSc1 (x : Addr) (pr : Int32) (m : MethodId) : entryFrame m #[(.ref x), (.int pr)] 2 = mkF m 0 #[.val (.ref x), .val (.int pr)] [] := by first | (simp [entryFrame, mkF, argsToLocals, Value.category]; done) | rfl
def QSc1 (Z : State) (x t : Addr) (kt : ClassId) (pr zc : Int32) (fm fi : Value) (u8 : Addr) (h0 : Heap) (n0 : Nat) (v : Option Value) (h : Heap) (L : List Loc) : Prop := v = some (.ref x) ∧ Fr n0 L ∧ Keep h0 h [x, t] ∧ Exa Z h x "java/lang/StringBuilder" ∧ Fld Z h x "java/lang/AbstractStringBuilder" "value" "[B" (.ref t) ∧ Fld Z h x "java/lang/AbstractStringBuilder" "coder" "B" (.int (0 : Int32)) ∧ Fld Z h x "java/lang/AbstractStringBuilder" "count" "I" (.int (1 : Int32)) ∧ Arv Z h t kt .byte (8192 : Int32) [(.int pr)] (.int (0 : Int32))
set_option maxRecDepth 65536 in
set_option maxHeartbeats 40000000 in
theorem rmSc1 (l : Launch) (Z : State) (a0 : Array Value) (hw : ∀ d ∈ tables_1, d.before a0 Z = true) (ws : List Jvm.Cond) (x t : Addr) (kt : ClassId) (pr zc : Int32) (fm fi : Value) (u8 : Addr) (h0 : Heap) (n0 : Nat) (Z0 : n0 ≤ h0.size) (O0 : Old Z n0 h0) (S_CS : Sta Z Z.heap "java/lang/String" "COMPACT_STRINGS" "Z" (.int zc)) (hzc : ¬ zc = 0) (S_FM : Sta Z Z.heap "jdk/internal/util/Preconditions" "SIOOBE_FORMATTER" "Ljava/util/function/BiFunction;" fm) (hfm : fm.isRef = true) (S_FI : Sta Z Z.heap "jdk/internal/util/Preconditions" "IOOBE_FORMATTER" "Ljava/util/function/BiFunction;" fi) (hfi : fi.isRef = true) (S_IN : Sta Z Z.heap "sun/nio/cs/UTF_8" "INSTANCE" "Lsun/nio/cs/UTF_8;" (.ref u8)) (S_U8 : Sta Z Z.heap "java/nio/charset/StandardCharsets" "UTF_8" "Ljava/nio/charset/Charset;" (.ref u8)) (gx : n0 ≤ x) (gt : n0 ≤ t) (Ex : Exa Z h0 x "java/lang/StringBuilder") (Fv : Fld Z h0 x "java/lang/AbstractStringBuilder" "value" "[B" (.ref t)) (Fc : Fld Z h0 x "java/lang/AbstractStringBuilder" "coder" "B" (.int (0 : Int32))) (Fn : Fld Z h0 x "java/lang/AbstractStringBuilder" "count" "I" (.int (0 : Int32))) (Vt : Arv Z h0 t kt .byte (8192 : Int32) [] (.int (0 : Int32))) (hp : Pr pr) :
    OwnLaw l y29_ jdk_67_method_14_code 2 (some (.object "java/lang/StringBuilder")) ws (rR 2 0 0 27) #[(.ref x), (.int pr)] Z h0 (QSc1 Z x t kt pr zc fm fi u8 h0 n0) := by
  refine own_enter (plainFor_of_name pn_java_lang_StringBuilder) (efSc1 x pr) ?_
  intro p e s m below meth c s₁ Bd hx hby hml hZ hown X0 e0
  have N0 := Fr.nil n0
  have K0 : Keep h0 h0 [] := Keep.refl _ _
  have K0 : Keep h0 h0 [x, t] := Keep.refl _ _
  refine P1.aloadN X0.here hx (hb hby d8_0) rfl rfl ?_
  refine P1.iloadN X0.here hx (hb hby d8_1) rfl ?_
  refine Goes.callSup X0 hx hZ (y := (⟨"java/lang/AbstractStringBuilder", "append", "(C)Ljava/lang/AbstractStringBuilder;"⟩ : MethodName)) hown (own_w hw 54 rfl) (own_sameMethod (own_w hw 55 rfl) (own_w hw 64 rfl) rfl (by decide)) (own_w hw 55 rfl) (own_w hw 56 rfl) (by decide) (kc' := 0) (ks' := 0) (backOf (W := 0) (rmAc1 l Z a0 hw [] x t kt pr zc fm fi u8 h0 n0 Z0 O0 S_CS hzc S_FM hfm S_FI hfi S_IN S_U8 gx gt Ex Fv Fc Fn Vt hp) hZ (own_w hw 58 rfl) (own_w hw 32 rfl) (ok rfl) (ok rfl)) (a := x) e0 (Ins.of_exa Ex (own_w hw 31 rfl)) (own_w hw 58 rfl) (g := (mkF m 2 #[.val (.ref x), .val (.int pr)] [(.int pr), (.ref x)])) rfl (by rw [hml]; rfl) (argsL := [(.int pr)]) (rest := []) (lenOf pd_65635 rfl) rfl (by show 2 * 0 + _ ≤ _; exact Nat.le_of_eq rfl) (hb hby d8_2) rfl (ok rfl) (ok rfl) ?_
  intro v90 T90 L90 q90 X90
  obtain ⟨rfl, N90q, K90, g90E, g90v, g90c, g90n, g90V⟩ := q90
  have N90 := Fr.app N0 N90q
  show Goes p e below _ T90 (mkF m 5 #[.val (.ref x), .val (.int pr)] [(.ref x)])
  refine P1.pop X90.here hx (hb hby d8_5) rfl ?_
  refine P1.aloadN X90.here hx (hb hby d8_6) rfl rfl ?_
  refine Goes.retA X90 hx Bd.notSynchronized Bd.returns rfl rfl (hb hby d8_7) (ok rfl) (ok rfl) ?_
  have K91 : Keep h0 T90.heap [x, t] := K0.trans K90 (allS (Or.inl (by simp)) (allS (Or.inl (by simp)) all0))
  exact ⟨rfl, N90, K91, g90E, g90v, g90c, g90n, g90V⟩
theorem d7_0 : decode prog_46_method_5_code 0 = .ok (.aload_n 0, 1) := by decide +kernel
theorem d7_1 : decode prog_46_method_5_code 1 = .ok (.getfield 12, 3) := by decide +kernel
theorem d7_4 : decode prog_46_method_5_code 4 = .ok (.iload_n 1, 1) := by decide +kernel
theorem d7_5 : decode prog_46_method_5_code 5 = .ok (.i2c, 1) := by decide +kernel
theorem d7_6 : decode prog_46_method_5_code 6 = .ok (.invokevirtual 36, 3) := by decide +kernel
theorem d7_9 : decode prog_46_method_5_code 9 = .ok (.pop, 1) := by decide +kernel
theorem d7_10 : decode prog_46_method_5_code 10 = .ok (.return_, 1) := by decide +kernel
theorem pd_39104 : parseMethodDescriptor "(C)Ljava/lang/StringBuilder;" = some ⟨[.char], some (.object "java/lang/StringBuilder")⟩ := by decide +kernel
theorem efW1 (y : Addr) (pr : Int32) (m : MethodId) : entryFrame m #[(.ref y), (.int pr)] 2 = mkF m 0 #[.val (.ref y), .val (.int pr)] [] := by first | (simp [entryFrame, mkF, argsToLocals, Value.category]; done) | rfl
def QW1 (Z : State) (y x t : Addr) (kt : ClassId) (pr zc : Int32) (fm fi : Value) (u8 : Addr) (h0 : Heap) (n0 : Nat) (v : Option Value) (h : Heap) (L : List Loc) : Prop := v = none ∧ Fr n0 L ∧ Keep h0 h [x, t] ∧ Exa Z h x "java/lang/StringBuilder" ∧ Fld Z h x "java/lang/AbstractStringBuilder" "value" "[B" (.ref t) ∧ Fld Z h x "java/lang/AbstractStringBuilder" "coder" "B" (.int (0 : Int32)) ∧ Fld Z h x "java/lang/AbstractStringBuilder" "count" "I" (.int (1 : Int32)) ∧ Arv Z h t kt .byte (8192 : Int32) [(.int pr)] (.int (0 : Int32))
set_option maxRecDepth 65536 in
set_option maxHeartbeats 40000000 in
theorem rmW1 (l : Launch) (Z : State) (a0 : Array Value) (hw : ∀ d ∈ tables_1, d.before a0 Z = true) (ws : List Jvm.Cond) (y x t : Addr) (kt : ClassId) (pr zc : Int32) (fm fi : Value) (u8 : Addr) (h0 : Heap) (n0 : Nat) (Z0 : n0 ≤ h0.size) (O0 : Old Z n0 h0) (S_CS : Sta Z Z.heap "java/lang/String" "COMPACT_STRINGS" "Z" (.int zc)) (hzc : ¬ zc = 0) (S_FM : Sta Z Z.heap "jdk/internal/util/Preconditions" "SIOOBE_FORMATTER" "Ljava/util/function/BiFunction;" fm) (hfm : fm.isRef = true) (S_FI : Sta Z Z.heap "jdk/internal/util/Preconditions" "IOOBE_FORMATTER" "Ljava/util/function/BiFunction;" fi) (hfi : fi.isRef = true) (S_IN : Sta Z Z.heap "sun/nio/cs/UTF_8" "INSTANCE" "Lsun/nio/cs/UTF_8;" (.ref u8)) (S_U8 : Sta Z Z.heap "java/nio/charset/StandardCharsets" "UTF_8" "Ljava/nio/charset/Charset;" (.ref u8)) (Ey : Exa Z h0 y "com/example/medeweten/medeweten/core/XmlText") (Fy : Fld Z h0 y "com/example/medeweten/medeweten/core/XmlText" "text" "Ljava/lang/StringBuilder;" (.ref x)) (gx : n0 ≤ x) (gt : n0 ≤ t) (Ex : Exa Z h0 x "java/lang/StringBuilder") (Fv : Fld Z h0 x "java/lang/AbstractStringBuilder" "value" "[B" (.ref t)) (Fc : Fld Z h0 x "java/lang/AbstractStringBuilder" "coder" "B" (.int (0 : Int32))) (Fn : Fld Z h0 x "java/lang/AbstractStringBuilder" "count" "I" (.int (0 : Int32))) (Vt : Arv Z h0 t kt .byte (8192 : Int32) [] (.int (0 : Int32))) (hp : Pr pr) :
    OwnLaw l y4_ prog_46_method_5_code 2 none ws (rR 3 0 0 40) #[(.ref y), (.int pr)] Z h0 (QW1 Z y x t kt pr zc fm fi u8 h0 n0) := by
  refine own_enter (plainFor_of_name pn_com_example_medeweten_medeweten_core_XmlText) (efW1 y pr) ?_
  intro p e s m below meth c s₁ Bd hx hby hml hZ hown X0 e0
  have N0 := Fr.nil n0
  have K0 : Keep h0 h0 [] := Keep.refl _ _
  have K0 : Keep h0 h0 [x, t] := Keep.refl _ _
  refine P1.aloadN X0.here hx (hb hby d7_0) rfl rfl ?_
  obtain ⟨T92, X92, e92, st92⟩ := getF X0 hx hZ hown (host := "") (Or.inl (own_w hw 42 rfl)) Via.refl e0 Fy (g := (mkF m 1 #[.val (.ref y), .val (.int pr)] [(.ref y)])) rfl rfl (hb hby d7_1)
  refine Goes.step (T' := T92) (g' := (mkF m 4 #[.val (.ref y), .val (.int pr)] [(.ref x)])) st92 ?_
  refine P1.iloadN X92.here hx (hb hby d7_4) rfl ?_
  refine Goes.step (T' := T92) (g' := (mkF m 6 #[.val (.ref y), .val (.int pr)] [(.int (pr.toUInt32.toUInt16.toUInt32.toInt32)), (.ref x)])) (fun t_ k_ => XS.i2c X92.here hx rfl (hb hby d7_5) rfl k_) ?_
  have rw93 : (pr.toUInt32.toUInt16.toUInt32.toInt32) = pr := hp.i2c
  rw [rw93]
  refine Goes.callV X92 hx hZ (y := y29_) (z := y29_) hown (mvT hZ (own_w hw 49 rfl)) (mvT hZ (own_w hw 50 rfl)) (notFace_of_selects (args := #[]) (mvT hZ (own_w hw 52 rfl))) (mvT hZ (own_w hw 52 rfl)) (mvT hZ (own_w hw 51 rfl)) (by decide) (kc' := 0) (ks' := 0) (backOf (W := 0) (rmSc1 l Z a0 hw [] x t kt pr zc fm fi u8 h0 n0 Z0 O0 S_CS hzc S_FM hfm S_FI hfi S_IN S_U8 gx gt Ex Fv Fc Fn Vt hp) hZ (own_w hw 53 rfl) (own_w hw 24 rfl) (ok rfl) (ok rfl)) (b := x) e92 Ex (g := (mkF m 6 #[.val (.ref y), .val (.int pr)] [(.int pr), (.ref x)])) rfl (by rw [hml]; rfl) (argsL := [(.int pr)]) (rest := []) (lenOf pd_39104 rfl) rfl (by show 2 * 0 + _ ≤ _; exact Nat.le_of_eq rfl) (hb hby d7_6) rfl (ok rfl) (ok rfl) ?_
  intro v94 T94 L94 q94 X94
  obtain ⟨rfl, N94q, K94, g94E, g94v, g94c, g94n, g94V⟩ := q94
  have N94 := Fr.app N0 N94q
  show Goes p e below _ T94 (mkF m 9 #[.val (.ref y), .val (.int pr)] [(.ref x)])
  refine P1.pop X94.here hx (hb hby d7_9) rfl ?_
  refine Goes.retV X94 hx Bd.notSynchronized Bd.returns (hb hby d7_10) (ok rfl) (ok rfl) ?_
  have K95 : Keep h0 T94.heap [x, t] := K0.trans K94 (allS (Or.inl (by simp)) (allS (Or.inl (by simp)) all0))
  exact ⟨rfl, N94, K95, g94E, g94v, g94c, g94n, g94V⟩
theorem d17_0 : decode jdk_68_method_74_code 0 = .ok (.aload_n 0, 1) := by decide +kernel
theorem d17_1 : decode jdk_68_method_74_code 1 = .ok (.getfield 79, 3) := by decide +kernel
theorem d17_4 : decode jdk_68_method_74_code 4 = .ok (.istore 4, 2) := by decide +kernel
theorem d17_6 : decode jdk_68_method_74_code 6 = .ok (.aload_n 0, 1) := by decide +kernel
theorem d17_7 : decode jdk_68_method_74_code 7 = .ok (.invokevirtual 83, 3) := by decide +kernel
theorem d17_10 : decode jdk_68_method_74_code 10 = .ok (.ifCond .eq 97, 3) := by decide +kernel
theorem d17_13 : decode jdk_68_method_74_code 13 = .ok (.aload_n 0, 1) := by decide +kernel
theorem d17_14 : decode jdk_68_method_74_code 14 = .ok (.getfield 15, 3) := by decide +kernel
theorem d17_17 : decode jdk_68_method_74_code 17 = .ok (.astore 5, 2) := by decide +kernel
theorem d17_19 : decode jdk_68_method_74_code 19 = .ok (.iload_n 2, 1) := by decide +kernel
theorem d17_20 : decode jdk_68_method_74_code 20 = .ok (.istore 6, 2) := by decide +kernel
theorem d17_22 : decode jdk_68_method_74_code 22 = .ok (.iload 4, 2) := by decide +kernel
theorem d17_24 : decode jdk_68_method_74_code 24 = .ok (.istore 7, 2) := by decide +kernel
theorem d17_26 : decode jdk_68_method_74_code 26 = .ok (.iload 6, 2) := by decide +kernel
theorem d17_28 : decode jdk_68_method_74_code 28 = .ok (.iload_n 3, 1) := by decide +kernel
theorem d17_29 : decode jdk_68_method_74_code 29 = .ok (.if_icmp .ge 75, 3) := by decide +kernel
theorem d17_32 : decode jdk_68_method_74_code 32 = .ok (.aload_n 1, 1) := by decide +kernel
theorem d17_33 : decode jdk_68_method_74_code 33 = .ok (.iload 6, 2) := by decide +kernel
theorem d17_35 : decode jdk_68_method_74_code 35 = .ok (.caload, 1) := by decide +kernel
theorem d17_36 : decode jdk_68_method_74_code 36 = .ok (.istore 8, 2) := by decide +kernel
theorem d17_38 : decode jdk_68_method_74_code 38 = .ok (.iload 8, 2) := by decide +kernel
theorem d17_40 : decode jdk_68_method_74_code 40 = .ok (.invokestatic 191, 3) := by decide +kernel
theorem d17_43 : decode jdk_68_method_74_code 43 = .ok (.ifCond .eq 17, 3) := by decide +kernel
theorem d17_46 : decode jdk_68_method_74_code 46 = .ok (.aload 5, 2) := by decide +kernel
theorem d17_48 : decode jdk_68_method_74_code 48 = .ok (.iload 7, 2) := by decide +kernel
theorem d17_50 : decode jdk_68_method_74_code 50 = .ok (.iinc 7 1, 3) := by decide +kernel
theorem d17_53 : decode jdk_68_method_74_code 53 = .ok (.iload 8, 2) := by decide +kernel
theorem d17_55 : decode jdk_68_method_74_code 55 = .ok (.i2b, 1) := by decide +kernel
theorem d17_56 : decode jdk_68_method_74_code 56 = .ok (.bastore, 1) := by decide +kernel
theorem d17_57 : decode jdk_68_method_74_code 57 = .ok (.goto 41, 3) := by decide +kernel
theorem d17_60 : decode jdk_68_method_74_code 60 = .ok (.aload_n 0, 1) := by decide +kernel
theorem d17_61 : decode jdk_68_method_74_code 61 = .ok (.iload 7, 2) := by decide +kernel
theorem d17_63 : decode jdk_68_method_74_code 63 = .ok (.dup, 1) := by decide +kernel
theorem d17_64 : decode jdk_68_method_74_code 64 = .ok (.istore 4, 2) := by decide +kernel
theorem d17_66 : decode jdk_68_method_74_code 66 = .ok (.putfield 79, 3) := by decide +kernel
theorem d17_69 : decode jdk_68_method_74_code 69 = .ok (.aload_n 0, 1) := by decide +kernel
theorem d17_70 : decode jdk_68_method_74_code 70 = .ok (.invokevirtual 195, 3) := by decide +kernel
theorem d17_73 : decode jdk_68_method_74_code 73 = .ok (.aload_n 0, 1) := by decide +kernel
theorem d17_74 : decode jdk_68_method_74_code 74 = .ok (.getfield 15, 3) := by decide +kernel
theorem d17_77 : decode jdk_68_method_74_code 77 = .ok (.iload 7, 2) := by decide +kernel
theorem d17_79 : decode jdk_68_method_74_code 79 = .ok (.aload_n 1, 1) := by decide +kernel
theorem d17_80 : decode jdk_68_method_74_code 80 = .ok (.iload 6, 2) := by decide +kernel
theorem d17_82 : decode jdk_68_method_74_code 82 = .ok (.iload_n 3, 1) := by decide +kernel
theorem d17_83 : decode jdk_68_method_74_code 83 = .ok (.invokestatic 386, 3) := by decide +kernel
theorem d17_86 : decode jdk_68_method_74_code 86 = .ok (.aload_n 0, 1) := by decide +kernel
theorem d17_87 : decode jdk_68_method_74_code 87 = .ok (.iload 4, 2) := by decide +kernel
theorem d17_89 : decode jdk_68_method_74_code 89 = .ok (.iload_n 3, 1) := by decide +kernel
theorem d17_90 : decode jdk_68_method_74_code 90 = .ok (.iadd, 1) := by decide +kernel
theorem d17_91 : decode jdk_68_method_74_code 91 = .ok (.iload 6, 2) := by decide +kernel
theorem d17_93 : decode jdk_68_method_74_code 93 = .ok (.isub, 1) := by decide +kernel
theorem d17_94 : decode jdk_68_method_74_code 94 = .ok (.putfield 79, 3) := by decide +kernel
theorem d17_97 : decode jdk_68_method_74_code 97 = .ok (.return_, 1) := by decide +kernel
theorem d17_98 : decode jdk_68_method_74_code 98 = .ok (.iinc 6 1, 3) := by decide +kernel
theorem d17_101 : decode jdk_68_method_74_code 101 = .ok (.goto (-75), 3) := by decide +kernel
theorem d17_104 : decode jdk_68_method_74_code 104 = .ok (.goto 15, 3) := by decide +kernel
theorem d17_107 : decode jdk_68_method_74_code 107 = .ok (.aload_n 0, 1) := by decide +kernel
theorem d17_108 : decode jdk_68_method_74_code 108 = .ok (.getfield 15, 3) := by decide +kernel
theorem d17_111 : decode jdk_68_method_74_code 111 = .ok (.iload 4, 2) := by decide +kernel
theorem d17_113 : decode jdk_68_method_74_code 113 = .ok (.aload_n 1, 1) := by decide +kernel
theorem d17_114 : decode jdk_68_method_74_code 114 = .ok (.iload_n 2, 1) := by decide +kernel
theorem d17_115 : decode jdk_68_method_74_code 115 = .ok (.iload_n 3, 1) := by decide +kernel
theorem d17_116 : decode jdk_68_method_74_code 116 = .ok (.invokestatic 386, 3) := by decide +kernel
theorem d17_119 : decode jdk_68_method_74_code 119 = .ok (.aload_n 0, 1) := by decide +kernel
theorem d17_120 : decode jdk_68_method_74_code 120 = .ok (.iload 4, 2) := by decide +kernel
theorem d17_122 : decode jdk_68_method_74_code 122 = .ok (.iload_n 3, 1) := by decide +kernel
theorem d17_123 : decode jdk_68_method_74_code 123 = .ok (.iadd, 1) := by decide +kernel
theorem d17_124 : decode jdk_68_method_74_code 124 = .ok (.iload_n 2, 1) := by decide +kernel
theorem d17_125 : decode jdk_68_method_74_code 125 = .ok (.isub, 1) := by decide +kernel
theorem d17_126 : decode jdk_68_method_74_code 126 = .ok (.putfield 79, 3) := by decide +kernel
theorem d17_129 : decode jdk_68_method_74_code 129 = .ok (.return_, 1) := by decide +kernel
theorem efAc_0_4 (x b : Addr) (m : MethodId) : entryFrame m #[(.ref x), (.ref b), (.int (0 : Int32)), (.int (4 : Int32))] 9 = mkF m 0 #[.val (.ref x), .val (.ref b), .val (.int (0 : Int32)), .val (.int (4 : Int32)), .unset, .unset, .unset, .unset, .unset] [] := by first | (simp [entryFrame, mkF, argsToLocals, Value.category]; done) | rfl
def QAc_0_4 (Z : State) (x t : Addr) (kt : ClassId) (b : Addr) (kb : ClassId) (pr c0 c1 c2 c3 zc : Int32) (fm fi : Value) (u8 : Addr) (h0 : Heap) (n0 : Nat) (v : Option Value) (h : Heap) (L : List Loc) : Prop := v = none ∧ Fr n0 L ∧ Keep h0 h [x, t] ∧ Exa Z h x "java/lang/StringBuilder" ∧ Fld Z h x "java/lang/AbstractStringBuilder" "value" "[B" (.ref t) ∧ Fld Z h x "java/lang/AbstractStringBuilder" "coder" "B" (.int (0 : Int32)) ∧ Fld Z h x "java/lang/AbstractStringBuilder" "count" "I" (.int (5 : Int32)) ∧ Arv Z h t kt .byte (8192 : Int32) [(.int pr), (.int c0), (.int c1), (.int c2), (.int c3)] (.int (0 : Int32))
set_option maxRecDepth 65536 in
set_option maxHeartbeats 40000000 in
theorem rmAc_0_4 (l : Launch) (Z : State) (a0 : Array Value) (hw : ∀ d ∈ tables_1, d.before a0 Z = true) (ws : List Jvm.Cond) (x t : Addr) (kt : ClassId) (b : Addr) (kb : ClassId) (pr c0 c1 c2 c3 zc : Int32) (fm fi : Value) (u8 : Addr) (h0 : Heap) (n0 : Nat) (Z0 : n0 ≤ h0.size) (O0 : Old Z n0 h0) (S_CS : Sta Z Z.heap "java/lang/String" "COMPACT_STRINGS" "Z" (.int zc)) (hzc : ¬ zc = 0) (S_FM : Sta Z Z.heap "jdk/internal/util/Preconditions" "SIOOBE_FORMATTER" "Ljava/util/function/BiFunction;" fm) (hfm : fm.isRef = true) (S_FI : Sta Z Z.heap "jdk/internal/util/Preconditions" "IOOBE_FORMATTER" "Ljava/util/function/BiFunction;" fi) (hfi : fi.isRef = true) (S_IN : Sta Z Z.heap "sun/nio/cs/UTF_8" "INSTANCE" "Lsun/nio/cs/UTF_8;" (.ref u8)) (S_U8 : Sta Z Z.heap "java/nio/charset/StandardCharsets" "UTF_8" "Ljava/nio/charset/Charset;" (.ref u8)) (gx : n0 ≤ x) (gt : n0 ≤ t) (Ex : Exa Z h0 x "java/lang/StringBuilder") (Fv : Fld Z h0 x "java/lang/AbstractStringBuilder" "value" "[B" (.ref t)) (Fc : Fld Z h0 x "java/lang/AbstractStringBuilder" "coder" "B" (.int (0 : Int32))) (Fn : Fld Z h0 x "java/lang/AbstractStringBuilder" "count" "I" (.int (1 : Int32))) (Vt : Arv Z h0 t kt .byte (8192 : Int32) [(.int pr)] (.int (0 : Int32))) (Vb : Arv Z h0 b kb .char (4 : Int32) [(.int c0), (.int c1), (.int c2), (.int c3)] (.int (0 : Int32))) (neb : b ≠ t) (h_c0 : Pr c0) (h_c1 : Pr c1) (h_c2 : Pr c2) (h_c3 : Pr c3) :
    OwnLaw l y12_ jdk_68_method_74_code 9 none ws (rR 1 0 0 12) #[(.ref x), (.ref b), (.int (0 : Int32)), (.int (4 : Int32))] Z h0 (QAc_0_4 Z x t kt b kb pr c0 c1 c2 c3 zc fm fi u8 h0 n0) := by
  refine own_enter (plainFor_of_name pn_java_lang_AbstractStringBuilder) (efAc_0_4 x b) ?_
  intro p e s m below meth c s₁ Bd hx hby hml hZ hown X0 e0
  have N0 := Fr.nil n0
  have K0 : Keep h0 h0 [] := Keep.refl _ _
  have K0 : Keep h0 h0 [x, t] := Keep.refl _ _
  refine P1.aloadN X0.here hx (hb hby d17_0) rfl rfl ?_
  obtain ⟨T96, X96, e96, st96⟩ := getF X0 hx hZ hown (host := "") (Or.inl (own_w hw 59 rfl)) Via.refl e0 Fn (g := (mkF m 1 #[.val (.ref x), .val (.ref b), .val (.int (0 : Int32)), .val (.int (4 : Int32)), .unset, .unset, .unset, .unset, .unset] [(.ref x)])) rfl rfl (hb hby d17_1)
  refine Goes.step (T' := T96) (g' := (mkF m 4 #[.val (.ref x), .val (.ref b), .val (.int (0 : Int32)), .val (.int (4 : Int32)), .unset, .unset, .unset, .unset, .unset] [(.int (1 : Int32))])) st96 ?_
  refine P1.istore X96.here hx #[.val (.ref x), .val (.ref b), .val (.int (0 : Int32)), .val (.int (4 : Int32)), .val (.int (1 : Int32)), .unset, .unset, .unset, .unset] (hb hby d17_4) rfl ?_
  refine P1.aloadN X96.here hx (hb hby d17_6) rfl rfl ?_
  refine Goes.callV X96 hx hZ (y := y16_) (z := y16_) hown (mvT hZ (own_w hw 66 rfl)) (mvT hZ (own_w hw 67 rfl)) (notFace_of_selects (args := #[]) (mvT hZ (own_w hw 69 rfl))) (mvT hZ (own_w hw 69 rfl)) (mvT hZ (own_w hw 68 rfl)) (by decide) (kc' := 0) (ks' := 0) (backOf (W := 0) (rmIl l Z a0 hw [] x zc fm fi u8 h0 n0 Z0 O0 S_CS hzc S_FM hfm S_FI hfi S_IN S_U8 Fc) hZ (own_w hw 70 rfl) (own_w hw 32 rfl) (ok rfl) (ok rfl)) (b := x) e96 Ex (g := (mkF m 7 #[.val (.ref x), .val (.ref b), .val (.int (0 : Int32)), .val (.int (4 : Int32)), .val (.int (1 : Int32)), .unset, .unset, .unset, .unset] [(.ref x)])) rfl (by rw [hml]; rfl) (argsL := []) (rest := []) (lenOf pd_392 rfl) rfl (by show 2 * 0 + _ ≤ _; exact Nat.le_of_eq rfl) (hb hby d17_7) rfl (ok rfl) (ok rfl) ?_
  intro v97 T97 L97 q97 X97
  obtain ⟨rfl, N97q, hE97⟩ := q97
  have N97 := Fr.app N0 N97q
  show Goes p e below _ T97 (mkF m 10 #[.val (.ref x), .val (.ref b), .val (.int (0 : Int32)), .val (.int (4 : Int32)), .val (.int (1 : Int32)), .unset, .unset, .unset, .unset] [(.int (1 : Int32))])
  refine P1.ifNo X97.here hx (hb hby d17_10) ((if0 _ _).trans (feq (by decide : ¬ ((1 : Int32) = (0 : Int32)))).1) ?_
  refine P1.aloadN X97.here hx (hb hby d17_13) rfl rfl ?_
  obtain ⟨T98, X98, e98, st98⟩ := getF X97 hx hZ hown (host := "") (Or.inl (own_w hw 38 rfl)) Via.refl hE97 Fv (g := (mkF m 14 #[.val (.ref x), .val (.ref b), .val (.int (0 : Int32)), .val (.int (4 : Int32)), .val (.int (1 : Int32)), .unset, .unset, .unset, .unset] [(.ref x)])) rfl rfl (hb hby d17_14)
  refine Goes.step (T' := T98) (g' := (mkF m 17 #[.val (.ref x), .val (.ref b), .val (.int (0 : Int32)), .val (.int (4 : Int32)), .val (.int (1 : Int32)), .unset, .unset, .unset, .unset] [(.ref t)])) st98 ?_
  refine P1.astore X98.here hx #[.val (.ref x), .val (.ref b), .val (.int (0 : Int32)), .val (.int (4 : Int32)), .val (.int (1 : Int32)), .val (.ref t), .unset, .unset, .unset] (hb hby d17_17) rfl rfl ?_
  refine P1.iloadN X98.here hx (hb hby d17_19) rfl ?_
  refine P1.istore X98.here hx #[.val (.ref x), .val (.ref b), .val (.int (0 : Int32)), .val (.int (4 : Int32)), .val (.int (1 : Int32)), .val (.ref t), .val (.int (0 : Int32)), .unset, .unset] (hb hby d17_20) rfl ?_
  refine P1.iload X98.here hx (hb hby d17_22) rfl ?_
  refine P1.istore X98.here hx #[.val (.ref x), .val (.ref b), .val (.int (0 : Int32)), .val (.int (4 : Int32)), .val (.int (1 : Int32)), .val (.ref t), .val (.int (0 : Int32)), .val (.int (1 : Int32)), .unset] (hb hby d17_24) rfl ?_
  refine P1.iload X98.here hx (hb hby d17_26) rfl ?_
  refine P1.iloadN X98.here hx (hb hby d17_28) rfl ?_
  refine P1.icmpNo X98.here hx (hb hby d17_29) (tlt (by decide : (0 : Int32) < (4 : Int32))).2.1 ?_
  refine P1.aloadN X98.here hx (hb hby d17_32) rfl rfl ?_
  refine P1.iload X98.here hx (hb hby d17_33) rfl ?_
  obtain ⟨cl99, Ar99, qk99, sl99, nz99, ha99, fi99⟩ := id Vb
  have i100 := inb_of (j := (0 : Int32)) sl99 ⟨by decide, by decide⟩
  refine Goes.step (T' := T98) (g' := (mkF m 36 #[.val (.ref x), .val (.ref b), .val (.int (0 : Int32)), .val (.int (4 : Int32)), .val (.int (1 : Int32)), .val (.ref t), .val (.int (0 : Int32)), .val (.int (1 : Int32)), .unset] [(.int c0)])) (fun t_ k_ => X98.caload hx (j := (0 : Int32)) (v := (.int c0)) (by rw [e98]; exact Ar99.1) (State.isArrayOf_alike hZ.alike Ar99.2.1) Ar99.2.2 i100 (Has.at ha99 i100 rfl) (g := (mkF m 35 #[.val (.ref x), .val (.ref b), .val (.int (0 : Int32)), .val (.int (4 : Int32)), .val (.int (1 : Int32)), .val (.ref t), .val (.int (0 : Int32)), .val (.int (1 : Int32)), .unset] [(.int (0 : Int32)), (.ref b)])) rfl rfl (hb hby d17_35) _ k_) ?_
  refine P1.istore X98.here hx #[.val (.ref x), .val (.ref b), .val (.int (0 : Int32)), .val (.int (4 : Int32)), .val (.int (1 : Int32)), .val (.ref t), .val (.int (0 : Int32)), .val (.int (1 : Int32)), .val (.int c0)] (hb hby d17_36) rfl ?_
  refine P1.iload X98.here hx (hb hby d17_38) rfl ?_
  refine Goes.callS X98 hx (y := y36_) hown (mvT hZ (own_w hw 71 rfl)) (mvT hZ (own_w hw 72 rfl)) (mvT hZ (own_w hw 73 rfl)) (mvT hZ (own_w hw 74 rfl)) (by decide) (kc' := 0) (ks' := 0) (backOf (W := 0) (rmCan l Z a0 hw [] c0 h0 n0 Z0 O0 h_c0) hZ (own_w hw 74 rfl) (own_w hw 73 rfl) (ok rfl) (ok rfl)) (g := (mkF m 40 #[.val (.ref x), .val (.ref b), .val (.int (0 : Int32)), .val (.int (4 : Int32)), .val (.int (1 : Int32)), .val (.ref t), .val (.int (0 : Int32)), .val (.int (1 : Int32)), .val (.int c0)] [(.int c0)])) rfl (by rw [hml]; rfl) (argsL := [(.int c0)]) (rest := []) (lenOf pd_657 rfl) rfl (by show 2 * 0 + _ ≤ _; exact Nat.le_of_eq rfl) (hb hby d17_40) rfl e98 (ok rfl) (ok rfl) ?_
  intro v101 T101 L101 q101 X101
  obtain ⟨rfl, N101q, hE101⟩ := q101
  have N101 := Fr.app N97 N101q
  show Goes p e below _ T101 (mkF m 43 #[.val (.ref x), .val (.ref b), .val (.int (0 : Int32)), .val (.int (4 : Int32)), .val (.int (1 : Int32)), .val (.ref t), .val (.int (0 : Int32)), .val (.int (1 : Int32)), .val (.int c0)] [(.int (1 : Int32))])
  refine P1.ifNo X101.here hx (hb hby d17_43) ((if0 _ _).trans (feq (by decide : ¬ ((1 : Int32) = (0 : Int32)))).1) ?_
  refine P1.aload X101.here hx (hb hby d17_46) rfl rfl ?_
  refine P1.iload X101.here hx (hb hby d17_48) rfl ?_
  refine Goes.step (T' := T101) (g' := (mkF m 53 #[.val (.ref x), .val (.ref b), .val (.int (0 : Int32)), .val (.int (4 : Int32)), .val (.int (1 : Int32)), .val (.ref t), .val (.int (0 : Int32)), .val (.int ((1 : Int32) + (1 : Int32))), .val (.int c0)] [(.int (1 : Int32)), (.ref t)])) (fun t_ k_ => XS.iinc X101.here hx rfl (hb hby d17_50) rfl (l' := #[.val (.ref x), .val (.ref b), .val (.int (0 : Int32)), .val (.int (4 : Int32)), .val (.int (1 : Int32)), .val (.ref t), .val (.int (0 : Int32)), .val (.int ((1 : Int32) + (1 : Int32))), .val (.int c0)]) rfl k_) ?_
  have rw102 : ((1 : Int32) + (1 : Int32)) = (2 : Int32) := by decide
  rw [rw102]
  refine P1.iload X101.here hx (hb hby d17_53) rfl ?_
  refine Goes.step (T' := T101) (g' := (mkF m 56 #[.val (.ref x), .val (.ref b), .val (.int (0 : Int32)), .val (.int (4 : Int32)), .val (.int (1 : Int32)), .val (.ref t), .val (.int (0 : Int32)), .val (.int (2 : Int32)), .val (.int c0)] [(.int (c0.toInt8.toInt32)), (.int (1 : Int32)), (.ref t)])) (fun t_ k_ => XS.i2b X101.here hx rfl (hb hby d17_55) rfl k_) ?_
  have rw103 : (c0.toInt8.toInt32) = c0 := h_c0.i2b
  rw [rw103]
  have V104 : Arv Z h0 t kt .byte (8192 : Int32) [(.int pr), (.int (0 : Int32))] (.int (0 : Int32)) := Vt.pad (pad_rep [(.int pr)] (.int (0 : Int32)) 1)
  obtain ⟨cl105, Ar105, qk105, sl105, nz105, ha105, fi105⟩ := id V104
  obtain ⟨T106, h106, X106, e106, W106, st106⟩ := stB X101 hx hZ hE101 Ar105 (j := (1 : Int32)) (inb_of sl105 ⟨by decide, by decide⟩) (g := (mkF m 56 #[.val (.ref x), .val (.ref b), .val (.int (0 : Int32)), .val (.int (4 : Int32)), .val (.int (1 : Int32)), .val (.ref t), .val (.int (0 : Int32)), .val (.int (2 : Int32)), .val (.int c0)] [(.int c0), (.int (1 : Int32)), (.ref t)])) rfl rfl (hb hby d17_56)
  rw [h_c0.nb] at W106
  have V106 : Arv Z h106 t kt .byte (8192 : Int32) [(.int pr), (.int c0)] (.int (0 : Int32)) := Arv.set Ar105 qk105 sl105 nz105 ha105 fi105 (h_c0.nb ▸ fits_nar_byte c0) W106 1 rfl (ok rfl)
  have N106 := Fr.snoc X106 N101 gt
  refine Goes.step (T' := T106) (g' := (mkF m 57 #[.val (.ref x), .val (.ref b), .val (.int (0 : Int32)), .val (.int (4 : Int32)), .val (.int (1 : Int32)), .val (.ref t), .val (.int (0 : Int32)), .val (.int (2 : Int32)), .val (.int c0)] [])) st106 ?_
  refine P1.goto X106.here hx 98 (hb hby d17_57) (by decide) (by decide) ?_
  refine Goes.step (T' := T106) (g' := (mkF m 101 #[.val (.ref x), .val (.ref b), .val (.int (0 : Int32)), .val (.int (4 : Int32)), .val (.int (1 : Int32)), .val (.ref t), .val (.int ((0 : Int32) + (1 : Int32))), .val (.int (2 : Int32)), .val (.int c0)] [])) (fun t_ k_ => XS.iinc X106.here hx rfl (hb hby d17_98) rfl (l' := #[.val (.ref x), .val (.ref b), .val (.int (0 : Int32)), .val (.int (4 : Int32)), .val (.int (1 : Int32)), .val (.ref t), .val (.int ((0 : Int32) + (1 : Int32))), .val (.int (2 : Int32)), .val (.int c0)]) rfl k_) ?_
  have rw107 : ((0 : Int32) + (1 : Int32)) = (1 : Int32) := by decide
  rw [rw107]
  refine P1.goto X106.here hx 26 (hb hby d17_101) (by decide) (by decide) ?_
  refine P1.iload X106.here hx (hb hby d17_26) rfl ?_
  refine P1.iloadN X106.here hx (hb hby d17_28) rfl ?_
  refine P1.icmpNo X106.here hx (hb hby d17_29) (tlt (by decide : (1 : Int32) < (4 : Int32))).2.1 ?_
  refine P1.aloadN X106.here hx (hb hby d17_32) rfl rfl ?_
  refine P1.iload X106.here hx (hb hby d17_33) rfl ?_
  have V108 : Arv Z h106 b kb .char (4 : Int32) [(.int c0), (.int c1), (.int c2), (.int c3)] (.int (0 : Int32)) := Vb.other W106 neb
  obtain ⟨cl109, Ar109, qk109, sl109, nz109, ha109, fi109⟩ := id V108
  have i110 := inb_of (j := (1 : Int32)) sl109 ⟨by decide, by decide⟩
  refine Goes.step (T' := T106) (g' := (mkF m 36 #[.val (.ref x), .val (.ref b), .val (.int (0 : Int32)), .val (.int (4 : Int32)), .val (.int (1 : Int32)), .val (.ref t), .val (.int (1 : Int32)), .val (.int (2 : Int32)), .val (.int c0)] [(.int c1)])) (fun t_ k_ => X106.caload hx (j := (1 : Int32)) (v := (.int c1)) (by rw [e106]; exact Ar109.1) (State.isArrayOf_alike hZ.alike Ar109.2.1) Ar109.2.2 i110 (Has.at ha109 i110 rfl) (g := (mkF m 35 #[.val (.ref x), .val (.ref b), .val (.int (0 : Int32)), .val (.int (4 : Int32)), .val (.int (1 : Int32)), .val (.ref t), .val (.int (1 : Int32)), .val (.int (2 : Int32)), .val (.int c0)] [(.int (1 : Int32)), (.ref b)])) rfl rfl (hb hby d17_35) _ k_) ?_
  refine P1.istore X106.here hx #[.val (.ref x), .val (.ref b), .val (.int (0 : Int32)), .val (.int (4 : Int32)), .val (.int (1 : Int32)), .val (.ref t), .val (.int (1 : Int32)), .val (.int (2 : Int32)), .val (.int c1)] (hb hby d17_36) rfl ?_
  refine P1.iload X106.here hx (hb hby d17_38) rfl ?_
  have Z111 : n0 ≤ h106.size := Nat.le_trans Z0 (Keep.of_wr W106).1
  have O112 : Old Z n0 h106 := O0.wr W106 gt
  refine Goes.callS X106 hx (y := y36_) hown (mvT hZ (own_w hw 71 rfl)) (mvT hZ (own_w hw 72 rfl)) (mvT hZ (own_w hw 73 rfl)) (mvT hZ (own_w hw 74 rfl)) (by decide) (kc' := 0) (ks' := 0) (backOf (W := 0) (rmCan l Z a0 hw [] c1 h106 n0 Z111 O112 h_c1) hZ (own_w hw 74 rfl) (own_w hw 73 rfl) (ok rfl) (ok rfl)) (g := (mkF m 40 #[.val (.ref x), .val (.ref b), .val (.int (0 : Int32)), .val (.int (4 : Int32)), .val (.int (1 : Int32)), .val (.ref t), .val (.int (1 : Int32)), .val (.int (2 : Int32)), .val (.int c1)] [(.int c1)])) rfl (by rw [hml]; rfl) (argsL := [(.int c1)]) (rest := []) (lenOf pd_657 rfl) rfl (by show 2 * 0 + _ ≤ _; exact Nat.le_of_eq rfl) (hb hby d17_40) rfl e106 (ok rfl) (ok rfl) ?_
  intro v113 T113 L113 q113 X113
  obtain ⟨rfl, N113q, hE113⟩ := q113
  have N113 := Fr.app N106 N113q
  show Goes p e below _ T113 (mkF m 43 #[.val (.ref x), .val (.ref b), .val (.int (0 : Int32)), .val (.int (4 : Int32)), .val (.int (1 : Int32)), .val (.ref t), .val (.int (1 : Int32)), .val (.int (2 : Int32)), .val (.int c1)] [(.int (1 : Int32))])
  refine P1.ifNo X113.here hx (hb hby d17_43) ((if0 _ _).trans (feq (by decide : ¬ ((1 : Int32) = (0 : Int32)))).1) ?_
  refine P1.aload X113.here hx (hb hby d17_46) rfl rfl ?_
  refine P1.iload X113.here hx (hb hby d17_48) rfl ?_
  refine Goes.step (T' := T113) (g' := (mkF m 53 #[.val (.ref x), .val (.ref b), .val (.int (0 : Int32)), .val (.int (4 : Int32)), .val (.int (1 : Int32)), .val (.ref t), .val (.int (1 : Int32)), .val (.int ((2 : Int32) + (1 : Int32))), .val (.int c1)] [(.int (2 : Int32)), (.ref t)])) (fun t_ k_ => XS.iinc X113.here hx rfl (hb hby d17_50) rfl (l' := #[.val (.ref x), .val (.ref b), .val (.int (0 : Int32)), .val (.int (4 : Int32)), .val (.int (1 : Int32)), .val (.ref t), .val (.int (1 : Int32)), .val (.int ((2 : Int32) + (1 : Int32))), .val (.int c1)]) rfl k_) ?_
  have rw114 : ((2 : Int32) + (1 : Int32)) = (3 : Int32) := by decide
  rw [rw114]
  refine P1.iload X113.here hx (hb hby d17_53) rfl ?_
  refine Goes.step (T' := T113) (g' := (mkF m 56 #[.val (.ref x), .val (.ref b), .val (.int (0 : Int32)), .val (.int (4 : Int32)), .val (.int (1 : Int32)), .val (.ref t), .val (.int (1 : Int32)), .val (.int (3 : Int32)), .val (.int c1)] [(.int (c1.toInt8.toInt32)), (.int (2 : Int32)), (.ref t)])) (fun t_ k_ => XS.i2b X113.here hx rfl (hb hby d17_55) rfl k_) ?_
  have rw115 : (c1.toInt8.toInt32) = c1 := h_c1.i2b
  rw [rw115]
  have V116 : Arv Z h106 t kt .byte (8192 : Int32) [(.int pr), (.int c0), (.int (0 : Int32))] (.int (0 : Int32)) := V106.pad (pad_rep [(.int pr), (.int c0)] (.int (0 : Int32)) 1)
  obtain ⟨cl117, Ar117, qk117, sl117, nz117, ha117, fi117⟩ := id V116
  obtain ⟨T118, h118, X118, e118, W118, st118⟩ := stB X113 hx hZ hE113 Ar117 (j := (2 : Int32)) (inb_of sl117 ⟨by decide, by decide⟩) (g := (mkF m 56 #[.val (.ref x), .val (.ref b), .val (.int (0 : Int32)), .val (.int (4 : Int32)), .val (.int (1 : Int32)), .val (.ref t), .val (.int (1 : Int32)), .val (.int (3 : Int32)), .val (.int c1)] [(.int c1), (.int (2 : Int32)), (.ref t)])) rfl rfl (hb hby d17_56)
  rw [h_c1.nb] at W118
  have V118 : Arv Z h118 t kt .byte (8192 : Int32) [(.int pr), (.int c0), (.int c1)] (.int (0 : Int32)) := Arv.set Ar117 qk117 sl117 nz117 ha117 fi117 (h_c1.nb ▸ fits_nar_byte c1) W118 2 rfl (ok rfl)
  have N118 := Fr.snoc X118 N113 gt
  refine Goes.step (T' := T118) (g' := (mkF m 57 #[.val (.ref x), .val (.ref b), .val (.int (0 : Int32)), .val (.int (4 : Int32)), .val (.int (1 : Int32)), .val (.ref t), .val (.int (1 : Int32)), .val (.int (3 : Int32)), .val (.int c1)] [])) st118 ?_
  refine P1.goto X118.here hx 98 (hb hby d17_57) (by decide) (by decide) ?_
  refine Goes.step (T' := T118) (g' := (mkF m 101 #[.val (.ref x), .val (.ref b), .val (.int (0 : Int32)), .val (.int (4 : Int32)), .val (.int (1 : Int32)), .val (.ref t), .val (.int ((1 : Int32) + (1 : Int32))), .val (.int (3 : Int32)), .val (.int c1)] [])) (fun t_ k_ => XS.iinc X118.here hx rfl (hb hby d17_98) rfl (l' := #[.val (.ref x), .val (.ref b), .val (.int (0 : Int32)), .val (.int (4 : Int32)), .val (.int (1 : Int32)), .val (.ref t), .val (.int ((1 : Int32) + (1 : Int32))), .val (.int (3 : Int32)), .val (.int c1)]) rfl k_) ?_
  have rw119 : ((1 : Int32) + (1 : Int32)) = (2 : Int32) := by decide
  rw [rw119]
  refine P1.goto X118.here hx 26 (hb hby d17_101) (by decide) (by decide) ?_
  refine P1.iload X118.here hx (hb hby d17_26) rfl ?_
  refine P1.iloadN X118.here hx (hb hby d17_28) rfl ?_
  refine P1.icmpNo X118.here hx (hb hby d17_29) (tlt (by decide : (2 : Int32) < (4 : Int32))).2.1 ?_
  refine P1.aloadN X118.here hx (hb hby d17_32) rfl rfl ?_
  refine P1.iload X118.here hx (hb hby d17_33) rfl ?_
  have V120 : Arv Z h118 b kb .char (4 : Int32) [(.int c0), (.int c1), (.int c2), (.int c3)] (.int (0 : Int32)) := V108.other W118 neb
  obtain ⟨cl121, Ar121, qk121, sl121, nz121, ha121, fi121⟩ := id V120
  have i122 := inb_of (j := (2 : Int32)) sl121 ⟨by decide, by decide⟩
  refine Goes.step (T' := T118) (g' := (mkF m 36 #[.val (.ref x), .val (.ref b), .val (.int (0 : Int32)), .val (.int (4 : Int32)), .val (.int (1 : Int32)), .val (.ref t), .val (.int (2 : Int32)), .val (.int (3 : Int32)), .val (.int c1)] [(.int c2)])) (fun t_ k_ => X118.caload hx (j := (2 : Int32)) (v := (.int c2)) (by rw [e118]; exact Ar121.1) (State.isArrayOf_alike hZ.alike Ar121.2.1) Ar121.2.2 i122 (Has.at ha121 i122 rfl) (g := (mkF m 35 #[.val (.ref x), .val (.ref b), .val (.int (0 : Int32)), .val (.int (4 : Int32)), .val (.int (1 : Int32)), .val (.ref t), .val (.int (2 : Int32)), .val (.int (3 : Int32)), .val (.int c1)] [(.int (2 : Int32)), (.ref b)])) rfl rfl (hb hby d17_35) _ k_) ?_
  refine P1.istore X118.here hx #[.val (.ref x), .val (.ref b), .val (.int (0 : Int32)), .val (.int (4 : Int32)), .val (.int (1 : Int32)), .val (.ref t), .val (.int (2 : Int32)), .val (.int (3 : Int32)), .val (.int c2)] (hb hby d17_36) rfl ?_
  refine P1.iload X118.here hx (hb hby d17_38) rfl ?_
  have Z123 : n0 ≤ h118.size := Nat.le_trans Z111 (Keep.of_wr W118).1
  have O124 : Old Z n0 h118 := O112.wr W118 gt
  refine Goes.callS X118 hx (y := y36_) hown (mvT hZ (own_w hw 71 rfl)) (mvT hZ (own_w hw 72 rfl)) (mvT hZ (own_w hw 73 rfl)) (mvT hZ (own_w hw 74 rfl)) (by decide) (kc' := 0) (ks' := 0) (backOf (W := 0) (rmCan l Z a0 hw [] c2 h118 n0 Z123 O124 h_c2) hZ (own_w hw 74 rfl) (own_w hw 73 rfl) (ok rfl) (ok rfl)) (g := (mkF m 40 #[.val (.ref x), .val (.ref b), .val (.int (0 : Int32)), .val (.int (4 : Int32)), .val (.int (1 : Int32)), .val (.ref t), .val (.int (2 : Int32)), .val (.int (3 : Int32)), .val (.int c2)] [(.int c2)])) rfl (by rw [hml]; rfl) (argsL := [(.int c2)]) (rest := []) (lenOf pd_657 rfl) rfl (by show 2 * 0 + _ ≤ _; exact Nat.le_of_eq rfl) (hb hby d17_40) rfl e118 (ok rfl) (ok rfl) ?_
  intro v125 T125 L125 q125 X125
  obtain ⟨rfl, N125q, hE125⟩ := q125
  have N125 := Fr.app N118 N125q
  show Goes p e below _ T125 (mkF m 43 #[.val (.ref x), .val (.ref b), .val (.int (0 : Int32)), .val (.int (4 : Int32)), .val (.int (1 : Int32)), .val (.ref t), .val (.int (2 : Int32)), .val (.int (3 : Int32)), .val (.int c2)] [(.int (1 : Int32))])
  refine P1.ifNo X125.here hx (hb hby d17_43) ((if0 _ _).trans (feq (by decide : ¬ ((1 : Int32) = (0 : Int32)))).1) ?_
  refine P1.aload X125.here hx (hb hby d17_46) rfl rfl ?_
  refine P1.iload X125.here hx (hb hby d17_48) rfl ?_
  refine Goes.step (T' := T125) (g' := (mkF m 53 #[.val (.ref x), .val (.ref b), .val (.int (0 : Int32)), .val (.int (4 : Int32)), .val (.int (1 : Int32)), .val (.ref t), .val (.int (2 : Int32)), .val (.int ((3 : Int32) + (1 : Int32))), .val (.int c2)] [(.int (3 : Int32)), (.ref t)])) (fun t_ k_ => XS.iinc X125.here hx rfl (hb hby d17_50) rfl (l' := #[.val (.ref x), .val (.ref b), .val (.int (0 : Int32)), .val (.int (4 : Int32)), .val (.int (1 : Int32)), .val (.ref t), .val (.int (2 : Int32)), .val (.int ((3 : Int32) + (1 : Int32))), .val (.int c2)]) rfl k_) ?_
  have rw126 : ((3 : Int32) + (1 : Int32)) = (4 : Int32) := by decide
  rw [rw126]
  refine P1.iload X125.here hx (hb hby d17_53) rfl ?_
  refine Goes.step (T' := T125) (g' := (mkF m 56 #[.val (.ref x), .val (.ref b), .val (.int (0 : Int32)), .val (.int (4 : Int32)), .val (.int (1 : Int32)), .val (.ref t), .val (.int (2 : Int32)), .val (.int (4 : Int32)), .val (.int c2)] [(.int (c2.toInt8.toInt32)), (.int (3 : Int32)), (.ref t)])) (fun t_ k_ => XS.i2b X125.here hx rfl (hb hby d17_55) rfl k_) ?_
  have rw127 : (c2.toInt8.toInt32) = c2 := h_c2.i2b
  rw [rw127]
  have V128 : Arv Z h118 t kt .byte (8192 : Int32) [(.int pr), (.int c0), (.int c1), (.int (0 : Int32))] (.int (0 : Int32)) := V118.pad (pad_rep [(.int pr), (.int c0), (.int c1)] (.int (0 : Int32)) 1)
  obtain ⟨cl129, Ar129, qk129, sl129, nz129, ha129, fi129⟩ := id V128
  obtain ⟨T130, h130, X130, e130, W130, st130⟩ := stB X125 hx hZ hE125 Ar129 (j := (3 : Int32)) (inb_of sl129 ⟨by decide, by decide⟩) (g := (mkF m 56 #[.val (.ref x), .val (.ref b), .val (.int (0 : Int32)), .val (.int (4 : Int32)), .val (.int (1 : Int32)), .val (.ref t), .val (.int (2 : Int32)), .val (.int (4 : Int32)), .val (.int c2)] [(.int c2), (.int (3 : Int32)), (.ref t)])) rfl rfl (hb hby d17_56)
  rw [h_c2.nb] at W130
  have V130 : Arv Z h130 t kt .byte (8192 : Int32) [(.int pr), (.int c0), (.int c1), (.int c2)] (.int (0 : Int32)) := Arv.set Ar129 qk129 sl129 nz129 ha129 fi129 (h_c2.nb ▸ fits_nar_byte c2) W130 3 rfl (ok rfl)
  have N130 := Fr.snoc X130 N125 gt
  refine Goes.step (T' := T130) (g' := (mkF m 57 #[.val (.ref x), .val (.ref b), .val (.int (0 : Int32)), .val (.int (4 : Int32)), .val (.int (1 : Int32)), .val (.ref t), .val (.int (2 : Int32)), .val (.int (4 : Int32)), .val (.int c2)] [])) st130 ?_
  refine P1.goto X130.here hx 98 (hb hby d17_57) (by decide) (by decide) ?_
  refine Goes.step (T' := T130) (g' := (mkF m 101 #[.val (.ref x), .val (.ref b), .val (.int (0 : Int32)), .val (.int (4 : Int32)), .val (.int (1 : Int32)), .val (.ref t), .val (.int ((2 : Int32) + (1 : Int32))), .val (.int (4 : Int32)), .val (.int c2)] [])) (fun t_ k_ => XS.iinc X130.here hx rfl (hb hby d17_98) rfl (l' := #[.val (.ref x), .val (.ref b), .val (.int (0 : Int32)), .val (.int (4 : Int32)), .val (.int (1 : Int32)), .val (.ref t), .val (.int ((2 : Int32) + (1 : Int32))), .val (.int (4 : Int32)), .val (.int c2)]) rfl k_) ?_
  have rw131 : ((2 : Int32) + (1 : Int32)) = (3 : Int32) := by decide
  rw [rw131]
  refine P1.goto X130.here hx 26 (hb hby d17_101) (by decide) (by decide) ?_
  refine P1.iload X130.here hx (hb hby d17_26) rfl ?_
  refine P1.iloadN X130.here hx (hb hby d17_28) rfl ?_
  refine P1.icmpNo X130.here hx (hb hby d17_29) (tlt (by decide : (3 : Int32) < (4 : Int32))).2.1 ?_
  refine P1.aloadN X130.here hx (hb hby d17_32) rfl rfl ?_
  refine P1.iload X130.here hx (hb hby d17_33) rfl ?_
  have V132 : Arv Z h130 b kb .char (4 : Int32) [(.int c0), (.int c1), (.int c2), (.int c3)] (.int (0 : Int32)) := V120.other W130 neb
  obtain ⟨cl133, Ar133, qk133, sl133, nz133, ha133, fi133⟩ := id V132
  have i134 := inb_of (j := (3 : Int32)) sl133 ⟨by decide, by decide⟩
  refine Goes.step (T' := T130) (g' := (mkF m 36 #[.val (.ref x), .val (.ref b), .val (.int (0 : Int32)), .val (.int (4 : Int32)), .val (.int (1 : Int32)), .val (.ref t), .val (.int (3 : Int32)), .val (.int (4 : Int32)), .val (.int c2)] [(.int c3)])) (fun t_ k_ => X130.caload hx (j := (3 : Int32)) (v := (.int c3)) (by rw [e130]; exact Ar133.1) (State.isArrayOf_alike hZ.alike Ar133.2.1) Ar133.2.2 i134 (Has.at ha133 i134 rfl) (g := (mkF m 35 #[.val (.ref x), .val (.ref b), .val (.int (0 : Int32)), .val (.int (4 : Int32)), .val (.int (1 : Int32)), .val (.ref t), .val (.int (3 : Int32)), .val (.int (4 : Int32)), .val (.int c2)] [(.int (3 : Int32)), (.ref b)])) rfl rfl (hb hby d17_35) _ k_) ?_
  refine P1.istore X130.here hx #[.val (.ref x), .val (.ref b), .val (.int (0 : Int32)), .val (.int (4 : Int32)), .val (.int (1 : Int32)), .val (.ref t), .val (.int (3 : Int32)), .val (.int (4 : Int32)), .val (.int c3)] (hb hby d17_36) rfl ?_
  refine P1.iload X130.here hx (hb hby d17_38) rfl ?_
  have Z135 : n0 ≤ h130.size := Nat.le_trans Z123 (Keep.of_wr W130).1
  have O136 : Old Z n0 h130 := O124.wr W130 gt
  refine Goes.callS X130 hx (y := y36_) hown (mvT hZ (own_w hw 71 rfl)) (mvT hZ (own_w hw 72 rfl)) (mvT hZ (own_w hw 73 rfl)) (mvT hZ (own_w hw 74 rfl)) (by decide) (kc' := 0) (ks' := 0) (backOf (W := 0) (rmCan l Z a0 hw [] c3 h130 n0 Z135 O136 h_c3) hZ (own_w hw 74 rfl) (own_w hw 73 rfl) (ok rfl) (ok rfl)) (g := (mkF m 40 #[.val (.ref x), .val (.ref b), .val (.int (0 : Int32)), .val (.int (4 : Int32)), .val (.int (1 : Int32)), .val (.ref t), .val (.int (3 : Int32)), .val (.int (4 : Int32)), .val (.int c3)] [(.int c3)])) rfl (by rw [hml]; rfl) (argsL := [(.int c3)]) (rest := []) (lenOf pd_657 rfl) rfl (by show 2 * 0 + _ ≤ _; exact Nat.le_of_eq rfl) (hb hby d17_40) rfl e130 (ok rfl) (ok rfl) ?_
  intro v137 T137 L137 q137 X137
  obtain ⟨rfl, N137q, hE137⟩ := q137
  have N137 := Fr.app N130 N137q
  show Goes p e below _ T137 (mkF m 43 #[.val (.ref x), .val (.ref b), .val (.int (0 : Int32)), .val (.int (4 : Int32)), .val (.int (1 : Int32)), .val (.ref t), .val (.int (3 : Int32)), .val (.int (4 : Int32)), .val (.int c3)] [(.int (1 : Int32))])
  refine P1.ifNo X137.here hx (hb hby d17_43) ((if0 _ _).trans (feq (by decide : ¬ ((1 : Int32) = (0 : Int32)))).1) ?_
  refine P1.aload X137.here hx (hb hby d17_46) rfl rfl ?_
  refine P1.iload X137.here hx (hb hby d17_48) rfl ?_
  refine Goes.step (T' := T137) (g' := (mkF m 53 #[.val (.ref x), .val (.ref b), .val (.int (0 : Int32)), .val (.int (4 : Int32)), .val (.int (1 : Int32)), .val (.ref t), .val (.int (3 : Int32)), .val (.int ((4 : Int32) + (1 : Int32))), .val (.int c3)] [(.int (4 : Int32)), (.ref t)])) (fun t_ k_ => XS.iinc X137.here hx rfl (hb hby d17_50) rfl (l' := #[.val (.ref x), .val (.ref b), .val (.int (0 : Int32)), .val (.int (4 : Int32)), .val (.int (1 : Int32)), .val (.ref t), .val (.int (3 : Int32)), .val (.int ((4 : Int32) + (1 : Int32))), .val (.int c3)]) rfl k_) ?_
  have rw138 : ((4 : Int32) + (1 : Int32)) = (5 : Int32) := by decide
  rw [rw138]
  refine P1.iload X137.here hx (hb hby d17_53) rfl ?_
  refine Goes.step (T' := T137) (g' := (mkF m 56 #[.val (.ref x), .val (.ref b), .val (.int (0 : Int32)), .val (.int (4 : Int32)), .val (.int (1 : Int32)), .val (.ref t), .val (.int (3 : Int32)), .val (.int (5 : Int32)), .val (.int c3)] [(.int (c3.toInt8.toInt32)), (.int (4 : Int32)), (.ref t)])) (fun t_ k_ => XS.i2b X137.here hx rfl (hb hby d17_55) rfl k_) ?_
  have rw139 : (c3.toInt8.toInt32) = c3 := h_c3.i2b
  rw [rw139]
  have V140 : Arv Z h130 t kt .byte (8192 : Int32) [(.int pr), (.int c0), (.int c1), (.int c2), (.int (0 : Int32))] (.int (0 : Int32)) := V130.pad (pad_rep [(.int pr), (.int c0), (.int c1), (.int c2)] (.int (0 : Int32)) 1)
  obtain ⟨cl141, Ar141, qk141, sl141, nz141, ha141, fi141⟩ := id V140
  obtain ⟨T142, h142, X142, e142, W142, st142⟩ := stB X137 hx hZ hE137 Ar141 (j := (4 : Int32)) (inb_of sl141 ⟨by decide, by decide⟩) (g := (mkF m 56 #[.val (.ref x), .val (.ref b), .val (.int (0 : Int32)), .val (.int (4 : Int32)), .val (.int (1 : Int32)), .val (.ref t), .val (.int (3 : Int32)), .val (.int (5 : Int32)), .val (.int c3)] [(.int c3), (.int (4 : Int32)), (.ref t)])) rfl rfl (hb hby d17_56)
  rw [h_c3.nb] at W142
  have V142 : Arv Z h142 t kt .byte (8192 : Int32) [(.int pr), (.int c0), (.int c1), (.int c2), (.int c3)] (.int (0 : Int32)) := Arv.set Ar141 qk141 sl141 nz141 ha141 fi141 (h_c3.nb ▸ fits_nar_byte c3) W142 4 rfl (ok rfl)
  have N142 := Fr.snoc X142 N137 gt
  refine Goes.step (T' := T142) (g' := (mkF m 57 #[.val (.ref x), .val (.ref b), .val (.int (0 : Int32)), .val (.int (4 : Int32)), .val (.int (1 : Int32)), .val (.ref t), .val (.int (3 : Int32)), .val (.int (5 : Int32)), .val (.int c3)] [])) st142 ?_
  refine P1.goto X142.here hx 98 (hb hby d17_57) (by decide) (by decide) ?_
  refine Goes.step (T' := T142) (g' := (mkF m 101 #[.val (.ref x), .val (.ref b), .val (.int (0 : Int32)), .val (.int (4 : Int32)), .val (.int (1 : Int32)), .val (.ref t), .val (.int ((3 : Int32) + (1 : Int32))), .val (.int (5 : Int32)), .val (.int c3)] [])) (fun t_ k_ => XS.iinc X142.here hx rfl (hb hby d17_98) rfl (l' := #[.val (.ref x), .val (.ref b), .val (.int (0 : Int32)), .val (.int (4 : Int32)), .val (.int (1 : Int32)), .val (.ref t), .val (.int ((3 : Int32) + (1 : Int32))), .val (.int (5 : Int32)), .val (.int c3)]) rfl k_) ?_
  have rw143 : ((3 : Int32) + (1 : Int32)) = (4 : Int32) := by decide
  rw [rw143]
  refine P1.goto X142.here hx 26 (hb hby d17_101) (by decide) (by decide) ?_
  refine P1.iload X142.here hx (hb hby d17_26) rfl ?_
  refine P1.iloadN X142.here hx (hb hby d17_28) rfl ?_
  refine P1.icmpYes X142.here hx 104 (hb hby d17_29) (flt (by decide : ¬ ((4 : Int32) < (4 : Int32)))).2.1 (by decide) (by decide) ?_
  refine P1.goto X142.here hx 119 (hb hby d17_104) (by decide) (by decide) ?_
  refine P1.aloadN X142.here hx (hb hby d17_119) rfl rfl ?_
  refine P1.iload X142.here hx (hb hby d17_120) rfl ?_
  refine P1.iloadN X142.here hx (hb hby d17_122) rfl ?_
  refine P1.iadd X142.here hx (hb hby d17_123) ?_
  have rw144 : ((1 : Int32) + (4 : Int32)) = (5 : Int32) := by decide
  rw [rw144]
  refine P1.iloadN X142.here hx (hb hby d17_124) rfl ?_
  refine P1.isub X142.here hx (hb hby d17_125) ?_
  have rw145 : ((5 : Int32) - (0 : Int32)) = (5 : Int32) := by decide
  rw [rw145]
  have E147 : Exa Z h106 x "java/lang/StringBuilder" := Ex.wr W106
  have E148 : Exa Z h118 x "java/lang/StringBuilder" := E147.wr W118
  have E149 : Exa Z h130 x "java/lang/StringBuilder" := E148.wr W130
  have E150 : Exa Z h142 x "java/lang/StringBuilder" := E149.wr W142
  have ne146 : x ≠ t := own_ne_arv E150 (own_w hw 23 rfl) V142
  have F151 : Fld Z h106 x "java/lang/AbstractStringBuilder" "count" "I" (.int (1 : Int32)) := Fn.other W106 (Or.inl ne146)
  have F152 : Fld Z h118 x "java/lang/AbstractStringBuilder" "count" "I" (.int (1 : Int32)) := F151.other W118 (Or.inl ne146)
  have F153 : Fld Z h130 x "java/lang/AbstractStringBuilder" "count" "I" (.int (1 : Int32)) := F152.other W130 (Or.inl ne146)
  have F154 : Fld Z h142 x "java/lang/AbstractStringBuilder" "count" "I" (.int (1 : Int32)) := F153.other W142 (Or.inl ne146)
  obtain ⟨T155, h155, X155, e155, W155, st155⟩ := putF X142 hx hZ hown (host := "") (Or.inl (own_w hw 59 rfl)) Via.refl e142 F154 E150 (Or.inl (own_w hw 60 rfl)) (own_w hw 23 rfl) (ty := .int) (by decide) rfl rfl (g := (mkF m 126 #[.val (.ref x), .val (.ref b), .val (.int (0 : Int32)), .val (.int (4 : Int32)), .val (.int (1 : Int32)), .val (.ref t), .val (.int (4 : Int32)), .val (.int (5 : Int32)), .val (.int c3)] [(.int (5 : Int32)), (.ref x)])) rfl rfl (hb hby d17_126)
  have Fw155 : Fld Z h155 x "java/lang/AbstractStringBuilder" "count" "I" (.int (5 : Int32)) := F154.same W155
  have N155 := Fr.snoc X155 N142 gx
  refine Goes.step (T' := T155) (g' := (mkF m 129 #[.val (.ref x), .val (.ref b), .val (.int (0 : Int32)), .val (.int (4 : Int32)), .val (.int (1 : Int32)), .val (.ref t), .val (.int (4 : Int32)), .val (.int (5 : Int32)), .val (.int c3)] [])) st155 ?_
  refine Goes.retV X155 hx Bd.notSynchronized Bd.returns (hb hby d17_129) (ok rfl) (ok rfl) ?_
  rw [e155]
  have K156 : Keep h0 h106 [x, t] := K0.wr W106 (Or.inl (by simp))
  have K157 : Keep h0 h118 [x, t] := K156.wr W118 (Or.inl (by simp))
  have K158 : Keep h0 h130 [x, t] := K157.wr W130 (Or.inl (by simp))
  have K159 : Keep h0 h142 [x, t] := K158.wr W142 (Or.inl (by simp))
  have K160 : Keep h0 h155 [x, t] := K159.wr W155 (Or.inl (by simp))
  have E161 : Exa Z h155 x "java/lang/StringBuilder" := E150.wr W155
  have F162 : Fld Z h106 x "java/lang/AbstractStringBuilder" "value" "[B" (.ref t) := Fv.other W106 (Or.inl ne146)
  have F163 : Fld Z h118 x "java/lang/AbstractStringBuilder" "value" "[B" (.ref t) := F162.other W118 (Or.inl ne146)
  have F164 : Fld Z h130 x "java/lang/AbstractStringBuilder" "value" "[B" (.ref t) := F163.other W130 (Or.inl ne146)
  have F165 : Fld Z h142 x "java/lang/AbstractStringBuilder" "value" "[B" (.ref t) := F164.other W142 (Or.inl ne146)
  have F166 : Fld Z h155 x "java/lang/AbstractStringBuilder" "value" "[B" (.ref t) := F165.other W155 (Or.inr (slot_ne (Or.inl (own_w hw 39 rfl)) (Or.inl (own_w hw 60 rfl)) (by decide) (t := (.array .byte)) (t' := .int) (by decide) (by decide)))
  have F167 : Fld Z h106 x "java/lang/AbstractStringBuilder" "coder" "B" (.int (0 : Int32)) := Fc.other W106 (Or.inl ne146)
  have F168 : Fld Z h118 x "java/lang/AbstractStringBuilder" "coder" "B" (.int (0 : Int32)) := F167.other W118 (Or.inl ne146)
  have F169 : Fld Z h130 x "java/lang/AbstractStringBuilder" "coder" "B" (.int (0 : Int32)) := F168.other W130 (Or.inl ne146)
  have F170 : Fld Z h142 x "java/lang/AbstractStringBuilder" "coder" "B" (.int (0 : Int32)) := F169.other W142 (Or.inl ne146)
  have F171 : Fld Z h155 x "java/lang/AbstractStringBuilder" "coder" "B" (.int (0 : Int32)) := F170.other W155 (Or.inr (slot_ne (Or.inl (own_w hw 41 rfl)) (Or.inl (own_w hw 60 rfl)) (by decide) (t := .byte) (t' := .int) (by decide) (by decide)))
  have V172 : Arv Z h155 t kt .byte (8192 : Int32) [(.int pr), (.int c0), (.int c1), (.int c2), (.int c3)] (.int (0 : Int32)) := V142.other W155 (Ne.symm ne146)
  exact ⟨rfl, N155, K160, E161, F166, F171, Fw155, V172⟩
theorem efAc_0_3 (x b : Addr) (m : MethodId) : entryFrame m #[(.ref x), (.ref b), (.int (0 : Int32)), (.int (3 : Int32))] 9 = mkF m 0 #[.val (.ref x), .val (.ref b), .val (.int (0 : Int32)), .val (.int (3 : Int32)), .unset, .unset, .unset, .unset, .unset] [] := by first | (simp [entryFrame, mkF, argsToLocals, Value.category]; done) | rfl
def QAc_0_3 (Z : State) (x t : Addr) (kt : ClassId) (b : Addr) (kb : ClassId) (pr c0 c1 c2 c3 zc : Int32) (fm fi : Value) (u8 : Addr) (h0 : Heap) (n0 : Nat) (v : Option Value) (h : Heap) (L : List Loc) : Prop := v = none ∧ Fr n0 L ∧ Keep h0 h [x, t] ∧ Exa Z h x "java/lang/StringBuilder" ∧ Fld Z h x "java/lang/AbstractStringBuilder" "value" "[B" (.ref t) ∧ Fld Z h x "java/lang/AbstractStringBuilder" "coder" "B" (.int (0 : Int32)) ∧ Fld Z h x "java/lang/AbstractStringBuilder" "count" "I" (.int (4 : Int32)) ∧ Arv Z h t kt .byte (8192 : Int32) [(.int pr), (.int c0), (.int c1), (.int c2)] (.int (0 : Int32))
set_option maxRecDepth 65536 in
set_option maxHeartbeats 40000000 in
theorem rmAc_0_3 (l : Launch) (Z : State) (a0 : Array Value) (hw : ∀ d ∈ tables_1, d.before a0 Z = true) (ws : List Jvm.Cond) (x t : Addr) (kt : ClassId) (b : Addr) (kb : ClassId) (pr c0 c1 c2 c3 zc : Int32) (fm fi : Value) (u8 : Addr) (h0 : Heap) (n0 : Nat) (Z0 : n0 ≤ h0.size) (O0 : Old Z n0 h0) (S_CS : Sta Z Z.heap "java/lang/String" "COMPACT_STRINGS" "Z" (.int zc)) (hzc : ¬ zc = 0) (S_FM : Sta Z Z.heap "jdk/internal/util/Preconditions" "SIOOBE_FORMATTER" "Ljava/util/function/BiFunction;" fm) (hfm : fm.isRef = true) (S_FI : Sta Z Z.heap "jdk/internal/util/Preconditions" "IOOBE_FORMATTER" "Ljava/util/function/BiFunction;" fi) (hfi : fi.isRef = true) (S_IN : Sta Z Z.heap "sun/nio/cs/UTF_8" "INSTANCE" "Lsun/nio/cs/UTF_8;" (.ref u8)) (S_U8 : Sta Z Z.heap "java/nio/charset/StandardCharsets" "UTF_8" "Ljava/nio/charset/Charset;" (.ref u8)) (gx : n0 ≤ x) (gt : n0 ≤ t) (Ex : Exa Z h0 x "java/lang/StringBuilder") (Fv : Fld Z h0 x "java/lang/AbstractStringBuilder" "value" "[B" (.ref t)) (Fc : Fld Z h0 x "java/lang/AbstractStringBuilder" "coder" "B" (.int (0 : Int32))) (Fn : Fld Z h0 x "java/lang/AbstractStringBuilder" "count" "I" (.int (1 : Int32))) (Vt : Arv Z h0 t kt .byte (8192 : Int32) [(.int pr)] (.int (0 : Int32))) (Vb : Arv Z h0 b kb .char (4 : Int32) [(.int c0), (.int c1), (.int c2), (.int c3)] (.int (0 : Int32))) (neb : b ≠ t) (h_c0 : Pr c0) (h_c1 : Pr c1) (h_c2 : Pr c2) (h_c3 : Pr c3) :
    OwnLaw l y12_ jdk_68_method_74_code 9 none ws (rR 1 0 0 12) #[(.ref x), (.ref b), (.int (0 : Int32)), (.int (3 : Int32))] Z h0 (QAc_0_3 Z x t kt b kb pr c0 c1 c2 c3 zc fm fi u8 h0 n0) := by
  refine own_enter (plainFor_of_name pn_java_lang_AbstractStringBuilder) (efAc_0_3 x b) ?_
  intro p e s m below meth c s₁ Bd hx hby hml hZ hown X0 e0
  have N0 := Fr.nil n0
  have K0 : Keep h0 h0 [] := Keep.refl _ _
  have K0 : Keep h0 h0 [x, t] := Keep.refl _ _
  refine P1.aloadN X0.here hx (hb hby d17_0) rfl rfl ?_
  obtain ⟨T173, X173, e173, st173⟩ := getF X0 hx hZ hown (host := "") (Or.inl (own_w hw 59 rfl)) Via.refl e0 Fn (g := (mkF m 1 #[.val (.ref x), .val (.ref b), .val (.int (0 : Int32)), .val (.int (3 : Int32)), .unset, .unset, .unset, .unset, .unset] [(.ref x)])) rfl rfl (hb hby d17_1)
  refine Goes.step (T' := T173) (g' := (mkF m 4 #[.val (.ref x), .val (.ref b), .val (.int (0 : Int32)), .val (.int (3 : Int32)), .unset, .unset, .unset, .unset, .unset] [(.int (1 : Int32))])) st173 ?_
  refine P1.istore X173.here hx #[.val (.ref x), .val (.ref b), .val (.int (0 : Int32)), .val (.int (3 : Int32)), .val (.int (1 : Int32)), .unset, .unset, .unset, .unset] (hb hby d17_4) rfl ?_
  refine P1.aloadN X173.here hx (hb hby d17_6) rfl rfl ?_
  refine Goes.callV X173 hx hZ (y := y16_) (z := y16_) hown (mvT hZ (own_w hw 66 rfl)) (mvT hZ (own_w hw 67 rfl)) (notFace_of_selects (args := #[]) (mvT hZ (own_w hw 69 rfl))) (mvT hZ (own_w hw 69 rfl)) (mvT hZ (own_w hw 68 rfl)) (by decide) (kc' := 0) (ks' := 0) (backOf (W := 0) (rmIl l Z a0 hw [] x zc fm fi u8 h0 n0 Z0 O0 S_CS hzc S_FM hfm S_FI hfi S_IN S_U8 Fc) hZ (own_w hw 70 rfl) (own_w hw 32 rfl) (ok rfl) (ok rfl)) (b := x) e173 Ex (g := (mkF m 7 #[.val (.ref x), .val (.ref b), .val (.int (0 : Int32)), .val (.int (3 : Int32)), .val (.int (1 : Int32)), .unset, .unset, .unset, .unset] [(.ref x)])) rfl (by rw [hml]; rfl) (argsL := []) (rest := []) (lenOf pd_392 rfl) rfl (by show 2 * 0 + _ ≤ _; exact Nat.le_of_eq rfl) (hb hby d17_7) rfl (ok rfl) (ok rfl) ?_
  intro v174 T174 L174 q174 X174
  obtain ⟨rfl, N174q, hE174⟩ := q174
  have N174 := Fr.app N0 N174q
  show Goes p e below _ T174 (mkF m 10 #[.val (.ref x), .val (.ref b), .val (.int (0 : Int32)), .val (.int (3 : Int32)), .val (.int (1 : Int32)), .unset, .unset, .unset, .unset] [(.int (1 : Int32))])
  refine P1.ifNo X174.here hx (hb hby d17_10) ((if0 _ _).trans (feq (by decide : ¬ ((1 : Int32) = (0 : Int32)))).1) ?_
  refine P1.aloadN X174.here hx (hb hby d17_13) rfl rfl ?_
  obtain ⟨T175, X175, e175, st175⟩ := getF X174 hx hZ hown (host := "") (Or.inl (own_w hw 38 rfl)) Via.refl hE174 Fv (g := (mkF m 14 #[.val (.ref x), .val (.ref b), .val (.int (0 : Int32)), .val (.int (3 : Int32)), .val (.int (1 : Int32)), .unset, .unset, .unset, .unset] [(.ref x)])) rfl rfl (hb hby d17_14)
  refine Goes.step (T' := T175) (g' := (mkF m 17 #[.val (.ref x), .val (.ref b), .val (.int (0 : Int32)), .val (.int (3 : Int32)), .val (.int (1 : Int32)), .unset, .unset, .unset, .unset] [(.ref t)])) st175 ?_
  refine P1.astore X175.here hx #[.val (.ref x), .val (.ref b), .val (.int (0 : Int32)), .val (.int (3 : Int32)), .val (.int (1 : Int32)), .val (.ref t), .unset, .unset, .unset] (hb hby d17_17) rfl rfl ?_
  refine P1.iloadN X175.here hx (hb hby d17_19) rfl ?_
  refine P1.istore X175.here hx #[.val (.ref x), .val (.ref b), .val (.int (0 : Int32)), .val (.int (3 : Int32)), .val (.int (1 : Int32)), .val (.ref t), .val (.int (0 : Int32)), .unset, .unset] (hb hby d17_20) rfl ?_
  refine P1.iload X175.here hx (hb hby d17_22) rfl ?_
  refine P1.istore X175.here hx #[.val (.ref x), .val (.ref b), .val (.int (0 : Int32)), .val (.int (3 : Int32)), .val (.int (1 : Int32)), .val (.ref t), .val (.int (0 : Int32)), .val (.int (1 : Int32)), .unset] (hb hby d17_24) rfl ?_
  refine P1.iload X175.here hx (hb hby d17_26) rfl ?_
  refine P1.iloadN X175.here hx (hb hby d17_28) rfl ?_
  refine P1.icmpNo X175.here hx (hb hby d17_29) (tlt (by decide : (0 : Int32) < (3 : Int32))).2.1 ?_
  refine P1.aloadN X175.here hx (hb hby d17_32) rfl rfl ?_
  refine P1.iload X175.here hx (hb hby d17_33) rfl ?_
  obtain ⟨cl176, Ar176, qk176, sl176, nz176, ha176, fi176⟩ := id Vb
  have i177 := inb_of (j := (0 : Int32)) sl176 ⟨by decide, by decide⟩
  refine Goes.step (T' := T175) (g' := (mkF m 36 #[.val (.ref x), .val (.ref b), .val (.int (0 : Int32)), .val (.int (3 : Int32)), .val (.int (1 : Int32)), .val (.ref t), .val (.int (0 : Int32)), .val (.int (1 : Int32)), .unset] [(.int c0)])) (fun t_ k_ => X175.caload hx (j := (0 : Int32)) (v := (.int c0)) (by rw [e175]; exact Ar176.1) (State.isArrayOf_alike hZ.alike Ar176.2.1) Ar176.2.2 i177 (Has.at ha176 i177 rfl) (g := (mkF m 35 #[.val (.ref x), .val (.ref b), .val (.int (0 : Int32)), .val (.int (3 : Int32)), .val (.int (1 : Int32)), .val (.ref t), .val (.int (0 : Int32)), .val (.int (1 : Int32)), .unset] [(.int (0 : Int32)), (.ref b)])) rfl rfl (hb hby d17_35) _ k_) ?_
  refine P1.istore X175.here hx #[.val (.ref x), .val (.ref b), .val (.int (0 : Int32)), .val (.int (3 : Int32)), .val (.int (1 : Int32)), .val (.ref t), .val (.int (0 : Int32)), .val (.int (1 : Int32)), .val (.int c0)] (hb hby d17_36) rfl ?_
  refine P1.iload X175.here hx (hb hby d17_38) rfl ?_
  refine Goes.callS X175 hx (y := y36_) hown (mvT hZ (own_w hw 71 rfl)) (mvT hZ (own_w hw 72 rfl)) (mvT hZ (own_w hw 73 rfl)) (mvT hZ (own_w hw 74 rfl)) (by decide) (kc' := 0) (ks' := 0) (backOf (W := 0) (rmCan l Z a0 hw [] c0 h0 n0 Z0 O0 h_c0) hZ (own_w hw 74 rfl) (own_w hw 73 rfl) (ok rfl) (ok rfl)) (g := (mkF m 40 #[.val (.ref x), .val (.ref b), .val (.int (0 : Int32)), .val (.int (3 : Int32)), .val (.int (1 : Int32)), .val (.ref t), .val (.int (0 : Int32)), .val (.int (1 : Int32)), .val (.int c0)] [(.int c0)])) rfl (by rw [hml]; rfl) (argsL := [(.int c0)]) (rest := []) (lenOf pd_657 rfl) rfl (by show 2 * 0 + _ ≤ _; exact Nat.le_of_eq rfl) (hb hby d17_40) rfl e175 (ok rfl) (ok rfl) ?_
  intro v178 T178 L178 q178 X178
  obtain ⟨rfl, N178q, hE178⟩ := q178
  have N178 := Fr.app N174 N178q
  show Goes p e below _ T178 (mkF m 43 #[.val (.ref x), .val (.ref b), .val (.int (0 : Int32)), .val (.int (3 : Int32)), .val (.int (1 : Int32)), .val (.ref t), .val (.int (0 : Int32)), .val (.int (1 : Int32)), .val (.int c0)] [(.int (1 : Int32))])
  refine P1.ifNo X178.here hx (hb hby d17_43) ((if0 _ _).trans (feq (by decide : ¬ ((1 : Int32) = (0 : Int32)))).1) ?_
  refine P1.aload X178.here hx (hb hby d17_46) rfl rfl ?_
  refine P1.iload X178.here hx (hb hby d17_48) rfl ?_
  refine Goes.step (T' := T178) (g' := (mkF m 53 #[.val (.ref x), .val (.ref b), .val (.int (0 : Int32)), .val (.int (3 : Int32)), .val (.int (1 : Int32)), .val (.ref t), .val (.int (0 : Int32)), .val (.int ((1 : Int32) + (1 : Int32))), .val (.int c0)] [(.int (1 : Int32)), (.ref t)])) (fun t_ k_ => XS.iinc X178.here hx rfl (hb hby d17_50) rfl (l' := #[.val (.ref x), .val (.ref b), .val (.int (0 : Int32)), .val (.int (3 : Int32)), .val (.int (1 : Int32)), .val (.ref t), .val (.int (0 : Int32)), .val (.int ((1 : Int32) + (1 : Int32))), .val (.int c0)]) rfl k_) ?_
  have rw179 : ((1 : Int32) + (1 : Int32)) = (2 : Int32) := by decide
  rw [rw179]
  refine P1.iload X178.here hx (hb hby d17_53) rfl ?_
  refine Goes.step (T' := T178) (g' := (mkF m 56 #[.val (.ref x), .val (.ref b), .val (.int (0 : Int32)), .val (.int (3 : Int32)), .val (.int (1 : Int32)), .val (.ref t), .val (.int (0 : Int32)), .val (.int (2 : Int32)), .val (.int c0)] [(.int (c0.toInt8.toInt32)), (.int (1 : Int32)), (.ref t)])) (fun t_ k_ => XS.i2b X178.here hx rfl (hb hby d17_55) rfl k_) ?_
  have rw180 : (c0.toInt8.toInt32) = c0 := h_c0.i2b
  rw [rw180]
  have V181 : Arv Z h0 t kt .byte (8192 : Int32) [(.int pr), (.int (0 : Int32))] (.int (0 : Int32)) := Vt.pad (pad_rep [(.int pr)] (.int (0 : Int32)) 1)
  obtain ⟨cl182, Ar182, qk182, sl182, nz182, ha182, fi182⟩ := id V181
  obtain ⟨T183, h183, X183, e183, W183, st183⟩ := stB X178 hx hZ hE178 Ar182 (j := (1 : Int32)) (inb_of sl182 ⟨by decide, by decide⟩) (g := (mkF m 56 #[.val (.ref x), .val (.ref b), .val (.int (0 : Int32)), .val (.int (3 : Int32)), .val (.int (1 : Int32)), .val (.ref t), .val (.int (0 : Int32)), .val (.int (2 : Int32)), .val (.int c0)] [(.int c0), (.int (1 : Int32)), (.ref t)])) rfl rfl (hb hby d17_56)
  rw [h_c0.nb] at W183
  have V183 : Arv Z h183 t kt .byte (8192 : Int32) [(.int pr), (.int c0)] (.int (0 : Int32)) := Arv.set Ar182 qk182 sl182 nz182 ha182 fi182 (h_c0.nb ▸ fits_nar_byte c0) W183 1 rfl (ok rfl)
  have N183 := Fr.snoc X183 N178 gt
  refine Goes.step (T' := T183) (g' := (mkF m 57 #[.val (.ref x), .val (.ref b), .val (.int (0 : Int32)), .val (.int (3 : Int32)), .val (.int (1 : Int32)), .val (.ref t), .val (.int (0 : Int32)), .val (.int (2 : Int32)), .val (.int c0)] [])) st183 ?_
  refine P1.goto X183.here hx 98 (hb hby d17_57) (by decide) (by decide) ?_
  refine Goes.step (T' := T183) (g' := (mkF m 101 #[.val (.ref x), .val (.ref b), .val (.int (0 : Int32)), .val (.int (3 : Int32)), .val (.int (1 : Int32)), .val (.ref t), .val (.int ((0 : Int32) + (1 : Int32))), .val (.int (2 : Int32)), .val (.int c0)] [])) (fun t_ k_ => XS.iinc X183.here hx rfl (hb hby d17_98) rfl (l' := #[.val (.ref x), .val (.ref b), .val (.int (0 : Int32)), .val (.int (3 : Int32)), .val (.int (1 : Int32)), .val (.ref t), .val (.int ((0 : Int32) + (1 : Int32))), .val (.int (2 : Int32)), .val (.int c0)]) rfl k_) ?_
  have rw184 : ((0 : Int32) + (1 : Int32)) = (1 : Int32) := by decide
  rw [rw184]
  refine P1.goto X183.here hx 26 (hb hby d17_101) (by decide) (by decide) ?_
  refine P1.iload X183.here hx (hb hby d17_26) rfl ?_
  refine P1.iloadN X183.here hx (hb hby d17_28) rfl ?_
  refine P1.icmpNo X183.here hx (hb hby d17_29) (tlt (by decide : (1 : Int32) < (3 : Int32))).2.1 ?_
  refine P1.aloadN X183.here hx (hb hby d17_32) rfl rfl ?_
  refine P1.iload X183.here hx (hb hby d17_33) rfl ?_
  have V185 : Arv Z h183 b kb .char (4 : Int32) [(.int c0), (.int c1), (.int c2), (.int c3)] (.int (0 : Int32)) := Vb.other W183 neb
  obtain ⟨cl186, Ar186, qk186, sl186, nz186, ha186, fi186⟩ := id V185
  have i187 := inb_of (j := (1 : Int32)) sl186 ⟨by decide, by decide⟩
  refine Goes.step (T' := T183) (g' := (mkF m 36 #[.val (.ref x), .val (.ref b), .val (.int (0 : Int32)), .val (.int (3 : Int32)), .val (.int (1 : Int32)), .val (.ref t), .val (.int (1 : Int32)), .val (.int (2 : Int32)), .val (.int c0)] [(.int c1)])) (fun t_ k_ => X183.caload hx (j := (1 : Int32)) (v := (.int c1)) (by rw [e183]; exact Ar186.1) (State.isArrayOf_alike hZ.alike Ar186.2.1) Ar186.2.2 i187 (Has.at ha186 i187 rfl) (g := (mkF m 35 #[.val (.ref x), .val (.ref b), .val (.int (0 : Int32)), .val (.int (3 : Int32)), .val (.int (1 : Int32)), .val (.ref t), .val (.int (1 : Int32)), .val (.int (2 : Int32)), .val (.int c0)] [(.int (1 : Int32)), (.ref b)])) rfl rfl (hb hby d17_35) _ k_) ?_
  refine P1.istore X183.here hx #[.val (.ref x), .val (.ref b), .val (.int (0 : Int32)), .val (.int (3 : Int32)), .val (.int (1 : Int32)), .val (.ref t), .val (.int (1 : Int32)), .val (.int (2 : Int32)), .val (.int c1)] (hb hby d17_36) rfl ?_
  refine P1.iload X183.here hx (hb hby d17_38) rfl ?_
  have Z188 : n0 ≤ h183.size := Nat.le_trans Z0 (Keep.of_wr W183).1
  have O189 : Old Z n0 h183 := O0.wr W183 gt
  refine Goes.callS X183 hx (y := y36_) hown (mvT hZ (own_w hw 71 rfl)) (mvT hZ (own_w hw 72 rfl)) (mvT hZ (own_w hw 73 rfl)) (mvT hZ (own_w hw 74 rfl)) (by decide) (kc' := 0) (ks' := 0) (backOf (W := 0) (rmCan l Z a0 hw [] c1 h183 n0 Z188 O189 h_c1) hZ (own_w hw 74 rfl) (own_w hw 73 rfl) (ok rfl) (ok rfl)) (g := (mkF m 40 #[.val (.ref x), .val (.ref b), .val (.int (0 : Int32)), .val (.int (3 : Int32)), .val (.int (1 : Int32)), .val (.ref t), .val (.int (1 : Int32)), .val (.int (2 : Int32)), .val (.int c1)] [(.int c1)])) rfl (by rw [hml]; rfl) (argsL := [(.int c1)]) (rest := []) (lenOf pd_657 rfl) rfl (by show 2 * 0 + _ ≤ _; exact Nat.le_of_eq rfl) (hb hby d17_40) rfl e183 (ok rfl) (ok rfl) ?_
  intro v190 T190 L190 q190 X190
  obtain ⟨rfl, N190q, hE190⟩ := q190
  have N190 := Fr.app N183 N190q
  show Goes p e below _ T190 (mkF m 43 #[.val (.ref x), .val (.ref b), .val (.int (0 : Int32)), .val (.int (3 : Int32)), .val (.int (1 : Int32)), .val (.ref t), .val (.int (1 : Int32)), .val (.int (2 : Int32)), .val (.int c1)] [(.int (1 : Int32))])
  refine P1.ifNo X190.here hx (hb hby d17_43) ((if0 _ _).trans (feq (by decide : ¬ ((1 : Int32) = (0 : Int32)))).1) ?_
  refine P1.aload X190.here hx (hb hby d17_46) rfl rfl ?_
  refine P1.iload X190.here hx (hb hby d17_48) rfl ?_
  refine Goes.step (T' := T190) (g' := (mkF m 53 #[.val (.ref x), .val (.ref b), .val (.int (0 : Int32)), .val (.int (3 : Int32)), .val (.int (1 : Int32)), .val (.ref t), .val (.int (1 : Int32)), .val (.int ((2 : Int32) + (1 : Int32))), .val (.int c1)] [(.int (2 : Int32)), (.ref t)])) (fun t_ k_ => XS.iinc X190.here hx rfl (hb hby d17_50) rfl (l' := #[.val (.ref x), .val (.ref b), .val (.int (0 : Int32)), .val (.int (3 : Int32)), .val (.int (1 : Int32)), .val (.ref t), .val (.int (1 : Int32)), .val (.int ((2 : Int32) + (1 : Int32))), .val (.int c1)]) rfl k_) ?_
  have rw191 : ((2 : Int32) + (1 : Int32)) = (3 : Int32) := by decide
  rw [rw191]
  refine P1.iload X190.here hx (hb hby d17_53) rfl ?_
  refine Goes.step (T' := T190) (g' := (mkF m 56 #[.val (.ref x), .val (.ref b), .val (.int (0 : Int32)), .val (.int (3 : Int32)), .val (.int (1 : Int32)), .val (.ref t), .val (.int (1 : Int32)), .val (.int (3 : Int32)), .val (.int c1)] [(.int (c1.toInt8.toInt32)), (.int (2 : Int32)), (.ref t)])) (fun t_ k_ => XS.i2b X190.here hx rfl (hb hby d17_55) rfl k_) ?_
  have rw192 : (c1.toInt8.toInt32) = c1 := h_c1.i2b
  rw [rw192]
  have V193 : Arv Z h183 t kt .byte (8192 : Int32) [(.int pr), (.int c0), (.int (0 : Int32))] (.int (0 : Int32)) := V183.pad (pad_rep [(.int pr), (.int c0)] (.int (0 : Int32)) 1)
  obtain ⟨cl194, Ar194, qk194, sl194, nz194, ha194, fi194⟩ := id V193
  obtain ⟨T195, h195, X195, e195, W195, st195⟩ := stB X190 hx hZ hE190 Ar194 (j := (2 : Int32)) (inb_of sl194 ⟨by decide, by decide⟩) (g := (mkF m 56 #[.val (.ref x), .val (.ref b), .val (.int (0 : Int32)), .val (.int (3 : Int32)), .val (.int (1 : Int32)), .val (.ref t), .val (.int (1 : Int32)), .val (.int (3 : Int32)), .val (.int c1)] [(.int c1), (.int (2 : Int32)), (.ref t)])) rfl rfl (hb hby d17_56)
  rw [h_c1.nb] at W195
  have V195 : Arv Z h195 t kt .byte (8192 : Int32) [(.int pr), (.int c0), (.int c1)] (.int (0 : Int32)) := Arv.set Ar194 qk194 sl194 nz194 ha194 fi194 (h_c1.nb ▸ fits_nar_byte c1) W195 2 rfl (ok rfl)
  have N195 := Fr.snoc X195 N190 gt
  refine Goes.step (T' := T195) (g' := (mkF m 57 #[.val (.ref x), .val (.ref b), .val (.int (0 : Int32)), .val (.int (3 : Int32)), .val (.int (1 : Int32)), .val (.ref t), .val (.int (1 : Int32)), .val (.int (3 : Int32)), .val (.int c1)] [])) st195 ?_
  refine P1.goto X195.here hx 98 (hb hby d17_57) (by decide) (by decide) ?_
  refine Goes.step (T' := T195) (g' := (mkF m 101 #[.val (.ref x), .val (.ref b), .val (.int (0 : Int32)), .val (.int (3 : Int32)), .val (.int (1 : Int32)), .val (.ref t), .val (.int ((1 : Int32) + (1 : Int32))), .val (.int (3 : Int32)), .val (.int c1)] [])) (fun t_ k_ => XS.iinc X195.here hx rfl (hb hby d17_98) rfl (l' := #[.val (.ref x), .val (.ref b), .val (.int (0 : Int32)), .val (.int (3 : Int32)), .val (.int (1 : Int32)), .val (.ref t), .val (.int ((1 : Int32) + (1 : Int32))), .val (.int (3 : Int32)), .val (.int c1)]) rfl k_) ?_
  have rw196 : ((1 : Int32) + (1 : Int32)) = (2 : Int32) := by decide
  rw [rw196]
  refine P1.goto X195.here hx 26 (hb hby d17_101) (by decide) (by decide) ?_
  refine P1.iload X195.here hx (hb hby d17_26) rfl ?_
  refine P1.iloadN X195.here hx (hb hby d17_28) rfl ?_
  refine P1.icmpNo X195.here hx (hb hby d17_29) (tlt (by decide : (2 : Int32) < (3 : Int32))).2.1 ?_
  refine P1.aloadN X195.here hx (hb hby d17_32) rfl rfl ?_
  refine P1.iload X195.here hx (hb hby d17_33) rfl ?_
  have V197 : Arv Z h195 b kb .char (4 : Int32) [(.int c0), (.int c1), (.int c2), (.int c3)] (.int (0 : Int32)) := V185.other W195 neb
  obtain ⟨cl198, Ar198, qk198, sl198, nz198, ha198, fi198⟩ := id V197
  have i199 := inb_of (j := (2 : Int32)) sl198 ⟨by decide, by decide⟩
  refine Goes.step (T' := T195) (g' := (mkF m 36 #[.val (.ref x), .val (.ref b), .val (.int (0 : Int32)), .val (.int (3 : Int32)), .val (.int (1 : Int32)), .val (.ref t), .val (.int (2 : Int32)), .val (.int (3 : Int32)), .val (.int c1)] [(.int c2)])) (fun t_ k_ => X195.caload hx (j := (2 : Int32)) (v := (.int c2)) (by rw [e195]; exact Ar198.1) (State.isArrayOf_alike hZ.alike Ar198.2.1) Ar198.2.2 i199 (Has.at ha198 i199 rfl) (g := (mkF m 35 #[.val (.ref x), .val (.ref b), .val (.int (0 : Int32)), .val (.int (3 : Int32)), .val (.int (1 : Int32)), .val (.ref t), .val (.int (2 : Int32)), .val (.int (3 : Int32)), .val (.int c1)] [(.int (2 : Int32)), (.ref b)])) rfl rfl (hb hby d17_35) _ k_) ?_
  refine P1.istore X195.here hx #[.val (.ref x), .val (.ref b), .val (.int (0 : Int32)), .val (.int (3 : Int32)), .val (.int (1 : Int32)), .val (.ref t), .val (.int (2 : Int32)), .val (.int (3 : Int32)), .val (.int c2)] (hb hby d17_36) rfl ?_
  refine P1.iload X195.here hx (hb hby d17_38) rfl ?_
  have Z200 : n0 ≤ h195.size := Nat.le_trans Z188 (Keep.of_wr W195).1
  have O201 : Old Z n0 h195 := O189.wr W195 gt
  refine Goes.callS X195 hx (y := y36_) hown (mvT hZ (own_w hw 71 rfl)) (mvT hZ (own_w hw 72 rfl)) (mvT hZ (own_w hw 73 rfl)) (mvT hZ (own_w hw 74 rfl)) (by decide) (kc' := 0) (ks' := 0) (backOf (W := 0) (rmCan l Z a0 hw [] c2 h195 n0 Z200 O201 h_c2) hZ (own_w hw 74 rfl) (own_w hw 73 rfl) (ok rfl) (ok rfl)) (g := (mkF m 40 #[.val (.ref x), .val (.ref b), .val (.int (0 : Int32)), .val (.int (3 : Int32)), .val (.int (1 : Int32)), .val (.ref t), .val (.int (2 : Int32)), .val (.int (3 : Int32)), .val (.int c2)] [(.int c2)])) rfl (by rw [hml]; rfl) (argsL := [(.int c2)]) (rest := []) (lenOf pd_657 rfl) rfl (by show 2 * 0 + _ ≤ _; exact Nat.le_of_eq rfl) (hb hby d17_40) rfl e195 (ok rfl) (ok rfl) ?_
  intro v202 T202 L202 q202 X202
  obtain ⟨rfl, N202q, hE202⟩ := q202
  have N202 := Fr.app N195 N202q
  show Goes p e below _ T202 (mkF m 43 #[.val (.ref x), .val (.ref b), .val (.int (0 : Int32)), .val (.int (3 : Int32)), .val (.int (1 : Int32)), .val (.ref t), .val (.int (2 : Int32)), .val (.int (3 : Int32)), .val (.int c2)] [(.int (1 : Int32))])
  refine P1.ifNo X202.here hx (hb hby d17_43) ((if0 _ _).trans (feq (by decide : ¬ ((1 : Int32) = (0 : Int32)))).1) ?_
  refine P1.aload X202.here hx (hb hby d17_46) rfl rfl ?_
  refine P1.iload X202.here hx (hb hby d17_48) rfl ?_
  refine Goes.step (T' := T202) (g' := (mkF m 53 #[.val (.ref x), .val (.ref b), .val (.int (0 : Int32)), .val (.int (3 : Int32)), .val (.int (1 : Int32)), .val (.ref t), .val (.int (2 : Int32)), .val (.int ((3 : Int32) + (1 : Int32))), .val (.int c2)] [(.int (3 : Int32)), (.ref t)])) (fun t_ k_ => XS.iinc X202.here hx rfl (hb hby d17_50) rfl (l' := #[.val (.ref x), .val (.ref b), .val (.int (0 : Int32)), .val (.int (3 : Int32)), .val (.int (1 : Int32)), .val (.ref t), .val (.int (2 : Int32)), .val (.int ((3 : Int32) + (1 : Int32))), .val (.int c2)]) rfl k_) ?_
  have rw203 : ((3 : Int32) + (1 : Int32)) = (4 : Int32) := by decide
  rw [rw203]
  refine P1.iload X202.here hx (hb hby d17_53) rfl ?_
  refine Goes.step (T' := T202) (g' := (mkF m 56 #[.val (.ref x), .val (.ref b), .val (.int (0 : Int32)), .val (.int (3 : Int32)), .val (.int (1 : Int32)), .val (.ref t), .val (.int (2 : Int32)), .val (.int (4 : Int32)), .val (.int c2)] [(.int (c2.toInt8.toInt32)), (.int (3 : Int32)), (.ref t)])) (fun t_ k_ => XS.i2b X202.here hx rfl (hb hby d17_55) rfl k_) ?_
  have rw204 : (c2.toInt8.toInt32) = c2 := h_c2.i2b
  rw [rw204]
  have V205 : Arv Z h195 t kt .byte (8192 : Int32) [(.int pr), (.int c0), (.int c1), (.int (0 : Int32))] (.int (0 : Int32)) := V195.pad (pad_rep [(.int pr), (.int c0), (.int c1)] (.int (0 : Int32)) 1)
  obtain ⟨cl206, Ar206, qk206, sl206, nz206, ha206, fi206⟩ := id V205
  obtain ⟨T207, h207, X207, e207, W207, st207⟩ := stB X202 hx hZ hE202 Ar206 (j := (3 : Int32)) (inb_of sl206 ⟨by decide, by decide⟩) (g := (mkF m 56 #[.val (.ref x), .val (.ref b), .val (.int (0 : Int32)), .val (.int (3 : Int32)), .val (.int (1 : Int32)), .val (.ref t), .val (.int (2 : Int32)), .val (.int (4 : Int32)), .val (.int c2)] [(.int c2), (.int (3 : Int32)), (.ref t)])) rfl rfl (hb hby d17_56)
  rw [h_c2.nb] at W207
  have V207 : Arv Z h207 t kt .byte (8192 : Int32) [(.int pr), (.int c0), (.int c1), (.int c2)] (.int (0 : Int32)) := Arv.set Ar206 qk206 sl206 nz206 ha206 fi206 (h_c2.nb ▸ fits_nar_byte c2) W207 3 rfl (ok rfl)
  have N207 := Fr.snoc X207 N202 gt
  refine Goes.step (T' := T207) (g' := (mkF m 57 #[.val (.ref x), .val (.ref b), .val (.int (0 : Int32)), .val (.int (3 : Int32)), .val (.int (1 : Int32)), .val (.ref t), .val (.int (2 : Int32)), .val (.int (4 : Int32)), .val (.int c2)] [])) st207 ?_
  refine P1.goto X207.here hx 98 (hb hby d17_57) (by decide) (by decide) ?_
  refine Goes.step (T' := T207) (g' := (mkF m 101 #[.val (.ref x), .val (.ref b), .val (.int (0 : Int32)), .val (.int (3 : Int32)), .val (.int (1 : Int32)), .val (.ref t), .val (.int ((2 : Int32) + (1 : Int32))), .val (.int (4 : Int32)), .val (.int c2)] [])) (fun t_ k_ => XS.iinc X207.here hx rfl (hb hby d17_98) rfl (l' := #[.val (.ref x), .val (.ref b), .val (.int (0 : Int32)), .val (.int (3 : Int32)), .val (.int (1 : Int32)), .val (.ref t), .val (.int ((2 : Int32) + (1 : Int32))), .val (.int (4 : Int32)), .val (.int c2)]) rfl k_) ?_
  have rw208 : ((2 : Int32) + (1 : Int32)) = (3 : Int32) := by decide
  rw [rw208]
  refine P1.goto X207.here hx 26 (hb hby d17_101) (by decide) (by decide) ?_
  refine P1.iload X207.here hx (hb hby d17_26) rfl ?_
  refine P1.iloadN X207.here hx (hb hby d17_28) rfl ?_
  refine P1.icmpYes X207.here hx 104 (hb hby d17_29) (flt (by decide : ¬ ((3 : Int32) < (3 : Int32)))).2.1 (by decide) (by decide) ?_
  refine P1.goto X207.here hx 119 (hb hby d17_104) (by decide) (by decide) ?_
  refine P1.aloadN X207.here hx (hb hby d17_119) rfl rfl ?_
  refine P1.iload X207.here hx (hb hby d17_120) rfl ?_
  refine P1.iloadN X207.here hx (hb hby d17_122) rfl ?_
  refine P1.iadd X207.here hx (hb hby d17_123) ?_
  have rw209 : ((1 : Int32) + (3 : Int32)) = (4 : Int32) := by decide
  rw [rw209]
  refine P1.iloadN X207.here hx (hb hby d17_124) rfl ?_
  refine P1.isub X207.here hx (hb hby d17_125) ?_
  have rw210 : ((4 : Int32) - (0 : Int32)) = (4 : Int32) := by decide
  rw [rw210]
  have E212 : Exa Z h183 x "java/lang/StringBuilder" := Ex.wr W183
  have E213 : Exa Z h195 x "java/lang/StringBuilder" := E212.wr W195
  have E214 : Exa Z h207 x "java/lang/StringBuilder" := E213.wr W207
  have ne211 : x ≠ t := own_ne_arv E214 (own_w hw 23 rfl) V207
  have F215 : Fld Z h183 x "java/lang/AbstractStringBuilder" "count" "I" (.int (1 : Int32)) := Fn.other W183 (Or.inl ne211)
  have F216 : Fld Z h195 x "java/lang/AbstractStringBuilder" "count" "I" (.int (1 : Int32)) := F215.other W195 (Or.inl ne211)
  have F217 : Fld Z h207 x "java/lang/AbstractStringBuilder" "count" "I" (.int (1 : Int32)) := F216.other W207 (Or.inl ne211)
  obtain ⟨T218, h218, X218, e218, W218, st218⟩ := putF X207 hx hZ hown (host := "") (Or.inl (own_w hw 59 rfl)) Via.refl e207 F217 E214 (Or.inl (own_w hw 60 rfl)) (own_w hw 23 rfl) (ty := .int) (by decide) rfl rfl (g := (mkF m 126 #[.val (.ref x), .val (.ref b), .val (.int (0 : Int32)), .val (.int (3 : Int32)), .val (.int (1 : Int32)), .val (.ref t), .val (.int (3 : Int32)), .val (.int (4 : Int32)), .val (.int c2)] [(.int (4 : Int32)), (.ref x)])) rfl rfl (hb hby d17_126)
  have Fw218 : Fld Z h218 x "java/lang/AbstractStringBuilder" "count" "I" (.int (4 : Int32)) := F217.same W218
  have N218 := Fr.snoc X218 N207 gx
  refine Goes.step (T' := T218) (g' := (mkF m 129 #[.val (.ref x), .val (.ref b), .val (.int (0 : Int32)), .val (.int (3 : Int32)), .val (.int (1 : Int32)), .val (.ref t), .val (.int (3 : Int32)), .val (.int (4 : Int32)), .val (.int c2)] [])) st218 ?_
  refine Goes.retV X218 hx Bd.notSynchronized Bd.returns (hb hby d17_129) (ok rfl) (ok rfl) ?_
  rw [e218]
  have K219 : Keep h0 h183 [x, t] := K0.wr W183 (Or.inl (by simp))
  have K220 : Keep h0 h195 [x, t] := K219.wr W195 (Or.inl (by simp))
  have K221 : Keep h0 h207 [x, t] := K220.wr W207 (Or.inl (by simp))
  have K222 : Keep h0 h218 [x, t] := K221.wr W218 (Or.inl (by simp))
  have E223 : Exa Z h218 x "java/lang/StringBuilder" := E214.wr W218
  have F224 : Fld Z h183 x "java/lang/AbstractStringBuilder" "value" "[B" (.ref t) := Fv.other W183 (Or.inl ne211)
  have F225 : Fld Z h195 x "java/lang/AbstractStringBuilder" "value" "[B" (.ref t) := F224.other W195 (Or.inl ne211)
  have F226 : Fld Z h207 x "java/lang/AbstractStringBuilder" "value" "[B" (.ref t) := F225.other W207 (Or.inl ne211)
  have F227 : Fld Z h218 x "java/lang/AbstractStringBuilder" "value" "[B" (.ref t) := F226.other W218 (Or.inr (slot_ne (Or.inl (own_w hw 39 rfl)) (Or.inl (own_w hw 60 rfl)) (by decide) (t := (.array .byte)) (t' := .int) (by decide) (by decide)))
  have F228 : Fld Z h183 x "java/lang/AbstractStringBuilder" "coder" "B" (.int (0 : Int32)) := Fc.other W183 (Or.inl ne211)
  have F229 : Fld Z h195 x "java/lang/AbstractStringBuilder" "coder" "B" (.int (0 : Int32)) := F228.other W195 (Or.inl ne211)
  have F230 : Fld Z h207 x "java/lang/AbstractStringBuilder" "coder" "B" (.int (0 : Int32)) := F229.other W207 (Or.inl ne211)
  have F231 : Fld Z h218 x "java/lang/AbstractStringBuilder" "coder" "B" (.int (0 : Int32)) := F230.other W218 (Or.inr (slot_ne (Or.inl (own_w hw 41 rfl)) (Or.inl (own_w hw 60 rfl)) (by decide) (t := .byte) (t' := .int) (by decide) (by decide)))
  have V232 : Arv Z h218 t kt .byte (8192 : Int32) [(.int pr), (.int c0), (.int c1), (.int c2)] (.int (0 : Int32)) := V207.other W218 (Ne.symm ne211)
  exact ⟨rfl, N218, K222, E223, F227, F231, Fw218, V232⟩
theorem efAc_1_3 (x b : Addr) (m : MethodId) : entryFrame m #[(.ref x), (.ref b), (.int (1 : Int32)), (.int (4 : Int32))] 9 = mkF m 0 #[.val (.ref x), .val (.ref b), .val (.int (1 : Int32)), .val (.int (4 : Int32)), .unset, .unset, .unset, .unset, .unset] [] := by first | (simp [entryFrame, mkF, argsToLocals, Value.category]; done) | rfl
def QAc_1_3 (Z : State) (x t : Addr) (kt : ClassId) (b : Addr) (kb : ClassId) (pr c0 c1 c2 c3 zc : Int32) (fm fi : Value) (u8 : Addr) (h0 : Heap) (n0 : Nat) (v : Option Value) (h : Heap) (L : List Loc) : Prop := v = none ∧ Fr n0 L ∧ Keep h0 h [x, t] ∧ Exa Z h x "java/lang/StringBuilder" ∧ Fld Z h x "java/lang/AbstractStringBuilder" "value" "[B" (.ref t) ∧ Fld Z h x "java/lang/AbstractStringBuilder" "coder" "B" (.int (0 : Int32)) ∧ Fld Z h x "java/lang/AbstractStringBuilder" "count" "I" (.int (4 : Int32)) ∧ Arv Z h t kt .byte (8192 : Int32) [(.int pr), (.int c1), (.int c2), (.int c3)] (.int (0 : Int32))
set_option maxRecDepth 65536 in
set_option maxHeartbeats 40000000 in
theorem rmAc_1_3 (l : Launch) (Z : State) (a0 : Array Value) (hw : ∀ d ∈ tables_1, d.before a0 Z = true) (ws : List Jvm.Cond) (x t : Addr) (kt : ClassId) (b : Addr) (kb : ClassId) (pr c0 c1 c2 c3 zc : Int32) (fm fi : Value) (u8 : Addr) (h0 : Heap) (n0 : Nat) (Z0 : n0 ≤ h0.size) (O0 : Old Z n0 h0) (S_CS : Sta Z Z.heap "java/lang/String" "COMPACT_STRINGS" "Z" (.int zc)) (hzc : ¬ zc = 0) (S_FM : Sta Z Z.heap "jdk/internal/util/Preconditions" "SIOOBE_FORMATTER" "Ljava/util/function/BiFunction;" fm) (hfm : fm.isRef = true) (S_FI : Sta Z Z.heap "jdk/internal/util/Preconditions" "IOOBE_FORMATTER" "Ljava/util/function/BiFunction;" fi) (hfi : fi.isRef = true) (S_IN : Sta Z Z.heap "sun/nio/cs/UTF_8" "INSTANCE" "Lsun/nio/cs/UTF_8;" (.ref u8)) (S_U8 : Sta Z Z.heap "java/nio/charset/StandardCharsets" "UTF_8" "Ljava/nio/charset/Charset;" (.ref u8)) (gx : n0 ≤ x) (gt : n0 ≤ t) (Ex : Exa Z h0 x "java/lang/StringBuilder") (Fv : Fld Z h0 x "java/lang/AbstractStringBuilder" "value" "[B" (.ref t)) (Fc : Fld Z h0 x "java/lang/AbstractStringBuilder" "coder" "B" (.int (0 : Int32))) (Fn : Fld Z h0 x "java/lang/AbstractStringBuilder" "count" "I" (.int (1 : Int32))) (Vt : Arv Z h0 t kt .byte (8192 : Int32) [(.int pr)] (.int (0 : Int32))) (Vb : Arv Z h0 b kb .char (4 : Int32) [(.int c0), (.int c1), (.int c2), (.int c3)] (.int (0 : Int32))) (neb : b ≠ t) (h_c0 : Pr c0) (h_c1 : Pr c1) (h_c2 : Pr c2) (h_c3 : Pr c3) :
    OwnLaw l y12_ jdk_68_method_74_code 9 none ws (rR 1 0 0 12) #[(.ref x), (.ref b), (.int (1 : Int32)), (.int (4 : Int32))] Z h0 (QAc_1_3 Z x t kt b kb pr c0 c1 c2 c3 zc fm fi u8 h0 n0) := by
  refine own_enter (plainFor_of_name pn_java_lang_AbstractStringBuilder) (efAc_1_3 x b) ?_
  intro p e s m below meth c s₁ Bd hx hby hml hZ hown X0 e0
  have N0 := Fr.nil n0
  have K0 : Keep h0 h0 [] := Keep.refl _ _
  have K0 : Keep h0 h0 [x, t] := Keep.refl _ _
  refine P1.aloadN X0.here hx (hb hby d17_0) rfl rfl ?_
  obtain ⟨T233, X233, e233, st233⟩ := getF X0 hx hZ hown (host := "") (Or.inl (own_w hw 59 rfl)) Via.refl e0 Fn (g := (mkF m 1 #[.val (.ref x), .val (.ref b), .val (.int (1 : Int32)), .val (.int (4 : Int32)), .unset, .unset, .unset, .unset, .unset] [(.ref x)])) rfl rfl (hb hby d17_1)
  refine Goes.step (T' := T233) (g' := (mkF m 4 #[.val (.ref x), .val (.ref b), .val (.int (1 : Int32)), .val (.int (4 : Int32)), .unset, .unset, .unset, .unset, .unset] [(.int (1 : Int32))])) st233 ?_
  refine P1.istore X233.here hx #[.val (.ref x), .val (.ref b), .val (.int (1 : Int32)), .val (.int (4 : Int32)), .val (.int (1 : Int32)), .unset, .unset, .unset, .unset] (hb hby d17_4) rfl ?_
  refine P1.aloadN X233.here hx (hb hby d17_6) rfl rfl ?_
  refine Goes.callV X233 hx hZ (y := y16_) (z := y16_) hown (mvT hZ (own_w hw 66 rfl)) (mvT hZ (own_w hw 67 rfl)) (notFace_of_selects (args := #[]) (mvT hZ (own_w hw 69 rfl))) (mvT hZ (own_w hw 69 rfl)) (mvT hZ (own_w hw 68 rfl)) (by decide) (kc' := 0) (ks' := 0) (backOf (W := 0) (rmIl l Z a0 hw [] x zc fm fi u8 h0 n0 Z0 O0 S_CS hzc S_FM hfm S_FI hfi S_IN S_U8 Fc) hZ (own_w hw 70 rfl) (own_w hw 32 rfl) (ok rfl) (ok rfl)) (b := x) e233 Ex (g := (mkF m 7 #[.val (.ref x), .val (.ref b), .val (.int (1 : Int32)), .val (.int (4 : Int32)), .val (.int (1 : Int32)), .unset, .unset, .unset, .unset] [(.ref x)])) rfl (by rw [hml]; rfl) (argsL := []) (rest := []) (lenOf pd_392 rfl) rfl (by show 2 * 0 + _ ≤ _; exact Nat.le_of_eq rfl) (hb hby d17_7) rfl (ok rfl) (ok rfl) ?_
  intro v234 T234 L234 q234 X234
  obtain ⟨rfl, N234q, hE234⟩ := q234
  have N234 := Fr.app N0 N234q
  show Goes p e below _ T234 (mkF m 10 #[.val (.ref x), .val (.ref b), .val (.int (1 : Int32)), .val (.int (4 : Int32)), .val (.int (1 : Int32)), .unset, .unset, .unset, .unset] [(.int (1 : Int32))])
  refine P1.ifNo X234.here hx (hb hby d17_10) ((if0 _ _).trans (feq (by decide : ¬ ((1 : Int32) = (0 : Int32)))).1) ?_
  refine P1.aloadN X234.here hx (hb hby d17_13) rfl rfl ?_
  obtain ⟨T235, X235, e235, st235⟩ := getF X234 hx hZ hown (host := "") (Or.inl (own_w hw 38 rfl)) Via.refl hE234 Fv (g := (mkF m 14 #[.val (.ref x), .val (.ref b), .val (.int (1 : Int32)), .val (.int (4 : Int32)), .val (.int (1 : Int32)), .unset, .unset, .unset, .unset] [(.ref x)])) rfl rfl (hb hby d17_14)
  refine Goes.step (T' := T235) (g' := (mkF m 17 #[.val (.ref x), .val (.ref b), .val (.int (1 : Int32)), .val (.int (4 : Int32)), .val (.int (1 : Int32)), .unset, .unset, .unset, .unset] [(.ref t)])) st235 ?_
  refine P1.astore X235.here hx #[.val (.ref x), .val (.ref b), .val (.int (1 : Int32)), .val (.int (4 : Int32)), .val (.int (1 : Int32)), .val (.ref t), .unset, .unset, .unset] (hb hby d17_17) rfl rfl ?_
  refine P1.iloadN X235.here hx (hb hby d17_19) rfl ?_
  refine P1.istore X235.here hx #[.val (.ref x), .val (.ref b), .val (.int (1 : Int32)), .val (.int (4 : Int32)), .val (.int (1 : Int32)), .val (.ref t), .val (.int (1 : Int32)), .unset, .unset] (hb hby d17_20) rfl ?_
  refine P1.iload X235.here hx (hb hby d17_22) rfl ?_
  refine P1.istore X235.here hx #[.val (.ref x), .val (.ref b), .val (.int (1 : Int32)), .val (.int (4 : Int32)), .val (.int (1 : Int32)), .val (.ref t), .val (.int (1 : Int32)), .val (.int (1 : Int32)), .unset] (hb hby d17_24) rfl ?_
  refine P1.iload X235.here hx (hb hby d17_26) rfl ?_
  refine P1.iloadN X235.here hx (hb hby d17_28) rfl ?_
  refine P1.icmpNo X235.here hx (hb hby d17_29) (tlt (by decide : (1 : Int32) < (4 : Int32))).2.1 ?_
  refine P1.aloadN X235.here hx (hb hby d17_32) rfl rfl ?_
  refine P1.iload X235.here hx (hb hby d17_33) rfl ?_
  obtain ⟨cl236, Ar236, qk236, sl236, nz236, ha236, fi236⟩ := id Vb
  have i237 := inb_of (j := (1 : Int32)) sl236 ⟨by decide, by decide⟩
  refine Goes.step (T' := T235) (g' := (mkF m 36 #[.val (.ref x), .val (.ref b), .val (.int (1 : Int32)), .val (.int (4 : Int32)), .val (.int (1 : Int32)), .val (.ref t), .val (.int (1 : Int32)), .val (.int (1 : Int32)), .unset] [(.int c1)])) (fun t_ k_ => X235.caload hx (j := (1 : Int32)) (v := (.int c1)) (by rw [e235]; exact Ar236.1) (State.isArrayOf_alike hZ.alike Ar236.2.1) Ar236.2.2 i237 (Has.at ha236 i237 rfl) (g := (mkF m 35 #[.val (.ref x), .val (.ref b), .val (.int (1 : Int32)), .val (.int (4 : Int32)), .val (.int (1 : Int32)), .val (.ref t), .val (.int (1 : Int32)), .val (.int (1 : Int32)), .unset] [(.int (1 : Int32)), (.ref b)])) rfl rfl (hb hby d17_35) _ k_) ?_
  refine P1.istore X235.here hx #[.val (.ref x), .val (.ref b), .val (.int (1 : Int32)), .val (.int (4 : Int32)), .val (.int (1 : Int32)), .val (.ref t), .val (.int (1 : Int32)), .val (.int (1 : Int32)), .val (.int c1)] (hb hby d17_36) rfl ?_
  refine P1.iload X235.here hx (hb hby d17_38) rfl ?_
  refine Goes.callS X235 hx (y := y36_) hown (mvT hZ (own_w hw 71 rfl)) (mvT hZ (own_w hw 72 rfl)) (mvT hZ (own_w hw 73 rfl)) (mvT hZ (own_w hw 74 rfl)) (by decide) (kc' := 0) (ks' := 0) (backOf (W := 0) (rmCan l Z a0 hw [] c1 h0 n0 Z0 O0 h_c1) hZ (own_w hw 74 rfl) (own_w hw 73 rfl) (ok rfl) (ok rfl)) (g := (mkF m 40 #[.val (.ref x), .val (.ref b), .val (.int (1 : Int32)), .val (.int (4 : Int32)), .val (.int (1 : Int32)), .val (.ref t), .val (.int (1 : Int32)), .val (.int (1 : Int32)), .val (.int c1)] [(.int c1)])) rfl (by rw [hml]; rfl) (argsL := [(.int c1)]) (rest := []) (lenOf pd_657 rfl) rfl (by show 2 * 0 + _ ≤ _; exact Nat.le_of_eq rfl) (hb hby d17_40) rfl e235 (ok rfl) (ok rfl) ?_
  intro v238 T238 L238 q238 X238
  obtain ⟨rfl, N238q, hE238⟩ := q238
  have N238 := Fr.app N234 N238q
  show Goes p e below _ T238 (mkF m 43 #[.val (.ref x), .val (.ref b), .val (.int (1 : Int32)), .val (.int (4 : Int32)), .val (.int (1 : Int32)), .val (.ref t), .val (.int (1 : Int32)), .val (.int (1 : Int32)), .val (.int c1)] [(.int (1 : Int32))])
  refine P1.ifNo X238.here hx (hb hby d17_43) ((if0 _ _).trans (feq (by decide : ¬ ((1 : Int32) = (0 : Int32)))).1) ?_
  refine P1.aload X238.here hx (hb hby d17_46) rfl rfl ?_
  refine P1.iload X238.here hx (hb hby d17_48) rfl ?_
  refine Goes.step (T' := T238) (g' := (mkF m 53 #[.val (.ref x), .val (.ref b), .val (.int (1 : Int32)), .val (.int (4 : Int32)), .val (.int (1 : Int32)), .val (.ref t), .val (.int (1 : Int32)), .val (.int ((1 : Int32) + (1 : Int32))), .val (.int c1)] [(.int (1 : Int32)), (.ref t)])) (fun t_ k_ => XS.iinc X238.here hx rfl (hb hby d17_50) rfl (l' := #[.val (.ref x), .val (.ref b), .val (.int (1 : Int32)), .val (.int (4 : Int32)), .val (.int (1 : Int32)), .val (.ref t), .val (.int (1 : Int32)), .val (.int ((1 : Int32) + (1 : Int32))), .val (.int c1)]) rfl k_) ?_
  have rw239 : ((1 : Int32) + (1 : Int32)) = (2 : Int32) := by decide
  rw [rw239]
  refine P1.iload X238.here hx (hb hby d17_53) rfl ?_
  refine Goes.step (T' := T238) (g' := (mkF m 56 #[.val (.ref x), .val (.ref b), .val (.int (1 : Int32)), .val (.int (4 : Int32)), .val (.int (1 : Int32)), .val (.ref t), .val (.int (1 : Int32)), .val (.int (2 : Int32)), .val (.int c1)] [(.int (c1.toInt8.toInt32)), (.int (1 : Int32)), (.ref t)])) (fun t_ k_ => XS.i2b X238.here hx rfl (hb hby d17_55) rfl k_) ?_
  have rw240 : (c1.toInt8.toInt32) = c1 := h_c1.i2b
  rw [rw240]
  have V241 : Arv Z h0 t kt .byte (8192 : Int32) [(.int pr), (.int (0 : Int32))] (.int (0 : Int32)) := Vt.pad (pad_rep [(.int pr)] (.int (0 : Int32)) 1)
  obtain ⟨cl242, Ar242, qk242, sl242, nz242, ha242, fi242⟩ := id V241
  obtain ⟨T243, h243, X243, e243, W243, st243⟩ := stB X238 hx hZ hE238 Ar242 (j := (1 : Int32)) (inb_of sl242 ⟨by decide, by decide⟩) (g := (mkF m 56 #[.val (.ref x), .val (.ref b), .val (.int (1 : Int32)), .val (.int (4 : Int32)), .val (.int (1 : Int32)), .val (.ref t), .val (.int (1 : Int32)), .val (.int (2 : Int32)), .val (.int c1)] [(.int c1), (.int (1 : Int32)), (.ref t)])) rfl rfl (hb hby d17_56)
  rw [h_c1.nb] at W243
  have V243 : Arv Z h243 t kt .byte (8192 : Int32) [(.int pr), (.int c1)] (.int (0 : Int32)) := Arv.set Ar242 qk242 sl242 nz242 ha242 fi242 (h_c1.nb ▸ fits_nar_byte c1) W243 1 rfl (ok rfl)
  have N243 := Fr.snoc X243 N238 gt
  refine Goes.step (T' := T243) (g' := (mkF m 57 #[.val (.ref x), .val (.ref b), .val (.int (1 : Int32)), .val (.int (4 : Int32)), .val (.int (1 : Int32)), .val (.ref t), .val (.int (1 : Int32)), .val (.int (2 : Int32)), .val (.int c1)] [])) st243 ?_
  refine P1.goto X243.here hx 98 (hb hby d17_57) (by decide) (by decide) ?_
  refine Goes.step (T' := T243) (g' := (mkF m 101 #[.val (.ref x), .val (.ref b), .val (.int (1 : Int32)), .val (.int (4 : Int32)), .val (.int (1 : Int32)), .val (.ref t), .val (.int ((1 : Int32) + (1 : Int32))), .val (.int (2 : Int32)), .val (.int c1)] [])) (fun t_ k_ => XS.iinc X243.here hx rfl (hb hby d17_98) rfl (l' := #[.val (.ref x), .val (.ref b), .val (.int (1 : Int32)), .val (.int (4 : Int32)), .val (.int (1 : Int32)), .val (.ref t), .val (.int ((1 : Int32) + (1 : Int32))), .val (.int (2 : Int32)), .val (.int c1)]) rfl k_) ?_
  have rw244 : ((1 : Int32) + (1 : Int32)) = (2 : Int32) := by decide
  rw [rw244]
  refine P1.goto X243.here hx 26 (hb hby d17_101) (by decide) (by decide) ?_
  refine P1.iload X243.here hx (hb hby d17_26) rfl ?_
  refine P1.iloadN X243.here hx (hb hby d17_28) rfl ?_
  refine P1.icmpNo X243.here hx (hb hby d17_29) (tlt (by decide : (2 : Int32) < (4 : Int32))).2.1 ?_
  refine P1.aloadN X243.here hx (hb hby d17_32) rfl rfl ?_
  refine P1.iload X243.here hx (hb hby d17_33) rfl ?_
  have V245 : Arv Z h243 b kb .char (4 : Int32) [(.int c0), (.int c1), (.int c2), (.int c3)] (.int (0 : Int32)) := Vb.other W243 neb
  obtain ⟨cl246, Ar246, qk246, sl246, nz246, ha246, fi246⟩ := id V245
  have i247 := inb_of (j := (2 : Int32)) sl246 ⟨by decide, by decide⟩
  refine Goes.step (T' := T243) (g' := (mkF m 36 #[.val (.ref x), .val (.ref b), .val (.int (1 : Int32)), .val (.int (4 : Int32)), .val (.int (1 : Int32)), .val (.ref t), .val (.int (2 : Int32)), .val (.int (2 : Int32)), .val (.int c1)] [(.int c2)])) (fun t_ k_ => X243.caload hx (j := (2 : Int32)) (v := (.int c2)) (by rw [e243]; exact Ar246.1) (State.isArrayOf_alike hZ.alike Ar246.2.1) Ar246.2.2 i247 (Has.at ha246 i247 rfl) (g := (mkF m 35 #[.val (.ref x), .val (.ref b), .val (.int (1 : Int32)), .val (.int (4 : Int32)), .val (.int (1 : Int32)), .val (.ref t), .val (.int (2 : Int32)), .val (.int (2 : Int32)), .val (.int c1)] [(.int (2 : Int32)), (.ref b)])) rfl rfl (hb hby d17_35) _ k_) ?_
  refine P1.istore X243.here hx #[.val (.ref x), .val (.ref b), .val (.int (1 : Int32)), .val (.int (4 : Int32)), .val (.int (1 : Int32)), .val (.ref t), .val (.int (2 : Int32)), .val (.int (2 : Int32)), .val (.int c2)] (hb hby d17_36) rfl ?_
  refine P1.iload X243.here hx (hb hby d17_38) rfl ?_
  have Z248 : n0 ≤ h243.size := Nat.le_trans Z0 (Keep.of_wr W243).1
  have O249 : Old Z n0 h243 := O0.wr W243 gt
  refine Goes.callS X243 hx (y := y36_) hown (mvT hZ (own_w hw 71 rfl)) (mvT hZ (own_w hw 72 rfl)) (mvT hZ (own_w hw 73 rfl)) (mvT hZ (own_w hw 74 rfl)) (by decide) (kc' := 0) (ks' := 0) (backOf (W := 0) (rmCan l Z a0 hw [] c2 h243 n0 Z248 O249 h_c2) hZ (own_w hw 74 rfl) (own_w hw 73 rfl) (ok rfl) (ok rfl)) (g := (mkF m 40 #[.val (.ref x), .val (.ref b), .val (.int (1 : Int32)), .val (.int (4 : Int32)), .val (.int (1 : Int32)), .val (.ref t), .val (.int (2 : Int32)), .val (.int (2 : Int32)), .val (.int c2)] [(.int c2)])) rfl (by rw [hml]; rfl) (argsL := [(.int c2)]) (rest := []) (lenOf pd_657 rfl) rfl (by show 2 * 0 + _ ≤ _; exact Nat.le_of_eq rfl) (hb hby d17_40) rfl e243 (ok rfl) (ok rfl) ?_
  intro v250 T250 L250 q250 X250
  obtain ⟨rfl, N250q, hE250⟩ := q250
  have N250 := Fr.app N243 N250q
  show Goes p e below _ T250 (mkF m 43 #[.val (.ref x), .val (.ref b), .val (.int (1 : Int32)), .val (.int (4 : Int32)), .val (.int (1 : Int32)), .val (.ref t), .val (.int (2 : Int32)), .val (.int (2 : Int32)), .val (.int c2)] [(.int (1 : Int32))])
  refine P1.ifNo X250.here hx (hb hby d17_43) ((if0 _ _).trans (feq (by decide : ¬ ((1 : Int32) = (0 : Int32)))).1) ?_
  refine P1.aload X250.here hx (hb hby d17_46) rfl rfl ?_
  refine P1.iload X250.here hx (hb hby d17_48) rfl ?_
  refine Goes.step (T' := T250) (g' := (mkF m 53 #[.val (.ref x), .val (.ref b), .val (.int (1 : Int32)), .val (.int (4 : Int32)), .val (.int (1 : Int32)), .val (.ref t), .val (.int (2 : Int32)), .val (.int ((2 : Int32) + (1 : Int32))), .val (.int c2)] [(.int (2 : Int32)), (.ref t)])) (fun t_ k_ => XS.iinc X250.here hx rfl (hb hby d17_50) rfl (l' := #[.val (.ref x), .val (.ref b), .val (.int (1 : Int32)), .val (.int (4 : Int32)), .val (.int (1 : Int32)), .val (.ref t), .val (.int (2 : Int32)), .val (.int ((2 : Int32) + (1 : Int32))), .val (.int c2)]) rfl k_) ?_
  have rw251 : ((2 : Int32) + (1 : Int32)) = (3 : Int32) := by decide
  rw [rw251]
  refine P1.iload X250.here hx (hb hby d17_53) rfl ?_
  refine Goes.step (T' := T250) (g' := (mkF m 56 #[.val (.ref x), .val (.ref b), .val (.int (1 : Int32)), .val (.int (4 : Int32)), .val (.int (1 : Int32)), .val (.ref t), .val (.int (2 : Int32)), .val (.int (3 : Int32)), .val (.int c2)] [(.int (c2.toInt8.toInt32)), (.int (2 : Int32)), (.ref t)])) (fun t_ k_ => XS.i2b X250.here hx rfl (hb hby d17_55) rfl k_) ?_
  have rw252 : (c2.toInt8.toInt32) = c2 := h_c2.i2b
  rw [rw252]
  have V253 : Arv Z h243 t kt .byte (8192 : Int32) [(.int pr), (.int c1), (.int (0 : Int32))] (.int (0 : Int32)) := V243.pad (pad_rep [(.int pr), (.int c1)] (.int (0 : Int32)) 1)
  obtain ⟨cl254, Ar254, qk254, sl254, nz254, ha254, fi254⟩ := id V253
  obtain ⟨T255, h255, X255, e255, W255, st255⟩ := stB X250 hx hZ hE250 Ar254 (j := (2 : Int32)) (inb_of sl254 ⟨by decide, by decide⟩) (g := (mkF m 56 #[.val (.ref x), .val (.ref b), .val (.int (1 : Int32)), .val (.int (4 : Int32)), .val (.int (1 : Int32)), .val (.ref t), .val (.int (2 : Int32)), .val (.int (3 : Int32)), .val (.int c2)] [(.int c2), (.int (2 : Int32)), (.ref t)])) rfl rfl (hb hby d17_56)
  rw [h_c2.nb] at W255
  have V255 : Arv Z h255 t kt .byte (8192 : Int32) [(.int pr), (.int c1), (.int c2)] (.int (0 : Int32)) := Arv.set Ar254 qk254 sl254 nz254 ha254 fi254 (h_c2.nb ▸ fits_nar_byte c2) W255 2 rfl (ok rfl)
  have N255 := Fr.snoc X255 N250 gt
  refine Goes.step (T' := T255) (g' := (mkF m 57 #[.val (.ref x), .val (.ref b), .val (.int (1 : Int32)), .val (.int (4 : Int32)), .val (.int (1 : Int32)), .val (.ref t), .val (.int (2 : Int32)), .val (.int (3 : Int32)), .val (.int c2)] [])) st255 ?_
  refine P1.goto X255.here hx 98 (hb hby d17_57) (by decide) (by decide) ?_
  refine Goes.step (T' := T255) (g' := (mkF m 101 #[.val (.ref x), .val (.ref b), .val (.int (1 : Int32)), .val (.int (4 : Int32)), .val (.int (1 : Int32)), .val (.ref t), .val (.int ((2 : Int32) + (1 : Int32))), .val (.int (3 : Int32)), .val (.int c2)] [])) (fun t_ k_ => XS.iinc X255.here hx rfl (hb hby d17_98) rfl (l' := #[.val (.ref x), .val (.ref b), .val (.int (1 : Int32)), .val (.int (4 : Int32)), .val (.int (1 : Int32)), .val (.ref t), .val (.int ((2 : Int32) + (1 : Int32))), .val (.int (3 : Int32)), .val (.int c2)]) rfl k_) ?_
  have rw256 : ((2 : Int32) + (1 : Int32)) = (3 : Int32) := by decide
  rw [rw256]
  refine P1.goto X255.here hx 26 (hb hby d17_101) (by decide) (by decide) ?_
  refine P1.iload X255.here hx (hb hby d17_26) rfl ?_
  refine P1.iloadN X255.here hx (hb hby d17_28) rfl ?_
  refine P1.icmpNo X255.here hx (hb hby d17_29) (tlt (by decide : (3 : Int32) < (4 : Int32))).2.1 ?_
  refine P1.aloadN X255.here hx (hb hby d17_32) rfl rfl ?_
  refine P1.iload X255.here hx (hb hby d17_33) rfl ?_
  have V257 : Arv Z h255 b kb .char (4 : Int32) [(.int c0), (.int c1), (.int c2), (.int c3)] (.int (0 : Int32)) := V245.other W255 neb
  obtain ⟨cl258, Ar258, qk258, sl258, nz258, ha258, fi258⟩ := id V257
  have i259 := inb_of (j := (3 : Int32)) sl258 ⟨by decide, by decide⟩
  refine Goes.step (T' := T255) (g' := (mkF m 36 #[.val (.ref x), .val (.ref b), .val (.int (1 : Int32)), .val (.int (4 : Int32)), .val (.int (1 : Int32)), .val (.ref t), .val (.int (3 : Int32)), .val (.int (3 : Int32)), .val (.int c2)] [(.int c3)])) (fun t_ k_ => X255.caload hx (j := (3 : Int32)) (v := (.int c3)) (by rw [e255]; exact Ar258.1) (State.isArrayOf_alike hZ.alike Ar258.2.1) Ar258.2.2 i259 (Has.at ha258 i259 rfl) (g := (mkF m 35 #[.val (.ref x), .val (.ref b), .val (.int (1 : Int32)), .val (.int (4 : Int32)), .val (.int (1 : Int32)), .val (.ref t), .val (.int (3 : Int32)), .val (.int (3 : Int32)), .val (.int c2)] [(.int (3 : Int32)), (.ref b)])) rfl rfl (hb hby d17_35) _ k_) ?_
  refine P1.istore X255.here hx #[.val (.ref x), .val (.ref b), .val (.int (1 : Int32)), .val (.int (4 : Int32)), .val (.int (1 : Int32)), .val (.ref t), .val (.int (3 : Int32)), .val (.int (3 : Int32)), .val (.int c3)] (hb hby d17_36) rfl ?_
  refine P1.iload X255.here hx (hb hby d17_38) rfl ?_
  have Z260 : n0 ≤ h255.size := Nat.le_trans Z248 (Keep.of_wr W255).1
  have O261 : Old Z n0 h255 := O249.wr W255 gt
  refine Goes.callS X255 hx (y := y36_) hown (mvT hZ (own_w hw 71 rfl)) (mvT hZ (own_w hw 72 rfl)) (mvT hZ (own_w hw 73 rfl)) (mvT hZ (own_w hw 74 rfl)) (by decide) (kc' := 0) (ks' := 0) (backOf (W := 0) (rmCan l Z a0 hw [] c3 h255 n0 Z260 O261 h_c3) hZ (own_w hw 74 rfl) (own_w hw 73 rfl) (ok rfl) (ok rfl)) (g := (mkF m 40 #[.val (.ref x), .val (.ref b), .val (.int (1 : Int32)), .val (.int (4 : Int32)), .val (.int (1 : Int32)), .val (.ref t), .val (.int (3 : Int32)), .val (.int (3 : Int32)), .val (.int c3)] [(.int c3)])) rfl (by rw [hml]; rfl) (argsL := [(.int c3)]) (rest := []) (lenOf pd_657 rfl) rfl (by show 2 * 0 + _ ≤ _; exact Nat.le_of_eq rfl) (hb hby d17_40) rfl e255 (ok rfl) (ok rfl) ?_
  intro v262 T262 L262 q262 X262
  obtain ⟨rfl, N262q, hE262⟩ := q262
  have N262 := Fr.app N255 N262q
  show Goes p e below _ T262 (mkF m 43 #[.val (.ref x), .val (.ref b), .val (.int (1 : Int32)), .val (.int (4 : Int32)), .val (.int (1 : Int32)), .val (.ref t), .val (.int (3 : Int32)), .val (.int (3 : Int32)), .val (.int c3)] [(.int (1 : Int32))])
  refine P1.ifNo X262.here hx (hb hby d17_43) ((if0 _ _).trans (feq (by decide : ¬ ((1 : Int32) = (0 : Int32)))).1) ?_
  refine P1.aload X262.here hx (hb hby d17_46) rfl rfl ?_
  refine P1.iload X262.here hx (hb hby d17_48) rfl ?_
  refine Goes.step (T' := T262) (g' := (mkF m 53 #[.val (.ref x), .val (.ref b), .val (.int (1 : Int32)), .val (.int (4 : Int32)), .val (.int (1 : Int32)), .val (.ref t), .val (.int (3 : Int32)), .val (.int ((3 : Int32) + (1 : Int32))), .val (.int c3)] [(.int (3 : Int32)), (.ref t)])) (fun t_ k_ => XS.iinc X262.here hx rfl (hb hby d17_50) rfl (l' := #[.val (.ref x), .val (.ref b), .val (.int (1 : Int32)), .val (.int (4 : Int32)), .val (.int (1 : Int32)), .val (.ref t), .val (.int (3 : Int32)), .val (.int ((3 : Int32) + (1 : Int32))), .val (.int c3)]) rfl k_) ?_
  have rw263 : ((3 : Int32) + (1 : Int32)) = (4 : Int32) := by decide
  rw [rw263]
  refine P1.iload X262.here hx (hb hby d17_53) rfl ?_
  refine Goes.step (T' := T262) (g' := (mkF m 56 #[.val (.ref x), .val (.ref b), .val (.int (1 : Int32)), .val (.int (4 : Int32)), .val (.int (1 : Int32)), .val (.ref t), .val (.int (3 : Int32)), .val (.int (4 : Int32)), .val (.int c3)] [(.int (c3.toInt8.toInt32)), (.int (3 : Int32)), (.ref t)])) (fun t_ k_ => XS.i2b X262.here hx rfl (hb hby d17_55) rfl k_) ?_
  have rw264 : (c3.toInt8.toInt32) = c3 := h_c3.i2b
  rw [rw264]
  have V265 : Arv Z h255 t kt .byte (8192 : Int32) [(.int pr), (.int c1), (.int c2), (.int (0 : Int32))] (.int (0 : Int32)) := V255.pad (pad_rep [(.int pr), (.int c1), (.int c2)] (.int (0 : Int32)) 1)
  obtain ⟨cl266, Ar266, qk266, sl266, nz266, ha266, fi266⟩ := id V265
  obtain ⟨T267, h267, X267, e267, W267, st267⟩ := stB X262 hx hZ hE262 Ar266 (j := (3 : Int32)) (inb_of sl266 ⟨by decide, by decide⟩) (g := (mkF m 56 #[.val (.ref x), .val (.ref b), .val (.int (1 : Int32)), .val (.int (4 : Int32)), .val (.int (1 : Int32)), .val (.ref t), .val (.int (3 : Int32)), .val (.int (4 : Int32)), .val (.int c3)] [(.int c3), (.int (3 : Int32)), (.ref t)])) rfl rfl (hb hby d17_56)
  rw [h_c3.nb] at W267
  have V267 : Arv Z h267 t kt .byte (8192 : Int32) [(.int pr), (.int c1), (.int c2), (.int c3)] (.int (0 : Int32)) := Arv.set Ar266 qk266 sl266 nz266 ha266 fi266 (h_c3.nb ▸ fits_nar_byte c3) W267 3 rfl (ok rfl)
  have N267 := Fr.snoc X267 N262 gt
  refine Goes.step (T' := T267) (g' := (mkF m 57 #[.val (.ref x), .val (.ref b), .val (.int (1 : Int32)), .val (.int (4 : Int32)), .val (.int (1 : Int32)), .val (.ref t), .val (.int (3 : Int32)), .val (.int (4 : Int32)), .val (.int c3)] [])) st267 ?_
  refine P1.goto X267.here hx 98 (hb hby d17_57) (by decide) (by decide) ?_
  refine Goes.step (T' := T267) (g' := (mkF m 101 #[.val (.ref x), .val (.ref b), .val (.int (1 : Int32)), .val (.int (4 : Int32)), .val (.int (1 : Int32)), .val (.ref t), .val (.int ((3 : Int32) + (1 : Int32))), .val (.int (4 : Int32)), .val (.int c3)] [])) (fun t_ k_ => XS.iinc X267.here hx rfl (hb hby d17_98) rfl (l' := #[.val (.ref x), .val (.ref b), .val (.int (1 : Int32)), .val (.int (4 : Int32)), .val (.int (1 : Int32)), .val (.ref t), .val (.int ((3 : Int32) + (1 : Int32))), .val (.int (4 : Int32)), .val (.int c3)]) rfl k_) ?_
  have rw268 : ((3 : Int32) + (1 : Int32)) = (4 : Int32) := by decide
  rw [rw268]
  refine P1.goto X267.here hx 26 (hb hby d17_101) (by decide) (by decide) ?_
  refine P1.iload X267.here hx (hb hby d17_26) rfl ?_
  refine P1.iloadN X267.here hx (hb hby d17_28) rfl ?_
  refine P1.icmpYes X267.here hx 104 (hb hby d17_29) (flt (by decide : ¬ ((4 : Int32) < (4 : Int32)))).2.1 (by decide) (by decide) ?_
  refine P1.goto X267.here hx 119 (hb hby d17_104) (by decide) (by decide) ?_
  refine P1.aloadN X267.here hx (hb hby d17_119) rfl rfl ?_
  refine P1.iload X267.here hx (hb hby d17_120) rfl ?_
  refine P1.iloadN X267.here hx (hb hby d17_122) rfl ?_
  refine P1.iadd X267.here hx (hb hby d17_123) ?_
  have rw269 : ((1 : Int32) + (4 : Int32)) = (5 : Int32) := by decide
  rw [rw269]
  refine P1.iloadN X267.here hx (hb hby d17_124) rfl ?_
  refine P1.isub X267.here hx (hb hby d17_125) ?_
  have rw270 : ((5 : Int32) - (1 : Int32)) = (4 : Int32) := by decide
  rw [rw270]
  have E272 : Exa Z h243 x "java/lang/StringBuilder" := Ex.wr W243
  have E273 : Exa Z h255 x "java/lang/StringBuilder" := E272.wr W255
  have E274 : Exa Z h267 x "java/lang/StringBuilder" := E273.wr W267
  have ne271 : x ≠ t := own_ne_arv E274 (own_w hw 23 rfl) V267
  have F275 : Fld Z h243 x "java/lang/AbstractStringBuilder" "count" "I" (.int (1 : Int32)) := Fn.other W243 (Or.inl ne271)
  have F276 : Fld Z h255 x "java/lang/AbstractStringBuilder" "count" "I" (.int (1 : Int32)) := F275.other W255 (Or.inl ne271)
  have F277 : Fld Z h267 x "java/lang/AbstractStringBuilder" "count" "I" (.int (1 : Int32)) := F276.other W267 (Or.inl ne271)
  obtain ⟨T278, h278, X278, e278, W278, st278⟩ := putF X267 hx hZ hown (host := "") (Or.inl (own_w hw 59 rfl)) Via.refl e267 F277 E274 (Or.inl (own_w hw 60 rfl)) (own_w hw 23 rfl) (ty := .int) (by decide) rfl rfl (g := (mkF m 126 #[.val (.ref x), .val (.ref b), .val (.int (1 : Int32)), .val (.int (4 : Int32)), .val (.int (1 : Int32)), .val (.ref t), .val (.int (4 : Int32)), .val (.int (4 : Int32)), .val (.int c3)] [(.int (4 : Int32)), (.ref x)])) rfl rfl (hb hby d17_126)
  have Fw278 : Fld Z h278 x "java/lang/AbstractStringBuilder" "count" "I" (.int (4 : Int32)) := F277.same W278
  have N278 := Fr.snoc X278 N267 gx
  refine Goes.step (T' := T278) (g' := (mkF m 129 #[.val (.ref x), .val (.ref b), .val (.int (1 : Int32)), .val (.int (4 : Int32)), .val (.int (1 : Int32)), .val (.ref t), .val (.int (4 : Int32)), .val (.int (4 : Int32)), .val (.int c3)] [])) st278 ?_
  refine Goes.retV X278 hx Bd.notSynchronized Bd.returns (hb hby d17_129) (ok rfl) (ok rfl) ?_
  rw [e278]
  have K279 : Keep h0 h243 [x, t] := K0.wr W243 (Or.inl (by simp))
  have K280 : Keep h0 h255 [x, t] := K279.wr W255 (Or.inl (by simp))
  have K281 : Keep h0 h267 [x, t] := K280.wr W267 (Or.inl (by simp))
  have K282 : Keep h0 h278 [x, t] := K281.wr W278 (Or.inl (by simp))
  have E283 : Exa Z h278 x "java/lang/StringBuilder" := E274.wr W278
  have F284 : Fld Z h243 x "java/lang/AbstractStringBuilder" "value" "[B" (.ref t) := Fv.other W243 (Or.inl ne271)
  have F285 : Fld Z h255 x "java/lang/AbstractStringBuilder" "value" "[B" (.ref t) := F284.other W255 (Or.inl ne271)
  have F286 : Fld Z h267 x "java/lang/AbstractStringBuilder" "value" "[B" (.ref t) := F285.other W267 (Or.inl ne271)
  have F287 : Fld Z h278 x "java/lang/AbstractStringBuilder" "value" "[B" (.ref t) := F286.other W278 (Or.inr (slot_ne (Or.inl (own_w hw 39 rfl)) (Or.inl (own_w hw 60 rfl)) (by decide) (t := (.array .byte)) (t' := .int) (by decide) (by decide)))
  have F288 : Fld Z h243 x "java/lang/AbstractStringBuilder" "coder" "B" (.int (0 : Int32)) := Fc.other W243 (Or.inl ne271)
  have F289 : Fld Z h255 x "java/lang/AbstractStringBuilder" "coder" "B" (.int (0 : Int32)) := F288.other W255 (Or.inl ne271)
  have F290 : Fld Z h267 x "java/lang/AbstractStringBuilder" "coder" "B" (.int (0 : Int32)) := F289.other W267 (Or.inl ne271)
  have F291 : Fld Z h278 x "java/lang/AbstractStringBuilder" "coder" "B" (.int (0 : Int32)) := F290.other W278 (Or.inr (slot_ne (Or.inl (own_w hw 41 rfl)) (Or.inl (own_w hw 60 rfl)) (by decide) (t := .byte) (t' := .int) (by decide) (by decide)))
  have V292 : Arv Z h278 t kt .byte (8192 : Int32) [(.int pr), (.int c1), (.int c2), (.int c3)] (.int (0 : Int32)) := V267.other W278 (Ne.symm ne271)
  exact ⟨rfl, N278, K282, E283, F287, F291, Fw278, V292⟩
theorem efAc_0_2 (x b : Addr) (m : MethodId) : entryFrame m #[(.ref x), (.ref b), (.int (0 : Int32)), (.int (2 : Int32))] 9 = mkF m 0 #[.val (.ref x), .val (.ref b), .val (.int (0 : Int32)), .val (.int (2 : Int32)), .unset, .unset, .unset, .unset, .unset] [] := by first | (simp [entryFrame, mkF, argsToLocals, Value.category]; done) | rfl
def QAc_0_2 (Z : State) (x t : Addr) (kt : ClassId) (b : Addr) (kb : ClassId) (pr c0 c1 c2 c3 zc : Int32) (fm fi : Value) (u8 : Addr) (h0 : Heap) (n0 : Nat) (v : Option Value) (h : Heap) (L : List Loc) : Prop := v = none ∧ Fr n0 L ∧ Keep h0 h [x, t] ∧ Exa Z h x "java/lang/StringBuilder" ∧ Fld Z h x "java/lang/AbstractStringBuilder" "value" "[B" (.ref t) ∧ Fld Z h x "java/lang/AbstractStringBuilder" "coder" "B" (.int (0 : Int32)) ∧ Fld Z h x "java/lang/AbstractStringBuilder" "count" "I" (.int (3 : Int32)) ∧ Arv Z h t kt .byte (8192 : Int32) [(.int pr), (.int c0), (.int c1)] (.int (0 : Int32))
set_option maxRecDepth 65536 in
set_option maxHeartbeats 40000000 in
theorem rmAc_0_2 (l : Launch) (Z : State) (a0 : Array Value) (hw : ∀ d ∈ tables_1, d.before a0 Z = true) (ws : List Jvm.Cond) (x t : Addr) (kt : ClassId) (b : Addr) (kb : ClassId) (pr c0 c1 c2 c3 zc : Int32) (fm fi : Value) (u8 : Addr) (h0 : Heap) (n0 : Nat) (Z0 : n0 ≤ h0.size) (O0 : Old Z n0 h0) (S_CS : Sta Z Z.heap "java/lang/String" "COMPACT_STRINGS" "Z" (.int zc)) (hzc : ¬ zc = 0) (S_FM : Sta Z Z.heap "jdk/internal/util/Preconditions" "SIOOBE_FORMATTER" "Ljava/util/function/BiFunction;" fm) (hfm : fm.isRef = true) (S_FI : Sta Z Z.heap "jdk/internal/util/Preconditions" "IOOBE_FORMATTER" "Ljava/util/function/BiFunction;" fi) (hfi : fi.isRef = true) (S_IN : Sta Z Z.heap "sun/nio/cs/UTF_8" "INSTANCE" "Lsun/nio/cs/UTF_8;" (.ref u8)) (S_U8 : Sta Z Z.heap "java/nio/charset/StandardCharsets" "UTF_8" "Ljava/nio/charset/Charset;" (.ref u8)) (gx : n0 ≤ x) (gt : n0 ≤ t) (Ex : Exa Z h0 x "java/lang/StringBuilder") (Fv : Fld Z h0 x "java/lang/AbstractStringBuilder" "value" "[B" (.ref t)) (Fc : Fld Z h0 x "java/lang/AbstractStringBuilder" "coder" "B" (.int (0 : Int32))) (Fn : Fld Z h0 x "java/lang/AbstractStringBuilder" "count" "I" (.int (1 : Int32))) (Vt : Arv Z h0 t kt .byte (8192 : Int32) [(.int pr)] (.int (0 : Int32))) (Vb : Arv Z h0 b kb .char (4 : Int32) [(.int c0), (.int c1), (.int c2), (.int c3)] (.int (0 : Int32))) (neb : b ≠ t) (h_c0 : Pr c0) (h_c1 : Pr c1) (h_c2 : Pr c2) (h_c3 : Pr c3) :
    OwnLaw l y12_ jdk_68_method_74_code 9 none ws (rR 1 0 0 12) #[(.ref x), (.ref b), (.int (0 : Int32)), (.int (2 : Int32))] Z h0 (QAc_0_2 Z x t kt b kb pr c0 c1 c2 c3 zc fm fi u8 h0 n0) := by
  refine own_enter (plainFor_of_name pn_java_lang_AbstractStringBuilder) (efAc_0_2 x b) ?_
  intro p e s m below meth c s₁ Bd hx hby hml hZ hown X0 e0
  have N0 := Fr.nil n0
  have K0 : Keep h0 h0 [] := Keep.refl _ _
  have K0 : Keep h0 h0 [x, t] := Keep.refl _ _
  refine P1.aloadN X0.here hx (hb hby d17_0) rfl rfl ?_
  obtain ⟨T293, X293, e293, st293⟩ := getF X0 hx hZ hown (host := "") (Or.inl (own_w hw 59 rfl)) Via.refl e0 Fn (g := (mkF m 1 #[.val (.ref x), .val (.ref b), .val (.int (0 : Int32)), .val (.int (2 : Int32)), .unset, .unset, .unset, .unset, .unset] [(.ref x)])) rfl rfl (hb hby d17_1)
  refine Goes.step (T' := T293) (g' := (mkF m 4 #[.val (.ref x), .val (.ref b), .val (.int (0 : Int32)), .val (.int (2 : Int32)), .unset, .unset, .unset, .unset, .unset] [(.int (1 : Int32))])) st293 ?_
  refine P1.istore X293.here hx #[.val (.ref x), .val (.ref b), .val (.int (0 : Int32)), .val (.int (2 : Int32)), .val (.int (1 : Int32)), .unset, .unset, .unset, .unset] (hb hby d17_4) rfl ?_
  refine P1.aloadN X293.here hx (hb hby d17_6) rfl rfl ?_
  refine Goes.callV X293 hx hZ (y := y16_) (z := y16_) hown (mvT hZ (own_w hw 66 rfl)) (mvT hZ (own_w hw 67 rfl)) (notFace_of_selects (args := #[]) (mvT hZ (own_w hw 69 rfl))) (mvT hZ (own_w hw 69 rfl)) (mvT hZ (own_w hw 68 rfl)) (by decide) (kc' := 0) (ks' := 0) (backOf (W := 0) (rmIl l Z a0 hw [] x zc fm fi u8 h0 n0 Z0 O0 S_CS hzc S_FM hfm S_FI hfi S_IN S_U8 Fc) hZ (own_w hw 70 rfl) (own_w hw 32 rfl) (ok rfl) (ok rfl)) (b := x) e293 Ex (g := (mkF m 7 #[.val (.ref x), .val (.ref b), .val (.int (0 : Int32)), .val (.int (2 : Int32)), .val (.int (1 : Int32)), .unset, .unset, .unset, .unset] [(.ref x)])) rfl (by rw [hml]; rfl) (argsL := []) (rest := []) (lenOf pd_392 rfl) rfl (by show 2 * 0 + _ ≤ _; exact Nat.le_of_eq rfl) (hb hby d17_7) rfl (ok rfl) (ok rfl) ?_
  intro v294 T294 L294 q294 X294
  obtain ⟨rfl, N294q, hE294⟩ := q294
  have N294 := Fr.app N0 N294q
  show Goes p e below _ T294 (mkF m 10 #[.val (.ref x), .val (.ref b), .val (.int (0 : Int32)), .val (.int (2 : Int32)), .val (.int (1 : Int32)), .unset, .unset, .unset, .unset] [(.int (1 : Int32))])
  refine P1.ifNo X294.here hx (hb hby d17_10) ((if0 _ _).trans (feq (by decide : ¬ ((1 : Int32) = (0 : Int32)))).1) ?_
  refine P1.aloadN X294.here hx (hb hby d17_13) rfl rfl ?_
  obtain ⟨T295, X295, e295, st295⟩ := getF X294 hx hZ hown (host := "") (Or.inl (own_w hw 38 rfl)) Via.refl hE294 Fv (g := (mkF m 14 #[.val (.ref x), .val (.ref b), .val (.int (0 : Int32)), .val (.int (2 : Int32)), .val (.int (1 : Int32)), .unset, .unset, .unset, .unset] [(.ref x)])) rfl rfl (hb hby d17_14)
  refine Goes.step (T' := T295) (g' := (mkF m 17 #[.val (.ref x), .val (.ref b), .val (.int (0 : Int32)), .val (.int (2 : Int32)), .val (.int (1 : Int32)), .unset, .unset, .unset, .unset] [(.ref t)])) st295 ?_
  refine P1.astore X295.here hx #[.val (.ref x), .val (.ref b), .val (.int (0 : Int32)), .val (.int (2 : Int32)), .val (.int (1 : Int32)), .val (.ref t), .unset, .unset, .unset] (hb hby d17_17) rfl rfl ?_
  refine P1.iloadN X295.here hx (hb hby d17_19) rfl ?_
  refine P1.istore X295.here hx #[.val (.ref x), .val (.ref b), .val (.int (0 : Int32)), .val (.int (2 : Int32)), .val (.int (1 : Int32)), .val (.ref t), .val (.int (0 : Int32)), .unset, .unset] (hb hby d17_20) rfl ?_
  refine P1.iload X295.here hx (hb hby d17_22) rfl ?_
  refine P1.istore X295.here hx #[.val (.ref x), .val (.ref b), .val (.int (0 : Int32)), .val (.int (2 : Int32)), .val (.int (1 : Int32)), .val (.ref t), .val (.int (0 : Int32)), .val (.int (1 : Int32)), .unset] (hb hby d17_24) rfl ?_
  refine P1.iload X295.here hx (hb hby d17_26) rfl ?_
  refine P1.iloadN X295.here hx (hb hby d17_28) rfl ?_
  refine P1.icmpNo X295.here hx (hb hby d17_29) (tlt (by decide : (0 : Int32) < (2 : Int32))).2.1 ?_
  refine P1.aloadN X295.here hx (hb hby d17_32) rfl rfl ?_
  refine P1.iload X295.here hx (hb hby d17_33) rfl ?_
  obtain ⟨cl296, Ar296, qk296, sl296, nz296, ha296, fi296⟩ := id Vb
  have i297 := inb_of (j := (0 : Int32)) sl296 ⟨by decide, by decide⟩
  refine Goes.step (T' := T295) (g' := (mkF m 36 #[.val (.ref x), .val (.ref b), .val (.int (0 : Int32)), .val (.int (2 : Int32)), .val (.int (1 : Int32)), .val (.ref t), .val (.int (0 : Int32)), .val (.int (1 : Int32)), .unset] [(.int c0)])) (fun t_ k_ => X295.caload hx (j := (0 : Int32)) (v := (.int c0)) (by rw [e295]; exact Ar296.1) (State.isArrayOf_alike hZ.alike Ar296.2.1) Ar296.2.2 i297 (Has.at ha296 i297 rfl) (g := (mkF m 35 #[.val (.ref x), .val (.ref b), .val (.int (0 : Int32)), .val (.int (2 : Int32)), .val (.int (1 : Int32)), .val (.ref t), .val (.int (0 : Int32)), .val (.int (1 : Int32)), .unset] [(.int (0 : Int32)), (.ref b)])) rfl rfl (hb hby d17_35) _ k_) ?_
  refine P1.istore X295.here hx #[.val (.ref x), .val (.ref b), .val (.int (0 : Int32)), .val (.int (2 : Int32)), .val (.int (1 : Int32)), .val (.ref t), .val (.int (0 : Int32)), .val (.int (1 : Int32)), .val (.int c0)] (hb hby d17_36) rfl ?_
  refine P1.iload X295.here hx (hb hby d17_38) rfl ?_
  refine Goes.callS X295 hx (y := y36_) hown (mvT hZ (own_w hw 71 rfl)) (mvT hZ (own_w hw 72 rfl)) (mvT hZ (own_w hw 73 rfl)) (mvT hZ (own_w hw 74 rfl)) (by decide) (kc' := 0) (ks' := 0) (backOf (W := 0) (rmCan l Z a0 hw [] c0 h0 n0 Z0 O0 h_c0) hZ (own_w hw 74 rfl) (own_w hw 73 rfl) (ok rfl) (ok rfl)) (g := (mkF m 40 #[.val (.ref x), .val (.ref b), .val (.int (0 : Int32)), .val (.int (2 : Int32)), .val (.int (1 : Int32)), .val (.ref t), .val (.int (0 : Int32)), .val (.int (1 : Int32)), .val (.int c0)] [(.int c0)])) rfl (by rw [hml]; rfl) (argsL := [(.int c0)]) (rest := []) (lenOf pd_657 rfl) rfl (by show 2 * 0 + _ ≤ _; exact Nat.le_of_eq rfl) (hb hby d17_40) rfl e295 (ok rfl) (ok rfl) ?_
  intro v298 T298 L298 q298 X298
  obtain ⟨rfl, N298q, hE298⟩ := q298
  have N298 := Fr.app N294 N298q
  show Goes p e below _ T298 (mkF m 43 #[.val (.ref x), .val (.ref b), .val (.int (0 : Int32)), .val (.int (2 : Int32)), .val (.int (1 : Int32)), .val (.ref t), .val (.int (0 : Int32)), .val (.int (1 : Int32)), .val (.int c0)] [(.int (1 : Int32))])
  refine P1.ifNo X298.here hx (hb hby d17_43) ((if0 _ _).trans (feq (by decide : ¬ ((1 : Int32) = (0 : Int32)))).1) ?_
  refine P1.aload X298.here hx (hb hby d17_46) rfl rfl ?_
  refine P1.iload X298.here hx (hb hby d17_48) rfl ?_
  refine Goes.step (T' := T298) (g' := (mkF m 53 #[.val (.ref x), .val (.ref b), .val (.int (0 : Int32)), .val (.int (2 : Int32)), .val (.int (1 : Int32)), .val (.ref t), .val (.int (0 : Int32)), .val (.int ((1 : Int32) + (1 : Int32))), .val (.int c0)] [(.int (1 : Int32)), (.ref t)])) (fun t_ k_ => XS.iinc X298.here hx rfl (hb hby d17_50) rfl (l' := #[.val (.ref x), .val (.ref b), .val (.int (0 : Int32)), .val (.int (2 : Int32)), .val (.int (1 : Int32)), .val (.ref t), .val (.int (0 : Int32)), .val (.int ((1 : Int32) + (1 : Int32))), .val (.int c0)]) rfl k_) ?_
  have rw299 : ((1 : Int32) + (1 : Int32)) = (2 : Int32) := by decide
  rw [rw299]
  refine P1.iload X298.here hx (hb hby d17_53) rfl ?_
  refine Goes.step (T' := T298) (g' := (mkF m 56 #[.val (.ref x), .val (.ref b), .val (.int (0 : Int32)), .val (.int (2 : Int32)), .val (.int (1 : Int32)), .val (.ref t), .val (.int (0 : Int32)), .val (.int (2 : Int32)), .val (.int c0)] [(.int (c0.toInt8.toInt32)), (.int (1 : Int32)), (.ref t)])) (fun t_ k_ => XS.i2b X298.here hx rfl (hb hby d17_55) rfl k_) ?_
  have rw300 : (c0.toInt8.toInt32) = c0 := h_c0.i2b
  rw [rw300]
  have V301 : Arv Z h0 t kt .byte (8192 : Int32) [(.int pr), (.int (0 : Int32))] (.int (0 : Int32)) := Vt.pad (pad_rep [(.int pr)] (.int (0 : Int32)) 1)
  obtain ⟨cl302, Ar302, qk302, sl302, nz302, ha302, fi302⟩ := id V301
  obtain ⟨T303, h303, X303, e303, W303, st303⟩ := stB X298 hx hZ hE298 Ar302 (j := (1 : Int32)) (inb_of sl302 ⟨by decide, by decide⟩) (g := (mkF m 56 #[.val (.ref x), .val (.ref b), .val (.int (0 : Int32)), .val (.int (2 : Int32)), .val (.int (1 : Int32)), .val (.ref t), .val (.int (0 : Int32)), .val (.int (2 : Int32)), .val (.int c0)] [(.int c0), (.int (1 : Int32)), (.ref t)])) rfl rfl (hb hby d17_56)
  rw [h_c0.nb] at W303
  have V303 : Arv Z h303 t kt .byte (8192 : Int32) [(.int pr), (.int c0)] (.int (0 : Int32)) := Arv.set Ar302 qk302 sl302 nz302 ha302 fi302 (h_c0.nb ▸ fits_nar_byte c0) W303 1 rfl (ok rfl)
  have N303 := Fr.snoc X303 N298 gt
  refine Goes.step (T' := T303) (g' := (mkF m 57 #[.val (.ref x), .val (.ref b), .val (.int (0 : Int32)), .val (.int (2 : Int32)), .val (.int (1 : Int32)), .val (.ref t), .val (.int (0 : Int32)), .val (.int (2 : Int32)), .val (.int c0)] [])) st303 ?_
  refine P1.goto X303.here hx 98 (hb hby d17_57) (by decide) (by decide) ?_
  refine Goes.step (T' := T303) (g' := (mkF m 101 #[.val (.ref x), .val (.ref b), .val (.int (0 : Int32)), .val (.int (2 : Int32)), .val (.int (1 : Int32)), .val (.ref t), .val (.int ((0 : Int32) + (1 : Int32))), .val (.int (2 : Int32)), .val (.int c0)] [])) (fun t_ k_ => XS.iinc X303.here hx rfl (hb hby d17_98) rfl (l' := #[.val (.ref x), .val (.ref b), .val (.int (0 : Int32)), .val (.int (2 : Int32)), .val (.int (1 : Int32)), .val (.ref t), .val (.int ((0 : Int32) + (1 : Int32))), .val (.int (2 : Int32)), .val (.int c0)]) rfl k_) ?_
  have rw304 : ((0 : Int32) + (1 : Int32)) = (1 : Int32) := by decide
  rw [rw304]
  refine P1.goto X303.here hx 26 (hb hby d17_101) (by decide) (by decide) ?_
  refine P1.iload X303.here hx (hb hby d17_26) rfl ?_
  refine P1.iloadN X303.here hx (hb hby d17_28) rfl ?_
  refine P1.icmpNo X303.here hx (hb hby d17_29) (tlt (by decide : (1 : Int32) < (2 : Int32))).2.1 ?_
  refine P1.aloadN X303.here hx (hb hby d17_32) rfl rfl ?_
  refine P1.iload X303.here hx (hb hby d17_33) rfl ?_
  have V305 : Arv Z h303 b kb .char (4 : Int32) [(.int c0), (.int c1), (.int c2), (.int c3)] (.int (0 : Int32)) := Vb.other W303 neb
  obtain ⟨cl306, Ar306, qk306, sl306, nz306, ha306, fi306⟩ := id V305
  have i307 := inb_of (j := (1 : Int32)) sl306 ⟨by decide, by decide⟩
  refine Goes.step (T' := T303) (g' := (mkF m 36 #[.val (.ref x), .val (.ref b), .val (.int (0 : Int32)), .val (.int (2 : Int32)), .val (.int (1 : Int32)), .val (.ref t), .val (.int (1 : Int32)), .val (.int (2 : Int32)), .val (.int c0)] [(.int c1)])) (fun t_ k_ => X303.caload hx (j := (1 : Int32)) (v := (.int c1)) (by rw [e303]; exact Ar306.1) (State.isArrayOf_alike hZ.alike Ar306.2.1) Ar306.2.2 i307 (Has.at ha306 i307 rfl) (g := (mkF m 35 #[.val (.ref x), .val (.ref b), .val (.int (0 : Int32)), .val (.int (2 : Int32)), .val (.int (1 : Int32)), .val (.ref t), .val (.int (1 : Int32)), .val (.int (2 : Int32)), .val (.int c0)] [(.int (1 : Int32)), (.ref b)])) rfl rfl (hb hby d17_35) _ k_) ?_
  refine P1.istore X303.here hx #[.val (.ref x), .val (.ref b), .val (.int (0 : Int32)), .val (.int (2 : Int32)), .val (.int (1 : Int32)), .val (.ref t), .val (.int (1 : Int32)), .val (.int (2 : Int32)), .val (.int c1)] (hb hby d17_36) rfl ?_
  refine P1.iload X303.here hx (hb hby d17_38) rfl ?_
  have Z308 : n0 ≤ h303.size := Nat.le_trans Z0 (Keep.of_wr W303).1
  have O309 : Old Z n0 h303 := O0.wr W303 gt
  refine Goes.callS X303 hx (y := y36_) hown (mvT hZ (own_w hw 71 rfl)) (mvT hZ (own_w hw 72 rfl)) (mvT hZ (own_w hw 73 rfl)) (mvT hZ (own_w hw 74 rfl)) (by decide) (kc' := 0) (ks' := 0) (backOf (W := 0) (rmCan l Z a0 hw [] c1 h303 n0 Z308 O309 h_c1) hZ (own_w hw 74 rfl) (own_w hw 73 rfl) (ok rfl) (ok rfl)) (g := (mkF m 40 #[.val (.ref x), .val (.ref b), .val (.int (0 : Int32)), .val (.int (2 : Int32)), .val (.int (1 : Int32)), .val (.ref t), .val (.int (1 : Int32)), .val (.int (2 : Int32)), .val (.int c1)] [(.int c1)])) rfl (by rw [hml]; rfl) (argsL := [(.int c1)]) (rest := []) (lenOf pd_657 rfl) rfl (by show 2 * 0 + _ ≤ _; exact Nat.le_of_eq rfl) (hb hby d17_40) rfl e303 (ok rfl) (ok rfl) ?_
  intro v310 T310 L310 q310 X310
  obtain ⟨rfl, N310q, hE310⟩ := q310
  have N310 := Fr.app N303 N310q
  show Goes p e below _ T310 (mkF m 43 #[.val (.ref x), .val (.ref b), .val (.int (0 : Int32)), .val (.int (2 : Int32)), .val (.int (1 : Int32)), .val (.ref t), .val (.int (1 : Int32)), .val (.int (2 : Int32)), .val (.int c1)] [(.int (1 : Int32))])
  refine P1.ifNo X310.here hx (hb hby d17_43) ((if0 _ _).trans (feq (by decide : ¬ ((1 : Int32) = (0 : Int32)))).1) ?_
  refine P1.aload X310.here hx (hb hby d17_46) rfl rfl ?_
  refine P1.iload X310.here hx (hb hby d17_48) rfl ?_
  refine Goes.step (T' := T310) (g' := (mkF m 53 #[.val (.ref x), .val (.ref b), .val (.int (0 : Int32)), .val (.int (2 : Int32)), .val (.int (1 : Int32)), .val (.ref t), .val (.int (1 : Int32)), .val (.int ((2 : Int32) + (1 : Int32))), .val (.int c1)] [(.int (2 : Int32)), (.ref t)])) (fun t_ k_ => XS.iinc X310.here hx rfl (hb hby d17_50) rfl (l' := #[.val (.ref x), .val (.ref b), .val (.int (0 : Int32)), .val (.int (2 : Int32)), .val (.int (1 : Int32)), .val (.ref t), .val (.int (1 : Int32)), .val (.int ((2 : Int32) + (1 : Int32))), .val (.int c1)]) rfl k_) ?_
  have rw311 : ((2 : Int32) + (1 : Int32)) = (3 : Int32) := by decide
  rw [rw311]
  refine P1.iload X310.here hx (hb hby d17_53) rfl ?_
  refine Goes.step (T' := T310) (g' := (mkF m 56 #[.val (.ref x), .val (.ref b), .val (.int (0 : Int32)), .val (.int (2 : Int32)), .val (.int (1 : Int32)), .val (.ref t), .val (.int (1 : Int32)), .val (.int (3 : Int32)), .val (.int c1)] [(.int (c1.toInt8.toInt32)), (.int (2 : Int32)), (.ref t)])) (fun t_ k_ => XS.i2b X310.here hx rfl (hb hby d17_55) rfl k_) ?_
  have rw312 : (c1.toInt8.toInt32) = c1 := h_c1.i2b
  rw [rw312]
  have V313 : Arv Z h303 t kt .byte (8192 : Int32) [(.int pr), (.int c0), (.int (0 : Int32))] (.int (0 : Int32)) := V303.pad (pad_rep [(.int pr), (.int c0)] (.int (0 : Int32)) 1)
  obtain ⟨cl314, Ar314, qk314, sl314, nz314, ha314, fi314⟩ := id V313
  obtain ⟨T315, h315, X315, e315, W315, st315⟩ := stB X310 hx hZ hE310 Ar314 (j := (2 : Int32)) (inb_of sl314 ⟨by decide, by decide⟩) (g := (mkF m 56 #[.val (.ref x), .val (.ref b), .val (.int (0 : Int32)), .val (.int (2 : Int32)), .val (.int (1 : Int32)), .val (.ref t), .val (.int (1 : Int32)), .val (.int (3 : Int32)), .val (.int c1)] [(.int c1), (.int (2 : Int32)), (.ref t)])) rfl rfl (hb hby d17_56)
  rw [h_c1.nb] at W315
  have V315 : Arv Z h315 t kt .byte (8192 : Int32) [(.int pr), (.int c0), (.int c1)] (.int (0 : Int32)) := Arv.set Ar314 qk314 sl314 nz314 ha314 fi314 (h_c1.nb ▸ fits_nar_byte c1) W315 2 rfl (ok rfl)
  have N315 := Fr.snoc X315 N310 gt
  refine Goes.step (T' := T315) (g' := (mkF m 57 #[.val (.ref x), .val (.ref b), .val (.int (0 : Int32)), .val (.int (2 : Int32)), .val (.int (1 : Int32)), .val (.ref t), .val (.int (1 : Int32)), .val (.int (3 : Int32)), .val (.int c1)] [])) st315 ?_
  refine P1.goto X315.here hx 98 (hb hby d17_57) (by decide) (by decide) ?_
  refine Goes.step (T' := T315) (g' := (mkF m 101 #[.val (.ref x), .val (.ref b), .val (.int (0 : Int32)), .val (.int (2 : Int32)), .val (.int (1 : Int32)), .val (.ref t), .val (.int ((1 : Int32) + (1 : Int32))), .val (.int (3 : Int32)), .val (.int c1)] [])) (fun t_ k_ => XS.iinc X315.here hx rfl (hb hby d17_98) rfl (l' := #[.val (.ref x), .val (.ref b), .val (.int (0 : Int32)), .val (.int (2 : Int32)), .val (.int (1 : Int32)), .val (.ref t), .val (.int ((1 : Int32) + (1 : Int32))), .val (.int (3 : Int32)), .val (.int c1)]) rfl k_) ?_
  have rw316 : ((1 : Int32) + (1 : Int32)) = (2 : Int32) := by decide
  rw [rw316]
  refine P1.goto X315.here hx 26 (hb hby d17_101) (by decide) (by decide) ?_
  refine P1.iload X315.here hx (hb hby d17_26) rfl ?_
  refine P1.iloadN X315.here hx (hb hby d17_28) rfl ?_
  refine P1.icmpYes X315.here hx 104 (hb hby d17_29) (flt (by decide : ¬ ((2 : Int32) < (2 : Int32)))).2.1 (by decide) (by decide) ?_
  refine P1.goto X315.here hx 119 (hb hby d17_104) (by decide) (by decide) ?_
  refine P1.aloadN X315.here hx (hb hby d17_119) rfl rfl ?_
  refine P1.iload X315.here hx (hb hby d17_120) rfl ?_
  refine P1.iloadN X315.here hx (hb hby d17_122) rfl ?_
  refine P1.iadd X315.here hx (hb hby d17_123) ?_
  have rw317 : ((1 : Int32) + (2 : Int32)) = (3 : Int32) := by decide
  rw [rw317]
  refine P1.iloadN X315.here hx (hb hby d17_124) rfl ?_
  refine P1.isub X315.here hx (hb hby d17_125) ?_
  have rw318 : ((3 : Int32) - (0 : Int32)) = (3 : Int32) := by decide
  rw [rw318]
  have E320 : Exa Z h303 x "java/lang/StringBuilder" := Ex.wr W303
  have E321 : Exa Z h315 x "java/lang/StringBuilder" := E320.wr W315
  have ne319 : x ≠ t := own_ne_arv E321 (own_w hw 23 rfl) V315
  have F322 : Fld Z h303 x "java/lang/AbstractStringBuilder" "count" "I" (.int (1 : Int32)) := Fn.other W303 (Or.inl ne319)
  have F323 : Fld Z h315 x "java/lang/AbstractStringBuilder" "count" "I" (.int (1 : Int32)) := F322.other W315 (Or.inl ne319)
  obtain ⟨T324, h324, X324, e324, W324, st324⟩ := putF X315 hx hZ hown (host := "") (Or.inl (own_w hw 59 rfl)) Via.refl e315 F323 E321 (Or.inl (own_w hw 60 rfl)) (own_w hw 23 rfl) (ty := .int) (by decide) rfl rfl (g := (mkF m 126 #[.val (.ref x), .val (.ref b), .val (.int (0 : Int32)), .val (.int (2 : Int32)), .val (.int (1 : Int32)), .val (.ref t), .val (.int (2 : Int32)), .val (.int (3 : Int32)), .val (.int c1)] [(.int (3 : Int32)), (.ref x)])) rfl rfl (hb hby d17_126)
  have Fw324 : Fld Z h324 x "java/lang/AbstractStringBuilder" "count" "I" (.int (3 : Int32)) := F323.same W324
  have N324 := Fr.snoc X324 N315 gx
  refine Goes.step (T' := T324) (g' := (mkF m 129 #[.val (.ref x), .val (.ref b), .val (.int (0 : Int32)), .val (.int (2 : Int32)), .val (.int (1 : Int32)), .val (.ref t), .val (.int (2 : Int32)), .val (.int (3 : Int32)), .val (.int c1)] [])) st324 ?_
  refine Goes.retV X324 hx Bd.notSynchronized Bd.returns (hb hby d17_129) (ok rfl) (ok rfl) ?_
  rw [e324]
  have K325 : Keep h0 h303 [x, t] := K0.wr W303 (Or.inl (by simp))
  have K326 : Keep h0 h315 [x, t] := K325.wr W315 (Or.inl (by simp))
  have K327 : Keep h0 h324 [x, t] := K326.wr W324 (Or.inl (by simp))
  have E328 : Exa Z h324 x "java/lang/StringBuilder" := E321.wr W324
  have F329 : Fld Z h303 x "java/lang/AbstractStringBuilder" "value" "[B" (.ref t) := Fv.other W303 (Or.inl ne319)
  have F330 : Fld Z h315 x "java/lang/AbstractStringBuilder" "value" "[B" (.ref t) := F329.other W315 (Or.inl ne319)
  have F331 : Fld Z h324 x "java/lang/AbstractStringBuilder" "value" "[B" (.ref t) := F330.other W324 (Or.inr (slot_ne (Or.inl (own_w hw 39 rfl)) (Or.inl (own_w hw 60 rfl)) (by decide) (t := (.array .byte)) (t' := .int) (by decide) (by decide)))
  have F332 : Fld Z h303 x "java/lang/AbstractStringBuilder" "coder" "B" (.int (0 : Int32)) := Fc.other W303 (Or.inl ne319)
  have F333 : Fld Z h315 x "java/lang/AbstractStringBuilder" "coder" "B" (.int (0 : Int32)) := F332.other W315 (Or.inl ne319)
  have F334 : Fld Z h324 x "java/lang/AbstractStringBuilder" "coder" "B" (.int (0 : Int32)) := F333.other W324 (Or.inr (slot_ne (Or.inl (own_w hw 41 rfl)) (Or.inl (own_w hw 60 rfl)) (by decide) (t := .byte) (t' := .int) (by decide) (by decide)))
  have V335 : Arv Z h324 t kt .byte (8192 : Int32) [(.int pr), (.int c0), (.int c1)] (.int (0 : Int32)) := V315.other W324 (Ne.symm ne319)
  exact ⟨rfl, N324, K327, E328, F331, F334, Fw324, V335⟩
theorem efAc_1_2 (x b : Addr) (m : MethodId) : entryFrame m #[(.ref x), (.ref b), (.int (1 : Int32)), (.int (3 : Int32))] 9 = mkF m 0 #[.val (.ref x), .val (.ref b), .val (.int (1 : Int32)), .val (.int (3 : Int32)), .unset, .unset, .unset, .unset, .unset] [] := by first | (simp [entryFrame, mkF, argsToLocals, Value.category]; done) | rfl
def QAc_1_2 (Z : State) (x t : Addr) (kt : ClassId) (b : Addr) (kb : ClassId) (pr c0 c1 c2 c3 zc : Int32) (fm fi : Value) (u8 : Addr) (h0 : Heap) (n0 : Nat) (v : Option Value) (h : Heap) (L : List Loc) : Prop := v = none ∧ Fr n0 L ∧ Keep h0 h [x, t] ∧ Exa Z h x "java/lang/StringBuilder" ∧ Fld Z h x "java/lang/AbstractStringBuilder" "value" "[B" (.ref t) ∧ Fld Z h x "java/lang/AbstractStringBuilder" "coder" "B" (.int (0 : Int32)) ∧ Fld Z h x "java/lang/AbstractStringBuilder" "count" "I" (.int (3 : Int32)) ∧ Arv Z h t kt .byte (8192 : Int32) [(.int pr), (.int c1), (.int c2)] (.int (0 : Int32))
set_option maxRecDepth 65536 in
set_option maxHeartbeats 40000000 in
theorem rmAc_1_2 (l : Launch) (Z : State) (a0 : Array Value) (hw : ∀ d ∈ tables_1, d.before a0 Z = true) (ws : List Jvm.Cond) (x t : Addr) (kt : ClassId) (b : Addr) (kb : ClassId) (pr c0 c1 c2 c3 zc : Int32) (fm fi : Value) (u8 : Addr) (h0 : Heap) (n0 : Nat) (Z0 : n0 ≤ h0.size) (O0 : Old Z n0 h0) (S_CS : Sta Z Z.heap "java/lang/String" "COMPACT_STRINGS" "Z" (.int zc)) (hzc : ¬ zc = 0) (S_FM : Sta Z Z.heap "jdk/internal/util/Preconditions" "SIOOBE_FORMATTER" "Ljava/util/function/BiFunction;" fm) (hfm : fm.isRef = true) (S_FI : Sta Z Z.heap "jdk/internal/util/Preconditions" "IOOBE_FORMATTER" "Ljava/util/function/BiFunction;" fi) (hfi : fi.isRef = true) (S_IN : Sta Z Z.heap "sun/nio/cs/UTF_8" "INSTANCE" "Lsun/nio/cs/UTF_8;" (.ref u8)) (S_U8 : Sta Z Z.heap "java/nio/charset/StandardCharsets" "UTF_8" "Ljava/nio/charset/Charset;" (.ref u8)) (gx : n0 ≤ x) (gt : n0 ≤ t) (Ex : Exa Z h0 x "java/lang/StringBuilder") (Fv : Fld Z h0 x "java/lang/AbstractStringBuilder" "value" "[B" (.ref t)) (Fc : Fld Z h0 x "java/lang/AbstractStringBuilder" "coder" "B" (.int (0 : Int32))) (Fn : Fld Z h0 x "java/lang/AbstractStringBuilder" "count" "I" (.int (1 : Int32))) (Vt : Arv Z h0 t kt .byte (8192 : Int32) [(.int pr)] (.int (0 : Int32))) (Vb : Arv Z h0 b kb .char (4 : Int32) [(.int c0), (.int c1), (.int c2), (.int c3)] (.int (0 : Int32))) (neb : b ≠ t) (h_c0 : Pr c0) (h_c1 : Pr c1) (h_c2 : Pr c2) (h_c3 : Pr c3) :
    OwnLaw l y12_ jdk_68_method_74_code 9 none ws (rR 1 0 0 12) #[(.ref x), (.ref b), (.int (1 : Int32)), (.int (3 : Int32))] Z h0 (QAc_1_2 Z x t kt b kb pr c0 c1 c2 c3 zc fm fi u8 h0 n0) := by
  refine own_enter (plainFor_of_name pn_java_lang_AbstractStringBuilder) (efAc_1_2 x b) ?_
  intro p e s m below meth c s₁ Bd hx hby hml hZ hown X0 e0
  have N0 := Fr.nil n0
  have K0 : Keep h0 h0 [] := Keep.refl _ _
  have K0 : Keep h0 h0 [x, t] := Keep.refl _ _
  refine P1.aloadN X0.here hx (hb hby d17_0) rfl rfl ?_
  obtain ⟨T336, X336, e336, st336⟩ := getF X0 hx hZ hown (host := "") (Or.inl (own_w hw 59 rfl)) Via.refl e0 Fn (g := (mkF m 1 #[.val (.ref x), .val (.ref b), .val (.int (1 : Int32)), .val (.int (3 : Int32)), .unset, .unset, .unset, .unset, .unset] [(.ref x)])) rfl rfl (hb hby d17_1)
  refine Goes.step (T' := T336) (g' := (mkF m 4 #[.val (.ref x), .val (.ref b), .val (.int (1 : Int32)), .val (.int (3 : Int32)), .unset, .unset, .unset, .unset, .unset] [(.int (1 : Int32))])) st336 ?_
  refine P1.istore X336.here hx #[.val (.ref x), .val (.ref b), .val (.int (1 : Int32)), .val (.int (3 : Int32)), .val (.int (1 : Int32)), .unset, .unset, .unset, .unset] (hb hby d17_4) rfl ?_
  refine P1.aloadN X336.here hx (hb hby d17_6) rfl rfl ?_
  refine Goes.callV X336 hx hZ (y := y16_) (z := y16_) hown (mvT hZ (own_w hw 66 rfl)) (mvT hZ (own_w hw 67 rfl)) (notFace_of_selects (args := #[]) (mvT hZ (own_w hw 69 rfl))) (mvT hZ (own_w hw 69 rfl)) (mvT hZ (own_w hw 68 rfl)) (by decide) (kc' := 0) (ks' := 0) (backOf (W := 0) (rmIl l Z a0 hw [] x zc fm fi u8 h0 n0 Z0 O0 S_CS hzc S_FM hfm S_FI hfi S_IN S_U8 Fc) hZ (own_w hw 70 rfl) (own_w hw 32 rfl) (ok rfl) (ok rfl)) (b := x) e336 Ex (g := (mkF m 7 #[.val (.ref x), .val (.ref b), .val (.int (1 : Int32)), .val (.int (3 : Int32)), .val (.int (1 : Int32)), .unset, .unset, .unset, .unset] [(.ref x)])) rfl (by rw [hml]; rfl) (argsL := []) (rest := []) (lenOf pd_392 rfl) rfl (by show 2 * 0 + _ ≤ _; exact Nat.le_of_eq rfl) (hb hby d17_7) rfl (ok rfl) (ok rfl) ?_
  intro v337 T337 L337 q337 X337
  obtain ⟨rfl, N337q, hE337⟩ := q337
  have N337 := Fr.app N0 N337q
  show Goes p e below _ T337 (mkF m 10 #[.val (.ref x), .val (.ref b), .val (.int (1 : Int32)), .val (.int (3 : Int32)), .val (.int (1 : Int32)), .unset, .unset, .unset, .unset] [(.int (1 : Int32))])
  refine P1.ifNo X337.here hx (hb hby d17_10) ((if0 _ _).trans (feq (by decide : ¬ ((1 : Int32) = (0 : Int32)))).1) ?_
  refine P1.aloadN X337.here hx (hb hby d17_13) rfl rfl ?_
  obtain ⟨T338, X338, e338, st338⟩ := getF X337 hx hZ hown (host := "") (Or.inl (own_w hw 38 rfl)) Via.refl hE337 Fv (g := (mkF m 14 #[.val (.ref x), .val (.ref b), .val (.int (1 : Int32)), .val (.int (3 : Int32)), .val (.int (1 : Int32)), .unset, .unset, .unset, .unset] [(.ref x)])) rfl rfl (hb hby d17_14)
  refine Goes.step (T' := T338) (g' := (mkF m 17 #[.val (.ref x), .val (.ref b), .val (.int (1 : Int32)), .val (.int (3 : Int32)), .val (.int (1 : Int32)), .unset, .unset, .unset, .unset] [(.ref t)])) st338 ?_
  refine P1.astore X338.here hx #[.val (.ref x), .val (.ref b), .val (.int (1 : Int32)), .val (.int (3 : Int32)), .val (.int (1 : Int32)), .val (.ref t), .unset, .unset, .unset] (hb hby d17_17) rfl rfl ?_
  refine P1.iloadN X338.here hx (hb hby d17_19) rfl ?_
  refine P1.istore X338.here hx #[.val (.ref x), .val (.ref b), .val (.int (1 : Int32)), .val (.int (3 : Int32)), .val (.int (1 : Int32)), .val (.ref t), .val (.int (1 : Int32)), .unset, .unset] (hb hby d17_20) rfl ?_
  refine P1.iload X338.here hx (hb hby d17_22) rfl ?_
  refine P1.istore X338.here hx #[.val (.ref x), .val (.ref b), .val (.int (1 : Int32)), .val (.int (3 : Int32)), .val (.int (1 : Int32)), .val (.ref t), .val (.int (1 : Int32)), .val (.int (1 : Int32)), .unset] (hb hby d17_24) rfl ?_
  refine P1.iload X338.here hx (hb hby d17_26) rfl ?_
  refine P1.iloadN X338.here hx (hb hby d17_28) rfl ?_
  refine P1.icmpNo X338.here hx (hb hby d17_29) (tlt (by decide : (1 : Int32) < (3 : Int32))).2.1 ?_
  refine P1.aloadN X338.here hx (hb hby d17_32) rfl rfl ?_
  refine P1.iload X338.here hx (hb hby d17_33) rfl ?_
  obtain ⟨cl339, Ar339, qk339, sl339, nz339, ha339, fi339⟩ := id Vb
  have i340 := inb_of (j := (1 : Int32)) sl339 ⟨by decide, by decide⟩
  refine Goes.step (T' := T338) (g' := (mkF m 36 #[.val (.ref x), .val (.ref b), .val (.int (1 : Int32)), .val (.int (3 : Int32)), .val (.int (1 : Int32)), .val (.ref t), .val (.int (1 : Int32)), .val (.int (1 : Int32)), .unset] [(.int c1)])) (fun t_ k_ => X338.caload hx (j := (1 : Int32)) (v := (.int c1)) (by rw [e338]; exact Ar339.1) (State.isArrayOf_alike hZ.alike Ar339.2.1) Ar339.2.2 i340 (Has.at ha339 i340 rfl) (g := (mkF m 35 #[.val (.ref x), .val (.ref b), .val (.int (1 : Int32)), .val (.int (3 : Int32)), .val (.int (1 : Int32)), .val (.ref t), .val (.int (1 : Int32)), .val (.int (1 : Int32)), .unset] [(.int (1 : Int32)), (.ref b)])) rfl rfl (hb hby d17_35) _ k_) ?_
  refine P1.istore X338.here hx #[.val (.ref x), .val (.ref b), .val (.int (1 : Int32)), .val (.int (3 : Int32)), .val (.int (1 : Int32)), .val (.ref t), .val (.int (1 : Int32)), .val (.int (1 : Int32)), .val (.int c1)] (hb hby d17_36) rfl ?_
  refine P1.iload X338.here hx (hb hby d17_38) rfl ?_
  refine Goes.callS X338 hx (y := y36_) hown (mvT hZ (own_w hw 71 rfl)) (mvT hZ (own_w hw 72 rfl)) (mvT hZ (own_w hw 73 rfl)) (mvT hZ (own_w hw 74 rfl)) (by decide) (kc' := 0) (ks' := 0) (backOf (W := 0) (rmCan l Z a0 hw [] c1 h0 n0 Z0 O0 h_c1) hZ (own_w hw 74 rfl) (own_w hw 73 rfl) (ok rfl) (ok rfl)) (g := (mkF m 40 #[.val (.ref x), .val (.ref b), .val (.int (1 : Int32)), .val (.int (3 : Int32)), .val (.int (1 : Int32)), .val (.ref t), .val (.int (1 : Int32)), .val (.int (1 : Int32)), .val (.int c1)] [(.int c1)])) rfl (by rw [hml]; rfl) (argsL := [(.int c1)]) (rest := []) (lenOf pd_657 rfl) rfl (by show 2 * 0 + _ ≤ _; exact Nat.le_of_eq rfl) (hb hby d17_40) rfl e338 (ok rfl) (ok rfl) ?_
  intro v341 T341 L341 q341 X341
  obtain ⟨rfl, N341q, hE341⟩ := q341
  have N341 := Fr.app N337 N341q
  show Goes p e below _ T341 (mkF m 43 #[.val (.ref x), .val (.ref b), .val (.int (1 : Int32)), .val (.int (3 : Int32)), .val (.int (1 : Int32)), .val (.ref t), .val (.int (1 : Int32)), .val (.int (1 : Int32)), .val (.int c1)] [(.int (1 : Int32))])
  refine P1.ifNo X341.here hx (hb hby d17_43) ((if0 _ _).trans (feq (by decide : ¬ ((1 : Int32) = (0 : Int32)))).1) ?_
  refine P1.aload X341.here hx (hb hby d17_46) rfl rfl ?_
  refine P1.iload X341.here hx (hb hby d17_48) rfl ?_
  refine Goes.step (T' := T341) (g' := (mkF m 53 #[.val (.ref x), .val (.ref b), .val (.int (1 : Int32)), .val (.int (3 : Int32)), .val (.int (1 : Int32)), .val (.ref t), .val (.int (1 : Int32)), .val (.int ((1 : Int32) + (1 : Int32))), .val (.int c1)] [(.int (1 : Int32)), (.ref t)])) (fun t_ k_ => XS.iinc X341.here hx rfl (hb hby d17_50) rfl (l' := #[.val (.ref x), .val (.ref b), .val (.int (1 : Int32)), .val (.int (3 : Int32)), .val (.int (1 : Int32)), .val (.ref t), .val (.int (1 : Int32)), .val (.int ((1 : Int32) + (1 : Int32))), .val (.int c1)]) rfl k_) ?_
  have rw342 : ((1 : Int32) + (1 : Int32)) = (2 : Int32) := by decide
  rw [rw342]
  refine P1.iload X341.here hx (hb hby d17_53) rfl ?_
  refine Goes.step (T' := T341) (g' := (mkF m 56 #[.val (.ref x), .val (.ref b), .val (.int (1 : Int32)), .val (.int (3 : Int32)), .val (.int (1 : Int32)), .val (.ref t), .val (.int (1 : Int32)), .val (.int (2 : Int32)), .val (.int c1)] [(.int (c1.toInt8.toInt32)), (.int (1 : Int32)), (.ref t)])) (fun t_ k_ => XS.i2b X341.here hx rfl (hb hby d17_55) rfl k_) ?_
  have rw343 : (c1.toInt8.toInt32) = c1 := h_c1.i2b
  rw [rw343]
  have V344 : Arv Z h0 t kt .byte (8192 : Int32) [(.int pr), (.int (0 : Int32))] (.int (0 : Int32)) := Vt.pad (pad_rep [(.int pr)] (.int (0 : Int32)) 1)
  obtain ⟨cl345, Ar345, qk345, sl345, nz345, ha345, fi345⟩ := id V344
  obtain ⟨T346, h346, X346, e346, W346, st346⟩ := stB X341 hx hZ hE341 Ar345 (j := (1 : Int32)) (inb_of sl345 ⟨by decide, by decide⟩) (g := (mkF m 56 #[.val (.ref x), .val (.ref b), .val (.int (1 : Int32)), .val (.int (3 : Int32)), .val (.int (1 : Int32)), .val (.ref t), .val (.int (1 : Int32)), .val (.int (2 : Int32)), .val (.int c1)] [(.int c1), (.int (1 : Int32)), (.ref t)])) rfl rfl (hb hby d17_56)
  rw [h_c1.nb] at W346
  have V346 : Arv Z h346 t kt .byte (8192 : Int32) [(.int pr), (.int c1)] (.int (0 : Int32)) := Arv.set Ar345 qk345 sl345 nz345 ha345 fi345 (h_c1.nb ▸ fits_nar_byte c1) W346 1 rfl (ok rfl)
  have N346 := Fr.snoc X346 N341 gt
  refine Goes.step (T' := T346) (g' := (mkF m 57 #[.val (.ref x), .val (.ref b), .val (.int (1 : Int32)), .val (.int (3 : Int32)), .val (.int (1 : Int32)), .val (.ref t), .val (.int (1 : Int32)), .val (.int (2 : Int32)), .val (.int c1)] [])) st346 ?_
  refine P1.goto X346.here hx 98 (hb hby d17_57) (by decide) (by decide) ?_
  refine Goes.step (T' := T346) (g' := (mkF m 101 #[.val (.ref x), .val (.ref b), .val (.int (1 : Int32)), .val (.int (3 : Int32)), .val (.int (1 : Int32)), .val (.ref t), .val (.int ((1 : Int32) + (1 : Int32))), .val (.int (2 : Int32)), .val (.int c1)] [])) (fun t_ k_ => XS.iinc X346.here hx rfl (hb hby d17_98) rfl (l' := #[.val (.ref x), .val (.ref b), .val (.int (1 : Int32)), .val (.int (3 : Int32)), .val (.int (1 : Int32)), .val (.ref t), .val (.int ((1 : Int32) + (1 : Int32))), .val (.int (2 : Int32)), .val (.int c1)]) rfl k_) ?_
  have rw347 : ((1 : Int32) + (1 : Int32)) = (2 : Int32) := by decide
  rw [rw347]
  refine P1.goto X346.here hx 26 (hb hby d17_101) (by decide) (by decide) ?_
  refine P1.iload X346.here hx (hb hby d17_26) rfl ?_
  refine P1.iloadN X346.here hx (hb hby d17_28) rfl ?_
  refine P1.icmpNo X346.here hx (hb hby d17_29) (tlt (by decide : (2 : Int32) < (3 : Int32))).2.1 ?_
  refine P1.aloadN X346.here hx (hb hby d17_32) rfl rfl ?_
  refine P1.iload X346.here hx (hb hby d17_33) rfl ?_
  have V348 : Arv Z h346 b kb .char (4 : Int32) [(.int c0), (.int c1), (.int c2), (.int c3)] (.int (0 : Int32)) := Vb.other W346 neb
  obtain ⟨cl349, Ar349, qk349, sl349, nz349, ha349, fi349⟩ := id V348
  have i350 := inb_of (j := (2 : Int32)) sl349 ⟨by decide, by decide⟩
  refine Goes.step (T' := T346) (g' := (mkF m 36 #[.val (.ref x), .val (.ref b), .val (.int (1 : Int32)), .val (.int (3 : Int32)), .val (.int (1 : Int32)), .val (.ref t), .val (.int (2 : Int32)), .val (.int (2 : Int32)), .val (.int c1)] [(.int c2)])) (fun t_ k_ => X346.caload hx (j := (2 : Int32)) (v := (.int c2)) (by rw [e346]; exact Ar349.1) (State.isArrayOf_alike hZ.alike Ar349.2.1) Ar349.2.2 i350 (Has.at ha349 i350 rfl) (g := (mkF m 35 #[.val (.ref x), .val (.ref b), .val (.int (1 : Int32)), .val (.int (3 : Int32)), .val (.int (1 : Int32)), .val (.ref t), .val (.int (2 : Int32)), .val (.int (2 : Int32)), .val (.int c1)] [(.int (2 : Int32)), (.ref b)])) rfl rfl (hb hby d17_35) _ k_) ?_
  refine P1.istore X346.here hx #[.val (.ref x), .val (.ref b), .val (.int (1 : Int32)), .val (.int (3 : Int32)), .val (.int (1 : Int32)), .val (.ref t), .val (.int (2 : Int32)), .val (.int (2 : Int32)), .val (.int c2)] (hb hby d17_36) rfl ?_
  refine P1.iload X346.here hx (hb hby d17_38) rfl ?_
  have Z351 : n0 ≤ h346.size := Nat.le_trans Z0 (Keep.of_wr W346).1
  have O352 : Old Z n0 h346 := O0.wr W346 gt
  refine Goes.callS X346 hx (y := y36_) hown (mvT hZ (own_w hw 71 rfl)) (mvT hZ (own_w hw 72 rfl)) (mvT hZ (own_w hw 73 rfl)) (mvT hZ (own_w hw 74 rfl)) (by decide) (kc' := 0) (ks' := 0) (backOf (W := 0) (rmCan l Z a0 hw [] c2 h346 n0 Z351 O352 h_c2) hZ (own_w hw 74 rfl) (own_w hw 73 rfl) (ok rfl) (ok rfl)) (g := (mkF m 40 #[.val (.ref x), .val (.ref b), .val (.int (1 : Int32)), .val (.int (3 : Int32)), .val (.int (1 : Int32)), .val (.ref t), .val (.int (2 : Int32)), .val (.int (2 : Int32)), .val (.int c2)] [(.int c2)])) rfl (by rw [hml]; rfl) (argsL := [(.int c2)]) (rest := []) (lenOf pd_657 rfl) rfl (by show 2 * 0 + _ ≤ _; exact Nat.le_of_eq rfl) (hb hby d17_40) rfl e346 (ok rfl) (ok rfl) ?_
  intro v353 T353 L353 q353 X353
  obtain ⟨rfl, N353q, hE353⟩ := q353
  have N353 := Fr.app N346 N353q
  show Goes p e below _ T353 (mkF m 43 #[.val (.ref x), .val (.ref b), .val (.int (1 : Int32)), .val (.int (3 : Int32)), .val (.int (1 : Int32)), .val (.ref t), .val (.int (2 : Int32)), .val (.int (2 : Int32)), .val (.int c2)] [(.int (1 : Int32))])
  refine P1.ifNo X353.here hx (hb hby d17_43) ((if0 _ _).trans (feq (by decide : ¬ ((1 : Int32) = (0 : Int32)))).1) ?_
  refine P1.aload X353.here hx (hb hby d17_46) rfl rfl ?_
  refine P1.iload X353.here hx (hb hby d17_48) rfl ?_
  refine Goes.step (T' := T353) (g' := (mkF m 53 #[.val (.ref x), .val (.ref b), .val (.int (1 : Int32)), .val (.int (3 : Int32)), .val (.int (1 : Int32)), .val (.ref t), .val (.int (2 : Int32)), .val (.int ((2 : Int32) + (1 : Int32))), .val (.int c2)] [(.int (2 : Int32)), (.ref t)])) (fun t_ k_ => XS.iinc X353.here hx rfl (hb hby d17_50) rfl (l' := #[.val (.ref x), .val (.ref b), .val (.int (1 : Int32)), .val (.int (3 : Int32)), .val (.int (1 : Int32)), .val (.ref t), .val (.int (2 : Int32)), .val (.int ((2 : Int32) + (1 : Int32))), .val (.int c2)]) rfl k_) ?_
  have rw354 : ((2 : Int32) + (1 : Int32)) = (3 : Int32) := by decide
  rw [rw354]
  refine P1.iload X353.here hx (hb hby d17_53) rfl ?_
  refine Goes.step (T' := T353) (g' := (mkF m 56 #[.val (.ref x), .val (.ref b), .val (.int (1 : Int32)), .val (.int (3 : Int32)), .val (.int (1 : Int32)), .val (.ref t), .val (.int (2 : Int32)), .val (.int (3 : Int32)), .val (.int c2)] [(.int (c2.toInt8.toInt32)), (.int (2 : Int32)), (.ref t)])) (fun t_ k_ => XS.i2b X353.here hx rfl (hb hby d17_55) rfl k_) ?_
  have rw355 : (c2.toInt8.toInt32) = c2 := h_c2.i2b
  rw [rw355]
  have V356 : Arv Z h346 t kt .byte (8192 : Int32) [(.int pr), (.int c1), (.int (0 : Int32))] (.int (0 : Int32)) := V346.pad (pad_rep [(.int pr), (.int c1)] (.int (0 : Int32)) 1)
  obtain ⟨cl357, Ar357, qk357, sl357, nz357, ha357, fi357⟩ := id V356
  obtain ⟨T358, h358, X358, e358, W358, st358⟩ := stB X353 hx hZ hE353 Ar357 (j := (2 : Int32)) (inb_of sl357 ⟨by decide, by decide⟩) (g := (mkF m 56 #[.val (.ref x), .val (.ref b), .val (.int (1 : Int32)), .val (.int (3 : Int32)), .val (.int (1 : Int32)), .val (.ref t), .val (.int (2 : Int32)), .val (.int (3 : Int32)), .val (.int c2)] [(.int c2), (.int (2 : Int32)), (.ref t)])) rfl rfl (hb hby d17_56)
  rw [h_c2.nb] at W358
  have V358 : Arv Z h358 t kt .byte (8192 : Int32) [(.int pr), (.int c1), (.int c2)] (.int (0 : Int32)) := Arv.set Ar357 qk357 sl357 nz357 ha357 fi357 (h_c2.nb ▸ fits_nar_byte c2) W358 2 rfl (ok rfl)
  have N358 := Fr.snoc X358 N353 gt
  refine Goes.step (T' := T358) (g' := (mkF m 57 #[.val (.ref x), .val (.ref b), .val (.int (1 : Int32)), .val (.int (3 : Int32)), .val (.int (1 : Int32)), .val (.ref t), .val (.int (2 : Int32)), .val (.int (3 : Int32)), .val (.int c2)] [])) st358 ?_
  refine P1.goto X358.here hx 98 (hb hby d17_57) (by decide) (by decide) ?_
  refine Goes.step (T' := T358) (g' := (mkF m 101 #[.val (.ref x), .val (.ref b), .val (.int (1 : Int32)), .val (.int (3 : Int32)), .val (.int (1 : Int32)), .val (.ref t), .val (.int ((2 : Int32) + (1 : Int32))), .val (.int (3 : Int32)), .val (.int c2)] [])) (fun t_ k_ => XS.iinc X358.here hx rfl (hb hby d17_98) rfl (l' := #[.val (.ref x), .val (.ref b), .val (.int (1 : Int32)), .val (.int (3 : Int32)), .val (.int (1 : Int32)), .val (.ref t), .val (.int ((2 : Int32) + (1 : Int32))), .val (.int (3 : Int32)), .val (.int c2)]) rfl k_) ?_
  have rw359 : ((2 : Int32) + (1 : Int32)) = (3 : Int32) := by decide
  rw [rw359]
  refine P1.goto X358.here hx 26 (hb hby d17_101) (by decide) (by decide) ?_
  refine P1.iload X358.here hx (hb hby d17_26) rfl ?_
  refine P1.iloadN X358.here hx (hb hby d17_28) rfl ?_
  refine P1.icmpYes X358.here hx 104 (hb hby d17_29) (flt (by decide : ¬ ((3 : Int32) < (3 : Int32)))).2.1 (by decide) (by decide) ?_
  refine P1.goto X358.here hx 119 (hb hby d17_104) (by decide) (by decide) ?_
  refine P1.aloadN X358.here hx (hb hby d17_119) rfl rfl ?_
  refine P1.iload X358.here hx (hb hby d17_120) rfl ?_
  refine P1.iloadN X358.here hx (hb hby d17_122) rfl ?_
  refine P1.iadd X358.here hx (hb hby d17_123) ?_
  have rw360 : ((1 : Int32) + (3 : Int32)) = (4 : Int32) := by decide
  rw [rw360]
  refine P1.iloadN X358.here hx (hb hby d17_124) rfl ?_
  refine P1.isub X358.here hx (hb hby d17_125) ?_
  have rw361 : ((4 : Int32) - (1 : Int32)) = (3 : Int32) := by decide
  rw [rw361]
  have E363 : Exa Z h346 x "java/lang/StringBuilder" := Ex.wr W346
  have E364 : Exa Z h358 x "java/lang/StringBuilder" := E363.wr W358
  have ne362 : x ≠ t := own_ne_arv E364 (own_w hw 23 rfl) V358
  have F365 : Fld Z h346 x "java/lang/AbstractStringBuilder" "count" "I" (.int (1 : Int32)) := Fn.other W346 (Or.inl ne362)
  have F366 : Fld Z h358 x "java/lang/AbstractStringBuilder" "count" "I" (.int (1 : Int32)) := F365.other W358 (Or.inl ne362)
  obtain ⟨T367, h367, X367, e367, W367, st367⟩ := putF X358 hx hZ hown (host := "") (Or.inl (own_w hw 59 rfl)) Via.refl e358 F366 E364 (Or.inl (own_w hw 60 rfl)) (own_w hw 23 rfl) (ty := .int) (by decide) rfl rfl (g := (mkF m 126 #[.val (.ref x), .val (.ref b), .val (.int (1 : Int32)), .val (.int (3 : Int32)), .val (.int (1 : Int32)), .val (.ref t), .val (.int (3 : Int32)), .val (.int (3 : Int32)), .val (.int c2)] [(.int (3 : Int32)), (.ref x)])) rfl rfl (hb hby d17_126)
  have Fw367 : Fld Z h367 x "java/lang/AbstractStringBuilder" "count" "I" (.int (3 : Int32)) := F366.same W367
  have N367 := Fr.snoc X367 N358 gx
  refine Goes.step (T' := T367) (g' := (mkF m 129 #[.val (.ref x), .val (.ref b), .val (.int (1 : Int32)), .val (.int (3 : Int32)), .val (.int (1 : Int32)), .val (.ref t), .val (.int (3 : Int32)), .val (.int (3 : Int32)), .val (.int c2)] [])) st367 ?_
  refine Goes.retV X367 hx Bd.notSynchronized Bd.returns (hb hby d17_129) (ok rfl) (ok rfl) ?_
  rw [e367]
  have K368 : Keep h0 h346 [x, t] := K0.wr W346 (Or.inl (by simp))
  have K369 : Keep h0 h358 [x, t] := K368.wr W358 (Or.inl (by simp))
  have K370 : Keep h0 h367 [x, t] := K369.wr W367 (Or.inl (by simp))
  have E371 : Exa Z h367 x "java/lang/StringBuilder" := E364.wr W367
  have F372 : Fld Z h346 x "java/lang/AbstractStringBuilder" "value" "[B" (.ref t) := Fv.other W346 (Or.inl ne362)
  have F373 : Fld Z h358 x "java/lang/AbstractStringBuilder" "value" "[B" (.ref t) := F372.other W358 (Or.inl ne362)
  have F374 : Fld Z h367 x "java/lang/AbstractStringBuilder" "value" "[B" (.ref t) := F373.other W367 (Or.inr (slot_ne (Or.inl (own_w hw 39 rfl)) (Or.inl (own_w hw 60 rfl)) (by decide) (t := (.array .byte)) (t' := .int) (by decide) (by decide)))
  have F375 : Fld Z h346 x "java/lang/AbstractStringBuilder" "coder" "B" (.int (0 : Int32)) := Fc.other W346 (Or.inl ne362)
  have F376 : Fld Z h358 x "java/lang/AbstractStringBuilder" "coder" "B" (.int (0 : Int32)) := F375.other W358 (Or.inl ne362)
  have F377 : Fld Z h367 x "java/lang/AbstractStringBuilder" "coder" "B" (.int (0 : Int32)) := F376.other W367 (Or.inr (slot_ne (Or.inl (own_w hw 41 rfl)) (Or.inl (own_w hw 60 rfl)) (by decide) (t := .byte) (t' := .int) (by decide) (by decide)))
  have V378 : Arv Z h367 t kt .byte (8192 : Int32) [(.int pr), (.int c1), (.int c2)] (.int (0 : Int32)) := V358.other W367 (Ne.symm ne362)
  exact ⟨rfl, N367, K370, E371, F374, F377, Fw367, V378⟩
theorem efAc_2_2 (x b : Addr) (m : MethodId) : entryFrame m #[(.ref x), (.ref b), (.int (2 : Int32)), (.int (4 : Int32))] 9 = mkF m 0 #[.val (.ref x), .val (.ref b), .val (.int (2 : Int32)), .val (.int (4 : Int32)), .unset, .unset, .unset, .unset, .unset] [] := by first | (simp [entryFrame, mkF, argsToLocals, Value.category]; done) | rfl
def QAc_2_2 (Z : State) (x t : Addr) (kt : ClassId) (b : Addr) (kb : ClassId) (pr c0 c1 c2 c3 zc : Int32) (fm fi : Value) (u8 : Addr) (h0 : Heap) (n0 : Nat) (v : Option Value) (h : Heap) (L : List Loc) : Prop := v = none ∧ Fr n0 L ∧ Keep h0 h [x, t] ∧ Exa Z h x "java/lang/StringBuilder" ∧ Fld Z h x "java/lang/AbstractStringBuilder" "value" "[B" (.ref t) ∧ Fld Z h x "java/lang/AbstractStringBuilder" "coder" "B" (.int (0 : Int32)) ∧ Fld Z h x "java/lang/AbstractStringBuilder" "count" "I" (.int (3 : Int32)) ∧ Arv Z h t kt .byte (8192 : Int32) [(.int pr), (.int c2), (.int c3)] (.int (0 : Int32))
set_option maxRecDepth 65536 in
set_option maxHeartbeats 40000000 in
theorem rmAc_2_2 (l : Launch) (Z : State) (a0 : Array Value) (hw : ∀ d ∈ tables_1, d.before a0 Z = true) (ws : List Jvm.Cond) (x t : Addr) (kt : ClassId) (b : Addr) (kb : ClassId) (pr c0 c1 c2 c3 zc : Int32) (fm fi : Value) (u8 : Addr) (h0 : Heap) (n0 : Nat) (Z0 : n0 ≤ h0.size) (O0 : Old Z n0 h0) (S_CS : Sta Z Z.heap "java/lang/String" "COMPACT_STRINGS" "Z" (.int zc)) (hzc : ¬ zc = 0) (S_FM : Sta Z Z.heap "jdk/internal/util/Preconditions" "SIOOBE_FORMATTER" "Ljava/util/function/BiFunction;" fm) (hfm : fm.isRef = true) (S_FI : Sta Z Z.heap "jdk/internal/util/Preconditions" "IOOBE_FORMATTER" "Ljava/util/function/BiFunction;" fi) (hfi : fi.isRef = true) (S_IN : Sta Z Z.heap "sun/nio/cs/UTF_8" "INSTANCE" "Lsun/nio/cs/UTF_8;" (.ref u8)) (S_U8 : Sta Z Z.heap "java/nio/charset/StandardCharsets" "UTF_8" "Ljava/nio/charset/Charset;" (.ref u8)) (gx : n0 ≤ x) (gt : n0 ≤ t) (Ex : Exa Z h0 x "java/lang/StringBuilder") (Fv : Fld Z h0 x "java/lang/AbstractStringBuilder" "value" "[B" (.ref t)) (Fc : Fld Z h0 x "java/lang/AbstractStringBuilder" "coder" "B" (.int (0 : Int32))) (Fn : Fld Z h0 x "java/lang/AbstractStringBuilder" "count" "I" (.int (1 : Int32))) (Vt : Arv Z h0 t kt .byte (8192 : Int32) [(.int pr)] (.int (0 : Int32))) (Vb : Arv Z h0 b kb .char (4 : Int32) [(.int c0), (.int c1), (.int c2), (.int c3)] (.int (0 : Int32))) (neb : b ≠ t) (h_c0 : Pr c0) (h_c1 : Pr c1) (h_c2 : Pr c2) (h_c3 : Pr c3) :
    OwnLaw l y12_ jdk_68_method_74_code 9 none ws (rR 1 0 0 12) #[(.ref x), (.ref b), (.int (2 : Int32)), (.int (4 : Int32))] Z h0 (QAc_2_2 Z x t kt b kb pr c0 c1 c2 c3 zc fm fi u8 h0 n0) := by
  refine own_enter (plainFor_of_name pn_java_lang_AbstractStringBuilder) (efAc_2_2 x b) ?_
  intro p e s m below meth c s₁ Bd hx hby hml hZ hown X0 e0
  have N0 := Fr.nil n0
  have K0 : Keep h0 h0 [] := Keep.refl _ _
  have K0 : Keep h0 h0 [x, t] := Keep.refl _ _
  refine P1.aloadN X0.here hx (hb hby d17_0) rfl rfl ?_
  obtain ⟨T379, X379, e379, st379⟩ := getF X0 hx hZ hown (host := "") (Or.inl (own_w hw 59 rfl)) Via.refl e0 Fn (g := (mkF m 1 #[.val (.ref x), .val (.ref b), .val (.int (2 : Int32)), .val (.int (4 : Int32)), .unset, .unset, .unset, .unset, .unset] [(.ref x)])) rfl rfl (hb hby d17_1)
  refine Goes.step (T' := T379) (g' := (mkF m 4 #[.val (.ref x), .val (.ref b), .val (.int (2 : Int32)), .val (.int (4 : Int32)), .unset, .unset, .unset, .unset, .unset] [(.int (1 : Int32))])) st379 ?_
  refine P1.istore X379.here hx #[.val (.ref x), .val (.ref b), .val (.int (2 : Int32)), .val (.int (4 : Int32)), .val (.int (1 : Int32)), .unset, .unset, .unset, .unset] (hb hby d17_4) rfl ?_
  refine P1.aloadN X379.here hx (hb hby d17_6) rfl rfl ?_
  refine Goes.callV X379 hx hZ (y := y16_) (z := y16_) hown (mvT hZ (own_w hw 66 rfl)) (mvT hZ (own_w hw 67 rfl)) (notFace_of_selects (args := #[]) (mvT hZ (own_w hw 69 rfl))) (mvT hZ (own_w hw 69 rfl)) (mvT hZ (own_w hw 68 rfl)) (by decide) (kc' := 0) (ks' := 0) (backOf (W := 0) (rmIl l Z a0 hw [] x zc fm fi u8 h0 n0 Z0 O0 S_CS hzc S_FM hfm S_FI hfi S_IN S_U8 Fc) hZ (own_w hw 70 rfl) (own_w hw 32 rfl) (ok rfl) (ok rfl)) (b := x) e379 Ex (g := (mkF m 7 #[.val (.ref x), .val (.ref b), .val (.int (2 : Int32)), .val (.int (4 : Int32)), .val (.int (1 : Int32)), .unset, .unset, .unset, .unset] [(.ref x)])) rfl (by rw [hml]; rfl) (argsL := []) (rest := []) (lenOf pd_392 rfl) rfl (by show 2 * 0 + _ ≤ _; exact Nat.le_of_eq rfl) (hb hby d17_7) rfl (ok rfl) (ok rfl) ?_
  intro v380 T380 L380 q380 X380
  obtain ⟨rfl, N380q, hE380⟩ := q380
  have N380 := Fr.app N0 N380q
  show Goes p e below _ T380 (mkF m 10 #[.val (.ref x), .val (.ref b), .val (.int (2 : Int32)), .val (.int (4 : Int32)), .val (.int (1 : Int32)), .unset, .unset, .unset, .unset] [(.int (1 : Int32))])
  refine P1.ifNo X380.here hx (hb hby d17_10) ((if0 _ _).trans (feq (by decide : ¬ ((1 : Int32) = (0 : Int32)))).1) ?_
  refine P1.aloadN X380.here hx (hb hby d17_13) rfl rfl ?_
  obtain ⟨T381, X381, e381, st381⟩ := getF X380 hx hZ hown (host := "") (Or.inl (own_w hw 38 rfl)) Via.refl hE380 Fv (g := (mkF m 14 #[.val (.ref x), .val (.ref b), .val (.int (2 : Int32)), .val (.int (4 : Int32)), .val (.int (1 : Int32)), .unset, .unset, .unset, .unset] [(.ref x)])) rfl rfl (hb hby d17_14)
  refine Goes.step (T' := T381) (g' := (mkF m 17 #[.val (.ref x), .val (.ref b), .val (.int (2 : Int32)), .val (.int (4 : Int32)), .val (.int (1 : Int32)), .unset, .unset, .unset, .unset] [(.ref t)])) st381 ?_
  refine P1.astore X381.here hx #[.val (.ref x), .val (.ref b), .val (.int (2 : Int32)), .val (.int (4 : Int32)), .val (.int (1 : Int32)), .val (.ref t), .unset, .unset, .unset] (hb hby d17_17) rfl rfl ?_
  refine P1.iloadN X381.here hx (hb hby d17_19) rfl ?_
  refine P1.istore X381.here hx #[.val (.ref x), .val (.ref b), .val (.int (2 : Int32)), .val (.int (4 : Int32)), .val (.int (1 : Int32)), .val (.ref t), .val (.int (2 : Int32)), .unset, .unset] (hb hby d17_20) rfl ?_
  refine P1.iload X381.here hx (hb hby d17_22) rfl ?_
  refine P1.istore X381.here hx #[.val (.ref x), .val (.ref b), .val (.int (2 : Int32)), .val (.int (4 : Int32)), .val (.int (1 : Int32)), .val (.ref t), .val (.int (2 : Int32)), .val (.int (1 : Int32)), .unset] (hb hby d17_24) rfl ?_
  refine P1.iload X381.here hx (hb hby d17_26) rfl ?_
  refine P1.iloadN X381.here hx (hb hby d17_28) rfl ?_
  refine P1.icmpNo X381.here hx (hb hby d17_29) (tlt (by decide : (2 : Int32) < (4 : Int32))).2.1 ?_
  refine P1.aloadN X381.here hx (hb hby d17_32) rfl rfl ?_
  refine P1.iload X381.here hx (hb hby d17_33) rfl ?_
  obtain ⟨cl382, Ar382, qk382, sl382, nz382, ha382, fi382⟩ := id Vb
  have i383 := inb_of (j := (2 : Int32)) sl382 ⟨by decide, by decide⟩
  refine Goes.step (T' := T381) (g' := (mkF m 36 #[.val (.ref x), .val (.ref b), .val (.int (2 : Int32)), .val (.int (4 : Int32)), .val (.int (1 : Int32)), .val (.ref t), .val (.int (2 : Int32)), .val (.int (1 : Int32)), .unset] [(.int c2)])) (fun t_ k_ => X381.caload hx (j := (2 : Int32)) (v := (.int c2)) (by rw [e381]; exact Ar382.1) (State.isArrayOf_alike hZ.alike Ar382.2.1) Ar382.2.2 i383 (Has.at ha382 i383 rfl) (g := (mkF m 35 #[.val (.ref x), .val (.ref b), .val (.int (2 : Int32)), .val (.int (4 : Int32)), .val (.int (1 : Int32)), .val (.ref t), .val (.int (2 : Int32)), .val (.int (1 : Int32)), .unset] [(.int (2 : Int32)), (.ref b)])) rfl rfl (hb hby d17_35) _ k_) ?_
  refine P1.istore X381.here hx #[.val (.ref x), .val (.ref b), .val (.int (2 : Int32)), .val (.int (4 : Int32)), .val (.int (1 : Int32)), .val (.ref t), .val (.int (2 : Int32)), .val (.int (1 : Int32)), .val (.int c2)] (hb hby d17_36) rfl ?_
  refine P1.iload X381.here hx (hb hby d17_38) rfl ?_
  refine Goes.callS X381 hx (y := y36_) hown (mvT hZ (own_w hw 71 rfl)) (mvT hZ (own_w hw 72 rfl)) (mvT hZ (own_w hw 73 rfl)) (mvT hZ (own_w hw 74 rfl)) (by decide) (kc' := 0) (ks' := 0) (backOf (W := 0) (rmCan l Z a0 hw [] c2 h0 n0 Z0 O0 h_c2) hZ (own_w hw 74 rfl) (own_w hw 73 rfl) (ok rfl) (ok rfl)) (g := (mkF m 40 #[.val (.ref x), .val (.ref b), .val (.int (2 : Int32)), .val (.int (4 : Int32)), .val (.int (1 : Int32)), .val (.ref t), .val (.int (2 : Int32)), .val (.int (1 : Int32)), .val (.int c2)] [(.int c2)])) rfl (by rw [hml]; rfl) (argsL := [(.int c2)]) (rest := []) (lenOf pd_657 rfl) rfl (by show 2 * 0 + _ ≤ _; exact Nat.le_of_eq rfl) (hb hby d17_40) rfl e381 (ok rfl) (ok rfl) ?_
  intro v384 T384 L384 q384 X384
  obtain ⟨rfl, N384q, hE384⟩ := q384
  have N384 := Fr.app N380 N384q
  show Goes p e below _ T384 (mkF m 43 #[.val (.ref x), .val (.ref b), .val (.int (2 : Int32)), .val (.int (4 : Int32)), .val (.int (1 : Int32)), .val (.ref t), .val (.int (2 : Int32)), .val (.int (1 : Int32)), .val (.int c2)] [(.int (1 : Int32))])
  refine P1.ifNo X384.here hx (hb hby d17_43) ((if0 _ _).trans (feq (by decide : ¬ ((1 : Int32) = (0 : Int32)))).1) ?_
  refine P1.aload X384.here hx (hb hby d17_46) rfl rfl ?_
  refine P1.iload X384.here hx (hb hby d17_48) rfl ?_
  refine Goes.step (T' := T384) (g' := (mkF m 53 #[.val (.ref x), .val (.ref b), .val (.int (2 : Int32)), .val (.int (4 : Int32)), .val (.int (1 : Int32)), .val (.ref t), .val (.int (2 : Int32)), .val (.int ((1 : Int32) + (1 : Int32))), .val (.int c2)] [(.int (1 : Int32)), (.ref t)])) (fun t_ k_ => XS.iinc X384.here hx rfl (hb hby d17_50) rfl (l' := #[.val (.ref x), .val (.ref b), .val (.int (2 : Int32)), .val (.int (4 : Int32)), .val (.int (1 : Int32)), .val (.ref t), .val (.int (2 : Int32)), .val (.int ((1 : Int32) + (1 : Int32))), .val (.int c2)]) rfl k_) ?_
  have rw385 : ((1 : Int32) + (1 : Int32)) = (2 : Int32) := by decide
  rw [rw385]
  refine P1.iload X384.here hx (hb hby d17_53) rfl ?_
  refine Goes.step (T' := T384) (g' := (mkF m 56 #[.val (.ref x), .val (.ref b), .val (.int (2 : Int32)), .val (.int (4 : Int32)), .val (.int (1 : Int32)), .val (.ref t), .val (.int (2 : Int32)), .val (.int (2 : Int32)), .val (.int c2)] [(.int (c2.toInt8.toInt32)), (.int (1 : Int32)), (.ref t)])) (fun t_ k_ => XS.i2b X384.here hx rfl (hb hby d17_55) rfl k_) ?_
  have rw386 : (c2.toInt8.toInt32) = c2 := h_c2.i2b
  rw [rw386]
  have V387 : Arv Z h0 t kt .byte (8192 : Int32) [(.int pr), (.int (0 : Int32))] (.int (0 : Int32)) := Vt.pad (pad_rep [(.int pr)] (.int (0 : Int32)) 1)
  obtain ⟨cl388, Ar388, qk388, sl388, nz388, ha388, fi388⟩ := id V387
  obtain ⟨T389, h389, X389, e389, W389, st389⟩ := stB X384 hx hZ hE384 Ar388 (j := (1 : Int32)) (inb_of sl388 ⟨by decide, by decide⟩) (g := (mkF m 56 #[.val (.ref x), .val (.ref b), .val (.int (2 : Int32)), .val (.int (4 : Int32)), .val (.int (1 : Int32)), .val (.ref t), .val (.int (2 : Int32)), .val (.int (2 : Int32)), .val (.int c2)] [(.int c2), (.int (1 : Int32)), (.ref t)])) rfl rfl (hb hby d17_56)
  rw [h_c2.nb] at W389
  have V389 : Arv Z h389 t kt .byte (8192 : Int32) [(.int pr), (.int c2)] (.int (0 : Int32)) := Arv.set Ar388 qk388 sl388 nz388 ha388 fi388 (h_c2.nb ▸ fits_nar_byte c2) W389 1 rfl (ok rfl)
  have N389 := Fr.snoc X389 N384 gt
  refine Goes.step (T' := T389) (g' := (mkF m 57 #[.val (.ref x), .val (.ref b), .val (.int (2 : Int32)), .val (.int (4 : Int32)), .val (.int (1 : Int32)), .val (.ref t), .val (.int (2 : Int32)), .val (.int (2 : Int32)), .val (.int c2)] [])) st389 ?_
  refine P1.goto X389.here hx 98 (hb hby d17_57) (by decide) (by decide) ?_
  refine Goes.step (T' := T389) (g' := (mkF m 101 #[.val (.ref x), .val (.ref b), .val (.int (2 : Int32)), .val (.int (4 : Int32)), .val (.int (1 : Int32)), .val (.ref t), .val (.int ((2 : Int32) + (1 : Int32))), .val (.int (2 : Int32)), .val (.int c2)] [])) (fun t_ k_ => XS.iinc X389.here hx rfl (hb hby d17_98) rfl (l' := #[.val (.ref x), .val (.ref b), .val (.int (2 : Int32)), .val (.int (4 : Int32)), .val (.int (1 : Int32)), .val (.ref t), .val (.int ((2 : Int32) + (1 : Int32))), .val (.int (2 : Int32)), .val (.int c2)]) rfl k_) ?_
  have rw390 : ((2 : Int32) + (1 : Int32)) = (3 : Int32) := by decide
  rw [rw390]
  refine P1.goto X389.here hx 26 (hb hby d17_101) (by decide) (by decide) ?_
  refine P1.iload X389.here hx (hb hby d17_26) rfl ?_
  refine P1.iloadN X389.here hx (hb hby d17_28) rfl ?_
  refine P1.icmpNo X389.here hx (hb hby d17_29) (tlt (by decide : (3 : Int32) < (4 : Int32))).2.1 ?_
  refine P1.aloadN X389.here hx (hb hby d17_32) rfl rfl ?_
  refine P1.iload X389.here hx (hb hby d17_33) rfl ?_
  have V391 : Arv Z h389 b kb .char (4 : Int32) [(.int c0), (.int c1), (.int c2), (.int c3)] (.int (0 : Int32)) := Vb.other W389 neb
  obtain ⟨cl392, Ar392, qk392, sl392, nz392, ha392, fi392⟩ := id V391
  have i393 := inb_of (j := (3 : Int32)) sl392 ⟨by decide, by decide⟩
  refine Goes.step (T' := T389) (g' := (mkF m 36 #[.val (.ref x), .val (.ref b), .val (.int (2 : Int32)), .val (.int (4 : Int32)), .val (.int (1 : Int32)), .val (.ref t), .val (.int (3 : Int32)), .val (.int (2 : Int32)), .val (.int c2)] [(.int c3)])) (fun t_ k_ => X389.caload hx (j := (3 : Int32)) (v := (.int c3)) (by rw [e389]; exact Ar392.1) (State.isArrayOf_alike hZ.alike Ar392.2.1) Ar392.2.2 i393 (Has.at ha392 i393 rfl) (g := (mkF m 35 #[.val (.ref x), .val (.ref b), .val (.int (2 : Int32)), .val (.int (4 : Int32)), .val (.int (1 : Int32)), .val (.ref t), .val (.int (3 : Int32)), .val (.int (2 : Int32)), .val (.int c2)] [(.int (3 : Int32)), (.ref b)])) rfl rfl (hb hby d17_35) _ k_) ?_
  refine P1.istore X389.here hx #[.val (.ref x), .val (.ref b), .val (.int (2 : Int32)), .val (.int (4 : Int32)), .val (.int (1 : Int32)), .val (.ref t), .val (.int (3 : Int32)), .val (.int (2 : Int32)), .val (.int c3)] (hb hby d17_36) rfl ?_
  refine P1.iload X389.here hx (hb hby d17_38) rfl ?_
  have Z394 : n0 ≤ h389.size := Nat.le_trans Z0 (Keep.of_wr W389).1
  have O395 : Old Z n0 h389 := O0.wr W389 gt
  refine Goes.callS X389 hx (y := y36_) hown (mvT hZ (own_w hw 71 rfl)) (mvT hZ (own_w hw 72 rfl)) (mvT hZ (own_w hw 73 rfl)) (mvT hZ (own_w hw 74 rfl)) (by decide) (kc' := 0) (ks' := 0) (backOf (W := 0) (rmCan l Z a0 hw [] c3 h389 n0 Z394 O395 h_c3) hZ (own_w hw 74 rfl) (own_w hw 73 rfl) (ok rfl) (ok rfl)) (g := (mkF m 40 #[.val (.ref x), .val (.ref b), .val (.int (2 : Int32)), .val (.int (4 : Int32)), .val (.int (1 : Int32)), .val (.ref t), .val (.int (3 : Int32)), .val (.int (2 : Int32)), .val (.int c3)] [(.int c3)])) rfl (by rw [hml]; rfl) (argsL := [(.int c3)]) (rest := []) (lenOf pd_657 rfl) rfl (by show 2 * 0 + _ ≤ _; exact Nat.le_of_eq rfl) (hb hby d17_40) rfl e389 (ok rfl) (ok rfl) ?_
  intro v396 T396 L396 q396 X396
  obtain ⟨rfl, N396q, hE396⟩ := q396
  have N396 := Fr.app N389 N396q
  show Goes p e below _ T396 (mkF m 43 #[.val (.ref x), .val (.ref b), .val (.int (2 : Int32)), .val (.int (4 : Int32)), .val (.int (1 : Int32)), .val (.ref t), .val (.int (3 : Int32)), .val (.int (2 : Int32)), .val (.int c3)] [(.int (1 : Int32))])
  refine P1.ifNo X396.here hx (hb hby d17_43) ((if0 _ _).trans (feq (by decide : ¬ ((1 : Int32) = (0 : Int32)))).1) ?_
  refine P1.aload X396.here hx (hb hby d17_46) rfl rfl ?_
  refine P1.iload X396.here hx (hb hby d17_48) rfl ?_
  refine Goes.step (T' := T396) (g' := (mkF m 53 #[.val (.ref x), .val (.ref b), .val (.int (2 : Int32)), .val (.int (4 : Int32)), .val (.int (1 : Int32)), .val (.ref t), .val (.int (3 : Int32)), .val (.int ((2 : Int32) + (1 : Int32))), .val (.int c3)] [(.int (2 : Int32)), (.ref t)])) (fun t_ k_ => XS.iinc X396.here hx rfl (hb hby d17_50) rfl (l' := #[.val (.ref x), .val (.ref b), .val (.int (2 : Int32)), .val (.int (4 : Int32)), .val (.int (1 : Int32)), .val (.ref t), .val (.int (3 : Int32)), .val (.int ((2 : Int32) + (1 : Int32))), .val (.int c3)]) rfl k_) ?_
  have rw397 : ((2 : Int32) + (1 : Int32)) = (3 : Int32) := by decide
  rw [rw397]
  refine P1.iload X396.here hx (hb hby d17_53) rfl ?_
  refine Goes.step (T' := T396) (g' := (mkF m 56 #[.val (.ref x), .val (.ref b), .val (.int (2 : Int32)), .val (.int (4 : Int32)), .val (.int (1 : Int32)), .val (.ref t), .val (.int (3 : Int32)), .val (.int (3 : Int32)), .val (.int c3)] [(.int (c3.toInt8.toInt32)), (.int (2 : Int32)), (.ref t)])) (fun t_ k_ => XS.i2b X396.here hx rfl (hb hby d17_55) rfl k_) ?_
  have rw398 : (c3.toInt8.toInt32) = c3 := h_c3.i2b
  rw [rw398]
  have V399 : Arv Z h389 t kt .byte (8192 : Int32) [(.int pr), (.int c2), (.int (0 : Int32))] (.int (0 : Int32)) := V389.pad (pad_rep [(.int pr), (.int c2)] (.int (0 : Int32)) 1)
  obtain ⟨cl400, Ar400, qk400, sl400, nz400, ha400, fi400⟩ := id V399
  obtain ⟨T401, h401, X401, e401, W401, st401⟩ := stB X396 hx hZ hE396 Ar400 (j := (2 : Int32)) (inb_of sl400 ⟨by decide, by decide⟩) (g := (mkF m 56 #[.val (.ref x), .val (.ref b), .val (.int (2 : Int32)), .val (.int (4 : Int32)), .val (.int (1 : Int32)), .val (.ref t), .val (.int (3 : Int32)), .val (.int (3 : Int32)), .val (.int c3)] [(.int c3), (.int (2 : Int32)), (.ref t)])) rfl rfl (hb hby d17_56)
  rw [h_c3.nb] at W401
  have V401 : Arv Z h401 t kt .byte (8192 : Int32) [(.int pr), (.int c2), (.int c3)] (.int (0 : Int32)) := Arv.set Ar400 qk400 sl400 nz400 ha400 fi400 (h_c3.nb ▸ fits_nar_byte c3) W401 2 rfl (ok rfl)
  have N401 := Fr.snoc X401 N396 gt
  refine Goes.step (T' := T401) (g' := (mkF m 57 #[.val (.ref x), .val (.ref b), .val (.int (2 : Int32)), .val (.int (4 : Int32)), .val (.int (1 : Int32)), .val (.ref t), .val (.int (3 : Int32)), .val (.int (3 : Int32)), .val (.int c3)] [])) st401 ?_
  refine P1.goto X401.here hx 98 (hb hby d17_57) (by decide) (by decide) ?_
  refine Goes.step (T' := T401) (g' := (mkF m 101 #[.val (.ref x), .val (.ref b), .val (.int (2 : Int32)), .val (.int (4 : Int32)), .val (.int (1 : Int32)), .val (.ref t), .val (.int ((3 : Int32) + (1 : Int32))), .val (.int (3 : Int32)), .val (.int c3)] [])) (fun t_ k_ => XS.iinc X401.here hx rfl (hb hby d17_98) rfl (l' := #[.val (.ref x), .val (.ref b), .val (.int (2 : Int32)), .val (.int (4 : Int32)), .val (.int (1 : Int32)), .val (.ref t), .val (.int ((3 : Int32) + (1 : Int32))), .val (.int (3 : Int32)), .val (.int c3)]) rfl k_) ?_
  have rw402 : ((3 : Int32) + (1 : Int32)) = (4 : Int32) := by decide
  rw [rw402]
  refine P1.goto X401.here hx 26 (hb hby d17_101) (by decide) (by decide) ?_
  refine P1.iload X401.here hx (hb hby d17_26) rfl ?_
  refine P1.iloadN X401.here hx (hb hby d17_28) rfl ?_
  refine P1.icmpYes X401.here hx 104 (hb hby d17_29) (flt (by decide : ¬ ((4 : Int32) < (4 : Int32)))).2.1 (by decide) (by decide) ?_
  refine P1.goto X401.here hx 119 (hb hby d17_104) (by decide) (by decide) ?_
  refine P1.aloadN X401.here hx (hb hby d17_119) rfl rfl ?_
  refine P1.iload X401.here hx (hb hby d17_120) rfl ?_
  refine P1.iloadN X401.here hx (hb hby d17_122) rfl ?_
  refine P1.iadd X401.here hx (hb hby d17_123) ?_
  have rw403 : ((1 : Int32) + (4 : Int32)) = (5 : Int32) := by decide
  rw [rw403]
  refine P1.iloadN X401.here hx (hb hby d17_124) rfl ?_
  refine P1.isub X401.here hx (hb hby d17_125) ?_
  have rw404 : ((5 : Int32) - (2 : Int32)) = (3 : Int32) := by decide
  rw [rw404]
  have E406 : Exa Z h389 x "java/lang/StringBuilder" := Ex.wr W389
  have E407 : Exa Z h401 x "java/lang/StringBuilder" := E406.wr W401
  have ne405 : x ≠ t := own_ne_arv E407 (own_w hw 23 rfl) V401
  have F408 : Fld Z h389 x "java/lang/AbstractStringBuilder" "count" "I" (.int (1 : Int32)) := Fn.other W389 (Or.inl ne405)
  have F409 : Fld Z h401 x "java/lang/AbstractStringBuilder" "count" "I" (.int (1 : Int32)) := F408.other W401 (Or.inl ne405)
  obtain ⟨T410, h410, X410, e410, W410, st410⟩ := putF X401 hx hZ hown (host := "") (Or.inl (own_w hw 59 rfl)) Via.refl e401 F409 E407 (Or.inl (own_w hw 60 rfl)) (own_w hw 23 rfl) (ty := .int) (by decide) rfl rfl (g := (mkF m 126 #[.val (.ref x), .val (.ref b), .val (.int (2 : Int32)), .val (.int (4 : Int32)), .val (.int (1 : Int32)), .val (.ref t), .val (.int (4 : Int32)), .val (.int (3 : Int32)), .val (.int c3)] [(.int (3 : Int32)), (.ref x)])) rfl rfl (hb hby d17_126)
  have Fw410 : Fld Z h410 x "java/lang/AbstractStringBuilder" "count" "I" (.int (3 : Int32)) := F409.same W410
  have N410 := Fr.snoc X410 N401 gx
  refine Goes.step (T' := T410) (g' := (mkF m 129 #[.val (.ref x), .val (.ref b), .val (.int (2 : Int32)), .val (.int (4 : Int32)), .val (.int (1 : Int32)), .val (.ref t), .val (.int (4 : Int32)), .val (.int (3 : Int32)), .val (.int c3)] [])) st410 ?_
  refine Goes.retV X410 hx Bd.notSynchronized Bd.returns (hb hby d17_129) (ok rfl) (ok rfl) ?_
  rw [e410]
  have K411 : Keep h0 h389 [x, t] := K0.wr W389 (Or.inl (by simp))
  have K412 : Keep h0 h401 [x, t] := K411.wr W401 (Or.inl (by simp))
  have K413 : Keep h0 h410 [x, t] := K412.wr W410 (Or.inl (by simp))
  have E414 : Exa Z h410 x "java/lang/StringBuilder" := E407.wr W410
  have F415 : Fld Z h389 x "java/lang/AbstractStringBuilder" "value" "[B" (.ref t) := Fv.other W389 (Or.inl ne405)
  have F416 : Fld Z h401 x "java/lang/AbstractStringBuilder" "value" "[B" (.ref t) := F415.other W401 (Or.inl ne405)
  have F417 : Fld Z h410 x "java/lang/AbstractStringBuilder" "value" "[B" (.ref t) := F416.other W410 (Or.inr (slot_ne (Or.inl (own_w hw 39 rfl)) (Or.inl (own_w hw 60 rfl)) (by decide) (t := (.array .byte)) (t' := .int) (by decide) (by decide)))
  have F418 : Fld Z h389 x "java/lang/AbstractStringBuilder" "coder" "B" (.int (0 : Int32)) := Fc.other W389 (Or.inl ne405)
  have F419 : Fld Z h401 x "java/lang/AbstractStringBuilder" "coder" "B" (.int (0 : Int32)) := F418.other W401 (Or.inl ne405)
  have F420 : Fld Z h410 x "java/lang/AbstractStringBuilder" "coder" "B" (.int (0 : Int32)) := F419.other W410 (Or.inr (slot_ne (Or.inl (own_w hw 41 rfl)) (Or.inl (own_w hw 60 rfl)) (by decide) (t := .byte) (t' := .int) (by decide) (by decide)))
  have V421 : Arv Z h410 t kt .byte (8192 : Int32) [(.int pr), (.int c2), (.int c3)] (.int (0 : Int32)) := V401.other W410 (Ne.symm ne405)
  exact ⟨rfl, N410, K413, E414, F417, F420, Fw410, V421⟩
theorem efAc_0_1 (x b : Addr) (m : MethodId) : entryFrame m #[(.ref x), (.ref b), (.int (0 : Int32)), (.int (1 : Int32))] 9 = mkF m 0 #[.val (.ref x), .val (.ref b), .val (.int (0 : Int32)), .val (.int (1 : Int32)), .unset, .unset, .unset, .unset, .unset] [] := by first | (simp [entryFrame, mkF, argsToLocals, Value.category]; done) | rfl
def QAc_0_1 (Z : State) (x t : Addr) (kt : ClassId) (b : Addr) (kb : ClassId) (pr c0 c1 c2 c3 zc : Int32) (fm fi : Value) (u8 : Addr) (h0 : Heap) (n0 : Nat) (v : Option Value) (h : Heap) (L : List Loc) : Prop := v = none ∧ Fr n0 L ∧ Keep h0 h [x, t] ∧ Exa Z h x "java/lang/StringBuilder" ∧ Fld Z h x "java/lang/AbstractStringBuilder" "value" "[B" (.ref t) ∧ Fld Z h x "java/lang/AbstractStringBuilder" "coder" "B" (.int (0 : Int32)) ∧ Fld Z h x "java/lang/AbstractStringBuilder" "count" "I" (.int (2 : Int32)) ∧ Arv Z h t kt .byte (8192 : Int32) [(.int pr), (.int c0)] (.int (0 : Int32))
set_option maxRecDepth 65536 in
set_option maxHeartbeats 40000000 in
theorem rmAc_0_1 (l : Launch) (Z : State) (a0 : Array Value) (hw : ∀ d ∈ tables_1, d.before a0 Z = true) (ws : List Jvm.Cond) (x t : Addr) (kt : ClassId) (b : Addr) (kb : ClassId) (pr c0 c1 c2 c3 zc : Int32) (fm fi : Value) (u8 : Addr) (h0 : Heap) (n0 : Nat) (Z0 : n0 ≤ h0.size) (O0 : Old Z n0 h0) (S_CS : Sta Z Z.heap "java/lang/String" "COMPACT_STRINGS" "Z" (.int zc)) (hzc : ¬ zc = 0) (S_FM : Sta Z Z.heap "jdk/internal/util/Preconditions" "SIOOBE_FORMATTER" "Ljava/util/function/BiFunction;" fm) (hfm : fm.isRef = true) (S_FI : Sta Z Z.heap "jdk/internal/util/Preconditions" "IOOBE_FORMATTER" "Ljava/util/function/BiFunction;" fi) (hfi : fi.isRef = true) (S_IN : Sta Z Z.heap "sun/nio/cs/UTF_8" "INSTANCE" "Lsun/nio/cs/UTF_8;" (.ref u8)) (S_U8 : Sta Z Z.heap "java/nio/charset/StandardCharsets" "UTF_8" "Ljava/nio/charset/Charset;" (.ref u8)) (gx : n0 ≤ x) (gt : n0 ≤ t) (Ex : Exa Z h0 x "java/lang/StringBuilder") (Fv : Fld Z h0 x "java/lang/AbstractStringBuilder" "value" "[B" (.ref t)) (Fc : Fld Z h0 x "java/lang/AbstractStringBuilder" "coder" "B" (.int (0 : Int32))) (Fn : Fld Z h0 x "java/lang/AbstractStringBuilder" "count" "I" (.int (1 : Int32))) (Vt : Arv Z h0 t kt .byte (8192 : Int32) [(.int pr)] (.int (0 : Int32))) (Vb : Arv Z h0 b kb .char (4 : Int32) [(.int c0), (.int c1), (.int c2), (.int c3)] (.int (0 : Int32))) (neb : b ≠ t) (h_c0 : Pr c0) (h_c1 : Pr c1) (h_c2 : Pr c2) (h_c3 : Pr c3) :
    OwnLaw l y12_ jdk_68_method_74_code 9 none ws (rR 1 0 0 12) #[(.ref x), (.ref b), (.int (0 : Int32)), (.int (1 : Int32))] Z h0 (QAc_0_1 Z x t kt b kb pr c0 c1 c2 c3 zc fm fi u8 h0 n0) := by
  refine own_enter (plainFor_of_name pn_java_lang_AbstractStringBuilder) (efAc_0_1 x b) ?_
  intro p e s m below meth c s₁ Bd hx hby hml hZ hown X0 e0
  have N0 := Fr.nil n0
  have K0 : Keep h0 h0 [] := Keep.refl _ _
  have K0 : Keep h0 h0 [x, t] := Keep.refl _ _
  refine P1.aloadN X0.here hx (hb hby d17_0) rfl rfl ?_
  obtain ⟨T422, X422, e422, st422⟩ := getF X0 hx hZ hown (host := "") (Or.inl (own_w hw 59 rfl)) Via.refl e0 Fn (g := (mkF m 1 #[.val (.ref x), .val (.ref b), .val (.int (0 : Int32)), .val (.int (1 : Int32)), .unset, .unset, .unset, .unset, .unset] [(.ref x)])) rfl rfl (hb hby d17_1)
  refine Goes.step (T' := T422) (g' := (mkF m 4 #[.val (.ref x), .val (.ref b), .val (.int (0 : Int32)), .val (.int (1 : Int32)), .unset, .unset, .unset, .unset, .unset] [(.int (1 : Int32))])) st422 ?_
  refine P1.istore X422.here hx #[.val (.ref x), .val (.ref b), .val (.int (0 : Int32)), .val (.int (1 : Int32)), .val (.int (1 : Int32)), .unset, .unset, .unset, .unset] (hb hby d17_4) rfl ?_
  refine P1.aloadN X422.here hx (hb hby d17_6) rfl rfl ?_
  refine Goes.callV X422 hx hZ (y := y16_) (z := y16_) hown (mvT hZ (own_w hw 66 rfl)) (mvT hZ (own_w hw 67 rfl)) (notFace_of_selects (args := #[]) (mvT hZ (own_w hw 69 rfl))) (mvT hZ (own_w hw 69 rfl)) (mvT hZ (own_w hw 68 rfl)) (by decide) (kc' := 0) (ks' := 0) (backOf (W := 0) (rmIl l Z a0 hw [] x zc fm fi u8 h0 n0 Z0 O0 S_CS hzc S_FM hfm S_FI hfi S_IN S_U8 Fc) hZ (own_w hw 70 rfl) (own_w hw 32 rfl) (ok rfl) (ok rfl)) (b := x) e422 Ex (g := (mkF m 7 #[.val (.ref x), .val (.ref b), .val (.int (0 : Int32)), .val (.int (1 : Int32)), .val (.int (1 : Int32)), .unset, .unset, .unset, .unset] [(.ref x)])) rfl (by rw [hml]; rfl) (argsL := []) (rest := []) (lenOf pd_392 rfl) rfl (by show 2 * 0 + _ ≤ _; exact Nat.le_of_eq rfl) (hb hby d17_7) rfl (ok rfl) (ok rfl) ?_
  intro v423 T423 L423 q423 X423
  obtain ⟨rfl, N423q, hE423⟩ := q423
  have N423 := Fr.app N0 N423q
  show Goes p e below _ T423 (mkF m 10 #[.val (.ref x), .val (.ref b), .val (.int (0 : Int32)), .val (.int (1 : Int32)), .val (.int (1 : Int32)), .unset, .unset, .unset, .unset] [(.int (1 : Int32))])
  refine P1.ifNo X423.here hx (hb hby d17_10) ((if0 _ _).trans (feq (by decide : ¬ ((1 : Int32) = (0 : Int32)))).1) ?_
  refine P1.aloadN X423.here hx (hb hby d17_13) rfl rfl ?_
  obtain ⟨T424, X424, e424, st424⟩ := getF X423 hx hZ hown (host := "") (Or.inl (own_w hw 38 rfl)) Via.refl hE423 Fv (g := (mkF m 14 #[.val (.ref x), .val (.ref b), .val (.int (0 : Int32)), .val (.int (1 : Int32)), .val (.int (1 : Int32)), .unset, .unset, .unset, .unset] [(.ref x)])) rfl rfl (hb hby d17_14)
  refine Goes.step (T' := T424) (g' := (mkF m 17 #[.val (.ref x), .val (.ref b), .val (.int (0 : Int32)), .val (.int (1 : Int32)), .val (.int (1 : Int32)), .unset, .unset, .unset, .unset] [(.ref t)])) st424 ?_
  refine P1.astore X424.here hx #[.val (.ref x), .val (.ref b), .val (.int (0 : Int32)), .val (.int (1 : Int32)), .val (.int (1 : Int32)), .val (.ref t), .unset, .unset, .unset] (hb hby d17_17) rfl rfl ?_
  refine P1.iloadN X424.here hx (hb hby d17_19) rfl ?_
  refine P1.istore X424.here hx #[.val (.ref x), .val (.ref b), .val (.int (0 : Int32)), .val (.int (1 : Int32)), .val (.int (1 : Int32)), .val (.ref t), .val (.int (0 : Int32)), .unset, .unset] (hb hby d17_20) rfl ?_
  refine P1.iload X424.here hx (hb hby d17_22) rfl ?_
  refine P1.istore X424.here hx #[.val (.ref x), .val (.ref b), .val (.int (0 : Int32)), .val (.int (1 : Int32)), .val (.int (1 : Int32)), .val (.ref t), .val (.int (0 : Int32)), .val (.int (1 : Int32)), .unset] (hb hby d17_24) rfl ?_
  refine P1.iload X424.here hx (hb hby d17_26) rfl ?_
  refine P1.iloadN X424.here hx (hb hby d17_28) rfl ?_
  refine P1.icmpNo X424.here hx (hb hby d17_29) (tlt (by decide : (0 : Int32) < (1 : Int32))).2.1 ?_
  refine P1.aloadN X424.here hx (hb hby d17_32) rfl rfl ?_
  refine P1.iload X424.here hx (hb hby d17_33) rfl ?_
  obtain ⟨cl425, Ar425, qk425, sl425, nz425, ha425, fi425⟩ := id Vb
  have i426 := inb_of (j := (0 : Int32)) sl425 ⟨by decide, by decide⟩
  refine Goes.step (T' := T424) (g' := (mkF m 36 #[.val (.ref x), .val (.ref b), .val (.int (0 : Int32)), .val (.int (1 : Int32)), .val (.int (1 : Int32)), .val (.ref t), .val (.int (0 : Int32)), .val (.int (1 : Int32)), .unset] [(.int c0)])) (fun t_ k_ => X424.caload hx (j := (0 : Int32)) (v := (.int c0)) (by rw [e424]; exact Ar425.1) (State.isArrayOf_alike hZ.alike Ar425.2.1) Ar425.2.2 i426 (Has.at ha425 i426 rfl) (g := (mkF m 35 #[.val (.ref x), .val (.ref b), .val (.int (0 : Int32)), .val (.int (1 : Int32)), .val (.int (1 : Int32)), .val (.ref t), .val (.int (0 : Int32)), .val (.int (1 : Int32)), .unset] [(.int (0 : Int32)), (.ref b)])) rfl rfl (hb hby d17_35) _ k_) ?_
  refine P1.istore X424.here hx #[.val (.ref x), .val (.ref b), .val (.int (0 : Int32)), .val (.int (1 : Int32)), .val (.int (1 : Int32)), .val (.ref t), .val (.int (0 : Int32)), .val (.int (1 : Int32)), .val (.int c0)] (hb hby d17_36) rfl ?_
  refine P1.iload X424.here hx (hb hby d17_38) rfl ?_
  refine Goes.callS X424 hx (y := y36_) hown (mvT hZ (own_w hw 71 rfl)) (mvT hZ (own_w hw 72 rfl)) (mvT hZ (own_w hw 73 rfl)) (mvT hZ (own_w hw 74 rfl)) (by decide) (kc' := 0) (ks' := 0) (backOf (W := 0) (rmCan l Z a0 hw [] c0 h0 n0 Z0 O0 h_c0) hZ (own_w hw 74 rfl) (own_w hw 73 rfl) (ok rfl) (ok rfl)) (g := (mkF m 40 #[.val (.ref x), .val (.ref b), .val (.int (0 : Int32)), .val (.int (1 : Int32)), .val (.int (1 : Int32)), .val (.ref t), .val (.int (0 : Int32)), .val (.int (1 : Int32)), .val (.int c0)] [(.int c0)])) rfl (by rw [hml]; rfl) (argsL := [(.int c0)]) (rest := []) (lenOf pd_657 rfl) rfl (by show 2 * 0 + _ ≤ _; exact Nat.le_of_eq rfl) (hb hby d17_40) rfl e424 (ok rfl) (ok rfl) ?_
  intro v427 T427 L427 q427 X427
  obtain ⟨rfl, N427q, hE427⟩ := q427
  have N427 := Fr.app N423 N427q
  show Goes p e below _ T427 (mkF m 43 #[.val (.ref x), .val (.ref b), .val (.int (0 : Int32)), .val (.int (1 : Int32)), .val (.int (1 : Int32)), .val (.ref t), .val (.int (0 : Int32)), .val (.int (1 : Int32)), .val (.int c0)] [(.int (1 : Int32))])
  refine P1.ifNo X427.here hx (hb hby d17_43) ((if0 _ _).trans (feq (by decide : ¬ ((1 : Int32) = (0 : Int32)))).1) ?_
  refine P1.aload X427.here hx (hb hby d17_46) rfl rfl ?_
  refine P1.iload X427.here hx (hb hby d17_48) rfl ?_
  refine Goes.step (T' := T427) (g' := (mkF m 53 #[.val (.ref x), .val (.ref b), .val (.int (0 : Int32)), .val (.int (1 : Int32)), .val (.int (1 : Int32)), .val (.ref t), .val (.int (0 : Int32)), .val (.int ((1 : Int32) + (1 : Int32))), .val (.int c0)] [(.int (1 : Int32)), (.ref t)])) (fun t_ k_ => XS.iinc X427.here hx rfl (hb hby d17_50) rfl (l' := #[.val (.ref x), .val (.ref b), .val (.int (0 : Int32)), .val (.int (1 : Int32)), .val (.int (1 : Int32)), .val (.ref t), .val (.int (0 : Int32)), .val (.int ((1 : Int32) + (1 : Int32))), .val (.int c0)]) rfl k_) ?_
  have rw428 : ((1 : Int32) + (1 : Int32)) = (2 : Int32) := by decide
  rw [rw428]
  refine P1.iload X427.here hx (hb hby d17_53) rfl ?_
  refine Goes.step (T' := T427) (g' := (mkF m 56 #[.val (.ref x), .val (.ref b), .val (.int (0 : Int32)), .val (.int (1 : Int32)), .val (.int (1 : Int32)), .val (.ref t), .val (.int (0 : Int32)), .val (.int (2 : Int32)), .val (.int c0)] [(.int (c0.toInt8.toInt32)), (.int (1 : Int32)), (.ref t)])) (fun t_ k_ => XS.i2b X427.here hx rfl (hb hby d17_55) rfl k_) ?_
  have rw429 : (c0.toInt8.toInt32) = c0 := h_c0.i2b
  rw [rw429]
  have V430 : Arv Z h0 t kt .byte (8192 : Int32) [(.int pr), (.int (0 : Int32))] (.int (0 : Int32)) := Vt.pad (pad_rep [(.int pr)] (.int (0 : Int32)) 1)
  obtain ⟨cl431, Ar431, qk431, sl431, nz431, ha431, fi431⟩ := id V430
  obtain ⟨T432, h432, X432, e432, W432, st432⟩ := stB X427 hx hZ hE427 Ar431 (j := (1 : Int32)) (inb_of sl431 ⟨by decide, by decide⟩) (g := (mkF m 56 #[.val (.ref x), .val (.ref b), .val (.int (0 : Int32)), .val (.int (1 : Int32)), .val (.int (1 : Int32)), .val (.ref t), .val (.int (0 : Int32)), .val (.int (2 : Int32)), .val (.int c0)] [(.int c0), (.int (1 : Int32)), (.ref t)])) rfl rfl (hb hby d17_56)
  rw [h_c0.nb] at W432
  have V432 : Arv Z h432 t kt .byte (8192 : Int32) [(.int pr), (.int c0)] (.int (0 : Int32)) := Arv.set Ar431 qk431 sl431 nz431 ha431 fi431 (h_c0.nb ▸ fits_nar_byte c0) W432 1 rfl (ok rfl)
  have N432 := Fr.snoc X432 N427 gt
  refine Goes.step (T' := T432) (g' := (mkF m 57 #[.val (.ref x), .val (.ref b), .val (.int (0 : Int32)), .val (.int (1 : Int32)), .val (.int (1 : Int32)), .val (.ref t), .val (.int (0 : Int32)), .val (.int (2 : Int32)), .val (.int c0)] [])) st432 ?_
  refine P1.goto X432.here hx 98 (hb hby d17_57) (by decide) (by decide) ?_
  refine Goes.step (T' := T432) (g' := (mkF m 101 #[.val (.ref x), .val (.ref b), .val (.int (0 : Int32)), .val (.int (1 : Int32)), .val (.int (1 : Int32)), .val (.ref t), .val (.int ((0 : Int32) + (1 : Int32))), .val (.int (2 : Int32)), .val (.int c0)] [])) (fun t_ k_ => XS.iinc X432.here hx rfl (hb hby d17_98) rfl (l' := #[.val (.ref x), .val (.ref b), .val (.int (0 : Int32)), .val (.int (1 : Int32)), .val (.int (1 : Int32)), .val (.ref t), .val (.int ((0 : Int32) + (1 : Int32))), .val (.int (2 : Int32)), .val (.int c0)]) rfl k_) ?_
  have rw433 : ((0 : Int32) + (1 : Int32)) = (1 : Int32) := by decide
  rw [rw433]
  refine P1.goto X432.here hx 26 (hb hby d17_101) (by decide) (by decide) ?_
  refine P1.iload X432.here hx (hb hby d17_26) rfl ?_
  refine P1.iloadN X432.here hx (hb hby d17_28) rfl ?_
  refine P1.icmpYes X432.here hx 104 (hb hby d17_29) (flt (by decide : ¬ ((1 : Int32) < (1 : Int32)))).2.1 (by decide) (by decide) ?_
  refine P1.goto X432.here hx 119 (hb hby d17_104) (by decide) (by decide) ?_
  refine P1.aloadN X432.here hx (hb hby d17_119) rfl rfl ?_
  refine P1.iload X432.here hx (hb hby d17_120) rfl ?_
  refine P1.iloadN X432.here hx (hb hby d17_122) rfl ?_
  refine P1.iadd X432.here hx (hb hby d17_123) ?_
  have rw434 : ((1 : Int32) + (1 : Int32)) = (2 : Int32) := by decide
  rw [rw434]
  refine P1.iloadN X432.here hx (hb hby d17_124) rfl ?_
  refine P1.isub X432.here hx (hb hby d17_125) ?_
  have rw435 : ((2 : Int32) - (0 : Int32)) = (2 : Int32) := by decide
  rw [rw435]
  have E437 : Exa Z h432 x "java/lang/StringBuilder" := Ex.wr W432
  have ne436 : x ≠ t := own_ne_arv E437 (own_w hw 23 rfl) V432
  have F438 : Fld Z h432 x "java/lang/AbstractStringBuilder" "count" "I" (.int (1 : Int32)) := Fn.other W432 (Or.inl ne436)
  obtain ⟨T439, h439, X439, e439, W439, st439⟩ := putF X432 hx hZ hown (host := "") (Or.inl (own_w hw 59 rfl)) Via.refl e432 F438 E437 (Or.inl (own_w hw 60 rfl)) (own_w hw 23 rfl) (ty := .int) (by decide) rfl rfl (g := (mkF m 126 #[.val (.ref x), .val (.ref b), .val (.int (0 : Int32)), .val (.int (1 : Int32)), .val (.int (1 : Int32)), .val (.ref t), .val (.int (1 : Int32)), .val (.int (2 : Int32)), .val (.int c0)] [(.int (2 : Int32)), (.ref x)])) rfl rfl (hb hby d17_126)
  have Fw439 : Fld Z h439 x "java/lang/AbstractStringBuilder" "count" "I" (.int (2 : Int32)) := F438.same W439
  have N439 := Fr.snoc X439 N432 gx
  refine Goes.step (T' := T439) (g' := (mkF m 129 #[.val (.ref x), .val (.ref b), .val (.int (0 : Int32)), .val (.int (1 : Int32)), .val (.int (1 : Int32)), .val (.ref t), .val (.int (1 : Int32)), .val (.int (2 : Int32)), .val (.int c0)] [])) st439 ?_
  refine Goes.retV X439 hx Bd.notSynchronized Bd.returns (hb hby d17_129) (ok rfl) (ok rfl) ?_
  rw [e439]
  have K440 : Keep h0 h432 [x, t] := K0.wr W432 (Or.inl (by simp))
  have K441 : Keep h0 h439 [x, t] := K440.wr W439 (Or.inl (by simp))
  have E442 : Exa Z h439 x "java/lang/StringBuilder" := E437.wr W439
  have F443 : Fld Z h432 x "java/lang/AbstractStringBuilder" "value" "[B" (.ref t) := Fv.other W432 (Or.inl ne436)
  have F444 : Fld Z h439 x "java/lang/AbstractStringBuilder" "value" "[B" (.ref t) := F443.other W439 (Or.inr (slot_ne (Or.inl (own_w hw 39 rfl)) (Or.inl (own_w hw 60 rfl)) (by decide) (t := (.array .byte)) (t' := .int) (by decide) (by decide)))
  have F445 : Fld Z h432 x "java/lang/AbstractStringBuilder" "coder" "B" (.int (0 : Int32)) := Fc.other W432 (Or.inl ne436)
  have F446 : Fld Z h439 x "java/lang/AbstractStringBuilder" "coder" "B" (.int (0 : Int32)) := F445.other W439 (Or.inr (slot_ne (Or.inl (own_w hw 41 rfl)) (Or.inl (own_w hw 60 rfl)) (by decide) (t := .byte) (t' := .int) (by decide) (by decide)))
  have V447 : Arv Z h439 t kt .byte (8192 : Int32) [(.int pr), (.int c0)] (.int (0 : Int32)) := V432.other W439 (Ne.symm ne436)
  exact ⟨rfl, N439, K441, E442, F444, F446, Fw439, V447⟩
theorem efAc_1_1 (x b : Addr) (m : MethodId) : entryFrame m #[(.ref x), (.ref b), (.int (1 : Int32)), (.int (2 : Int32))] 9 = mkF m 0 #[.val (.ref x), .val (.ref b), .val (.int (1 : Int32)), .val (.int (2 : Int32)), .unset, .unset, .unset, .unset, .unset] [] := by first | (simp [entryFrame, mkF, argsToLocals, Value.category]; done) | rfl
def QAc_1_1 (Z : State) (x t : Addr) (kt : ClassId) (b : Addr) (kb : ClassId) (pr c0 c1 c2 c3 zc : Int32) (fm fi : Value) (u8 : Addr) (h0 : Heap) (n0 : Nat) (v : Option Value) (h : Heap) (L : List Loc) : Prop := v = none ∧ Fr n0 L ∧ Keep h0 h [x, t] ∧ Exa Z h x "java/lang/StringBuilder" ∧ Fld Z h x "java/lang/AbstractStringBuilder" "value" "[B" (.ref t) ∧ Fld Z h x "java/lang/AbstractStringBuilder" "coder" "B" (.int (0 : Int32)) ∧ Fld Z h x "java/lang/AbstractStringBuilder" "count" "I" (.int (2 : Int32)) ∧ Arv Z h t kt .byte (8192 : Int32) [(.int pr), (.int c1)] (.int (0 : Int32))
set_option maxRecDepth 65536 in
set_option maxHeartbeats 40000000 in
theorem rmAc_1_1 (l : Launch) (Z : State) (a0 : Array Value) (hw : ∀ d ∈ tables_1, d.before a0 Z = true) (ws : List Jvm.Cond) (x t : Addr) (kt : ClassId) (b : Addr) (kb : ClassId) (pr c0 c1 c2 c3 zc : Int32) (fm fi : Value) (u8 : Addr) (h0 : Heap) (n0 : Nat) (Z0 : n0 ≤ h0.size) (O0 : Old Z n0 h0) (S_CS : Sta Z Z.heap "java/lang/String" "COMPACT_STRINGS" "Z" (.int zc)) (hzc : ¬ zc = 0) (S_FM : Sta Z Z.heap "jdk/internal/util/Preconditions" "SIOOBE_FORMATTER" "Ljava/util/function/BiFunction;" fm) (hfm : fm.isRef = true) (S_FI : Sta Z Z.heap "jdk/internal/util/Preconditions" "IOOBE_FORMATTER" "Ljava/util/function/BiFunction;" fi) (hfi : fi.isRef = true) (S_IN : Sta Z Z.heap "sun/nio/cs/UTF_8" "INSTANCE" "Lsun/nio/cs/UTF_8;" (.ref u8)) (S_U8 : Sta Z Z.heap "java/nio/charset/StandardCharsets" "UTF_8" "Ljava/nio/charset/Charset;" (.ref u8)) (gx : n0 ≤ x) (gt : n0 ≤ t) (Ex : Exa Z h0 x "java/lang/StringBuilder") (Fv : Fld Z h0 x "java/lang/AbstractStringBuilder" "value" "[B" (.ref t)) (Fc : Fld Z h0 x "java/lang/AbstractStringBuilder" "coder" "B" (.int (0 : Int32))) (Fn : Fld Z h0 x "java/lang/AbstractStringBuilder" "count" "I" (.int (1 : Int32))) (Vt : Arv Z h0 t kt .byte (8192 : Int32) [(.int pr)] (.int (0 : Int32))) (Vb : Arv Z h0 b kb .char (4 : Int32) [(.int c0), (.int c1), (.int c2), (.int c3)] (.int (0 : Int32))) (neb : b ≠ t) (h_c0 : Pr c0) (h_c1 : Pr c1) (h_c2 : Pr c2) (h_c3 : Pr c3) :
    OwnLaw l y12_ jdk_68_method_74_code 9 none ws (rR 1 0 0 12) #[(.ref x), (.ref b), (.int (1 : Int32)), (.int (2 : Int32))] Z h0 (QAc_1_1 Z x t kt b kb pr c0 c1 c2 c3 zc fm fi u8 h0 n0) := by
  refine own_enter (plainFor_of_name pn_java_lang_AbstractStringBuilder) (efAc_1_1 x b) ?_
  intro p e s m below meth c s₁ Bd hx hby hml hZ hown X0 e0
  have N0 := Fr.nil n0
  have K0 : Keep h0 h0 [] := Keep.refl _ _
  have K0 : Keep h0 h0 [x, t] := Keep.refl _ _
  refine P1.aloadN X0.here hx (hb hby d17_0) rfl rfl ?_
  obtain ⟨T448, X448, e448, st448⟩ := getF X0 hx hZ hown (host := "") (Or.inl (own_w hw 59 rfl)) Via.refl e0 Fn (g := (mkF m 1 #[.val (.ref x), .val (.ref b), .val (.int (1 : Int32)), .val (.int (2 : Int32)), .unset, .unset, .unset, .unset, .unset] [(.ref x)])) rfl rfl (hb hby d17_1)
  refine Goes.step (T' := T448) (g' := (mkF m 4 #[.val (.ref x), .val (.ref b), .val (.int (1 : Int32)), .val (.int (2 : Int32)), .unset, .unset, .unset, .unset, .unset] [(.int (1 : Int32))])) st448 ?_
  refine P1.istore X448.here hx #[.val (.ref x), .val (.ref b), .val (.int (1 : Int32)), .val (.int (2 : Int32)), .val (.int (1 : Int32)), .unset, .unset, .unset, .unset] (hb hby d17_4) rfl ?_
  refine P1.aloadN X448.here hx (hb hby d17_6) rfl rfl ?_
  refine Goes.callV X448 hx hZ (y := y16_) (z := y16_) hown (mvT hZ (own_w hw 66 rfl)) (mvT hZ (own_w hw 67 rfl)) (notFace_of_selects (args := #[]) (mvT hZ (own_w hw 69 rfl))) (mvT hZ (own_w hw 69 rfl)) (mvT hZ (own_w hw 68 rfl)) (by decide) (kc' := 0) (ks' := 0) (backOf (W := 0) (rmIl l Z a0 hw [] x zc fm fi u8 h0 n0 Z0 O0 S_CS hzc S_FM hfm S_FI hfi S_IN S_U8 Fc) hZ (own_w hw 70 rfl) (own_w hw 32 rfl) (ok rfl) (ok rfl)) (b := x) e448 Ex (g := (mkF m 7 #[.val (.ref x), .val (.ref b), .val (.int (1 : Int32)), .val (.int (2 : Int32)), .val (.int (1 : Int32)), .unset, .unset, .unset, .unset] [(.ref x)])) rfl (by rw [hml]; rfl) (argsL := []) (rest := []) (lenOf pd_392 rfl) rfl (by show 2 * 0 + _ ≤ _; exact Nat.le_of_eq rfl) (hb hby d17_7) rfl (ok rfl) (ok rfl) ?_
  intro v449 T449 L449 q449 X449
  obtain ⟨rfl, N449q, hE449⟩ := q449
  have N449 := Fr.app N0 N449q
  show Goes p e below _ T449 (mkF m 10 #[.val (.ref x), .val (.ref b), .val (.int (1 : Int32)), .val (.int (2 : Int32)), .val (.int (1 : Int32)), .unset, .unset, .unset, .unset] [(.int (1 : Int32))])
  refine P1.ifNo X449.here hx (hb hby d17_10) ((if0 _ _).trans (feq (by decide : ¬ ((1 : Int32) = (0 : Int32)))).1) ?_
  refine P1.aloadN X449.here hx (hb hby d17_13) rfl rfl ?_
  obtain ⟨T450, X450, e450, st450⟩ := getF X449 hx hZ hown (host := "") (Or.inl (own_w hw 38 rfl)) Via.refl hE449 Fv (g := (mkF m 14 #[.val (.ref x), .val (.ref b), .val (.int (1 : Int32)), .val (.int (2 : Int32)), .val (.int (1 : Int32)), .unset, .unset, .unset, .unset] [(.ref x)])) rfl rfl (hb hby d17_14)
  refine Goes.step (T' := T450) (g' := (mkF m 17 #[.val (.ref x), .val (.ref b), .val (.int (1 : Int32)), .val (.int (2 : Int32)), .val (.int (1 : Int32)), .unset, .unset, .unset, .unset] [(.ref t)])) st450 ?_
  refine P1.astore X450.here hx #[.val (.ref x), .val (.ref b), .val (.int (1 : Int32)), .val (.int (2 : Int32)), .val (.int (1 : Int32)), .val (.ref t), .unset, .unset, .unset] (hb hby d17_17) rfl rfl ?_
  refine P1.iloadN X450.here hx (hb hby d17_19) rfl ?_
  refine P1.istore X450.here hx #[.val (.ref x), .val (.ref b), .val (.int (1 : Int32)), .val (.int (2 : Int32)), .val (.int (1 : Int32)), .val (.ref t), .val (.int (1 : Int32)), .unset, .unset] (hb hby d17_20) rfl ?_
  refine P1.iload X450.here hx (hb hby d17_22) rfl ?_
  refine P1.istore X450.here hx #[.val (.ref x), .val (.ref b), .val (.int (1 : Int32)), .val (.int (2 : Int32)), .val (.int (1 : Int32)), .val (.ref t), .val (.int (1 : Int32)), .val (.int (1 : Int32)), .unset] (hb hby d17_24) rfl ?_
  refine P1.iload X450.here hx (hb hby d17_26) rfl ?_
  refine P1.iloadN X450.here hx (hb hby d17_28) rfl ?_
  refine P1.icmpNo X450.here hx (hb hby d17_29) (tlt (by decide : (1 : Int32) < (2 : Int32))).2.1 ?_
  refine P1.aloadN X450.here hx (hb hby d17_32) rfl rfl ?_
  refine P1.iload X450.here hx (hb hby d17_33) rfl ?_
  obtain ⟨cl451, Ar451, qk451, sl451, nz451, ha451, fi451⟩ := id Vb
  have i452 := inb_of (j := (1 : Int32)) sl451 ⟨by decide, by decide⟩
  refine Goes.step (T' := T450) (g' := (mkF m 36 #[.val (.ref x), .val (.ref b), .val (.int (1 : Int32)), .val (.int (2 : Int32)), .val (.int (1 : Int32)), .val (.ref t), .val (.int (1 : Int32)), .val (.int (1 : Int32)), .unset] [(.int c1)])) (fun t_ k_ => X450.caload hx (j := (1 : Int32)) (v := (.int c1)) (by rw [e450]; exact Ar451.1) (State.isArrayOf_alike hZ.alike Ar451.2.1) Ar451.2.2 i452 (Has.at ha451 i452 rfl) (g := (mkF m 35 #[.val (.ref x), .val (.ref b), .val (.int (1 : Int32)), .val (.int (2 : Int32)), .val (.int (1 : Int32)), .val (.ref t), .val (.int (1 : Int32)), .val (.int (1 : Int32)), .unset] [(.int (1 : Int32)), (.ref b)])) rfl rfl (hb hby d17_35) _ k_) ?_
  refine P1.istore X450.here hx #[.val (.ref x), .val (.ref b), .val (.int (1 : Int32)), .val (.int (2 : Int32)), .val (.int (1 : Int32)), .val (.ref t), .val (.int (1 : Int32)), .val (.int (1 : Int32)), .val (.int c1)] (hb hby d17_36) rfl ?_
  refine P1.iload X450.here hx (hb hby d17_38) rfl ?_
  refine Goes.callS X450 hx (y := y36_) hown (mvT hZ (own_w hw 71 rfl)) (mvT hZ (own_w hw 72 rfl)) (mvT hZ (own_w hw 73 rfl)) (mvT hZ (own_w hw 74 rfl)) (by decide) (kc' := 0) (ks' := 0) (backOf (W := 0) (rmCan l Z a0 hw [] c1 h0 n0 Z0 O0 h_c1) hZ (own_w hw 74 rfl) (own_w hw 73 rfl) (ok rfl) (ok rfl)) (g := (mkF m 40 #[.val (.ref x), .val (.ref b), .val (.int (1 : Int32)), .val (.int (2 : Int32)), .val (.int (1 : Int32)), .val (.ref t), .val (.int (1 : Int32)), .val (.int (1 : Int32)), .val (.int c1)] [(.int c1)])) rfl (by rw [hml]; rfl) (argsL := [(.int c1)]) (rest := []) (lenOf pd_657 rfl) rfl (by show 2 * 0 + _ ≤ _; exact Nat.le_of_eq rfl) (hb hby d17_40) rfl e450 (ok rfl) (ok rfl) ?_
  intro v453 T453 L453 q453 X453
  obtain ⟨rfl, N453q, hE453⟩ := q453
  have N453 := Fr.app N449 N453q
  show Goes p e below _ T453 (mkF m 43 #[.val (.ref x), .val (.ref b), .val (.int (1 : Int32)), .val (.int (2 : Int32)), .val (.int (1 : Int32)), .val (.ref t), .val (.int (1 : Int32)), .val (.int (1 : Int32)), .val (.int c1)] [(.int (1 : Int32))])
  refine P1.ifNo X453.here hx (hb hby d17_43) ((if0 _ _).trans (feq (by decide : ¬ ((1 : Int32) = (0 : Int32)))).1) ?_
  refine P1.aload X453.here hx (hb hby d17_46) rfl rfl ?_
  refine P1.iload X453.here hx (hb hby d17_48) rfl ?_
  refine Goes.step (T' := T453) (g' := (mkF m 53 #[.val (.ref x), .val (.ref b), .val (.int (1 : Int32)), .val (.int (2 : Int32)), .val (.int (1 : Int32)), .val (.ref t), .val (.int (1 : Int32)), .val (.int ((1 : Int32) + (1 : Int32))), .val (.int c1)] [(.int (1 : Int32)), (.ref t)])) (fun t_ k_ => XS.iinc X453.here hx rfl (hb hby d17_50) rfl (l' := #[.val (.ref x), .val (.ref b), .val (.int (1 : Int32)), .val (.int (2 : Int32)), .val (.int (1 : Int32)), .val (.ref t), .val (.int (1 : Int32)), .val (.int ((1 : Int32) + (1 : Int32))), .val (.int c1)]) rfl k_) ?_
  have rw454 : ((1 : Int32) + (1 : Int32)) = (2 : Int32) := by decide
  rw [rw454]
  refine P1.iload X453.here hx (hb hby d17_53) rfl ?_
  refine Goes.step (T' := T453) (g' := (mkF m 56 #[.val (.ref x), .val (.ref b), .val (.int (1 : Int32)), .val (.int (2 : Int32)), .val (.int (1 : Int32)), .val (.ref t), .val (.int (1 : Int32)), .val (.int (2 : Int32)), .val (.int c1)] [(.int (c1.toInt8.toInt32)), (.int (1 : Int32)), (.ref t)])) (fun t_ k_ => XS.i2b X453.here hx rfl (hb hby d17_55) rfl k_) ?_
  have rw455 : (c1.toInt8.toInt32) = c1 := h_c1.i2b
  rw [rw455]
  have V456 : Arv Z h0 t kt .byte (8192 : Int32) [(.int pr), (.int (0 : Int32))] (.int (0 : Int32)) := Vt.pad (pad_rep [(.int pr)] (.int (0 : Int32)) 1)
  obtain ⟨cl457, Ar457, qk457, sl457, nz457, ha457, fi457⟩ := id V456
  obtain ⟨T458, h458, X458, e458, W458, st458⟩ := stB X453 hx hZ hE453 Ar457 (j := (1 : Int32)) (inb_of sl457 ⟨by decide, by decide⟩) (g := (mkF m 56 #[.val (.ref x), .val (.ref b), .val (.int (1 : Int32)), .val (.int (2 : Int32)), .val (.int (1 : Int32)), .val (.ref t), .val (.int (1 : Int32)), .val (.int (2 : Int32)), .val (.int c1)] [(.int c1), (.int (1 : Int32)), (.ref t)])) rfl rfl (hb hby d17_56)
  rw [h_c1.nb] at W458
  have V458 : Arv Z h458 t kt .byte (8192 : Int32) [(.int pr), (.int c1)] (.int (0 : Int32)) := Arv.set Ar457 qk457 sl457 nz457 ha457 fi457 (h_c1.nb ▸ fits_nar_byte c1) W458 1 rfl (ok rfl)
  have N458 := Fr.snoc X458 N453 gt
  refine Goes.step (T' := T458) (g' := (mkF m 57 #[.val (.ref x), .val (.ref b), .val (.int (1 : Int32)), .val (.int (2 : Int32)), .val (.int (1 : Int32)), .val (.ref t), .val (.int (1 : Int32)), .val (.int (2 : Int32)), .val (.int c1)] [])) st458 ?_
  refine P1.goto X458.here hx 98 (hb hby d17_57) (by decide) (by decide) ?_
  refine Goes.step (T' := T458) (g' := (mkF m 101 #[.val (.ref x), .val (.ref b), .val (.int (1 : Int32)), .val (.int (2 : Int32)), .val (.int (1 : Int32)), .val (.ref t), .val (.int ((1 : Int32) + (1 : Int32))), .val (.int (2 : Int32)), .val (.int c1)] [])) (fun t_ k_ => XS.iinc X458.here hx rfl (hb hby d17_98) rfl (l' := #[.val (.ref x), .val (.ref b), .val (.int (1 : Int32)), .val (.int (2 : Int32)), .val (.int (1 : Int32)), .val (.ref t), .val (.int ((1 : Int32) + (1 : Int32))), .val (.int (2 : Int32)), .val (.int c1)]) rfl k_) ?_
  have rw459 : ((1 : Int32) + (1 : Int32)) = (2 : Int32) := by decide
  rw [rw459]
  refine P1.goto X458.here hx 26 (hb hby d17_101) (by decide) (by decide) ?_
  refine P1.iload X458.here hx (hb hby d17_26) rfl ?_
  refine P1.iloadN X458.here hx (hb hby d17_28) rfl ?_
  refine P1.icmpYes X458.here hx 104 (hb hby d17_29) (flt (by decide : ¬ ((2 : Int32) < (2 : Int32)))).2.1 (by decide) (by decide) ?_
  refine P1.goto X458.here hx 119 (hb hby d17_104) (by decide) (by decide) ?_
  refine P1.aloadN X458.here hx (hb hby d17_119) rfl rfl ?_
  refine P1.iload X458.here hx (hb hby d17_120) rfl ?_
  refine P1.iloadN X458.here hx (hb hby d17_122) rfl ?_
  refine P1.iadd X458.here hx (hb hby d17_123) ?_
  have rw460 : ((1 : Int32) + (2 : Int32)) = (3 : Int32) := by decide
  rw [rw460]
  refine P1.iloadN X458.here hx (hb hby d17_124) rfl ?_
  refine P1.isub X458.here hx (hb hby d17_125) ?_
  have rw461 : ((3 : Int32) - (1 : Int32)) = (2 : Int32) := by decide
  rw [rw461]
  have E463 : Exa Z h458 x "java/lang/StringBuilder" := Ex.wr W458
  have ne462 : x ≠ t := own_ne_arv E463 (own_w hw 23 rfl) V458
  have F464 : Fld Z h458 x "java/lang/AbstractStringBuilder" "count" "I" (.int (1 : Int32)) := Fn.other W458 (Or.inl ne462)
  obtain ⟨T465, h465, X465, e465, W465, st465⟩ := putF X458 hx hZ hown (host := "") (Or.inl (own_w hw 59 rfl)) Via.refl e458 F464 E463 (Or.inl (own_w hw 60 rfl)) (own_w hw 23 rfl) (ty := .int) (by decide) rfl rfl (g := (mkF m 126 #[.val (.ref x), .val (.ref b), .val (.int (1 : Int32)), .val (.int (2 : Int32)), .val (.int (1 : Int32)), .val (.ref t), .val (.int (2 : Int32)), .val (.int (2 : Int32)), .val (.int c1)] [(.int (2 : Int32)), (.ref x)])) rfl rfl (hb hby d17_126)
  have Fw465 : Fld Z h465 x "java/lang/AbstractStringBuilder" "count" "I" (.int (2 : Int32)) := F464.same W465
  have N465 := Fr.snoc X465 N458 gx
  refine Goes.step (T' := T465) (g' := (mkF m 129 #[.val (.ref x), .val (.ref b), .val (.int (1 : Int32)), .val (.int (2 : Int32)), .val (.int (1 : Int32)), .val (.ref t), .val (.int (2 : Int32)), .val (.int (2 : Int32)), .val (.int c1)] [])) st465 ?_
  refine Goes.retV X465 hx Bd.notSynchronized Bd.returns (hb hby d17_129) (ok rfl) (ok rfl) ?_
  rw [e465]
  have K466 : Keep h0 h458 [x, t] := K0.wr W458 (Or.inl (by simp))
  have K467 : Keep h0 h465 [x, t] := K466.wr W465 (Or.inl (by simp))
  have E468 : Exa Z h465 x "java/lang/StringBuilder" := E463.wr W465
  have F469 : Fld Z h458 x "java/lang/AbstractStringBuilder" "value" "[B" (.ref t) := Fv.other W458 (Or.inl ne462)
  have F470 : Fld Z h465 x "java/lang/AbstractStringBuilder" "value" "[B" (.ref t) := F469.other W465 (Or.inr (slot_ne (Or.inl (own_w hw 39 rfl)) (Or.inl (own_w hw 60 rfl)) (by decide) (t := (.array .byte)) (t' := .int) (by decide) (by decide)))
  have F471 : Fld Z h458 x "java/lang/AbstractStringBuilder" "coder" "B" (.int (0 : Int32)) := Fc.other W458 (Or.inl ne462)
  have F472 : Fld Z h465 x "java/lang/AbstractStringBuilder" "coder" "B" (.int (0 : Int32)) := F471.other W465 (Or.inr (slot_ne (Or.inl (own_w hw 41 rfl)) (Or.inl (own_w hw 60 rfl)) (by decide) (t := .byte) (t' := .int) (by decide) (by decide)))
  have V473 : Arv Z h465 t kt .byte (8192 : Int32) [(.int pr), (.int c1)] (.int (0 : Int32)) := V458.other W465 (Ne.symm ne462)
  exact ⟨rfl, N465, K467, E468, F470, F472, Fw465, V473⟩
theorem efAc_2_1 (x b : Addr) (m : MethodId) : entryFrame m #[(.ref x), (.ref b), (.int (2 : Int32)), (.int (3 : Int32))] 9 = mkF m 0 #[.val (.ref x), .val (.ref b), .val (.int (2 : Int32)), .val (.int (3 : Int32)), .unset, .unset, .unset, .unset, .unset] [] := by first | (simp [entryFrame, mkF, argsToLocals, Value.category]; done) | rfl
def QAc_2_1 (Z : State) (x t : Addr) (kt : ClassId) (b : Addr) (kb : ClassId) (pr c0 c1 c2 c3 zc : Int32) (fm fi : Value) (u8 : Addr) (h0 : Heap) (n0 : Nat) (v : Option Value) (h : Heap) (L : List Loc) : Prop := v = none ∧ Fr n0 L ∧ Keep h0 h [x, t] ∧ Exa Z h x "java/lang/StringBuilder" ∧ Fld Z h x "java/lang/AbstractStringBuilder" "value" "[B" (.ref t) ∧ Fld Z h x "java/lang/AbstractStringBuilder" "coder" "B" (.int (0 : Int32)) ∧ Fld Z h x "java/lang/AbstractStringBuilder" "count" "I" (.int (2 : Int32)) ∧ Arv Z h t kt .byte (8192 : Int32) [(.int pr), (.int c2)] (.int (0 : Int32))
set_option maxRecDepth 65536 in
set_option maxHeartbeats 40000000 in
theorem rmAc_2_1 (l : Launch) (Z : State) (a0 : Array Value) (hw : ∀ d ∈ tables_1, d.before a0 Z = true) (ws : List Jvm.Cond) (x t : Addr) (kt : ClassId) (b : Addr) (kb : ClassId) (pr c0 c1 c2 c3 zc : Int32) (fm fi : Value) (u8 : Addr) (h0 : Heap) (n0 : Nat) (Z0 : n0 ≤ h0.size) (O0 : Old Z n0 h0) (S_CS : Sta Z Z.heap "java/lang/String" "COMPACT_STRINGS" "Z" (.int zc)) (hzc : ¬ zc = 0) (S_FM : Sta Z Z.heap "jdk/internal/util/Preconditions" "SIOOBE_FORMATTER" "Ljava/util/function/BiFunction;" fm) (hfm : fm.isRef = true) (S_FI : Sta Z Z.heap "jdk/internal/util/Preconditions" "IOOBE_FORMATTER" "Ljava/util/function/BiFunction;" fi) (hfi : fi.isRef = true) (S_IN : Sta Z Z.heap "sun/nio/cs/UTF_8" "INSTANCE" "Lsun/nio/cs/UTF_8;" (.ref u8)) (S_U8 : Sta Z Z.heap "java/nio/charset/StandardCharsets" "UTF_8" "Ljava/nio/charset/Charset;" (.ref u8)) (gx : n0 ≤ x) (gt : n0 ≤ t) (Ex : Exa Z h0 x "java/lang/StringBuilder") (Fv : Fld Z h0 x "java/lang/AbstractStringBuilder" "value" "[B" (.ref t)) (Fc : Fld Z h0 x "java/lang/AbstractStringBuilder" "coder" "B" (.int (0 : Int32))) (Fn : Fld Z h0 x "java/lang/AbstractStringBuilder" "count" "I" (.int (1 : Int32))) (Vt : Arv Z h0 t kt .byte (8192 : Int32) [(.int pr)] (.int (0 : Int32))) (Vb : Arv Z h0 b kb .char (4 : Int32) [(.int c0), (.int c1), (.int c2), (.int c3)] (.int (0 : Int32))) (neb : b ≠ t) (h_c0 : Pr c0) (h_c1 : Pr c1) (h_c2 : Pr c2) (h_c3 : Pr c3) :
    OwnLaw l y12_ jdk_68_method_74_code 9 none ws (rR 1 0 0 12) #[(.ref x), (.ref b), (.int (2 : Int32)), (.int (3 : Int32))] Z h0 (QAc_2_1 Z x t kt b kb pr c0 c1 c2 c3 zc fm fi u8 h0 n0) := by
  refine own_enter (plainFor_of_name pn_java_lang_AbstractStringBuilder) (efAc_2_1 x b) ?_
  intro p e s m below meth c s₁ Bd hx hby hml hZ hown X0 e0
  have N0 := Fr.nil n0
  have K0 : Keep h0 h0 [] := Keep.refl _ _
  have K0 : Keep h0 h0 [x, t] := Keep.refl _ _
  refine P1.aloadN X0.here hx (hb hby d17_0) rfl rfl ?_
  obtain ⟨T474, X474, e474, st474⟩ := getF X0 hx hZ hown (host := "") (Or.inl (own_w hw 59 rfl)) Via.refl e0 Fn (g := (mkF m 1 #[.val (.ref x), .val (.ref b), .val (.int (2 : Int32)), .val (.int (3 : Int32)), .unset, .unset, .unset, .unset, .unset] [(.ref x)])) rfl rfl (hb hby d17_1)
  refine Goes.step (T' := T474) (g' := (mkF m 4 #[.val (.ref x), .val (.ref b), .val (.int (2 : Int32)), .val (.int (3 : Int32)), .unset, .unset, .unset, .unset, .unset] [(.int (1 : Int32))])) st474 ?_
  refine P1.istore X474.here hx #[.val (.ref x), .val (.ref b), .val (.int (2 : Int32)), .val (.int (3 : Int32)), .val (.int (1 : Int32)), .unset, .unset, .unset, .unset] (hb hby d17_4) rfl ?_
  refine P1.aloadN X474.here hx (hb hby d17_6) rfl rfl ?_
  refine Goes.callV X474 hx hZ (y := y16_) (z := y16_) hown (mvT hZ (own_w hw 66 rfl)) (mvT hZ (own_w hw 67 rfl)) (notFace_of_selects (args := #[]) (mvT hZ (own_w hw 69 rfl))) (mvT hZ (own_w hw 69 rfl)) (mvT hZ (own_w hw 68 rfl)) (by decide) (kc' := 0) (ks' := 0) (backOf (W := 0) (rmIl l Z a0 hw [] x zc fm fi u8 h0 n0 Z0 O0 S_CS hzc S_FM hfm S_FI hfi S_IN S_U8 Fc) hZ (own_w hw 70 rfl) (own_w hw 32 rfl) (ok rfl) (ok rfl)) (b := x) e474 Ex (g := (mkF m 7 #[.val (.ref x), .val (.ref b), .val (.int (2 : Int32)), .val (.int (3 : Int32)), .val (.int (1 : Int32)), .unset, .unset, .unset, .unset] [(.ref x)])) rfl (by rw [hml]; rfl) (argsL := []) (rest := []) (lenOf pd_392 rfl) rfl (by show 2 * 0 + _ ≤ _; exact Nat.le_of_eq rfl) (hb hby d17_7) rfl (ok rfl) (ok rfl) ?_
  intro v475 T475 L475 q475 X475
  obtain ⟨rfl, N475q, hE475⟩ := q475
  have N475 := Fr.app N0 N475q
  show Goes p e below _ T475 (mkF m 10 #[.val (.ref x), .val (.ref b), .val (.int (2 : Int32)), .val (.int (3 : Int32)), .val (.int (1 : Int32)), .unset, .unset, .unset, .unset] [(.int (1 : Int32))])
  refine P1.ifNo X475.here hx (hb hby d17_10) ((if0 _ _).trans (feq (by decide : ¬ ((1 : Int32) = (0 : Int32)))).1) ?_
  refine P1.aloadN X475.here hx (hb hby d17_13) rfl rfl ?_
  obtain ⟨T476, X476, e476, st476⟩ := getF X475 hx hZ hown (host := "") (Or.inl (own_w hw 38 rfl)) Via.refl hE475 Fv (g := (mkF m 14 #[.val (.ref x), .val (.ref b), .val (.int (2 : Int32)), .val (.int (3 : Int32)), .val (.int (1 : Int32)), .unset, .unset, .unset, .unset] [(.ref x)])) rfl rfl (hb hby d17_14)
  refine Goes.step (T' := T476) (g' := (mkF m 17 #[.val (.ref x), .val (.ref b), .val (.int (2 : Int32)), .val (.int (3 : Int32)), .val (.int (1 : Int32)), .unset, .unset, .unset, .unset] [(.ref t)])) st476 ?_
  refine P1.astore X476.here hx #[.val (.ref x), .val (.ref b), .val (.int (2 : Int32)), .val (.int (3 : Int32)), .val (.int (1 : Int32)), .val (.ref t), .unset, .unset, .unset] (hb hby d17_17) rfl rfl ?_
  refine P1.iloadN X476.here hx (hb hby d17_19) rfl ?_
  refine P1.istore X476.here hx #[.val (.ref x), .val (.ref b), .val (.int (2 : Int32)), .val (.int (3 : Int32)), .val (.int (1 : Int32)), .val (.ref t), .val (.int (2 : Int32)), .unset, .unset] (hb hby d17_20) rfl ?_
  refine P1.iload X476.here hx (hb hby d17_22) rfl ?_
  refine P1.istore X476.here hx #[.val (.ref x), .val (.ref b), .val (.int (2 : Int32)), .val (.int (3 : Int32)), .val (.int (1 : Int32)), .val (.ref t), .val (.int (2 : Int32)), .val (.int (1 : Int32)), .unset] (hb hby d17_24) rfl ?_
  refine P1.iload X476.here hx (hb hby d17_26) rfl ?_
  refine P1.iloadN X476.here hx (hb hby d17_28) rfl ?_
  refine P1.icmpNo X476.here hx (hb hby d17_29) (tlt (by decide : (2 : Int32) < (3 : Int32))).2.1 ?_
  refine P1.aloadN X476.here hx (hb hby d17_32) rfl rfl ?_
  refine P1.iload X476.here hx (hb hby d17_33) rfl ?_
  obtain ⟨cl477, Ar477, qk477, sl477, nz477, ha477, fi477⟩ := id Vb
  have i478 := inb_of (j := (2 : Int32)) sl477 ⟨by decide, by decide⟩
  refine Goes.step (T' := T476) (g' := (mkF m 36 #[.val (.ref x), .val (.ref b), .val (.int (2 : Int32)), .val (.int (3 : Int32)), .val (.int (1 : Int32)), .val (.ref t), .val (.int (2 : Int32)), .val (.int (1 : Int32)), .unset] [(.int c2)])) (fun t_ k_ => X476.caload hx (j := (2 : Int32)) (v := (.int c2)) (by rw [e476]; exact Ar477.1) (State.isArrayOf_alike hZ.alike Ar477.2.1) Ar477.2.2 i478 (Has.at ha477 i478 rfl) (g := (mkF m 35 #[.val (.ref x), .val (.ref b), .val (.int (2 : Int32)), .val (.int (3 : Int32)), .val (.int (1 : Int32)), .val (.ref t), .val (.int (2 : Int32)), .val (.int (1 : Int32)), .unset] [(.int (2 : Int32)), (.ref b)])) rfl rfl (hb hby d17_35) _ k_) ?_
  refine P1.istore X476.here hx #[.val (.ref x), .val (.ref b), .val (.int (2 : Int32)), .val (.int (3 : Int32)), .val (.int (1 : Int32)), .val (.ref t), .val (.int (2 : Int32)), .val (.int (1 : Int32)), .val (.int c2)] (hb hby d17_36) rfl ?_
  refine P1.iload X476.here hx (hb hby d17_38) rfl ?_
  refine Goes.callS X476 hx (y := y36_) hown (mvT hZ (own_w hw 71 rfl)) (mvT hZ (own_w hw 72 rfl)) (mvT hZ (own_w hw 73 rfl)) (mvT hZ (own_w hw 74 rfl)) (by decide) (kc' := 0) (ks' := 0) (backOf (W := 0) (rmCan l Z a0 hw [] c2 h0 n0 Z0 O0 h_c2) hZ (own_w hw 74 rfl) (own_w hw 73 rfl) (ok rfl) (ok rfl)) (g := (mkF m 40 #[.val (.ref x), .val (.ref b), .val (.int (2 : Int32)), .val (.int (3 : Int32)), .val (.int (1 : Int32)), .val (.ref t), .val (.int (2 : Int32)), .val (.int (1 : Int32)), .val (.int c2)] [(.int c2)])) rfl (by rw [hml]; rfl) (argsL := [(.int c2)]) (rest := []) (lenOf pd_657 rfl) rfl (by show 2 * 0 + _ ≤ _; exact Nat.le_of_eq rfl) (hb hby d17_40) rfl e476 (ok rfl) (ok rfl) ?_
  intro v479 T479 L479 q479 X479
  obtain ⟨rfl, N479q, hE479⟩ := q479
  have N479 := Fr.app N475 N479q
  show Goes p e below _ T479 (mkF m 43 #[.val (.ref x), .val (.ref b), .val (.int (2 : Int32)), .val (.int (3 : Int32)), .val (.int (1 : Int32)), .val (.ref t), .val (.int (2 : Int32)), .val (.int (1 : Int32)), .val (.int c2)] [(.int (1 : Int32))])
  refine P1.ifNo X479.here hx (hb hby d17_43) ((if0 _ _).trans (feq (by decide : ¬ ((1 : Int32) = (0 : Int32)))).1) ?_
  refine P1.aload X479.here hx (hb hby d17_46) rfl rfl ?_
  refine P1.iload X479.here hx (hb hby d17_48) rfl ?_
  refine Goes.step (T' := T479) (g' := (mkF m 53 #[.val (.ref x), .val (.ref b), .val (.int (2 : Int32)), .val (.int (3 : Int32)), .val (.int (1 : Int32)), .val (.ref t), .val (.int (2 : Int32)), .val (.int ((1 : Int32) + (1 : Int32))), .val (.int c2)] [(.int (1 : Int32)), (.ref t)])) (fun t_ k_ => XS.iinc X479.here hx rfl (hb hby d17_50) rfl (l' := #[.val (.ref x), .val (.ref b), .val (.int (2 : Int32)), .val (.int (3 : Int32)), .val (.int (1 : Int32)), .val (.ref t), .val (.int (2 : Int32)), .val (.int ((1 : Int32) + (1 : Int32))), .val (.int c2)]) rfl k_) ?_
  have rw480 : ((1 : Int32) + (1 : Int32)) = (2 : Int32) := by decide
  rw [rw480]
  refine P1.iload X479.here hx (hb hby d17_53) rfl ?_
  refine Goes.step (T' := T479) (g' := (mkF m 56 #[.val (.ref x), .val (.ref b), .val (.int (2 : Int32)), .val (.int (3 : Int32)), .val (.int (1 : Int32)), .val (.ref t), .val (.int (2 : Int32)), .val (.int (2 : Int32)), .val (.int c2)] [(.int (c2.toInt8.toInt32)), (.int (1 : Int32)), (.ref t)])) (fun t_ k_ => XS.i2b X479.here hx rfl (hb hby d17_55) rfl k_) ?_
  have rw481 : (c2.toInt8.toInt32) = c2 := h_c2.i2b
  rw [rw481]
  have V482 : Arv Z h0 t kt .byte (8192 : Int32) [(.int pr), (.int (0 : Int32))] (.int (0 : Int32)) := Vt.pad (pad_rep [(.int pr)] (.int (0 : Int32)) 1)
  obtain ⟨cl483, Ar483, qk483, sl483, nz483, ha483, fi483⟩ := id V482
  obtain ⟨T484, h484, X484, e484, W484, st484⟩ := stB X479 hx hZ hE479 Ar483 (j := (1 : Int32)) (inb_of sl483 ⟨by decide, by decide⟩) (g := (mkF m 56 #[.val (.ref x), .val (.ref b), .val (.int (2 : Int32)), .val (.int (3 : Int32)), .val (.int (1 : Int32)), .val (.ref t), .val (.int (2 : Int32)), .val (.int (2 : Int32)), .val (.int c2)] [(.int c2), (.int (1 : Int32)), (.ref t)])) rfl rfl (hb hby d17_56)
  rw [h_c2.nb] at W484
  have V484 : Arv Z h484 t kt .byte (8192 : Int32) [(.int pr), (.int c2)] (.int (0 : Int32)) := Arv.set Ar483 qk483 sl483 nz483 ha483 fi483 (h_c2.nb ▸ fits_nar_byte c2) W484 1 rfl (ok rfl)
  have N484 := Fr.snoc X484 N479 gt
  refine Goes.step (T' := T484) (g' := (mkF m 57 #[.val (.ref x), .val (.ref b), .val (.int (2 : Int32)), .val (.int (3 : Int32)), .val (.int (1 : Int32)), .val (.ref t), .val (.int (2 : Int32)), .val (.int (2 : Int32)), .val (.int c2)] [])) st484 ?_
  refine P1.goto X484.here hx 98 (hb hby d17_57) (by decide) (by decide) ?_
  refine Goes.step (T' := T484) (g' := (mkF m 101 #[.val (.ref x), .val (.ref b), .val (.int (2 : Int32)), .val (.int (3 : Int32)), .val (.int (1 : Int32)), .val (.ref t), .val (.int ((2 : Int32) + (1 : Int32))), .val (.int (2 : Int32)), .val (.int c2)] [])) (fun t_ k_ => XS.iinc X484.here hx rfl (hb hby d17_98) rfl (l' := #[.val (.ref x), .val (.ref b), .val (.int (2 : Int32)), .val (.int (3 : Int32)), .val (.int (1 : Int32)), .val (.ref t), .val (.int ((2 : Int32) + (1 : Int32))), .val (.int (2 : Int32)), .val (.int c2)]) rfl k_) ?_
  have rw485 : ((2 : Int32) + (1 : Int32)) = (3 : Int32) := by decide
  rw [rw485]
  refine P1.goto X484.here hx 26 (hb hby d17_101) (by decide) (by decide) ?_
  refine P1.iload X484.here hx (hb hby d17_26) rfl ?_
  refine P1.iloadN X484.here hx (hb hby d17_28) rfl ?_
  refine P1.icmpYes X484.here hx 104 (hb hby d17_29) (flt (by decide : ¬ ((3 : Int32) < (3 : Int32)))).2.1 (by decide) (by decide) ?_
  refine P1.goto X484.here hx 119 (hb hby d17_104) (by decide) (by decide) ?_
  refine P1.aloadN X484.here hx (hb hby d17_119) rfl rfl ?_
  refine P1.iload X484.here hx (hb hby d17_120) rfl ?_
  refine P1.iloadN X484.here hx (hb hby d17_122) rfl ?_
  refine P1.iadd X484.here hx (hb hby d17_123) ?_
  have rw486 : ((1 : Int32) + (3 : Int32)) = (4 : Int32) := by decide
  rw [rw486]
  refine P1.iloadN X484.here hx (hb hby d17_124) rfl ?_
  refine P1.isub X484.here hx (hb hby d17_125) ?_
  have rw487 : ((4 : Int32) - (2 : Int32)) = (2 : Int32) := by decide
  rw [rw487]
  have E489 : Exa Z h484 x "java/lang/StringBuilder" := Ex.wr W484
  have ne488 : x ≠ t := own_ne_arv E489 (own_w hw 23 rfl) V484
  have F490 : Fld Z h484 x "java/lang/AbstractStringBuilder" "count" "I" (.int (1 : Int32)) := Fn.other W484 (Or.inl ne488)
  obtain ⟨T491, h491, X491, e491, W491, st491⟩ := putF X484 hx hZ hown (host := "") (Or.inl (own_w hw 59 rfl)) Via.refl e484 F490 E489 (Or.inl (own_w hw 60 rfl)) (own_w hw 23 rfl) (ty := .int) (by decide) rfl rfl (g := (mkF m 126 #[.val (.ref x), .val (.ref b), .val (.int (2 : Int32)), .val (.int (3 : Int32)), .val (.int (1 : Int32)), .val (.ref t), .val (.int (3 : Int32)), .val (.int (2 : Int32)), .val (.int c2)] [(.int (2 : Int32)), (.ref x)])) rfl rfl (hb hby d17_126)
  have Fw491 : Fld Z h491 x "java/lang/AbstractStringBuilder" "count" "I" (.int (2 : Int32)) := F490.same W491
  have N491 := Fr.snoc X491 N484 gx
  refine Goes.step (T' := T491) (g' := (mkF m 129 #[.val (.ref x), .val (.ref b), .val (.int (2 : Int32)), .val (.int (3 : Int32)), .val (.int (1 : Int32)), .val (.ref t), .val (.int (3 : Int32)), .val (.int (2 : Int32)), .val (.int c2)] [])) st491 ?_
  refine Goes.retV X491 hx Bd.notSynchronized Bd.returns (hb hby d17_129) (ok rfl) (ok rfl) ?_
  rw [e491]
  have K492 : Keep h0 h484 [x, t] := K0.wr W484 (Or.inl (by simp))
  have K493 : Keep h0 h491 [x, t] := K492.wr W491 (Or.inl (by simp))
  have E494 : Exa Z h491 x "java/lang/StringBuilder" := E489.wr W491
  have F495 : Fld Z h484 x "java/lang/AbstractStringBuilder" "value" "[B" (.ref t) := Fv.other W484 (Or.inl ne488)
  have F496 : Fld Z h491 x "java/lang/AbstractStringBuilder" "value" "[B" (.ref t) := F495.other W491 (Or.inr (slot_ne (Or.inl (own_w hw 39 rfl)) (Or.inl (own_w hw 60 rfl)) (by decide) (t := (.array .byte)) (t' := .int) (by decide) (by decide)))
  have F497 : Fld Z h484 x "java/lang/AbstractStringBuilder" "coder" "B" (.int (0 : Int32)) := Fc.other W484 (Or.inl ne488)
  have F498 : Fld Z h491 x "java/lang/AbstractStringBuilder" "coder" "B" (.int (0 : Int32)) := F497.other W491 (Or.inr (slot_ne (Or.inl (own_w hw 41 rfl)) (Or.inl (own_w hw 60 rfl)) (by decide) (t := .byte) (t' := .int) (by decide) (by decide)))
  have V499 : Arv Z h491 t kt .byte (8192 : Int32) [(.int pr), (.int c2)] (.int (0 : Int32)) := V484.other W491 (Ne.symm ne488)
  exact ⟨rfl, N491, K493, E494, F496, F498, Fw491, V499⟩
theorem efAc_3_1 (x b : Addr) (m : MethodId) : entryFrame m #[(.ref x), (.ref b), (.int (3 : Int32)), (.int (4 : Int32))] 9 = mkF m 0 #[.val (.ref x), .val (.ref b), .val (.int (3 : Int32)), .val (.int (4 : Int32)), .unset, .unset, .unset, .unset, .unset] [] := by first | (simp [entryFrame, mkF, argsToLocals, Value.category]; done) | rfl
def QAc_3_1 (Z : State) (x t : Addr) (kt : ClassId) (b : Addr) (kb : ClassId) (pr c0 c1 c2 c3 zc : Int32) (fm fi : Value) (u8 : Addr) (h0 : Heap) (n0 : Nat) (v : Option Value) (h : Heap) (L : List Loc) : Prop := v = none ∧ Fr n0 L ∧ Keep h0 h [x, t] ∧ Exa Z h x "java/lang/StringBuilder" ∧ Fld Z h x "java/lang/AbstractStringBuilder" "value" "[B" (.ref t) ∧ Fld Z h x "java/lang/AbstractStringBuilder" "coder" "B" (.int (0 : Int32)) ∧ Fld Z h x "java/lang/AbstractStringBuilder" "count" "I" (.int (2 : Int32)) ∧ Arv Z h t kt .byte (8192 : Int32) [(.int pr), (.int c3)] (.int (0 : Int32))
set_option maxRecDepth 65536 in
set_option maxHeartbeats 40000000 in
theorem rmAc_3_1 (l : Launch) (Z : State) (a0 : Array Value) (hw : ∀ d ∈ tables_1, d.before a0 Z = true) (ws : List Jvm.Cond) (x t : Addr) (kt : ClassId) (b : Addr) (kb : ClassId) (pr c0 c1 c2 c3 zc : Int32) (fm fi : Value) (u8 : Addr) (h0 : Heap) (n0 : Nat) (Z0 : n0 ≤ h0.size) (O0 : Old Z n0 h0) (S_CS : Sta Z Z.heap "java/lang/String" "COMPACT_STRINGS" "Z" (.int zc)) (hzc : ¬ zc = 0) (S_FM : Sta Z Z.heap "jdk/internal/util/Preconditions" "SIOOBE_FORMATTER" "Ljava/util/function/BiFunction;" fm) (hfm : fm.isRef = true) (S_FI : Sta Z Z.heap "jdk/internal/util/Preconditions" "IOOBE_FORMATTER" "Ljava/util/function/BiFunction;" fi) (hfi : fi.isRef = true) (S_IN : Sta Z Z.heap "sun/nio/cs/UTF_8" "INSTANCE" "Lsun/nio/cs/UTF_8;" (.ref u8)) (S_U8 : Sta Z Z.heap "java/nio/charset/StandardCharsets" "UTF_8" "Ljava/nio/charset/Charset;" (.ref u8)) (gx : n0 ≤ x) (gt : n0 ≤ t) (Ex : Exa Z h0 x "java/lang/StringBuilder") (Fv : Fld Z h0 x "java/lang/AbstractStringBuilder" "value" "[B" (.ref t)) (Fc : Fld Z h0 x "java/lang/AbstractStringBuilder" "coder" "B" (.int (0 : Int32))) (Fn : Fld Z h0 x "java/lang/AbstractStringBuilder" "count" "I" (.int (1 : Int32))) (Vt : Arv Z h0 t kt .byte (8192 : Int32) [(.int pr)] (.int (0 : Int32))) (Vb : Arv Z h0 b kb .char (4 : Int32) [(.int c0), (.int c1), (.int c2), (.int c3)] (.int (0 : Int32))) (neb : b ≠ t) (h_c0 : Pr c0) (h_c1 : Pr c1) (h_c2 : Pr c2) (h_c3 : Pr c3) :
    OwnLaw l y12_ jdk_68_method_74_code 9 none ws (rR 1 0 0 12) #[(.ref x), (.ref b), (.int (3 : Int32)), (.int (4 : Int32))] Z h0 (QAc_3_1 Z x t kt b kb pr c0 c1 c2 c3 zc fm fi u8 h0 n0) := by
  refine own_enter (plainFor_of_name pn_java_lang_AbstractStringBuilder) (efAc_3_1 x b) ?_
  intro p e s m below meth c s₁ Bd hx hby hml hZ hown X0 e0
  have N0 := Fr.nil n0
  have K0 : Keep h0 h0 [] := Keep.refl _ _
  have K0 : Keep h0 h0 [x, t] := Keep.refl _ _
  refine P1.aloadN X0.here hx (hb hby d17_0) rfl rfl ?_
  obtain ⟨T500, X500, e500, st500⟩ := getF X0 hx hZ hown (host := "") (Or.inl (own_w hw 59 rfl)) Via.refl e0 Fn (g := (mkF m 1 #[.val (.ref x), .val (.ref b), .val (.int (3 : Int32)), .val (.int (4 : Int32)), .unset, .unset, .unset, .unset, .unset] [(.ref x)])) rfl rfl (hb hby d17_1)
  refine Goes.step (T' := T500) (g' := (mkF m 4 #[.val (.ref x), .val (.ref b), .val (.int (3 : Int32)), .val (.int (4 : Int32)), .unset, .unset, .unset, .unset, .unset] [(.int (1 : Int32))])) st500 ?_
  refine P1.istore X500.here hx #[.val (.ref x), .val (.ref b), .val (.int (3 : Int32)), .val (.int (4 : Int32)), .val (.int (1 : Int32)), .unset, .unset, .unset, .unset] (hb hby d17_4) rfl ?_
  refine P1.aloadN X500.here hx (hb hby d17_6) rfl rfl ?_
  refine Goes.callV X500 hx hZ (y := y16_) (z := y16_) hown (mvT hZ (own_w hw 66 rfl)) (mvT hZ (own_w hw 67 rfl)) (notFace_of_selects (args := #[]) (mvT hZ (own_w hw 69 rfl))) (mvT hZ (own_w hw 69 rfl)) (mvT hZ (own_w hw 68 rfl)) (by decide) (kc' := 0) (ks' := 0) (backOf (W := 0) (rmIl l Z a0 hw [] x zc fm fi u8 h0 n0 Z0 O0 S_CS hzc S_FM hfm S_FI hfi S_IN S_U8 Fc) hZ (own_w hw 70 rfl) (own_w hw 32 rfl) (ok rfl) (ok rfl)) (b := x) e500 Ex (g := (mkF m 7 #[.val (.ref x), .val (.ref b), .val (.int (3 : Int32)), .val (.int (4 : Int32)), .val (.int (1 : Int32)), .unset, .unset, .unset, .unset] [(.ref x)])) rfl (by rw [hml]; rfl) (argsL := []) (rest := []) (lenOf pd_392 rfl) rfl (by show 2 * 0 + _ ≤ _; exact Nat.le_of_eq rfl) (hb hby d17_7) rfl (ok rfl) (ok rfl) ?_
  intro v501 T501 L501 q501 X501
  obtain ⟨rfl, N501q, hE501⟩ := q501
  have N501 := Fr.app N0 N501q
  show Goes p e below _ T501 (mkF m 10 #[.val (.ref x), .val (.ref b), .val (.int (3 : Int32)), .val (.int (4 : Int32)), .val (.int (1 : Int32)), .unset, .unset, .unset, .unset] [(.int (1 : Int32))])
  refine P1.ifNo X501.here hx (hb hby d17_10) ((if0 _ _).trans (feq (by decide : ¬ ((1 : Int32) = (0 : Int32)))).1) ?_
  refine P1.aloadN X501.here hx (hb hby d17_13) rfl rfl ?_
  obtain ⟨T502, X502, e502, st502⟩ := getF X501 hx hZ hown (host := "") (Or.inl (own_w hw 38 rfl)) Via.refl hE501 Fv (g := (mkF m 14 #[.val (.ref x), .val (.ref b), .val (.int (3 : Int32)), .val (.int (4 : Int32)), .val (.int (1 : Int32)), .unset, .unset, .unset, .unset] [(.ref x)])) rfl rfl (hb hby d17_14)
  refine Goes.step (T' := T502) (g' := (mkF m 17 #[.val (.ref x), .val (.ref b), .val (.int (3 : Int32)), .val (.int (4 : Int32)), .val (.int (1 : Int32)), .unset, .unset, .unset, .unset] [(.ref t)])) st502 ?_
  refine P1.astore X502.here hx #[.val (.ref x), .val (.ref b), .val (.int (3 : Int32)), .val (.int (4 : Int32)), .val (.int (1 : Int32)), .val (.ref t), .unset, .unset, .unset] (hb hby d17_17) rfl rfl ?_
  refine P1.iloadN X502.here hx (hb hby d17_19) rfl ?_
  refine P1.istore X502.here hx #[.val (.ref x), .val (.ref b), .val (.int (3 : Int32)), .val (.int (4 : Int32)), .val (.int (1 : Int32)), .val (.ref t), .val (.int (3 : Int32)), .unset, .unset] (hb hby d17_20) rfl ?_
  refine P1.iload X502.here hx (hb hby d17_22) rfl ?_
  refine P1.istore X502.here hx #[.val (.ref x), .val (.ref b), .val (.int (3 : Int32)), .val (.int (4 : Int32)), .val (.int (1 : Int32)), .val (.ref t), .val (.int (3 : Int32)), .val (.int (1 : Int32)), .unset] (hb hby d17_24) rfl ?_
  refine P1.iload X502.here hx (hb hby d17_26) rfl ?_
  refine P1.iloadN X502.here hx (hb hby d17_28) rfl ?_
  refine P1.icmpNo X502.here hx (hb hby d17_29) (tlt (by decide : (3 : Int32) < (4 : Int32))).2.1 ?_
  refine P1.aloadN X502.here hx (hb hby d17_32) rfl rfl ?_
  refine P1.iload X502.here hx (hb hby d17_33) rfl ?_
  obtain ⟨cl503, Ar503, qk503, sl503, nz503, ha503, fi503⟩ := id Vb
  have i504 := inb_of (j := (3 : Int32)) sl503 ⟨by decide, by decide⟩
  refine Goes.step (T' := T502) (g' := (mkF m 36 #[.val (.ref x), .val (.ref b), .val (.int (3 : Int32)), .val (.int (4 : Int32)), .val (.int (1 : Int32)), .val (.ref t), .val (.int (3 : Int32)), .val (.int (1 : Int32)), .unset] [(.int c3)])) (fun t_ k_ => X502.caload hx (j := (3 : Int32)) (v := (.int c3)) (by rw [e502]; exact Ar503.1) (State.isArrayOf_alike hZ.alike Ar503.2.1) Ar503.2.2 i504 (Has.at ha503 i504 rfl) (g := (mkF m 35 #[.val (.ref x), .val (.ref b), .val (.int (3 : Int32)), .val (.int (4 : Int32)), .val (.int (1 : Int32)), .val (.ref t), .val (.int (3 : Int32)), .val (.int (1 : Int32)), .unset] [(.int (3 : Int32)), (.ref b)])) rfl rfl (hb hby d17_35) _ k_) ?_
  refine P1.istore X502.here hx #[.val (.ref x), .val (.ref b), .val (.int (3 : Int32)), .val (.int (4 : Int32)), .val (.int (1 : Int32)), .val (.ref t), .val (.int (3 : Int32)), .val (.int (1 : Int32)), .val (.int c3)] (hb hby d17_36) rfl ?_
  refine P1.iload X502.here hx (hb hby d17_38) rfl ?_
  refine Goes.callS X502 hx (y := y36_) hown (mvT hZ (own_w hw 71 rfl)) (mvT hZ (own_w hw 72 rfl)) (mvT hZ (own_w hw 73 rfl)) (mvT hZ (own_w hw 74 rfl)) (by decide) (kc' := 0) (ks' := 0) (backOf (W := 0) (rmCan l Z a0 hw [] c3 h0 n0 Z0 O0 h_c3) hZ (own_w hw 74 rfl) (own_w hw 73 rfl) (ok rfl) (ok rfl)) (g := (mkF m 40 #[.val (.ref x), .val (.ref b), .val (.int (3 : Int32)), .val (.int (4 : Int32)), .val (.int (1 : Int32)), .val (.ref t), .val (.int (3 : Int32)), .val (.int (1 : Int32)), .val (.int c3)] [(.int c3)])) rfl (by rw [hml]; rfl) (argsL := [(.int c3)]) (rest := []) (lenOf pd_657 rfl) rfl (by show 2 * 0 + _ ≤ _; exact Nat.le_of_eq rfl) (hb hby d17_40) rfl e502 (ok rfl) (ok rfl) ?_
  intro v505 T505 L505 q505 X505
  obtain ⟨rfl, N505q, hE505⟩ := q505
  have N505 := Fr.app N501 N505q
  show Goes p e below _ T505 (mkF m 43 #[.val (.ref x), .val (.ref b), .val (.int (3 : Int32)), .val (.int (4 : Int32)), .val (.int (1 : Int32)), .val (.ref t), .val (.int (3 : Int32)), .val (.int (1 : Int32)), .val (.int c3)] [(.int (1 : Int32))])
  refine P1.ifNo X505.here hx (hb hby d17_43) ((if0 _ _).trans (feq (by decide : ¬ ((1 : Int32) = (0 : Int32)))).1) ?_
  refine P1.aload X505.here hx (hb hby d17_46) rfl rfl ?_
  refine P1.iload X505.here hx (hb hby d17_48) rfl ?_
  refine Goes.step (T' := T505) (g' := (mkF m 53 #[.val (.ref x), .val (.ref b), .val (.int (3 : Int32)), .val (.int (4 : Int32)), .val (.int (1 : Int32)), .val (.ref t), .val (.int (3 : Int32)), .val (.int ((1 : Int32) + (1 : Int32))), .val (.int c3)] [(.int (1 : Int32)), (.ref t)])) (fun t_ k_ => XS.iinc X505.here hx rfl (hb hby d17_50) rfl (l' := #[.val (.ref x), .val (.ref b), .val (.int (3 : Int32)), .val (.int (4 : Int32)), .val (.int (1 : Int32)), .val (.ref t), .val (.int (3 : Int32)), .val (.int ((1 : Int32) + (1 : Int32))), .val (.int c3)]) rfl k_) ?_
  have rw506 : ((1 : Int32) + (1 : Int32)) = (2 : Int32) := by decide
  rw [rw506]
  refine P1.iload X505.here hx (hb hby d17_53) rfl ?_
  refine Goes.step (T' := T505) (g' := (mkF m 56 #[.val (.ref x), .val (.ref b), .val (.int (3 : Int32)), .val (.int (4 : Int32)), .val (.int (1 : Int32)), .val (.ref t), .val (.int (3 : Int32)), .val (.int (2 : Int32)), .val (.int c3)] [(.int (c3.toInt8.toInt32)), (.int (1 : Int32)), (.ref t)])) (fun t_ k_ => XS.i2b X505.here hx rfl (hb hby d17_55) rfl k_) ?_
  have rw507 : (c3.toInt8.toInt32) = c3 := h_c3.i2b
  rw [rw507]
  have V508 : Arv Z h0 t kt .byte (8192 : Int32) [(.int pr), (.int (0 : Int32))] (.int (0 : Int32)) := Vt.pad (pad_rep [(.int pr)] (.int (0 : Int32)) 1)
  obtain ⟨cl509, Ar509, qk509, sl509, nz509, ha509, fi509⟩ := id V508
  obtain ⟨T510, h510, X510, e510, W510, st510⟩ := stB X505 hx hZ hE505 Ar509 (j := (1 : Int32)) (inb_of sl509 ⟨by decide, by decide⟩) (g := (mkF m 56 #[.val (.ref x), .val (.ref b), .val (.int (3 : Int32)), .val (.int (4 : Int32)), .val (.int (1 : Int32)), .val (.ref t), .val (.int (3 : Int32)), .val (.int (2 : Int32)), .val (.int c3)] [(.int c3), (.int (1 : Int32)), (.ref t)])) rfl rfl (hb hby d17_56)
  rw [h_c3.nb] at W510
  have V510 : Arv Z h510 t kt .byte (8192 : Int32) [(.int pr), (.int c3)] (.int (0 : Int32)) := Arv.set Ar509 qk509 sl509 nz509 ha509 fi509 (h_c3.nb ▸ fits_nar_byte c3) W510 1 rfl (ok rfl)
  have N510 := Fr.snoc X510 N505 gt
  refine Goes.step (T' := T510) (g' := (mkF m 57 #[.val (.ref x), .val (.ref b), .val (.int (3 : Int32)), .val (.int (4 : Int32)), .val (.int (1 : Int32)), .val (.ref t), .val (.int (3 : Int32)), .val (.int (2 : Int32)), .val (.int c3)] [])) st510 ?_
  refine P1.goto X510.here hx 98 (hb hby d17_57) (by decide) (by decide) ?_
  refine Goes.step (T' := T510) (g' := (mkF m 101 #[.val (.ref x), .val (.ref b), .val (.int (3 : Int32)), .val (.int (4 : Int32)), .val (.int (1 : Int32)), .val (.ref t), .val (.int ((3 : Int32) + (1 : Int32))), .val (.int (2 : Int32)), .val (.int c3)] [])) (fun t_ k_ => XS.iinc X510.here hx rfl (hb hby d17_98) rfl (l' := #[.val (.ref x), .val (.ref b), .val (.int (3 : Int32)), .val (.int (4 : Int32)), .val (.int (1 : Int32)), .val (.ref t), .val (.int ((3 : Int32) + (1 : Int32))), .val (.int (2 : Int32)), .val (.int c3)]) rfl k_) ?_
  have rw511 : ((3 : Int32) + (1 : Int32)) = (4 : Int32) := by decide
  rw [rw511]
  refine P1.goto X510.here hx 26 (hb hby d17_101) (by decide) (by decide) ?_
  refine P1.iload X510.here hx (hb hby d17_26) rfl ?_
  refine P1.iloadN X510.here hx (hb hby d17_28) rfl ?_
  refine P1.icmpYes X510.here hx 104 (hb hby d17_29) (flt (by decide : ¬ ((4 : Int32) < (4 : Int32)))).2.1 (by decide) (by decide) ?_
  refine P1.goto X510.here hx 119 (hb hby d17_104) (by decide) (by decide) ?_
  refine P1.aloadN X510.here hx (hb hby d17_119) rfl rfl ?_
  refine P1.iload X510.here hx (hb hby d17_120) rfl ?_
  refine P1.iloadN X510.here hx (hb hby d17_122) rfl ?_
  refine P1.iadd X510.here hx (hb hby d17_123) ?_
  have rw512 : ((1 : Int32) + (4 : Int32)) = (5 : Int32) := by decide
  rw [rw512]
  refine P1.iloadN X510.here hx (hb hby d17_124) rfl ?_
  refine P1.isub X510.here hx (hb hby d17_125) ?_
  have rw513 : ((5 : Int32) - (3 : Int32)) = (2 : Int32) := by decide
  rw [rw513]
  have E515 : Exa Z h510 x "java/lang/StringBuilder" := Ex.wr W510
  have ne514 : x ≠ t := own_ne_arv E515 (own_w hw 23 rfl) V510
  have F516 : Fld Z h510 x "java/lang/AbstractStringBuilder" "count" "I" (.int (1 : Int32)) := Fn.other W510 (Or.inl ne514)
  obtain ⟨T517, h517, X517, e517, W517, st517⟩ := putF X510 hx hZ hown (host := "") (Or.inl (own_w hw 59 rfl)) Via.refl e510 F516 E515 (Or.inl (own_w hw 60 rfl)) (own_w hw 23 rfl) (ty := .int) (by decide) rfl rfl (g := (mkF m 126 #[.val (.ref x), .val (.ref b), .val (.int (3 : Int32)), .val (.int (4 : Int32)), .val (.int (1 : Int32)), .val (.ref t), .val (.int (4 : Int32)), .val (.int (2 : Int32)), .val (.int c3)] [(.int (2 : Int32)), (.ref x)])) rfl rfl (hb hby d17_126)
  have Fw517 : Fld Z h517 x "java/lang/AbstractStringBuilder" "count" "I" (.int (2 : Int32)) := F516.same W517
  have N517 := Fr.snoc X517 N510 gx
  refine Goes.step (T' := T517) (g' := (mkF m 129 #[.val (.ref x), .val (.ref b), .val (.int (3 : Int32)), .val (.int (4 : Int32)), .val (.int (1 : Int32)), .val (.ref t), .val (.int (4 : Int32)), .val (.int (2 : Int32)), .val (.int c3)] [])) st517 ?_
  refine Goes.retV X517 hx Bd.notSynchronized Bd.returns (hb hby d17_129) (ok rfl) (ok rfl) ?_
  rw [e517]
  have K518 : Keep h0 h510 [x, t] := K0.wr W510 (Or.inl (by simp))
  have K519 : Keep h0 h517 [x, t] := K518.wr W517 (Or.inl (by simp))
  have E520 : Exa Z h517 x "java/lang/StringBuilder" := E515.wr W517
  have F521 : Fld Z h510 x "java/lang/AbstractStringBuilder" "value" "[B" (.ref t) := Fv.other W510 (Or.inl ne514)
  have F522 : Fld Z h517 x "java/lang/AbstractStringBuilder" "value" "[B" (.ref t) := F521.other W517 (Or.inr (slot_ne (Or.inl (own_w hw 39 rfl)) (Or.inl (own_w hw 60 rfl)) (by decide) (t := (.array .byte)) (t' := .int) (by decide) (by decide)))
  have F523 : Fld Z h510 x "java/lang/AbstractStringBuilder" "coder" "B" (.int (0 : Int32)) := Fc.other W510 (Or.inl ne514)
  have F524 : Fld Z h517 x "java/lang/AbstractStringBuilder" "coder" "B" (.int (0 : Int32)) := F523.other W517 (Or.inr (slot_ne (Or.inl (own_w hw 41 rfl)) (Or.inl (own_w hw 60 rfl)) (by decide) (t := .byte) (t' := .int) (by decide) (by decide)))
  have V525 : Arv Z h517 t kt .byte (8192 : Int32) [(.int pr), (.int c3)] (.int (0 : Int32)) := V510.other W517 (Ne.symm ne514)
  exact ⟨rfl, N517, K519, E520, F522, F524, Fw517, V525⟩
theorem efAc_0_0 (x b : Addr) (m : MethodId) : entryFrame m #[(.ref x), (.ref b), (.int (0 : Int32)), (.int (0 : Int32))] 9 = mkF m 0 #[.val (.ref x), .val (.ref b), .val (.int (0 : Int32)), .val (.int (0 : Int32)), .unset, .unset, .unset, .unset, .unset] [] := by first | (simp [entryFrame, mkF, argsToLocals, Value.category]; done) | rfl
def QAc_0_0 (Z : State) (x t : Addr) (kt : ClassId) (b : Addr) (kb : ClassId) (pr c0 c1 c2 c3 zc : Int32) (fm fi : Value) (u8 : Addr) (h0 : Heap) (n0 : Nat) (v : Option Value) (h : Heap) (L : List Loc) : Prop := v = none ∧ Fr n0 L ∧ Keep h0 h [x, t] ∧ Exa Z h x "java/lang/StringBuilder" ∧ Fld Z h x "java/lang/AbstractStringBuilder" "value" "[B" (.ref t) ∧ Fld Z h x "java/lang/AbstractStringBuilder" "coder" "B" (.int (0 : Int32)) ∧ Fld Z h x "java/lang/AbstractStringBuilder" "count" "I" (.int (1 : Int32)) ∧ Arv Z h t kt .byte (8192 : Int32) [(.int pr)] (.int (0 : Int32))
set_option maxRecDepth 65536 in
set_option maxHeartbeats 40000000 in
theorem rmAc_0_0 (l : Launch) (Z : State) (a0 : Array Value) (hw : ∀ d ∈ tables_1, d.before a0 Z = true) (ws : List Jvm.Cond) (x t : Addr) (kt : ClassId) (b : Addr) (kb : ClassId) (pr c0 c1 c2 c3 zc : Int32) (fm fi : Value) (u8 : Addr) (h0 : Heap) (n0 : Nat) (Z0 : n0 ≤ h0.size) (O0 : Old Z n0 h0) (S_CS : Sta Z Z.heap "java/lang/String" "COMPACT_STRINGS" "Z" (.int zc)) (hzc : ¬ zc = 0) (S_FM : Sta Z Z.heap "jdk/internal/util/Preconditions" "SIOOBE_FORMATTER" "Ljava/util/function/BiFunction;" fm) (hfm : fm.isRef = true) (S_FI : Sta Z Z.heap "jdk/internal/util/Preconditions" "IOOBE_FORMATTER" "Ljava/util/function/BiFunction;" fi) (hfi : fi.isRef = true) (S_IN : Sta Z Z.heap "sun/nio/cs/UTF_8" "INSTANCE" "Lsun/nio/cs/UTF_8;" (.ref u8)) (S_U8 : Sta Z Z.heap "java/nio/charset/StandardCharsets" "UTF_8" "Ljava/nio/charset/Charset;" (.ref u8)) (gx : n0 ≤ x) (gt : n0 ≤ t) (Ex : Exa Z h0 x "java/lang/StringBuilder") (Fv : Fld Z h0 x "java/lang/AbstractStringBuilder" "value" "[B" (.ref t)) (Fc : Fld Z h0 x "java/lang/AbstractStringBuilder" "coder" "B" (.int (0 : Int32))) (Fn : Fld Z h0 x "java/lang/AbstractStringBuilder" "count" "I" (.int (1 : Int32))) (Vt : Arv Z h0 t kt .byte (8192 : Int32) [(.int pr)] (.int (0 : Int32))) (Vb : Arv Z h0 b kb .char (4 : Int32) [(.int c0), (.int c1), (.int c2), (.int c3)] (.int (0 : Int32))) (neb : b ≠ t) (h_c0 : Pr c0) (h_c1 : Pr c1) (h_c2 : Pr c2) (h_c3 : Pr c3) :
    OwnLaw l y12_ jdk_68_method_74_code 9 none ws (rR 1 0 0 12) #[(.ref x), (.ref b), (.int (0 : Int32)), (.int (0 : Int32))] Z h0 (QAc_0_0 Z x t kt b kb pr c0 c1 c2 c3 zc fm fi u8 h0 n0) := by
  refine own_enter (plainFor_of_name pn_java_lang_AbstractStringBuilder) (efAc_0_0 x b) ?_
  intro p e s m below meth c s₁ Bd hx hby hml hZ hown X0 e0
  have N0 := Fr.nil n0
  have K0 : Keep h0 h0 [] := Keep.refl _ _
  have K0 : Keep h0 h0 [x, t] := Keep.refl _ _
  refine P1.aloadN X0.here hx (hb hby d17_0) rfl rfl ?_
  obtain ⟨T526, X526, e526, st526⟩ := getF X0 hx hZ hown (host := "") (Or.inl (own_w hw 59 rfl)) Via.refl e0 Fn (g := (mkF m 1 #[.val (.ref x), .val (.ref b), .val (.int (0 : Int32)), .val (.int (0 : Int32)), .unset, .unset, .unset, .unset, .unset] [(.ref x)])) rfl rfl (hb hby d17_1)
  refine Goes.step (T' := T526) (g' := (mkF m 4 #[.val (.ref x), .val (.ref b), .val (.int (0 : Int32)), .val (.int (0 : Int32)), .unset, .unset, .unset, .unset, .unset] [(.int (1 : Int32))])) st526 ?_
  refine P1.istore X526.here hx #[.val (.ref x), .val (.ref b), .val (.int (0 : Int32)), .val (.int (0 : Int32)), .val (.int (1 : Int32)), .unset, .unset, .unset, .unset] (hb hby d17_4) rfl ?_
  refine P1.aloadN X526.here hx (hb hby d17_6) rfl rfl ?_
  refine Goes.callV X526 hx hZ (y := y16_) (z := y16_) hown (mvT hZ (own_w hw 66 rfl)) (mvT hZ (own_w hw 67 rfl)) (notFace_of_selects (args := #[]) (mvT hZ (own_w hw 69 rfl))) (mvT hZ (own_w hw 69 rfl)) (mvT hZ (own_w hw 68 rfl)) (by decide) (kc' := 0) (ks' := 0) (backOf (W := 0) (rmIl l Z a0 hw [] x zc fm fi u8 h0 n0 Z0 O0 S_CS hzc S_FM hfm S_FI hfi S_IN S_U8 Fc) hZ (own_w hw 70 rfl) (own_w hw 32 rfl) (ok rfl) (ok rfl)) (b := x) e526 Ex (g := (mkF m 7 #[.val (.ref x), .val (.ref b), .val (.int (0 : Int32)), .val (.int (0 : Int32)), .val (.int (1 : Int32)), .unset, .unset, .unset, .unset] [(.ref x)])) rfl (by rw [hml]; rfl) (argsL := []) (rest := []) (lenOf pd_392 rfl) rfl (by show 2 * 0 + _ ≤ _; exact Nat.le_of_eq rfl) (hb hby d17_7) rfl (ok rfl) (ok rfl) ?_
  intro v527 T527 L527 q527 X527
  obtain ⟨rfl, N527q, hE527⟩ := q527
  have N527 := Fr.app N0 N527q
  show Goes p e below _ T527 (mkF m 10 #[.val (.ref x), .val (.ref b), .val (.int (0 : Int32)), .val (.int (0 : Int32)), .val (.int (1 : Int32)), .unset, .unset, .unset, .unset] [(.int (1 : Int32))])
  refine P1.ifNo X527.here hx (hb hby d17_10) ((if0 _ _).trans (feq (by decide : ¬ ((1 : Int32) = (0 : Int32)))).1) ?_
  refine P1.aloadN X527.here hx (hb hby d17_13) rfl rfl ?_
  obtain ⟨T528, X528, e528, st528⟩ := getF X527 hx hZ hown (host := "") (Or.inl (own_w hw 38 rfl)) Via.refl hE527 Fv (g := (mkF m 14 #[.val (.ref x), .val (.ref b), .val (.int (0 : Int32)), .val (.int (0 : Int32)), .val (.int (1 : Int32)), .unset, .unset, .unset, .unset] [(.ref x)])) rfl rfl (hb hby d17_14)
  refine Goes.step (T' := T528) (g' := (mkF m 17 #[.val (.ref x), .val (.ref b), .val (.int (0 : Int32)), .val (.int (0 : Int32)), .val (.int (1 : Int32)), .unset, .unset, .unset, .unset] [(.ref t)])) st528 ?_
  refine P1.astore X528.here hx #[.val (.ref x), .val (.ref b), .val (.int (0 : Int32)), .val (.int (0 : Int32)), .val (.int (1 : Int32)), .val (.ref t), .unset, .unset, .unset] (hb hby d17_17) rfl rfl ?_
  refine P1.iloadN X528.here hx (hb hby d17_19) rfl ?_
  refine P1.istore X528.here hx #[.val (.ref x), .val (.ref b), .val (.int (0 : Int32)), .val (.int (0 : Int32)), .val (.int (1 : Int32)), .val (.ref t), .val (.int (0 : Int32)), .unset, .unset] (hb hby d17_20) rfl ?_
  refine P1.iload X528.here hx (hb hby d17_22) rfl ?_
  refine P1.istore X528.here hx #[.val (.ref x), .val (.ref b), .val (.int (0 : Int32)), .val (.int (0 : Int32)), .val (.int (1 : Int32)), .val (.ref t), .val (.int (0 : Int32)), .val (.int (1 : Int32)), .unset] (hb hby d17_24) rfl ?_
  refine P1.iload X528.here hx (hb hby d17_26) rfl ?_
  refine P1.iloadN X528.here hx (hb hby d17_28) rfl ?_
  refine P1.icmpYes X528.here hx 104 (hb hby d17_29) (flt (by decide : ¬ ((0 : Int32) < (0 : Int32)))).2.1 (by decide) (by decide) ?_
  refine P1.goto X528.here hx 119 (hb hby d17_104) (by decide) (by decide) ?_
  refine P1.aloadN X528.here hx (hb hby d17_119) rfl rfl ?_
  refine P1.iload X528.here hx (hb hby d17_120) rfl ?_
  refine P1.iloadN X528.here hx (hb hby d17_122) rfl ?_
  refine P1.iadd X528.here hx (hb hby d17_123) ?_
  have rw529 : ((1 : Int32) + (0 : Int32)) = (1 : Int32) := by decide
  rw [rw529]
  refine P1.iloadN X528.here hx (hb hby d17_124) rfl ?_
  refine P1.isub X528.here hx (hb hby d17_125) ?_
  have rw530 : ((1 : Int32) - (0 : Int32)) = (1 : Int32) := by decide
  rw [rw530]
  obtain ⟨T531, h531, X531, e531, W531, st531⟩ := putF X528 hx hZ hown (host := "") (Or.inl (own_w hw 59 rfl)) Via.refl e528 Fn Ex (Or.inl (own_w hw 60 rfl)) (own_w hw 23 rfl) (ty := .int) (by decide) rfl rfl (g := (mkF m 126 #[.val (.ref x), .val (.ref b), .val (.int (0 : Int32)), .val (.int (0 : Int32)), .val (.int (1 : Int32)), .val (.ref t), .val (.int (0 : Int32)), .val (.int (1 : Int32)), .unset] [(.int (1 : Int32)), (.ref x)])) rfl rfl (hb hby d17_126)
  have Fw531 : Fld Z h531 x "java/lang/AbstractStringBuilder" "count" "I" (.int (1 : Int32)) := Fn.same W531
  have N531 := Fr.snoc X531 N527 gx
  refine Goes.step (T' := T531) (g' := (mkF m 129 #[.val (.ref x), .val (.ref b), .val (.int (0 : Int32)), .val (.int (0 : Int32)), .val (.int (1 : Int32)), .val (.ref t), .val (.int (0 : Int32)), .val (.int (1 : Int32)), .unset] [])) st531 ?_
  refine Goes.retV X531 hx Bd.notSynchronized Bd.returns (hb hby d17_129) (ok rfl) (ok rfl) ?_
  rw [e531]
  have K532 : Keep h0 h531 [x, t] := K0.wr W531 (Or.inl (by simp))
  have E533 : Exa Z h531 x "java/lang/StringBuilder" := Ex.wr W531
  have F534 : Fld Z h531 x "java/lang/AbstractStringBuilder" "value" "[B" (.ref t) := Fv.other W531 (Or.inr (slot_ne (Or.inl (own_w hw 39 rfl)) (Or.inl (own_w hw 60 rfl)) (by decide) (t := (.array .byte)) (t' := .int) (by decide) (by decide)))
  have F535 : Fld Z h531 x "java/lang/AbstractStringBuilder" "coder" "B" (.int (0 : Int32)) := Fc.other W531 (Or.inr (slot_ne (Or.inl (own_w hw 41 rfl)) (Or.inl (own_w hw 60 rfl)) (by decide) (t := .byte) (t' := .int) (by decide) (by decide)))
  have ne536 : x ≠ t := own_ne_arv Ex (own_w hw 23 rfl) Vt
  have V537 : Arv Z h531 t kt .byte (8192 : Int32) [(.int pr)] (.int (0 : Int32)) := Vt.other W531 (Ne.symm ne536)
  exact ⟨rfl, N531, K532, E533, F534, F535, Fw531, V537⟩
theorem efAc_1_0 (x b : Addr) (m : MethodId) : entryFrame m #[(.ref x), (.ref b), (.int (1 : Int32)), (.int (1 : Int32))] 9 = mkF m 0 #[.val (.ref x), .val (.ref b), .val (.int (1 : Int32)), .val (.int (1 : Int32)), .unset, .unset, .unset, .unset, .unset] [] := by first | (simp [entryFrame, mkF, argsToLocals, Value.category]; done) | rfl
def QAc_1_0 (Z : State) (x t : Addr) (kt : ClassId) (b : Addr) (kb : ClassId) (pr c0 c1 c2 c3 zc : Int32) (fm fi : Value) (u8 : Addr) (h0 : Heap) (n0 : Nat) (v : Option Value) (h : Heap) (L : List Loc) : Prop := v = none ∧ Fr n0 L ∧ Keep h0 h [x, t] ∧ Exa Z h x "java/lang/StringBuilder" ∧ Fld Z h x "java/lang/AbstractStringBuilder" "value" "[B" (.ref t) ∧ Fld Z h x "java/lang/AbstractStringBuilder" "coder" "B" (.int (0 : Int32)) ∧ Fld Z h x "java/lang/AbstractStringBuilder" "count" "I" (.int (1 : Int32)) ∧ Arv Z h t kt .byte (8192 : Int32) [(.int pr)] (.int (0 : Int32))
set_option maxRecDepth 65536 in
set_option maxHeartbeats 40000000 in
theorem rmAc_1_0 (l : Launch) (Z : State) (a0 : Array Value) (hw : ∀ d ∈ tables_1, d.before a0 Z = true) (ws : List Jvm.Cond) (x t : Addr) (kt : ClassId) (b : Addr) (kb : ClassId) (pr c0 c1 c2 c3 zc : Int32) (fm fi : Value) (u8 : Addr) (h0 : Heap) (n0 : Nat) (Z0 : n0 ≤ h0.size) (O0 : Old Z n0 h0) (S_CS : Sta Z Z.heap "java/lang/String" "COMPACT_STRINGS" "Z" (.int zc)) (hzc : ¬ zc = 0) (S_FM : Sta Z Z.heap "jdk/internal/util/Preconditions" "SIOOBE_FORMATTER" "Ljava/util/function/BiFunction;" fm) (hfm : fm.isRef = true) (S_FI : Sta Z Z.heap "jdk/internal/util/Preconditions" "IOOBE_FORMATTER" "Ljava/util/function/BiFunction;" fi) (hfi : fi.isRef = true) (S_IN : Sta Z Z.heap "sun/nio/cs/UTF_8" "INSTANCE" "Lsun/nio/cs/UTF_8;" (.ref u8)) (S_U8 : Sta Z Z.heap "java/nio/charset/StandardCharsets" "UTF_8" "Ljava/nio/charset/Charset;" (.ref u8)) (gx : n0 ≤ x) (gt : n0 ≤ t) (Ex : Exa Z h0 x "java/lang/StringBuilder") (Fv : Fld Z h0 x "java/lang/AbstractStringBuilder" "value" "[B" (.ref t)) (Fc : Fld Z h0 x "java/lang/AbstractStringBuilder" "coder" "B" (.int (0 : Int32))) (Fn : Fld Z h0 x "java/lang/AbstractStringBuilder" "count" "I" (.int (1 : Int32))) (Vt : Arv Z h0 t kt .byte (8192 : Int32) [(.int pr)] (.int (0 : Int32))) (Vb : Arv Z h0 b kb .char (4 : Int32) [(.int c0), (.int c1), (.int c2), (.int c3)] (.int (0 : Int32))) (neb : b ≠ t) (h_c0 : Pr c0) (h_c1 : Pr c1) (h_c2 : Pr c2) (h_c3 : Pr c3) :
    OwnLaw l y12_ jdk_68_method_74_code 9 none ws (rR 1 0 0 12) #[(.ref x), (.ref b), (.int (1 : Int32)), (.int (1 : Int32))] Z h0 (QAc_1_0 Z x t kt b kb pr c0 c1 c2 c3 zc fm fi u8 h0 n0) := by
  refine own_enter (plainFor_of_name pn_java_lang_AbstractStringBuilder) (efAc_1_0 x b) ?_
  intro p e s m below meth c s₁ Bd hx hby hml hZ hown X0 e0
  have N0 := Fr.nil n0
  have K0 : Keep h0 h0 [] := Keep.refl _ _
  have K0 : Keep h0 h0 [x, t] := Keep.refl _ _
  refine P1.aloadN X0.here hx (hb hby d17_0) rfl rfl ?_
  obtain ⟨T538, X538, e538, st538⟩ := getF X0 hx hZ hown (host := "") (Or.inl (own_w hw 59 rfl)) Via.refl e0 Fn (g := (mkF m 1 #[.val (.ref x), .val (.ref b), .val (.int (1 : Int32)), .val (.int (1 : Int32)), .unset, .unset, .unset, .unset, .unset] [(.ref x)])) rfl rfl (hb hby d17_1)
  refine Goes.step (T' := T538) (g' := (mkF m 4 #[.val (.ref x), .val (.ref b), .val (.int (1 : Int32)), .val (.int (1 : Int32)), .unset, .unset, .unset, .unset, .unset] [(.int (1 : Int32))])) st538 ?_
  refine P1.istore X538.here hx #[.val (.ref x), .val (.ref b), .val (.int (1 : Int32)), .val (.int (1 : Int32)), .val (.int (1 : Int32)), .unset, .unset, .unset, .unset] (hb hby d17_4) rfl ?_
  refine P1.aloadN X538.here hx (hb hby d17_6) rfl rfl ?_
  refine Goes.callV X538 hx hZ (y := y16_) (z := y16_) hown (mvT hZ (own_w hw 66 rfl)) (mvT hZ (own_w hw 67 rfl)) (notFace_of_selects (args := #[]) (mvT hZ (own_w hw 69 rfl))) (mvT hZ (own_w hw 69 rfl)) (mvT hZ (own_w hw 68 rfl)) (by decide) (kc' := 0) (ks' := 0) (backOf (W := 0) (rmIl l Z a0 hw [] x zc fm fi u8 h0 n0 Z0 O0 S_CS hzc S_FM hfm S_FI hfi S_IN S_U8 Fc) hZ (own_w hw 70 rfl) (own_w hw 32 rfl) (ok rfl) (ok rfl)) (b := x) e538 Ex (g := (mkF m 7 #[.val (.ref x), .val (.ref b), .val (.int (1 : Int32)), .val (.int (1 : Int32)), .val (.int (1 : Int32)), .unset, .unset, .unset, .unset] [(.ref x)])) rfl (by rw [hml]; rfl) (argsL := []) (rest := []) (lenOf pd_392 rfl) rfl (by show 2 * 0 + _ ≤ _; exact Nat.le_of_eq rfl) (hb hby d17_7) rfl (ok rfl) (ok rfl) ?_
  intro v539 T539 L539 q539 X539
  obtain ⟨rfl, N539q, hE539⟩ := q539
  have N539 := Fr.app N0 N539q
  show Goes p e below _ T539 (mkF m 10 #[.val (.ref x), .val (.ref b), .val (.int (1 : Int32)), .val (.int (1 : Int32)), .val (.int (1 : Int32)), .unset, .unset, .unset, .unset] [(.int (1 : Int32))])
  refine P1.ifNo X539.here hx (hb hby d17_10) ((if0 _ _).trans (feq (by decide : ¬ ((1 : Int32) = (0 : Int32)))).1) ?_
  refine P1.aloadN X539.here hx (hb hby d17_13) rfl rfl ?_
  obtain ⟨T540, X540, e540, st540⟩ := getF X539 hx hZ hown (host := "") (Or.inl (own_w hw 38 rfl)) Via.refl hE539 Fv (g := (mkF m 14 #[.val (.ref x), .val (.ref b), .val (.int (1 : Int32)), .val (.int (1 : Int32)), .val (.int (1 : Int32)), .unset, .unset, .unset, .unset] [(.ref x)])) rfl rfl (hb hby d17_14)
  refine Goes.step (T' := T540) (g' := (mkF m 17 #[.val (.ref x), .val (.ref b), .val (.int (1 : Int32)), .val (.int (1 : Int32)), .val (.int (1 : Int32)), .unset, .unset, .unset, .unset] [(.ref t)])) st540 ?_
  refine P1.astore X540.here hx #[.val (.ref x), .val (.ref b), .val (.int (1 : Int32)), .val (.int (1 : Int32)), .val (.int (1 : Int32)), .val (.ref t), .unset, .unset, .unset] (hb hby d17_17) rfl rfl ?_
  refine P1.iloadN X540.here hx (hb hby d17_19) rfl ?_
  refine P1.istore X540.here hx #[.val (.ref x), .val (.ref b), .val (.int (1 : Int32)), .val (.int (1 : Int32)), .val (.int (1 : Int32)), .val (.ref t), .val (.int (1 : Int32)), .unset, .unset] (hb hby d17_20) rfl ?_
  refine P1.iload X540.here hx (hb hby d17_22) rfl ?_
  refine P1.istore X540.here hx #[.val (.ref x), .val (.ref b), .val (.int (1 : Int32)), .val (.int (1 : Int32)), .val (.int (1 : Int32)), .val (.ref t), .val (.int (1 : Int32)), .val (.int (1 : Int32)), .unset] (hb hby d17_24) rfl ?_
  refine P1.iload X540.here hx (hb hby d17_26) rfl ?_
  refine P1.iloadN X540.here hx (hb hby d17_28) rfl ?_
  refine P1.icmpYes X540.here hx 104 (hb hby d17_29) (flt (by decide : ¬ ((1 : Int32) < (1 : Int32)))).2.1 (by decide) (by decide) ?_
  refine P1.goto X540.here hx 119 (hb hby d17_104) (by decide) (by decide) ?_
  refine P1.aloadN X540.here hx (hb hby d17_119) rfl rfl ?_
  refine P1.iload X540.here hx (hb hby d17_120) rfl ?_
  refine P1.iloadN X540.here hx (hb hby d17_122) rfl ?_
  refine P1.iadd X540.here hx (hb hby d17_123) ?_
  have rw541 : ((1 : Int32) + (1 : Int32)) = (2 : Int32) := by decide
  rw [rw541]
  refine P1.iloadN X540.here hx (hb hby d17_124) rfl ?_
  refine P1.isub X540.here hx (hb hby d17_125) ?_
  have rw542 : ((2 : Int32) - (1 : Int32)) = (1 : Int32) := by decide
  rw [rw542]
  obtain ⟨T543, h543, X543, e543, W543, st543⟩ := putF X540 hx hZ hown (host := "") (Or.inl (own_w hw 59 rfl)) Via.refl e540 Fn Ex (Or.inl (own_w hw 60 rfl)) (own_w hw 23 rfl) (ty := .int) (by decide) rfl rfl (g := (mkF m 126 #[.val (.ref x), .val (.ref b), .val (.int (1 : Int32)), .val (.int (1 : Int32)), .val (.int (1 : Int32)), .val (.ref t), .val (.int (1 : Int32)), .val (.int (1 : Int32)), .unset] [(.int (1 : Int32)), (.ref x)])) rfl rfl (hb hby d17_126)
  have Fw543 : Fld Z h543 x "java/lang/AbstractStringBuilder" "count" "I" (.int (1 : Int32)) := Fn.same W543
  have N543 := Fr.snoc X543 N539 gx
  refine Goes.step (T' := T543) (g' := (mkF m 129 #[.val (.ref x), .val (.ref b), .val (.int (1 : Int32)), .val (.int (1 : Int32)), .val (.int (1 : Int32)), .val (.ref t), .val (.int (1 : Int32)), .val (.int (1 : Int32)), .unset] [])) st543 ?_
  refine Goes.retV X543 hx Bd.notSynchronized Bd.returns (hb hby d17_129) (ok rfl) (ok rfl) ?_
  rw [e543]
  have K544 : Keep h0 h543 [x, t] := K0.wr W543 (Or.inl (by simp))
  have E545 : Exa Z h543 x "java/lang/StringBuilder" := Ex.wr W543
  have F546 : Fld Z h543 x "java/lang/AbstractStringBuilder" "value" "[B" (.ref t) := Fv.other W543 (Or.inr (slot_ne (Or.inl (own_w hw 39 rfl)) (Or.inl (own_w hw 60 rfl)) (by decide) (t := (.array .byte)) (t' := .int) (by decide) (by decide)))
  have F547 : Fld Z h543 x "java/lang/AbstractStringBuilder" "coder" "B" (.int (0 : Int32)) := Fc.other W543 (Or.inr (slot_ne (Or.inl (own_w hw 41 rfl)) (Or.inl (own_w hw 60 rfl)) (by decide) (t := .byte) (t' := .int) (by decide) (by decide)))
  have ne548 : x ≠ t := own_ne_arv Ex (own_w hw 23 rfl) Vt
  have V549 : Arv Z h543 t kt .byte (8192 : Int32) [(.int pr)] (.int (0 : Int32)) := Vt.other W543 (Ne.symm ne548)
  exact ⟨rfl, N543, K544, E545, F546, F547, Fw543, V549⟩
theorem efAc_2_0 (x b : Addr) (m : MethodId) : entryFrame m #[(.ref x), (.ref b), (.int (2 : Int32)), (.int (2 : Int32))] 9 = mkF m 0 #[.val (.ref x), .val (.ref b), .val (.int (2 : Int32)), .val (.int (2 : Int32)), .unset, .unset, .unset, .unset, .unset] [] := by first | (simp [entryFrame, mkF, argsToLocals, Value.category]; done) | rfl
def QAc_2_0 (Z : State) (x t : Addr) (kt : ClassId) (b : Addr) (kb : ClassId) (pr c0 c1 c2 c3 zc : Int32) (fm fi : Value) (u8 : Addr) (h0 : Heap) (n0 : Nat) (v : Option Value) (h : Heap) (L : List Loc) : Prop := v = none ∧ Fr n0 L ∧ Keep h0 h [x, t] ∧ Exa Z h x "java/lang/StringBuilder" ∧ Fld Z h x "java/lang/AbstractStringBuilder" "value" "[B" (.ref t) ∧ Fld Z h x "java/lang/AbstractStringBuilder" "coder" "B" (.int (0 : Int32)) ∧ Fld Z h x "java/lang/AbstractStringBuilder" "count" "I" (.int (1 : Int32)) ∧ Arv Z h t kt .byte (8192 : Int32) [(.int pr)] (.int (0 : Int32))
set_option maxRecDepth 65536 in
set_option maxHeartbeats 40000000 in
theorem rmAc_2_0 (l : Launch) (Z : State) (a0 : Array Value) (hw : ∀ d ∈ tables_1, d.before a0 Z = true) (ws : List Jvm.Cond) (x t : Addr) (kt : ClassId) (b : Addr) (kb : ClassId) (pr c0 c1 c2 c3 zc : Int32) (fm fi : Value) (u8 : Addr) (h0 : Heap) (n0 : Nat) (Z0 : n0 ≤ h0.size) (O0 : Old Z n0 h0) (S_CS : Sta Z Z.heap "java/lang/String" "COMPACT_STRINGS" "Z" (.int zc)) (hzc : ¬ zc = 0) (S_FM : Sta Z Z.heap "jdk/internal/util/Preconditions" "SIOOBE_FORMATTER" "Ljava/util/function/BiFunction;" fm) (hfm : fm.isRef = true) (S_FI : Sta Z Z.heap "jdk/internal/util/Preconditions" "IOOBE_FORMATTER" "Ljava/util/function/BiFunction;" fi) (hfi : fi.isRef = true) (S_IN : Sta Z Z.heap "sun/nio/cs/UTF_8" "INSTANCE" "Lsun/nio/cs/UTF_8;" (.ref u8)) (S_U8 : Sta Z Z.heap "java/nio/charset/StandardCharsets" "UTF_8" "Ljava/nio/charset/Charset;" (.ref u8)) (gx : n0 ≤ x) (gt : n0 ≤ t) (Ex : Exa Z h0 x "java/lang/StringBuilder") (Fv : Fld Z h0 x "java/lang/AbstractStringBuilder" "value" "[B" (.ref t)) (Fc : Fld Z h0 x "java/lang/AbstractStringBuilder" "coder" "B" (.int (0 : Int32))) (Fn : Fld Z h0 x "java/lang/AbstractStringBuilder" "count" "I" (.int (1 : Int32))) (Vt : Arv Z h0 t kt .byte (8192 : Int32) [(.int pr)] (.int (0 : Int32))) (Vb : Arv Z h0 b kb .char (4 : Int32) [(.int c0), (.int c1), (.int c2), (.int c3)] (.int (0 : Int32))) (neb : b ≠ t) (h_c0 : Pr c0) (h_c1 : Pr c1) (h_c2 : Pr c2) (h_c3 : Pr c3) :
    OwnLaw l y12_ jdk_68_method_74_code 9 none ws (rR 1 0 0 12) #[(.ref x), (.ref b), (.int (2 : Int32)), (.int (2 : Int32))] Z h0 (QAc_2_0 Z x t kt b kb pr c0 c1 c2 c3 zc fm fi u8 h0 n0) := by
  refine own_enter (plainFor_of_name pn_java_lang_AbstractStringBuilder) (efAc_2_0 x b) ?_
  intro p e s m below meth c s₁ Bd hx hby hml hZ hown X0 e0
  have N0 := Fr.nil n0
  have K0 : Keep h0 h0 [] := Keep.refl _ _
  have K0 : Keep h0 h0 [x, t] := Keep.refl _ _
  refine P1.aloadN X0.here hx (hb hby d17_0) rfl rfl ?_
  obtain ⟨T550, X550, e550, st550⟩ := getF X0 hx hZ hown (host := "") (Or.inl (own_w hw 59 rfl)) Via.refl e0 Fn (g := (mkF m 1 #[.val (.ref x), .val (.ref b), .val (.int (2 : Int32)), .val (.int (2 : Int32)), .unset, .unset, .unset, .unset, .unset] [(.ref x)])) rfl rfl (hb hby d17_1)
  refine Goes.step (T' := T550) (g' := (mkF m 4 #[.val (.ref x), .val (.ref b), .val (.int (2 : Int32)), .val (.int (2 : Int32)), .unset, .unset, .unset, .unset, .unset] [(.int (1 : Int32))])) st550 ?_
  refine P1.istore X550.here hx #[.val (.ref x), .val (.ref b), .val (.int (2 : Int32)), .val (.int (2 : Int32)), .val (.int (1 : Int32)), .unset, .unset, .unset, .unset] (hb hby d17_4) rfl ?_
  refine P1.aloadN X550.here hx (hb hby d17_6) rfl rfl ?_
  refine Goes.callV X550 hx hZ (y := y16_) (z := y16_) hown (mvT hZ (own_w hw 66 rfl)) (mvT hZ (own_w hw 67 rfl)) (notFace_of_selects (args := #[]) (mvT hZ (own_w hw 69 rfl))) (mvT hZ (own_w hw 69 rfl)) (mvT hZ (own_w hw 68 rfl)) (by decide) (kc' := 0) (ks' := 0) (backOf (W := 0) (rmIl l Z a0 hw [] x zc fm fi u8 h0 n0 Z0 O0 S_CS hzc S_FM hfm S_FI hfi S_IN S_U8 Fc) hZ (own_w hw 70 rfl) (own_w hw 32 rfl) (ok rfl) (ok rfl)) (b := x) e550 Ex (g := (mkF m 7 #[.val (.ref x), .val (.ref b), .val (.int (2 : Int32)), .val (.int (2 : Int32)), .val (.int (1 : Int32)), .unset, .unset, .unset, .unset] [(.ref x)])) rfl (by rw [hml]; rfl) (argsL := []) (rest := []) (lenOf pd_392 rfl) rfl (by show 2 * 0 + _ ≤ _; exact Nat.le_of_eq rfl) (hb hby d17_7) rfl (ok rfl) (ok rfl) ?_
  intro v551 T551 L551 q551 X551
  obtain ⟨rfl, N551q, hE551⟩ := q551
  have N551 := Fr.app N0 N551q
  show Goes p e below _ T551 (mkF m 10 #[.val (.ref x), .val (.ref b), .val (.int (2 : Int32)), .val (.int (2 : Int32)), .val (.int (1 : Int32)), .unset, .unset, .unset, .unset] [(.int (1 : Int32))])
  refine P1.ifNo X551.here hx (hb hby d17_10) ((if0 _ _).trans (feq (by decide : ¬ ((1 : Int32) = (0 : Int32)))).1) ?_
  refine P1.aloadN X551.here hx (hb hby d17_13) rfl rfl ?_
  obtain ⟨T552, X552, e552, st552⟩ := getF X551 hx hZ hown (host := "") (Or.inl (own_w hw 38 rfl)) Via.refl hE551 Fv (g := (mkF m 14 #[.val (.ref x), .val (.ref b), .val (.int (2 : Int32)), .val (.int (2 : Int32)), .val (.int (1 : Int32)), .unset, .unset, .unset, .unset] [(.ref x)])) rfl rfl (hb hby d17_14)
  refine Goes.step (T' := T552) (g' := (mkF m 17 #[.val (.ref x), .val (.ref b), .val (.int (2 : Int32)), .val (.int (2 : Int32)), .val (.int (1 : Int32)), .unset, .unset, .unset, .unset] [(.ref t)])) st552 ?_
  refine P1.astore X552.here hx #[.val (.ref x), .val (.ref b), .val (.int (2 : Int32)), .val (.int (2 : Int32)), .val (.int (1 : Int32)), .val (.ref t), .unset, .unset, .unset] (hb hby d17_17) rfl rfl ?_
  refine P1.iloadN X552.here hx (hb hby d17_19) rfl ?_
  refine P1.istore X552.here hx #[.val (.ref x), .val (.ref b), .val (.int (2 : Int32)), .val (.int (2 : Int32)), .val (.int (1 : Int32)), .val (.ref t), .val (.int (2 : Int32)), .unset, .unset] (hb hby d17_20) rfl ?_
  refine P1.iload X552.here hx (hb hby d17_22) rfl ?_
  refine P1.istore X552.here hx #[.val (.ref x), .val (.ref b), .val (.int (2 : Int32)), .val (.int (2 : Int32)), .val (.int (1 : Int32)), .val (.ref t), .val (.int (2 : Int32)), .val (.int (1 : Int32)), .unset] (hb hby d17_24) rfl ?_
  refine P1.iload X552.here hx (hb hby d17_26) rfl ?_
  refine P1.iloadN X552.here hx (hb hby d17_28) rfl ?_
  refine P1.icmpYes X552.here hx 104 (hb hby d17_29) (flt (by decide : ¬ ((2 : Int32) < (2 : Int32)))).2.1 (by decide) (by decide) ?_
  refine P1.goto X552.here hx 119 (hb hby d17_104) (by decide) (by decide) ?_
  refine P1.aloadN X552.here hx (hb hby d17_119) rfl rfl ?_
  refine P1.iload X552.here hx (hb hby d17_120) rfl ?_
  refine P1.iloadN X552.here hx (hb hby d17_122) rfl ?_
  refine P1.iadd X552.here hx (hb hby d17_123) ?_
  have rw553 : ((1 : Int32) + (2 : Int32)) = (3 : Int32) := by decide
  rw [rw553]
  refine P1.iloadN X552.here hx (hb hby d17_124) rfl ?_
  refine P1.isub X552.here hx (hb hby d17_125) ?_
  have rw554 : ((3 : Int32) - (2 : Int32)) = (1 : Int32) := by decide
  rw [rw554]
  obtain ⟨T555, h555, X555, e555, W555, st555⟩ := putF X552 hx hZ hown (host := "") (Or.inl (own_w hw 59 rfl)) Via.refl e552 Fn Ex (Or.inl (own_w hw 60 rfl)) (own_w hw 23 rfl) (ty := .int) (by decide) rfl rfl (g := (mkF m 126 #[.val (.ref x), .val (.ref b), .val (.int (2 : Int32)), .val (.int (2 : Int32)), .val (.int (1 : Int32)), .val (.ref t), .val (.int (2 : Int32)), .val (.int (1 : Int32)), .unset] [(.int (1 : Int32)), (.ref x)])) rfl rfl (hb hby d17_126)
  have Fw555 : Fld Z h555 x "java/lang/AbstractStringBuilder" "count" "I" (.int (1 : Int32)) := Fn.same W555
  have N555 := Fr.snoc X555 N551 gx
  refine Goes.step (T' := T555) (g' := (mkF m 129 #[.val (.ref x), .val (.ref b), .val (.int (2 : Int32)), .val (.int (2 : Int32)), .val (.int (1 : Int32)), .val (.ref t), .val (.int (2 : Int32)), .val (.int (1 : Int32)), .unset] [])) st555 ?_
  refine Goes.retV X555 hx Bd.notSynchronized Bd.returns (hb hby d17_129) (ok rfl) (ok rfl) ?_
  rw [e555]
  have K556 : Keep h0 h555 [x, t] := K0.wr W555 (Or.inl (by simp))
  have E557 : Exa Z h555 x "java/lang/StringBuilder" := Ex.wr W555
  have F558 : Fld Z h555 x "java/lang/AbstractStringBuilder" "value" "[B" (.ref t) := Fv.other W555 (Or.inr (slot_ne (Or.inl (own_w hw 39 rfl)) (Or.inl (own_w hw 60 rfl)) (by decide) (t := (.array .byte)) (t' := .int) (by decide) (by decide)))
  have F559 : Fld Z h555 x "java/lang/AbstractStringBuilder" "coder" "B" (.int (0 : Int32)) := Fc.other W555 (Or.inr (slot_ne (Or.inl (own_w hw 41 rfl)) (Or.inl (own_w hw 60 rfl)) (by decide) (t := .byte) (t' := .int) (by decide) (by decide)))
  have ne560 : x ≠ t := own_ne_arv Ex (own_w hw 23 rfl) Vt
  have V561 : Arv Z h555 t kt .byte (8192 : Int32) [(.int pr)] (.int (0 : Int32)) := Vt.other W555 (Ne.symm ne560)
  exact ⟨rfl, N555, K556, E557, F558, F559, Fw555, V561⟩
theorem efAc_3_0 (x b : Addr) (m : MethodId) : entryFrame m #[(.ref x), (.ref b), (.int (3 : Int32)), (.int (3 : Int32))] 9 = mkF m 0 #[.val (.ref x), .val (.ref b), .val (.int (3 : Int32)), .val (.int (3 : Int32)), .unset, .unset, .unset, .unset, .unset] [] := by first | (simp [entryFrame, mkF, argsToLocals, Value.category]; done) | rfl
def QAc_3_0 (Z : State) (x t : Addr) (kt : ClassId) (b : Addr) (kb : ClassId) (pr c0 c1 c2 c3 zc : Int32) (fm fi : Value) (u8 : Addr) (h0 : Heap) (n0 : Nat) (v : Option Value) (h : Heap) (L : List Loc) : Prop := v = none ∧ Fr n0 L ∧ Keep h0 h [x, t] ∧ Exa Z h x "java/lang/StringBuilder" ∧ Fld Z h x "java/lang/AbstractStringBuilder" "value" "[B" (.ref t) ∧ Fld Z h x "java/lang/AbstractStringBuilder" "coder" "B" (.int (0 : Int32)) ∧ Fld Z h x "java/lang/AbstractStringBuilder" "count" "I" (.int (1 : Int32)) ∧ Arv Z h t kt .byte (8192 : Int32) [(.int pr)] (.int (0 : Int32))
set_option maxRecDepth 65536 in
set_option maxHeartbeats 40000000 in
theorem rmAc_3_0 (l : Launch) (Z : State) (a0 : Array Value) (hw : ∀ d ∈ tables_1, d.before a0 Z = true) (ws : List Jvm.Cond) (x t : Addr) (kt : ClassId) (b : Addr) (kb : ClassId) (pr c0 c1 c2 c3 zc : Int32) (fm fi : Value) (u8 : Addr) (h0 : Heap) (n0 : Nat) (Z0 : n0 ≤ h0.size) (O0 : Old Z n0 h0) (S_CS : Sta Z Z.heap "java/lang/String" "COMPACT_STRINGS" "Z" (.int zc)) (hzc : ¬ zc = 0) (S_FM : Sta Z Z.heap "jdk/internal/util/Preconditions" "SIOOBE_FORMATTER" "Ljava/util/function/BiFunction;" fm) (hfm : fm.isRef = true) (S_FI : Sta Z Z.heap "jdk/internal/util/Preconditions" "IOOBE_FORMATTER" "Ljava/util/function/BiFunction;" fi) (hfi : fi.isRef = true) (S_IN : Sta Z Z.heap "sun/nio/cs/UTF_8" "INSTANCE" "Lsun/nio/cs/UTF_8;" (.ref u8)) (S_U8 : Sta Z Z.heap "java/nio/charset/StandardCharsets" "UTF_8" "Ljava/nio/charset/Charset;" (.ref u8)) (gx : n0 ≤ x) (gt : n0 ≤ t) (Ex : Exa Z h0 x "java/lang/StringBuilder") (Fv : Fld Z h0 x "java/lang/AbstractStringBuilder" "value" "[B" (.ref t)) (Fc : Fld Z h0 x "java/lang/AbstractStringBuilder" "coder" "B" (.int (0 : Int32))) (Fn : Fld Z h0 x "java/lang/AbstractStringBuilder" "count" "I" (.int (1 : Int32))) (Vt : Arv Z h0 t kt .byte (8192 : Int32) [(.int pr)] (.int (0 : Int32))) (Vb : Arv Z h0 b kb .char (4 : Int32) [(.int c0), (.int c1), (.int c2), (.int c3)] (.int (0 : Int32))) (neb : b ≠ t) (h_c0 : Pr c0) (h_c1 : Pr c1) (h_c2 : Pr c2) (h_c3 : Pr c3) :
    OwnLaw l y12_ jdk_68_method_74_code 9 none ws (rR 1 0 0 12) #[(.ref x), (.ref b), (.int (3 : Int32)), (.int (3 : Int32))] Z h0 (QAc_3_0 Z x t kt b kb pr c0 c1 c2 c3 zc fm fi u8 h0 n0) := by
  refine own_enter (plainFor_of_name pn_java_lang_AbstractStringBuilder) (efAc_3_0 x b) ?_
  intro p e s m below meth c s₁ Bd hx hby hml hZ hown X0 e0
  have N0 := Fr.nil n0
  have K0 : Keep h0 h0 [] := Keep.refl _ _
  have K0 : Keep h0 h0 [x, t] := Keep.refl _ _
  refine P1.aloadN X0.here hx (hb hby d17_0) rfl rfl ?_
  obtain ⟨T562, X562, e562, st562⟩ := getF X0 hx hZ hown (host := "") (Or.inl (own_w hw 59 rfl)) Via.refl e0 Fn (g := (mkF m 1 #[.val (.ref x), .val (.ref b), .val (.int (3 : Int32)), .val (.int (3 : Int32)), .unset, .unset, .unset, .unset, .unset] [(.ref x)])) rfl rfl (hb hby d17_1)
  refine Goes.step (T' := T562) (g' := (mkF m 4 #[.val (.ref x), .val (.ref b), .val (.int (3 : Int32)), .val (.int (3 : Int32)), .unset, .unset, .unset, .unset, .unset] [(.int (1 : Int32))])) st562 ?_
  refine P1.istore X562.here hx #[.val (.ref x), .val (.ref b), .val (.int (3 : Int32)), .val (.int (3 : Int32)), .val (.int (1 : Int32)), .unset, .unset, .unset, .unset] (hb hby d17_4) rfl ?_
  refine P1.aloadN X562.here hx (hb hby d17_6) rfl rfl ?_
  refine Goes.callV X562 hx hZ (y := y16_) (z := y16_) hown (mvT hZ (own_w hw 66 rfl)) (mvT hZ (own_w hw 67 rfl)) (notFace_of_selects (args := #[]) (mvT hZ (own_w hw 69 rfl))) (mvT hZ (own_w hw 69 rfl)) (mvT hZ (own_w hw 68 rfl)) (by decide) (kc' := 0) (ks' := 0) (backOf (W := 0) (rmIl l Z a0 hw [] x zc fm fi u8 h0 n0 Z0 O0 S_CS hzc S_FM hfm S_FI hfi S_IN S_U8 Fc) hZ (own_w hw 70 rfl) (own_w hw 32 rfl) (ok rfl) (ok rfl)) (b := x) e562 Ex (g := (mkF m 7 #[.val (.ref x), .val (.ref b), .val (.int (3 : Int32)), .val (.int (3 : Int32)), .val (.int (1 : Int32)), .unset, .unset, .unset, .unset] [(.ref x)])) rfl (by rw [hml]; rfl) (argsL := []) (rest := []) (lenOf pd_392 rfl) rfl (by show 2 * 0 + _ ≤ _; exact Nat.le_of_eq rfl) (hb hby d17_7) rfl (ok rfl) (ok rfl) ?_
  intro v563 T563 L563 q563 X563
  obtain ⟨rfl, N563q, hE563⟩ := q563
  have N563 := Fr.app N0 N563q
  show Goes p e below _ T563 (mkF m 10 #[.val (.ref x), .val (.ref b), .val (.int (3 : Int32)), .val (.int (3 : Int32)), .val (.int (1 : Int32)), .unset, .unset, .unset, .unset] [(.int (1 : Int32))])
  refine P1.ifNo X563.here hx (hb hby d17_10) ((if0 _ _).trans (feq (by decide : ¬ ((1 : Int32) = (0 : Int32)))).1) ?_
  refine P1.aloadN X563.here hx (hb hby d17_13) rfl rfl ?_
  obtain ⟨T564, X564, e564, st564⟩ := getF X563 hx hZ hown (host := "") (Or.inl (own_w hw 38 rfl)) Via.refl hE563 Fv (g := (mkF m 14 #[.val (.ref x), .val (.ref b), .val (.int (3 : Int32)), .val (.int (3 : Int32)), .val (.int (1 : Int32)), .unset, .unset, .unset, .unset] [(.ref x)])) rfl rfl (hb hby d17_14)
  refine Goes.step (T' := T564) (g' := (mkF m 17 #[.val (.ref x), .val (.ref b), .val (.int (3 : Int32)), .val (.int (3 : Int32)), .val (.int (1 : Int32)), .unset, .unset, .unset, .unset] [(.ref t)])) st564 ?_
  refine P1.astore X564.here hx #[.val (.ref x), .val (.ref b), .val (.int (3 : Int32)), .val (.int (3 : Int32)), .val (.int (1 : Int32)), .val (.ref t), .unset, .unset, .unset] (hb hby d17_17) rfl rfl ?_
  refine P1.iloadN X564.here hx (hb hby d17_19) rfl ?_
  refine P1.istore X564.here hx #[.val (.ref x), .val (.ref b), .val (.int (3 : Int32)), .val (.int (3 : Int32)), .val (.int (1 : Int32)), .val (.ref t), .val (.int (3 : Int32)), .unset, .unset] (hb hby d17_20) rfl ?_
  refine P1.iload X564.here hx (hb hby d17_22) rfl ?_
  refine P1.istore X564.here hx #[.val (.ref x), .val (.ref b), .val (.int (3 : Int32)), .val (.int (3 : Int32)), .val (.int (1 : Int32)), .val (.ref t), .val (.int (3 : Int32)), .val (.int (1 : Int32)), .unset] (hb hby d17_24) rfl ?_
  refine P1.iload X564.here hx (hb hby d17_26) rfl ?_
  refine P1.iloadN X564.here hx (hb hby d17_28) rfl ?_
  refine P1.icmpYes X564.here hx 104 (hb hby d17_29) (flt (by decide : ¬ ((3 : Int32) < (3 : Int32)))).2.1 (by decide) (by decide) ?_
  refine P1.goto X564.here hx 119 (hb hby d17_104) (by decide) (by decide) ?_
  refine P1.aloadN X564.here hx (hb hby d17_119) rfl rfl ?_
  refine P1.iload X564.here hx (hb hby d17_120) rfl ?_
  refine P1.iloadN X564.here hx (hb hby d17_122) rfl ?_
  refine P1.iadd X564.here hx (hb hby d17_123) ?_
  have rw565 : ((1 : Int32) + (3 : Int32)) = (4 : Int32) := by decide
  rw [rw565]
  refine P1.iloadN X564.here hx (hb hby d17_124) rfl ?_
  refine P1.isub X564.here hx (hb hby d17_125) ?_
  have rw566 : ((4 : Int32) - (3 : Int32)) = (1 : Int32) := by decide
  rw [rw566]
  obtain ⟨T567, h567, X567, e567, W567, st567⟩ := putF X564 hx hZ hown (host := "") (Or.inl (own_w hw 59 rfl)) Via.refl e564 Fn Ex (Or.inl (own_w hw 60 rfl)) (own_w hw 23 rfl) (ty := .int) (by decide) rfl rfl (g := (mkF m 126 #[.val (.ref x), .val (.ref b), .val (.int (3 : Int32)), .val (.int (3 : Int32)), .val (.int (1 : Int32)), .val (.ref t), .val (.int (3 : Int32)), .val (.int (1 : Int32)), .unset] [(.int (1 : Int32)), (.ref x)])) rfl rfl (hb hby d17_126)
  have Fw567 : Fld Z h567 x "java/lang/AbstractStringBuilder" "count" "I" (.int (1 : Int32)) := Fn.same W567
  have N567 := Fr.snoc X567 N563 gx
  refine Goes.step (T' := T567) (g' := (mkF m 129 #[.val (.ref x), .val (.ref b), .val (.int (3 : Int32)), .val (.int (3 : Int32)), .val (.int (1 : Int32)), .val (.ref t), .val (.int (3 : Int32)), .val (.int (1 : Int32)), .unset] [])) st567 ?_
  refine Goes.retV X567 hx Bd.notSynchronized Bd.returns (hb hby d17_129) (ok rfl) (ok rfl) ?_
  rw [e567]
  have K568 : Keep h0 h567 [x, t] := K0.wr W567 (Or.inl (by simp))
  have E569 : Exa Z h567 x "java/lang/StringBuilder" := Ex.wr W567
  have F570 : Fld Z h567 x "java/lang/AbstractStringBuilder" "value" "[B" (.ref t) := Fv.other W567 (Or.inr (slot_ne (Or.inl (own_w hw 39 rfl)) (Or.inl (own_w hw 60 rfl)) (by decide) (t := (.array .byte)) (t' := .int) (by decide) (by decide)))
  have F571 : Fld Z h567 x "java/lang/AbstractStringBuilder" "coder" "B" (.int (0 : Int32)) := Fc.other W567 (Or.inr (slot_ne (Or.inl (own_w hw 41 rfl)) (Or.inl (own_w hw 60 rfl)) (by decide) (t := .byte) (t' := .int) (by decide) (by decide)))
  have ne572 : x ≠ t := own_ne_arv Ex (own_w hw 23 rfl) Vt
  have V573 : Arv Z h567 t kt .byte (8192 : Int32) [(.int pr)] (.int (0 : Int32)) := Vt.other W567 (Ne.symm ne572)
  exact ⟨rfl, N567, K568, E569, F570, F571, Fw567, V573⟩
theorem efAc_4_0 (x b : Addr) (m : MethodId) : entryFrame m #[(.ref x), (.ref b), (.int (4 : Int32)), (.int (4 : Int32))] 9 = mkF m 0 #[.val (.ref x), .val (.ref b), .val (.int (4 : Int32)), .val (.int (4 : Int32)), .unset, .unset, .unset, .unset, .unset] [] := by first | (simp [entryFrame, mkF, argsToLocals, Value.category]; done) | rfl
def QAc_4_0 (Z : State) (x t : Addr) (kt : ClassId) (b : Addr) (kb : ClassId) (pr c0 c1 c2 c3 zc : Int32) (fm fi : Value) (u8 : Addr) (h0 : Heap) (n0 : Nat) (v : Option Value) (h : Heap) (L : List Loc) : Prop := v = none ∧ Fr n0 L ∧ Keep h0 h [x, t] ∧ Exa Z h x "java/lang/StringBuilder" ∧ Fld Z h x "java/lang/AbstractStringBuilder" "value" "[B" (.ref t) ∧ Fld Z h x "java/lang/AbstractStringBuilder" "coder" "B" (.int (0 : Int32)) ∧ Fld Z h x "java/lang/AbstractStringBuilder" "count" "I" (.int (1 : Int32)) ∧ Arv Z h t kt .byte (8192 : Int32) [(.int pr)] (.int (0 : Int32))
set_option maxRecDepth 65536 in
set_option maxHeartbeats 40000000 in
theorem rmAc_4_0 (l : Launch) (Z : State) (a0 : Array Value) (hw : ∀ d ∈ tables_1, d.before a0 Z = true) (ws : List Jvm.Cond) (x t : Addr) (kt : ClassId) (b : Addr) (kb : ClassId) (pr c0 c1 c2 c3 zc : Int32) (fm fi : Value) (u8 : Addr) (h0 : Heap) (n0 : Nat) (Z0 : n0 ≤ h0.size) (O0 : Old Z n0 h0) (S_CS : Sta Z Z.heap "java/lang/String" "COMPACT_STRINGS" "Z" (.int zc)) (hzc : ¬ zc = 0) (S_FM : Sta Z Z.heap "jdk/internal/util/Preconditions" "SIOOBE_FORMATTER" "Ljava/util/function/BiFunction;" fm) (hfm : fm.isRef = true) (S_FI : Sta Z Z.heap "jdk/internal/util/Preconditions" "IOOBE_FORMATTER" "Ljava/util/function/BiFunction;" fi) (hfi : fi.isRef = true) (S_IN : Sta Z Z.heap "sun/nio/cs/UTF_8" "INSTANCE" "Lsun/nio/cs/UTF_8;" (.ref u8)) (S_U8 : Sta Z Z.heap "java/nio/charset/StandardCharsets" "UTF_8" "Ljava/nio/charset/Charset;" (.ref u8)) (gx : n0 ≤ x) (gt : n0 ≤ t) (Ex : Exa Z h0 x "java/lang/StringBuilder") (Fv : Fld Z h0 x "java/lang/AbstractStringBuilder" "value" "[B" (.ref t)) (Fc : Fld Z h0 x "java/lang/AbstractStringBuilder" "coder" "B" (.int (0 : Int32))) (Fn : Fld Z h0 x "java/lang/AbstractStringBuilder" "count" "I" (.int (1 : Int32))) (Vt : Arv Z h0 t kt .byte (8192 : Int32) [(.int pr)] (.int (0 : Int32))) (Vb : Arv Z h0 b kb .char (4 : Int32) [(.int c0), (.int c1), (.int c2), (.int c3)] (.int (0 : Int32))) (neb : b ≠ t) (h_c0 : Pr c0) (h_c1 : Pr c1) (h_c2 : Pr c2) (h_c3 : Pr c3) :
    OwnLaw l y12_ jdk_68_method_74_code 9 none ws (rR 1 0 0 12) #[(.ref x), (.ref b), (.int (4 : Int32)), (.int (4 : Int32))] Z h0 (QAc_4_0 Z x t kt b kb pr c0 c1 c2 c3 zc fm fi u8 h0 n0) := by
  refine own_enter (plainFor_of_name pn_java_lang_AbstractStringBuilder) (efAc_4_0 x b) ?_
  intro p e s m below meth c s₁ Bd hx hby hml hZ hown X0 e0
  have N0 := Fr.nil n0
  have K0 : Keep h0 h0 [] := Keep.refl _ _
  have K0 : Keep h0 h0 [x, t] := Keep.refl _ _
  refine P1.aloadN X0.here hx (hb hby d17_0) rfl rfl ?_
  obtain ⟨T574, X574, e574, st574⟩ := getF X0 hx hZ hown (host := "") (Or.inl (own_w hw 59 rfl)) Via.refl e0 Fn (g := (mkF m 1 #[.val (.ref x), .val (.ref b), .val (.int (4 : Int32)), .val (.int (4 : Int32)), .unset, .unset, .unset, .unset, .unset] [(.ref x)])) rfl rfl (hb hby d17_1)
  refine Goes.step (T' := T574) (g' := (mkF m 4 #[.val (.ref x), .val (.ref b), .val (.int (4 : Int32)), .val (.int (4 : Int32)), .unset, .unset, .unset, .unset, .unset] [(.int (1 : Int32))])) st574 ?_
  refine P1.istore X574.here hx #[.val (.ref x), .val (.ref b), .val (.int (4 : Int32)), .val (.int (4 : Int32)), .val (.int (1 : Int32)), .unset, .unset, .unset, .unset] (hb hby d17_4) rfl ?_
  refine P1.aloadN X574.here hx (hb hby d17_6) rfl rfl ?_
  refine Goes.callV X574 hx hZ (y := y16_) (z := y16_) hown (mvT hZ (own_w hw 66 rfl)) (mvT hZ (own_w hw 67 rfl)) (notFace_of_selects (args := #[]) (mvT hZ (own_w hw 69 rfl))) (mvT hZ (own_w hw 69 rfl)) (mvT hZ (own_w hw 68 rfl)) (by decide) (kc' := 0) (ks' := 0) (backOf (W := 0) (rmIl l Z a0 hw [] x zc fm fi u8 h0 n0 Z0 O0 S_CS hzc S_FM hfm S_FI hfi S_IN S_U8 Fc) hZ (own_w hw 70 rfl) (own_w hw 32 rfl) (ok rfl) (ok rfl)) (b := x) e574 Ex (g := (mkF m 7 #[.val (.ref x), .val (.ref b), .val (.int (4 : Int32)), .val (.int (4 : Int32)), .val (.int (1 : Int32)), .unset, .unset, .unset, .unset] [(.ref x)])) rfl (by rw [hml]; rfl) (argsL := []) (rest := []) (lenOf pd_392 rfl) rfl (by show 2 * 0 + _ ≤ _; exact Nat.le_of_eq rfl) (hb hby d17_7) rfl (ok rfl) (ok rfl) ?_
  intro v575 T575 L575 q575 X575
  obtain ⟨rfl, N575q, hE575⟩ := q575
  have N575 := Fr.app N0 N575q
  show Goes p e below _ T575 (mkF m 10 #[.val (.ref x), .val (.ref b), .val (.int (4 : Int32)), .val (.int (4 : Int32)), .val (.int (1 : Int32)), .unset, .unset, .unset, .unset] [(.int (1 : Int32))])
  refine P1.ifNo X575.here hx (hb hby d17_10) ((if0 _ _).trans (feq (by decide : ¬ ((1 : Int32) = (0 : Int32)))).1) ?_
  refine P1.aloadN X575.here hx (hb hby d17_13) rfl rfl ?_
  obtain ⟨T576, X576, e576, st576⟩ := getF X575 hx hZ hown (host := "") (Or.inl (own_w hw 38 rfl)) Via.refl hE575 Fv (g := (mkF m 14 #[.val (.ref x), .val (.ref b), .val (.int (4 : Int32)), .val (.int (4 : Int32)), .val (.int (1 : Int32)), .unset, .unset, .unset, .unset] [(.ref x)])) rfl rfl (hb hby d17_14)
  refine Goes.step (T' := T576) (g' := (mkF m 17 #[.val (.ref x), .val (.ref b), .val (.int (4 : Int32)), .val (.int (4 : Int32)), .val (.int (1 : Int32)), .unset, .unset, .unset, .unset] [(.ref t)])) st576 ?_
  refine P1.astore X576.here hx #[.val (.ref x), .val (.ref b), .val (.int (4 : Int32)), .val (.int (4 : Int32)), .val (.int (1 : Int32)), .val (.ref t), .unset, .unset, .unset] (hb hby d17_17) rfl rfl ?_
  refine P1.iloadN X576.here hx (hb hby d17_19) rfl ?_
  refine P1.istore X576.here hx #[.val (.ref x), .val (.ref b), .val (.int (4 : Int32)), .val (.int (4 : Int32)), .val (.int (1 : Int32)), .val (.ref t), .val (.int (4 : Int32)), .unset, .unset] (hb hby d17_20) rfl ?_
  refine P1.iload X576.here hx (hb hby d17_22) rfl ?_
  refine P1.istore X576.here hx #[.val (.ref x), .val (.ref b), .val (.int (4 : Int32)), .val (.int (4 : Int32)), .val (.int (1 : Int32)), .val (.ref t), .val (.int (4 : Int32)), .val (.int (1 : Int32)), .unset] (hb hby d17_24) rfl ?_
  refine P1.iload X576.here hx (hb hby d17_26) rfl ?_
  refine P1.iloadN X576.here hx (hb hby d17_28) rfl ?_
  refine P1.icmpYes X576.here hx 104 (hb hby d17_29) (flt (by decide : ¬ ((4 : Int32) < (4 : Int32)))).2.1 (by decide) (by decide) ?_
  refine P1.goto X576.here hx 119 (hb hby d17_104) (by decide) (by decide) ?_
  refine P1.aloadN X576.here hx (hb hby d17_119) rfl rfl ?_
  refine P1.iload X576.here hx (hb hby d17_120) rfl ?_
  refine P1.iloadN X576.here hx (hb hby d17_122) rfl ?_
  refine P1.iadd X576.here hx (hb hby d17_123) ?_
  have rw577 : ((1 : Int32) + (4 : Int32)) = (5 : Int32) := by decide
  rw [rw577]
  refine P1.iloadN X576.here hx (hb hby d17_124) rfl ?_
  refine P1.isub X576.here hx (hb hby d17_125) ?_
  have rw578 : ((5 : Int32) - (4 : Int32)) = (1 : Int32) := by decide
  rw [rw578]
  obtain ⟨T579, h579, X579, e579, W579, st579⟩ := putF X576 hx hZ hown (host := "") (Or.inl (own_w hw 59 rfl)) Via.refl e576 Fn Ex (Or.inl (own_w hw 60 rfl)) (own_w hw 23 rfl) (ty := .int) (by decide) rfl rfl (g := (mkF m 126 #[.val (.ref x), .val (.ref b), .val (.int (4 : Int32)), .val (.int (4 : Int32)), .val (.int (1 : Int32)), .val (.ref t), .val (.int (4 : Int32)), .val (.int (1 : Int32)), .unset] [(.int (1 : Int32)), (.ref x)])) rfl rfl (hb hby d17_126)
  have Fw579 : Fld Z h579 x "java/lang/AbstractStringBuilder" "count" "I" (.int (1 : Int32)) := Fn.same W579
  have N579 := Fr.snoc X579 N575 gx
  refine Goes.step (T' := T579) (g' := (mkF m 129 #[.val (.ref x), .val (.ref b), .val (.int (4 : Int32)), .val (.int (4 : Int32)), .val (.int (1 : Int32)), .val (.ref t), .val (.int (4 : Int32)), .val (.int (1 : Int32)), .unset] [])) st579 ?_
  refine Goes.retV X579 hx Bd.notSynchronized Bd.returns (hb hby d17_129) (ok rfl) (ok rfl) ?_
  rw [e579]
  have K580 : Keep h0 h579 [x, t] := K0.wr W579 (Or.inl (by simp))
  have E581 : Exa Z h579 x "java/lang/StringBuilder" := Ex.wr W579
  have F582 : Fld Z h579 x "java/lang/AbstractStringBuilder" "value" "[B" (.ref t) := Fv.other W579 (Or.inr (slot_ne (Or.inl (own_w hw 39 rfl)) (Or.inl (own_w hw 60 rfl)) (by decide) (t := (.array .byte)) (t' := .int) (by decide) (by decide)))
  have F583 : Fld Z h579 x "java/lang/AbstractStringBuilder" "coder" "B" (.int (0 : Int32)) := Fc.other W579 (Or.inr (slot_ne (Or.inl (own_w hw 41 rfl)) (Or.inl (own_w hw 60 rfl)) (by decide) (t := .byte) (t' := .int) (by decide) (by decide)))
  have ne584 : x ≠ t := own_ne_arv Ex (own_w hw 23 rfl) Vt
  have V585 : Arv Z h579 t kt .byte (8192 : Int32) [(.int pr)] (.int (0 : Int32)) := Vt.other W579 (Ne.symm ne584)
  exact ⟨rfl, N579, K580, E581, F582, F583, Fw579, V585⟩
def QAcG (Z : State) (x t : Addr) (kt : ClassId) (b : Addr) (kb : ClassId) (pr c0 c1 c2 c3 : Int32) (o n : Nat) (zc : Int32) (fm fi : Value) (u8 : Addr) (h0 : Heap) (n0 : Nat) (v : Option Value) (h : Heap) (L : List Loc) : Prop := v = none ∧ Fr n0 L ∧ Keep h0 h [x, t] ∧ Exa Z h x "java/lang/StringBuilder" ∧ Fld Z h x "java/lang/AbstractStringBuilder" "value" "[B" (.ref t) ∧ Fld Z h x "java/lang/AbstractStringBuilder" "coder" "B" (.int (0 : Int32)) ∧ Fld Z h x "java/lang/AbstractStringBuilder" "count" "I" (.int (Int32.ofNat (ocs pr c0 c1 c2 c3 o n).length)) ∧ Arv Z h t kt .byte (8192 : Int32) ((ocs pr c0 c1 c2 c3 o n).map Value.int) (.int (0 : Int32))
set_option maxRecDepth 65536 in
set_option maxHeartbeats 40000000 in
theorem rmAcG (l : Launch) (Z : State) (a0 : Array Value) (hw : ∀ d ∈ tables_1, d.before a0 Z = true) (ws : List Jvm.Cond) (x t : Addr) (kt : ClassId) (b : Addr) (kb : ClassId) (pr c0 c1 c2 c3 : Int32) (o n : Nat) (zc : Int32) (fm fi : Value) (u8 : Addr) (h0 : Heap) (n0 : Nat) (Z0 : n0 ≤ h0.size) (O0 : Old Z n0 h0) (S_CS : Sta Z Z.heap "java/lang/String" "COMPACT_STRINGS" "Z" (.int zc)) (hzc : ¬ zc = 0) (S_FM : Sta Z Z.heap "jdk/internal/util/Preconditions" "SIOOBE_FORMATTER" "Ljava/util/function/BiFunction;" fm) (hfm : fm.isRef = true) (S_FI : Sta Z Z.heap "jdk/internal/util/Preconditions" "IOOBE_FORMATTER" "Ljava/util/function/BiFunction;" fi) (hfi : fi.isRef = true) (S_IN : Sta Z Z.heap "sun/nio/cs/UTF_8" "INSTANCE" "Lsun/nio/cs/UTF_8;" (.ref u8)) (S_U8 : Sta Z Z.heap "java/nio/charset/StandardCharsets" "UTF_8" "Ljava/nio/charset/Charset;" (.ref u8)) (gx : n0 ≤ x) (gt : n0 ≤ t) (Ex : Exa Z h0 x "java/lang/StringBuilder") (Fv : Fld Z h0 x "java/lang/AbstractStringBuilder" "value" "[B" (.ref t)) (Fc : Fld Z h0 x "java/lang/AbstractStringBuilder" "coder" "B" (.int (0 : Int32))) (Fn : Fld Z h0 x "java/lang/AbstractStringBuilder" "count" "I" (.int (1 : Int32))) (Vt : Arv Z h0 t kt .byte (8192 : Int32) [(.int pr)] (.int (0 : Int32))) (Vb : Arv Z h0 b kb .char (4 : Int32) [(.int c0), (.int c1), (.int c2), (.int c3)] (.int (0 : Int32))) (neb : b ≠ t) (h_c0 : Pr c0) (h_c1 : Pr c1) (h_c2 : Pr c2) (h_c3 : Pr c3) (hon : o + n ≤ 4) :
    OwnLaw l y12_ jdk_68_method_74_code 9 none ws (rR 1 0 0 12) #[(.ref x), (.ref b), (.int (Int32.ofNat o)), (.int (Int32.ofNat (o + n)))] Z h0 (QAcG Z x t kt b kb pr c0 c1 c2 c3 o n zc fm fi u8 h0 n0) := by
  rcases own_combos hon with ⟨rfl, rfl⟩ | ⟨rfl, rfl⟩ | ⟨rfl, rfl⟩ | ⟨rfl, rfl⟩ | ⟨rfl, rfl⟩ | ⟨rfl, rfl⟩ | ⟨rfl, rfl⟩ | ⟨rfl, rfl⟩ | ⟨rfl, rfl⟩ | ⟨rfl, rfl⟩ | ⟨rfl, rfl⟩ | ⟨rfl, rfl⟩ | ⟨rfl, rfl⟩ | ⟨rfl, rfl⟩ | ⟨rfl, rfl⟩
  · exact rmAc_0_0 l Z a0 hw ws x t kt b kb pr c0 c1 c2 c3 zc fm fi u8 h0 n0 Z0 O0 S_CS hzc S_FM hfm S_FI hfi S_IN S_U8 gx gt Ex Fv Fc Fn Vt Vb neb h_c0 h_c1 h_c2 h_c3
  · exact rmAc_0_1 l Z a0 hw ws x t kt b kb pr c0 c1 c2 c3 zc fm fi u8 h0 n0 Z0 O0 S_CS hzc S_FM hfm S_FI hfi S_IN S_U8 gx gt Ex Fv Fc Fn Vt Vb neb h_c0 h_c1 h_c2 h_c3
  · exact rmAc_0_2 l Z a0 hw ws x t kt b kb pr c0 c1 c2 c3 zc fm fi u8 h0 n0 Z0 O0 S_CS hzc S_FM hfm S_FI hfi S_IN S_U8 gx gt Ex Fv Fc Fn Vt Vb neb h_c0 h_c1 h_c2 h_c3
  · exact rmAc_0_3 l Z a0 hw ws x t kt b kb pr c0 c1 c2 c3 zc fm fi u8 h0 n0 Z0 O0 S_CS hzc S_FM hfm S_FI hfi S_IN S_U8 gx gt Ex Fv Fc Fn Vt Vb neb h_c0 h_c1 h_c2 h_c3
  · exact rmAc_0_4 l Z a0 hw ws x t kt b kb pr c0 c1 c2 c3 zc fm fi u8 h0 n0 Z0 O0 S_CS hzc S_FM hfm S_FI hfi S_IN S_U8 gx gt Ex Fv Fc Fn Vt Vb neb h_c0 h_c1 h_c2 h_c3
  · exact rmAc_1_0 l Z a0 hw ws x t kt b kb pr c0 c1 c2 c3 zc fm fi u8 h0 n0 Z0 O0 S_CS hzc S_FM hfm S_FI hfi S_IN S_U8 gx gt Ex Fv Fc Fn Vt Vb neb h_c0 h_c1 h_c2 h_c3
  · exact rmAc_1_1 l Z a0 hw ws x t kt b kb pr c0 c1 c2 c3 zc fm fi u8 h0 n0 Z0 O0 S_CS hzc S_FM hfm S_FI hfi S_IN S_U8 gx gt Ex Fv Fc Fn Vt Vb neb h_c0 h_c1 h_c2 h_c3
  · exact rmAc_1_2 l Z a0 hw ws x t kt b kb pr c0 c1 c2 c3 zc fm fi u8 h0 n0 Z0 O0 S_CS hzc S_FM hfm S_FI hfi S_IN S_U8 gx gt Ex Fv Fc Fn Vt Vb neb h_c0 h_c1 h_c2 h_c3
  · exact rmAc_1_3 l Z a0 hw ws x t kt b kb pr c0 c1 c2 c3 zc fm fi u8 h0 n0 Z0 O0 S_CS hzc S_FM hfm S_FI hfi S_IN S_U8 gx gt Ex Fv Fc Fn Vt Vb neb h_c0 h_c1 h_c2 h_c3
  · exact rmAc_2_0 l Z a0 hw ws x t kt b kb pr c0 c1 c2 c3 zc fm fi u8 h0 n0 Z0 O0 S_CS hzc S_FM hfm S_FI hfi S_IN S_U8 gx gt Ex Fv Fc Fn Vt Vb neb h_c0 h_c1 h_c2 h_c3
  · exact rmAc_2_1 l Z a0 hw ws x t kt b kb pr c0 c1 c2 c3 zc fm fi u8 h0 n0 Z0 O0 S_CS hzc S_FM hfm S_FI hfi S_IN S_U8 gx gt Ex Fv Fc Fn Vt Vb neb h_c0 h_c1 h_c2 h_c3
  · exact rmAc_2_2 l Z a0 hw ws x t kt b kb pr c0 c1 c2 c3 zc fm fi u8 h0 n0 Z0 O0 S_CS hzc S_FM hfm S_FI hfi S_IN S_U8 gx gt Ex Fv Fc Fn Vt Vb neb h_c0 h_c1 h_c2 h_c3
  · exact rmAc_3_0 l Z a0 hw ws x t kt b kb pr c0 c1 c2 c3 zc fm fi u8 h0 n0 Z0 O0 S_CS hzc S_FM hfm S_FI hfi S_IN S_U8 gx gt Ex Fv Fc Fn Vt Vb neb h_c0 h_c1 h_c2 h_c3
  · exact rmAc_3_1 l Z a0 hw ws x t kt b kb pr c0 c1 c2 c3 zc fm fi u8 h0 n0 Z0 O0 S_CS hzc S_FM hfm S_FI hfi S_IN S_U8 gx gt Ex Fv Fc Fn Vt Vb neb h_c0 h_c1 h_c2 h_c3
  · exact rmAc_4_0 l Z a0 hw ws x t kt b kb pr c0 c1 c2 c3 zc fm fi u8 h0 n0 Z0 O0 S_CS hzc S_FM hfm S_FI hfi S_IN S_U8 gx gt Ex Fv Fc Fn Vt Vb neb h_c0 h_c1 h_c2 h_c3
theorem d15_0 : decode jdk_68_method_29_code 0 = .ok (.iload_n 2, 1) := by decide +kernel
theorem d15_1 : decode jdk_68_method_29_code 1 = .ok (.iload_n 3, 1) := by decide +kernel
theorem d15_2 : decode jdk_68_method_29_code 2 = .ok (.iadd, 1) := by decide +kernel
theorem d15_3 : decode jdk_68_method_29_code 3 = .ok (.istore 4, 2) := by decide +kernel
theorem d15_5 : decode jdk_68_method_29_code 5 = .ok (.iload_n 2, 1) := by decide +kernel
theorem d15_6 : decode jdk_68_method_29_code 6 = .ok (.iload 4, 2) := by decide +kernel
theorem d15_8 : decode jdk_68_method_29_code 8 = .ok (.aload_n 1, 1) := by decide +kernel
theorem d15_9 : decode jdk_68_method_29_code 9 = .ok (.arraylength, 1) := by decide +kernel
theorem d15_10 : decode jdk_68_method_29_code 10 = .ok (.getstatic 183, 3) := by decide +kernel
theorem d15_13 : decode jdk_68_method_29_code 13 = .ok (.invokestatic 161, 3) := by decide +kernel
theorem d15_16 : decode jdk_68_method_29_code 16 = .ok (.pop, 1) := by decide +kernel
theorem d15_17 : decode jdk_68_method_29_code 17 = .ok (.aload_n 0, 1) := by decide +kernel
theorem d15_18 : decode jdk_68_method_29_code 18 = .ok (.aload_n 0, 1) := by decide +kernel
theorem d15_19 : decode jdk_68_method_29_code 19 = .ok (.getfield 79, 3) := by decide +kernel
theorem d15_22 : decode jdk_68_method_29_code 22 = .ok (.iload_n 3, 1) := by decide +kernel
theorem d15_23 : decode jdk_68_method_29_code 23 = .ok (.iadd, 1) := by decide +kernel
theorem d15_24 : decode jdk_68_method_29_code 24 = .ok (.invokevirtual 100, 3) := by decide +kernel
theorem d15_27 : decode jdk_68_method_29_code 27 = .ok (.aload_n 0, 1) := by decide +kernel
theorem d15_28 : decode jdk_68_method_29_code 28 = .ok (.aload_n 1, 1) := by decide +kernel
theorem d15_29 : decode jdk_68_method_29_code 29 = .ok (.iload_n 2, 1) := by decide +kernel
theorem d15_30 : decode jdk_68_method_29_code 30 = .ok (.iload 4, 2) := by decide +kernel
theorem d15_32 : decode jdk_68_method_29_code 32 = .ok (.invokevirtual 239, 3) := by decide +kernel
theorem d15_35 : decode jdk_68_method_29_code 35 = .ok (.aload_n 0, 1) := by decide +kernel
theorem d15_36 : decode jdk_68_method_29_code 36 = .ok (.areturn, 1) := by decide +kernel
theorem pd_65354 : parseMethodDescriptor "(IIILjava/util/function/BiFunction;)I" = some ⟨[.int, .int, .int, (.object "java/util/function/BiFunction")], some .int⟩ := by decide +kernel
theorem pd_1928 : parseMethodDescriptor "([CII)V" = some ⟨[(.array .char), .int, .int], none⟩ := by decide +kernel
theorem efA3 (x b : Addr) (oi ni : Int32) (m : MethodId) : entryFrame m #[(.ref x), (.ref b), (.int oi), (.int ni)] 5 = mkF m 0 #[.val (.ref x), .val (.ref b), .val (.int oi), .val (.int ni), .unset] [] := by first | (simp [entryFrame, mkF, argsToLocals, Value.category]; done) | rfl
def QA3 (Z : State) (x t : Addr) (kt : ClassId) (b : Addr) (kb : ClassId) (pr c0 c1 c2 c3 : Int32) (o n : Nat) (oi ni zc : Int32) (fm fi : Value) (u8 : Addr) (h0 : Heap) (n0 : Nat) (v : Option Value) (h : Heap) (L : List Loc) : Prop := v = some (.ref x) ∧ Fr n0 L ∧ Keep h0 h [x, t] ∧ Exa Z h x "java/lang/StringBuilder" ∧ Fld Z h x "java/lang/AbstractStringBuilder" "value" "[B" (.ref t) ∧ Fld Z h x "java/lang/AbstractStringBuilder" "coder" "B" (.int (0 : Int32)) ∧ Fld Z h x "java/lang/AbstractStringBuilder" "count" "I" (.int (Int32.ofNat (ocs pr c0 c1 c2 c3 o n).length)) ∧ Arv Z h t kt .byte (8192 : Int32) ((ocs pr c0 c1 c2 c3 o n).map Value.int) (.int (0 : Int32))
set_option maxRecDepth 65536 in
set_option maxHeartbeats 40000000 in
theorem rmA3 (l : Launch) (Z : State) (a0 : Array Value) (hw : ∀ d ∈ tables_1, d.before a0 Z = true) (ws : List Jvm.Cond) (x t : Addr) (kt : ClassId) (b : Addr) (kb : ClassId) (pr c0 c1 c2 c3 : Int32) (o n : Nat) (oi ni zc : Int32) (fm fi : Value) (u8 : Addr) (h0 : Heap) (n0 : Nat) (Z0 : n0 ≤ h0.size) (O0 : Old Z n0 h0) (S_CS : Sta Z Z.heap "java/lang/String" "COMPACT_STRINGS" "Z" (.int zc)) (hzc : ¬ zc = 0) (S_FM : Sta Z Z.heap "jdk/internal/util/Preconditions" "SIOOBE_FORMATTER" "Ljava/util/function/BiFunction;" fm) (hfm : fm.isRef = true) (S_FI : Sta Z Z.heap "jdk/internal/util/Preconditions" "IOOBE_FORMATTER" "Ljava/util/function/BiFunction;" fi) (hfi : fi.isRef = true) (S_IN : Sta Z Z.heap "sun/nio/cs/UTF_8" "INSTANCE" "Lsun/nio/cs/UTF_8;" (.ref u8)) (S_U8 : Sta Z Z.heap "java/nio/charset/StandardCharsets" "UTF_8" "Ljava/nio/charset/Charset;" (.ref u8)) (gx : n0 ≤ x) (gt : n0 ≤ t) (Ex : Exa Z h0 x "java/lang/StringBuilder") (Fv : Fld Z h0 x "java/lang/AbstractStringBuilder" "value" "[B" (.ref t)) (Fc : Fld Z h0 x "java/lang/AbstractStringBuilder" "coder" "B" (.int (0 : Int32))) (Fn : Fld Z h0 x "java/lang/AbstractStringBuilder" "count" "I" (.int (1 : Int32))) (Vt : Arv Z h0 t kt .byte (8192 : Int32) [(.int pr)] (.int (0 : Int32))) (Vb : Arv Z h0 b kb .char (4 : Int32) [(.int c0), (.int c1), (.int c2), (.int c3)] (.int (0 : Int32))) (neb : b ≠ t) (h_c0 : Pr c0) (h_c1 : Pr c1) (h_c2 : Pr c2) (h_c3 : Pr c3) (hon : o + n ≤ 4) (hoi : oi = Int32.ofNat o) (hni : ni = Int32.ofNat n) :
    OwnLaw l (⟨"java/lang/AbstractStringBuilder", "append", "([CII)Ljava/lang/AbstractStringBuilder;"⟩ : MethodName) jdk_68_method_29_code 5 (some (.object "java/lang/AbstractStringBuilder")) ws (rR 2 0 0 32) #[(.ref x), (.ref b), (.int oi), (.int ni)] Z h0 (QA3 Z x t kt b kb pr c0 c1 c2 c3 o n oi ni zc fm fi u8 h0 n0) := by
  refine own_enter (plainFor_of_name pn_java_lang_AbstractStringBuilder) (efA3 x b oi ni) ?_
  intro p e s m below meth c s₁ Bd hx hby hml hZ hown X0 e0
  have N0 := Fr.nil n0
  have K0 : Keep h0 h0 [] := Keep.refl _ _
  have K0 : Keep h0 h0 [x, t] := Keep.refl _ _
  subst hoi hni
  refine P1.iloadN X0.here hx (hb hby d15_0) rfl ?_
  refine P1.iloadN X0.here hx (hb hby d15_1) rfl ?_
  refine P1.iadd X0.here hx (hb hby d15_2) ?_
  have rw586 : ((Int32.ofNat o) + (Int32.ofNat n)) = (Int32.ofNat (o + n)) := (Int32.ofNat_add o n).symm
  rw [rw586]
  refine P1.istore X0.here hx #[.val (.ref x), .val (.ref b), .val (.int (Int32.ofNat o)), .val (.int (Int32.ofNat n)), .val (.int (Int32.ofNat (o + n)))] (hb hby d15_3) rfl ?_
  refine P1.iloadN X0.here hx (hb hby d15_5) rfl ?_
  refine P1.iload X0.here hx (hb hby d15_6) rfl ?_
  refine P1.aloadN X0.here hx (hb hby d15_8) rfl rfl ?_
  obtain ⟨cl587, Ar587, qk587, sl587, nz587, ha587, fi587⟩ := id Vb
  have al588 : cl587.slots.size.toInt32 = (4 : Int32) := len_of sl587 nz587
  refine Goes.step (T' := s₁) (g' := (mkF m 10 #[.val (.ref x), .val (.ref b), .val (.int (Int32.ofNat o)), .val (.int (Int32.ofNat n)), .val (.int (Int32.ofNat (o + n)))] [(.int (4 : Int32)), (.int (Int32.ofNat (o + n))), (.int (Int32.ofNat o))])) (fun t_ k_ => X0.arraylength hx (by rw [e0]; exact Ar587.1) (State.isArrayOf_alike hZ.alike Ar587.2.1) (g := (mkF m 9 #[.val (.ref x), .val (.ref b), .val (.int (Int32.ofNat o)), .val (.int (Int32.ofNat n)), .val (.int (Int32.ofNat (o + n)))] [(.ref b), (.int (Int32.ofNat (o + n))), (.int (Int32.ofNat o))])) rfl rfl (hb hby d15_9) _ <| by rw [al588]; exact k_) ?_
  obtain ⟨T589, X589, e589, st589⟩ := getS2 X0 hx hZ hown (host := "") (Or.inl (own_w hw 89 rfl)) Via.refl e0 (S_FI.ext O0.2) (g := (mkF m 10 #[.val (.ref x), .val (.ref b), .val (.int (Int32.ofNat o)), .val (.int (Int32.ofNat n)), .val (.int (Int32.ofNat (o + n)))] [(.int (4 : Int32)), (.int (Int32.ofNat (o + n))), (.int (Int32.ofNat o))])) rfl (hb hby d15_10)
  refine Goes.step (T' := T589) (g' := (mkF m 13 #[.val (.ref x), .val (.ref b), .val (.int (Int32.ofNat o)), .val (.int (Int32.ofNat n)), .val (.int (Int32.ofNat (o + n)))] [fi, (.int (4 : Int32)), (.int (Int32.ofNat (o + n))), (.int (Int32.ofNat o))])) st589 ?_
  refine Goes.callS X589 hx (y := (⟨"jdk/internal/util/Preconditions", "checkFromToIndex", "(IIILjava/util/function/BiFunction;)I"⟩ : MethodName)) hown (mvT hZ (own_w hw 92 rfl)) (mvT hZ (own_w hw 93 rfl)) (mvT hZ (own_w hw 90 rfl)) (mvT hZ (own_w hw 94 rfl)) (by decide) (kc' := 0) (ks' := 0) (backOf (W := 0) (rmCft l Z a0 hw [] (Int32.ofNat o) (Int32.ofNat (o + n)) (4 : Int32) fi h0 n0 Z0 O0 (own_ft hon).1 (own_ft hon).2.1 (own_ft hon).2.2 (own_cat hfi)) hZ (own_w hw 94 rfl) (own_w hw 90 rfl) (ok rfl) (ok rfl)) (g := (mkF m 13 #[.val (.ref x), .val (.ref b), .val (.int (Int32.ofNat o)), .val (.int (Int32.ofNat n)), .val (.int (Int32.ofNat (o + n)))] [fi, (.int (4 : Int32)), (.int (Int32.ofNat (o + n))), (.int (Int32.ofNat o))])) rfl (by rw [hml]; rfl) (argsL := [(.int (Int32.ofNat o)), (.int (Int32.ofNat (o + n))), (.int (4 : Int32)), fi]) (rest := []) (lenOf pd_65354 rfl) rfl (by show 2 * 0 + _ ≤ _; exact Nat.le_of_eq rfl) (hb hby d15_13) rfl e589 (ok rfl) (ok rfl) ?_
  intro v590 T590 L590 q590 X590
  obtain ⟨rfl, N590q, hE590⟩ := q590
  have N590 := Fr.app N0 N590q
  show Goes p e below _ T590 (mkF m 16 #[.val (.ref x), .val (.ref b), .val (.int (Int32.ofNat o)), .val (.int (Int32.ofNat n)), .val (.int (Int32.ofNat (o + n)))] [(.int (Int32.ofNat o))])
  refine P1.pop X590.here hx (hb hby d15_16) rfl ?_
  refine P1.aloadN X590.here hx (hb hby d15_17) rfl rfl ?_
  refine P1.aloadN X590.here hx (hb hby d15_18) rfl rfl ?_
  obtain ⟨T591, X591, e591, st591⟩ := getF X590 hx hZ hown (host := "") (Or.inl (own_w hw 59 rfl)) Via.refl hE590 Fn (g := (mkF m 19 #[.val (.ref x), .val (.ref b), .val (.int (Int32.ofNat o)), .val (.int (Int32.ofNat n)), .val (.int (Int32.ofNat (o + n)))] [(.ref x), (.ref x)])) rfl rfl (hb hby d15_19)
  refine Goes.step (T' := T591) (g' := (mkF m 22 #[.val (.ref x), .val (.ref b), .val (.int (Int32.ofNat o)), .val (.int (Int32.ofNat n)), .val (.int (Int32.ofNat (o + n)))] [(.int (1 : Int32)), (.ref x)])) st591 ?_
  refine P1.iloadN X591.here hx (hb hby d15_22) rfl ?_
  refine P1.iadd X591.here hx (hb hby d15_23) ?_
  refine Goes.callV X591 hx hZ (y := y14_) (z := y14_) hown (mvT hZ (own_w hw 61 rfl)) (mvT hZ (own_declares (own_w hw 62 rfl) (own_w hw 65 rfl))) (notFace_of_selects (args := #[]) (mvT hZ (own_w hw 64 rfl))) (mvT hZ (own_w hw 64 rfl)) (mvT hZ (own_w hw 62 rfl)) (by decide) (kc' := 0) (ks' := 0) (backOf (W := 0) (rmEns l Z a0 hw [] x t kt [(.int pr)] ((1 : Int32) + (Int32.ofNat n)) h0 n0 Z0 O0 Ex Fv Fc Vt (own_room (by omega))) hZ (own_w hw 65 rfl) (own_w hw 32 rfl) (ok rfl) (ok rfl)) (b := x) e591 Ex (g := (mkF m 24 #[.val (.ref x), .val (.ref b), .val (.int (Int32.ofNat o)), .val (.int (Int32.ofNat n)), .val (.int (Int32.ofNat (o + n)))] [(.int ((1 : Int32) + (Int32.ofNat n))), (.ref x)])) rfl (by rw [hml]; rfl) (argsL := [(.int ((1 : Int32) + (Int32.ofNat n)))]) (rest := []) (lenOf pd_653 rfl) rfl (by show 2 * 0 + _ ≤ _; exact Nat.le_of_eq rfl) (hb hby d15_24) rfl (ok rfl) (ok rfl) ?_
  intro v592 T592 L592 q592 X592
  obtain ⟨rfl, N592q, hE592⟩ := q592
  have N592 := Fr.app N590 N592q
  show Goes p e below _ T592 (mkF m 27 #[.val (.ref x), .val (.ref b), .val (.int (Int32.ofNat o)), .val (.int (Int32.ofNat n)), .val (.int (Int32.ofNat (o + n)))] [])
  refine P1.aloadN X592.here hx (hb hby d15_27) rfl rfl ?_
  refine P1.aloadN X592.here hx (hb hby d15_28) rfl rfl ?_
  refine P1.iloadN X592.here hx (hb hby d15_29) rfl ?_
  refine P1.iload X592.here hx (hb hby d15_30) rfl ?_
  refine Goes.callV X592 hx hZ (y := y12_) (z := y12_) hown (mvT hZ (own_w hw 95 rfl)) (mvT hZ (own_declares (own_w hw 96 rfl) (own_w hw 99 rfl))) (notFace_of_selects (args := #[]) (mvT hZ (own_w hw 98 rfl))) (mvT hZ (own_w hw 98 rfl)) (mvT hZ (own_w hw 96 rfl)) (by decide) (kc' := 0) (ks' := 0) (backOf (W := 0) (rmAcG l Z a0 hw [] x t kt b kb pr c0 c1 c2 c3 o n zc fm fi u8 h0 n0 Z0 O0 S_CS hzc S_FM hfm S_FI hfi S_IN S_U8 gx gt Ex Fv Fc Fn Vt Vb neb h_c0 h_c1 h_c2 h_c3 hon) hZ (own_w hw 99 rfl) (own_w hw 32 rfl) (ok rfl) (ok rfl)) (b := x) hE592 Ex (g := (mkF m 32 #[.val (.ref x), .val (.ref b), .val (.int (Int32.ofNat o)), .val (.int (Int32.ofNat n)), .val (.int (Int32.ofNat (o + n)))] [(.int (Int32.ofNat (o + n))), (.int (Int32.ofNat o)), (.ref b), (.ref x)])) rfl (by rw [hml]; rfl) (argsL := [(.ref b), (.int (Int32.ofNat o)), (.int (Int32.ofNat (o + n)))]) (rest := []) (lenOf pd_1928 rfl) rfl (by show 2 * 0 + _ ≤ _; exact Nat.le_of_eq rfl) (hb hby d15_32) rfl (ok rfl) (ok rfl) ?_
  intro v593 T593 L593 q593 X593
  obtain ⟨rfl, N593q, K593, g593E, g593v, g593c, g593n, g593V⟩ := q593
  have N593 := Fr.app N592 N593q
  show Goes p e below _ T593 (mkF m 35 #[.val (.ref x), .val (.ref b), .val (.int (Int32.ofNat o)), .val (.int (Int32.ofNat n)), .val (.int (Int32.ofNat (o + n)))] [])
  refine P1.aloadN X593.here hx (hb hby d15_35) rfl rfl ?_
  refine Goes.retA X593 hx Bd.notSynchronized Bd.returns rfl rfl (hb hby d15_36) (ok rfl) (ok rfl) ?_
  have K594 : Keep h0 T593.heap [x, t] := K0.trans K593 (allS (Or.inl (by simp)) (allS (Or.inl (by simp)) all0))
  exact ⟨rfl, N593, K594, g593E, g593v, g593c, g593n, g593V⟩
theorem d14_0 : decode jdk_67_method_12_code 0 = .ok (.aload_n 0, 1) := by decide +kernel
theorem d14_1 : decode jdk_67_method_12_code 1 = .ok (.aload_n 1, 1) := by decide +kernel
theorem d14_2 : decode jdk_67_method_12_code 2 = .ok (.iload_n 2, 1) := by decide +kernel
theorem d14_3 : decode jdk_67_method_12_code 3 = .ok (.iload_n 3, 1) := by decide +kernel
theorem d14_4 : decode jdk_67_method_12_code 4 = .ok (.invokespecial 44, 3) := by decide +kernel
theorem d14_7 : decode jdk_67_method_12_code 7 = .ok (.pop, 1) := by decide +kernel
theorem d14_8 : decode jdk_67_method_12_code 8 = .ok (.aload_n 0, 1) := by decide +kernel
theorem d14_9 : decode jdk_67_method_12_code 9 = .ok (.areturn, 1) := by decide +kernel
theorem pd_76345 : parseMethodDescriptor "([CII)Ljava/lang/AbstractStringBuilder;" = some ⟨[(.array .char), .int, .int], some (.object "java/lang/AbstractStringBuilder")⟩ := by decide +kernel
theorem efS3 (x b : Addr) (oi ni : Int32) (m : MethodId) : entryFrame m #[(.ref x), (.ref b), (.int oi), (.int ni)] 4 = mkF m 0 #[.val (.ref x), .val (.ref b), .val (.int oi), .val (.int ni)] [] := by first | (simp [entryFrame, mkF, argsToLocals, Value.category]; done) | rfl
def QS3 (Z : State) (x t : Addr) (kt : ClassId) (b : Addr) (kb : ClassId) (pr c0 c1 c2 c3 : Int32) (o n : Nat) (oi ni zc : Int32) (fm fi : Value) (u8 : Addr) (h0 : Heap) (n0 : Nat) (v : Option Value) (h : Heap) (L : List Loc) : Prop := v = some (.ref x) ∧ Fr n0 L ∧ Keep h0 h [x, t] ∧ Exa Z h x "java/lang/StringBuilder" ∧ Fld Z h x "java/lang/AbstractStringBuilder" "value" "[B" (.ref t) ∧ Fld Z h x "java/lang/AbstractStringBuilder" "coder" "B" (.int (0 : Int32)) ∧ Fld Z h x "java/lang/AbstractStringBuilder" "count" "I" (.int (Int32.ofNat (ocs pr c0 c1 c2 c3 o n).length)) ∧ Arv Z h t kt .byte (8192 : Int32) ((ocs pr c0 c1 c2 c3 o n).map Value.int) (.int (0 : Int32))
set_option maxRecDepth 65536 in
set_option maxHeartbeats 40000000 in
theorem rmS3 (l : Launch) (Z : State) (a0 : Array Value) (hw : ∀ d ∈ tables_1, d.before a0 Z = true) (ws : List Jvm.Cond) (x t : Addr) (kt : ClassId) (b : Addr) (kb : ClassId) (pr c0 c1 c2 c3 : Int32) (o n : Nat) (oi ni zc : Int32) (fm fi : Value) (u8 : Addr) (h0 : Heap) (n0 : Nat) (Z0 : n0 ≤ h0.size) (O0 : Old Z n0 h0) (S_CS : Sta Z Z.heap "java/lang/String" "COMPACT_STRINGS" "Z" (.int zc)) (hzc : ¬ zc = 0) (S_FM : Sta Z Z.heap "jdk/internal/util/Preconditions" "SIOOBE_FORMATTER" "Ljava/util/function/BiFunction;" fm) (hfm : fm.isRef = true) (S_FI : Sta Z Z.heap "jdk/internal/util/Preconditions" "IOOBE_FORMATTER" "Ljava/util/function/BiFunction;" fi) (hfi : fi.isRef = true) (S_IN : Sta Z Z.heap "sun/nio/cs/UTF_8" "INSTANCE" "Lsun/nio/cs/UTF_8;" (.ref u8)) (S_U8 : Sta Z Z.heap "java/nio/charset/StandardCharsets" "UTF_8" "Ljava/nio/charset/Charset;" (.ref u8)) (gx : n0 ≤ x) (gt : n0 ≤ t) (Ex : Exa Z h0 x "java/lang/StringBuilder") (Fv : Fld Z h0 x "java/lang/AbstractStringBuilder" "value" "[B" (.ref t)) (Fc : Fld Z h0 x "java/lang/AbstractStringBuilder" "coder" "B" (.int (0 : Int32))) (Fn : Fld Z h0 x "java/lang/AbstractStringBuilder" "count" "I" (.int (1 : Int32))) (Vt : Arv Z h0 t kt .byte (8192 : Int32) [(.int pr)] (.int (0 : Int32))) (Vb : Arv Z h0 b kb .char (4 : Int32) [(.int c0), (.int c1), (.int c2), (.int c3)] (.int (0 : Int32))) (neb : b ≠ t) (h_c0 : Pr c0) (h_c1 : Pr c1) (h_c2 : Pr c2) (h_c3 : Pr c3) (hon : o + n ≤ 4) (hoi : oi = Int32.ofNat o) (hni : ni = Int32.ofNat n) :
    OwnLaw l y30_ jdk_67_method_12_code 4 (some (.object "java/lang/StringBuilder")) ws (rR 3 0 0 48) #[(.ref x), (.ref b), (.int oi), (.int ni)] Z h0 (QS3 Z x t kt b kb pr c0 c1 c2 c3 o n oi ni zc fm fi u8 h0 n0) := by
  refine own_enter (plainFor_of_name pn_java_lang_StringBuilder) (efS3 x b oi ni) ?_
  intro p e s m below meth c s₁ Bd hx hby hml hZ hown X0 e0
  have N0 := Fr.nil n0
  have K0 : Keep h0 h0 [] := Keep.refl _ _
  have K0 : Keep h0 h0 [x, t] := Keep.refl _ _
  subst hoi hni
  refine P1.aloadN X0.here hx (hb hby d14_0) rfl rfl ?_
  refine P1.aloadN X0.here hx (hb hby d14_1) rfl rfl ?_
  refine P1.iloadN X0.here hx (hb hby d14_2) rfl ?_
  refine P1.iloadN X0.here hx (hb hby d14_3) rfl ?_
  refine Goes.callSup X0 hx hZ (y := (⟨"java/lang/AbstractStringBuilder", "append", "([CII)Ljava/lang/AbstractStringBuilder;"⟩ : MethodName)) hown (own_w hw 85 rfl) (own_sameMethod (own_w hw 86 rfl) (own_w hw 64 rfl) rfl (by decide)) (own_w hw 86 rfl) (own_w hw 56 rfl) (by decide) (kc' := 0) (ks' := 0) (backOf (W := 0) (rmA3 l Z a0 hw [] x t kt b kb pr c0 c1 c2 c3 o n (Int32.ofNat o) (Int32.ofNat n) zc fm fi u8 h0 n0 Z0 O0 S_CS hzc S_FM hfm S_FI hfi S_IN S_U8 gx gt Ex Fv Fc Fn Vt Vb neb h_c0 h_c1 h_c2 h_c3 hon rfl rfl) hZ (own_w hw 88 rfl) (own_w hw 32 rfl) (ok rfl) (ok rfl)) (a := x) e0 (Ins.of_exa Ex (own_w hw 31 rfl)) (own_w hw 88 rfl) (g := (mkF m 4 #[.val (.ref x), .val (.ref b), .val (.int (Int32.ofNat o)), .val (.int (Int32.ofNat n))] [(.int (Int32.ofNat n)), (.int (Int32.ofNat o)), (.ref b), (.ref x)])) rfl (by rw [hml]; rfl) (argsL := [(.ref b), (.int (Int32.ofNat o)), (.int (Int32.ofNat n))]) (rest := []) (lenOf pd_76345 rfl) rfl (by show 2 * 0 + _ ≤ _; exact Nat.le_of_eq rfl) (hb hby d14_4) rfl (ok rfl) (ok rfl) ?_
  intro v595 T595 L595 q595 X595
  obtain ⟨rfl, N595q, K595, g595E, g595v, g595c, g595n, g595V⟩ := q595
  have N595 := Fr.app N0 N595q
  show Goes p e below _ T595 (mkF m 7 #[.val (.ref x), .val (.ref b), .val (.int (Int32.ofNat o)), .val (.int (Int32.ofNat n))] [(.ref x)])
  refine P1.pop X595.here hx (hb hby d14_7) rfl ?_
  refine P1.aloadN X595.here hx (hb hby d14_8) rfl rfl ?_
  refine Goes.retA X595 hx Bd.notSynchronized Bd.returns rfl rfl (hb hby d14_9) (ok rfl) (ok rfl) ?_
  have K596 : Keep h0 T595.heap [x, t] := K0.trans K595 (allS (Or.inl (by simp)) (allS (Or.inl (by simp)) all0))
  exact ⟨rfl, N595, K596, g595E, g595v, g595c, g595n, g595V⟩
theorem d13_0 : decode prog_46_method_3_code 0 = .ok (.aload_n 0, 1) := by decide +kernel
theorem d13_1 : decode prog_46_method_3_code 1 = .ok (.getfield 12, 3) := by decide +kernel
theorem d13_4 : decode prog_46_method_3_code 4 = .ok (.aload_n 1, 1) := by decide +kernel
theorem d13_5 : decode prog_46_method_3_code 5 = .ok (.iload_n 2, 1) := by decide +kernel
theorem d13_6 : decode prog_46_method_3_code 6 = .ok (.iload_n 3, 1) := by decide +kernel
theorem d13_7 : decode prog_46_method_3_code 7 = .ok (.invokevirtual 29, 3) := by decide +kernel
theorem d13_10 : decode prog_46_method_3_code 10 = .ok (.pop, 1) := by decide +kernel
theorem d13_11 : decode prog_46_method_3_code 11 = .ok (.return_, 1) := by decide +kernel
theorem pd_47354 : parseMethodDescriptor "([CII)Ljava/lang/StringBuilder;" = some ⟨[(.array .char), .int, .int], some (.object "java/lang/StringBuilder")⟩ := by decide +kernel
theorem efW3 (y b : Addr) (oi ni : Int32) (m : MethodId) : entryFrame m #[(.ref y), (.ref b), (.int oi), (.int ni)] 4 = mkF m 0 #[.val (.ref y), .val (.ref b), .val (.int oi), .val (.int ni)] [] := by first | (simp [entryFrame, mkF, argsToLocals, Value.category]; done) | rfl
def QW3 (Z : State) (y x t : Addr) (kt : ClassId) (b : Addr) (kb : ClassId) (pr c0 c1 c2 c3 : Int32) (o n : Nat) (oi ni zc : Int32) (fm fi : Value) (u8 : Addr) (h0 : Heap) (n0 : Nat) (v : Option Value) (h : Heap) (L : List Loc) : Prop := v = none ∧ Fr n0 L ∧ Keep h0 h [x, t] ∧ Exa Z h x "java/lang/StringBuilder" ∧ Fld Z h x "java/lang/AbstractStringBuilder" "value" "[B" (.ref t) ∧ Fld Z h x "java/lang/AbstractStringBuilder" "coder" "B" (.int (0 : Int32)) ∧ Fld Z h x "java/lang/AbstractStringBuilder" "count" "I" (.int (Int32.ofNat (ocs pr c0 c1 c2 c3 o n).length)) ∧ Arv Z h t kt .byte (8192 : Int32) ((ocs pr c0 c1 c2 c3 o n).map Value.int) (.int (0 : Int32))
set_option maxRecDepth 65536 in
set_option maxHeartbeats 40000000 in
theorem rmW3 (l : Launch) (Z : State) (a0 : Array Value) (hw : ∀ d ∈ tables_1, d.before a0 Z = true) (ws : List Jvm.Cond) (y x t : Addr) (kt : ClassId) (b : Addr) (kb : ClassId) (pr c0 c1 c2 c3 : Int32) (o n : Nat) (oi ni zc : Int32) (fm fi : Value) (u8 : Addr) (h0 : Heap) (n0 : Nat) (Z0 : n0 ≤ h0.size) (O0 : Old Z n0 h0) (S_CS : Sta Z Z.heap "java/lang/String" "COMPACT_STRINGS" "Z" (.int zc)) (hzc : ¬ zc = 0) (S_FM : Sta Z Z.heap "jdk/internal/util/Preconditions" "SIOOBE_FORMATTER" "Ljava/util/function/BiFunction;" fm) (hfm : fm.isRef = true) (S_FI : Sta Z Z.heap "jdk/internal/util/Preconditions" "IOOBE_FORMATTER" "Ljava/util/function/BiFunction;" fi) (hfi : fi.isRef = true) (S_IN : Sta Z Z.heap "sun/nio/cs/UTF_8" "INSTANCE" "Lsun/nio/cs/UTF_8;" (.ref u8)) (S_U8 : Sta Z Z.heap "java/nio/charset/StandardCharsets" "UTF_8" "Ljava/nio/charset/Charset;" (.ref u8)) (Ey : Exa Z h0 y "com/example/medeweten/medeweten/core/XmlText") (Fy : Fld Z h0 y "com/example/medeweten/medeweten/core/XmlText" "text" "Ljava/lang/StringBuilder;" (.ref x)) (gx : n0 ≤ x) (gt : n0 ≤ t) (Ex : Exa Z h0 x "java/lang/StringBuilder") (Fv : Fld Z h0 x "java/lang/AbstractStringBuilder" "value" "[B" (.ref t)) (Fc : Fld Z h0 x "java/lang/AbstractStringBuilder" "coder" "B" (.int (0 : Int32))) (Fn : Fld Z h0 x "java/lang/AbstractStringBuilder" "count" "I" (.int (1 : Int32))) (Vt : Arv Z h0 t kt .byte (8192 : Int32) [(.int pr)] (.int (0 : Int32))) (Vb : Arv Z h0 b kb .char (4 : Int32) [(.int c0), (.int c1), (.int c2), (.int c3)] (.int (0 : Int32))) (neb : b ≠ t) (h_c0 : Pr c0) (h_c1 : Pr c1) (h_c2 : Pr c2) (h_c3 : Pr c3) (hon : o + n ≤ 4) (hoi : oi = Int32.ofNat o) (hni : ni = Int32.ofNat n) :
    OwnLaw l y5_ prog_46_method_3_code 4 none ws (rR 4 0 0 63) #[(.ref y), (.ref b), (.int oi), (.int ni)] Z h0 (QW3 Z y x t kt b kb pr c0 c1 c2 c3 o n oi ni zc fm fi u8 h0 n0) := by
  refine own_enter (plainFor_of_name pn_com_example_medeweten_medeweten_core_XmlText) (efW3 y b oi ni) ?_
  intro p e s m below meth c s₁ Bd hx hby hml hZ hown X0 e0
  have N0 := Fr.nil n0
  have K0 : Keep h0 h0 [] := Keep.refl _ _
  have K0 : Keep h0 h0 [x, t] := Keep.refl _ _
  subst hoi hni
  refine P1.aloadN X0.here hx (hb hby d13_0) rfl rfl ?_
  obtain ⟨T597, X597, e597, st597⟩ := getF X0 hx hZ hown (host := "") (Or.inl (own_w hw 42 rfl)) Via.refl e0 Fy (g := (mkF m 1 #[.val (.ref y), .val (.ref b), .val (.int (Int32.ofNat o)), .val (.int (Int32.ofNat n))] [(.ref y)])) rfl rfl (hb hby d13_1)
  refine Goes.step (T' := T597) (g' := (mkF m 4 #[.val (.ref y), .val (.ref b), .val (.int (Int32.ofNat o)), .val (.int (Int32.ofNat n))] [(.ref x)])) st597 ?_
  refine P1.aloadN X597.here hx (hb hby d13_4) rfl rfl ?_
  refine P1.iloadN X597.here hx (hb hby d13_5) rfl ?_
  refine P1.iloadN X597.here hx (hb hby d13_6) rfl ?_
  refine Goes.callV X597 hx hZ (y := y30_) (z := y30_) hown (mvT hZ (own_w hw 80 rfl)) (mvT hZ (own_w hw 81 rfl)) (notFace_of_selects (args := #[]) (mvT hZ (own_w hw 83 rfl))) (mvT hZ (own_w hw 83 rfl)) (mvT hZ (own_w hw 82 rfl)) (by decide) (kc' := 0) (ks' := 0) (backOf (W := 0) (rmS3 l Z a0 hw [] x t kt b kb pr c0 c1 c2 c3 o n (Int32.ofNat o) (Int32.ofNat n) zc fm fi u8 h0 n0 Z0 O0 S_CS hzc S_FM hfm S_FI hfi S_IN S_U8 gx gt Ex Fv Fc Fn Vt Vb neb h_c0 h_c1 h_c2 h_c3 hon rfl rfl) hZ (own_w hw 84 rfl) (own_w hw 24 rfl) (ok rfl) (ok rfl)) (b := x) e597 Ex (g := (mkF m 7 #[.val (.ref y), .val (.ref b), .val (.int (Int32.ofNat o)), .val (.int (Int32.ofNat n))] [(.int (Int32.ofNat n)), (.int (Int32.ofNat o)), (.ref b), (.ref x)])) rfl (by rw [hml]; rfl) (argsL := [(.ref b), (.int (Int32.ofNat o)), (.int (Int32.ofNat n))]) (rest := []) (lenOf pd_47354 rfl) rfl (by show 2 * 0 + _ ≤ _; exact Nat.le_of_eq rfl) (hb hby d13_7) rfl (ok rfl) (ok rfl) ?_
  intro v598 T598 L598 q598 X598
  obtain ⟨rfl, N598q, K598, g598E, g598v, g598c, g598n, g598V⟩ := q598
  have N598 := Fr.app N0 N598q
  show Goes p e below _ T598 (mkF m 10 #[.val (.ref y), .val (.ref b), .val (.int (Int32.ofNat o)), .val (.int (Int32.ofNat n))] [(.ref x)])
  refine P1.pop X598.here hx (hb hby d13_10) rfl ?_
  refine Goes.retV X598 hx Bd.notSynchronized Bd.returns (hb hby d13_11) (ok rfl) (ok rfl) ?_
  have K599 : Keep h0 T598.heap [x, t] := K0.trans K598 (allS (Or.inl (by simp)) (allS (Or.inl (by simp)) all0))
  exact ⟨rfl, N598, K599, g598E, g598v, g598c, g598n, g598V⟩
theorem d23_0 : decode jdk_68_method_14_code 0 = .ok (.aload_n 0, 1) := by decide +kernel
theorem d23_1 : decode jdk_68_method_14_code 1 = .ok (.getfield 22, 3) := by decide +kernel
theorem d23_4 : decode jdk_68_method_14_code 4 = .ok (.istore_n 2, 1) := by decide +kernel
theorem d23_5 : decode jdk_68_method_14_code 5 = .ok (.aload_n 0, 1) := by decide +kernel
theorem d23_6 : decode jdk_68_method_14_code 6 = .ok (.getfield 15, 3) := by decide +kernel
theorem d23_9 : decode jdk_68_method_14_code 9 = .ok (.astore_n 3, 1) := by decide +kernel
theorem d23_10 : decode jdk_68_method_14_code 10 = .ok (.aload_n 0, 1) := by decide +kernel
theorem d23_11 : decode jdk_68_method_14_code 11 = .ok (.getfield 79, 3) := by decide +kernel
theorem d23_14 : decode jdk_68_method_14_code 14 = .ok (.aload_n 3, 1) := by decide +kernel
theorem d23_15 : decode jdk_68_method_14_code 15 = .ok (.arraylength, 1) := by decide +kernel
theorem d23_16 : decode jdk_68_method_14_code 16 = .ok (.iload_n 2, 1) := by decide +kernel
theorem d23_17 : decode jdk_68_method_14_code 17 = .ok (.ishr, 1) := by decide +kernel
theorem d23_18 : decode jdk_68_method_14_code 18 = .ok (.invokestatic 138, 3) := by decide +kernel
theorem d23_21 : decode jdk_68_method_14_code 21 = .ok (.istore 4, 2) := by decide +kernel
theorem d23_23 : decode jdk_68_method_14_code 23 = .ok (.iload_n 1, 1) := by decide +kernel
theorem d23_24 : decode jdk_68_method_14_code 24 = .ok (.iload 4, 2) := by decide +kernel
theorem d23_26 : decode jdk_68_method_14_code 26 = .ok (.invokestatic 144, 3) := by decide +kernel
theorem d23_29 : decode jdk_68_method_14_code 29 = .ok (.iload_n 2, 1) := by decide +kernel
theorem d23_30 : decode jdk_68_method_14_code 30 = .ok (.ifCond .ne 12, 3) := by decide +kernel
theorem d23_33 : decode jdk_68_method_14_code 33 = .ok (.aload_n 3, 1) := by decide +kernel
theorem d23_34 : decode jdk_68_method_14_code 34 = .ok (.iload_n 1, 1) := by decide +kernel
theorem d23_35 : decode jdk_68_method_14_code 35 = .ok (.baload, 1) := by decide +kernel
theorem d23_36 : decode jdk_68_method_14_code 36 = .ok (.sipush 255, 3) := by decide +kernel
theorem d23_39 : decode jdk_68_method_14_code 39 = .ok (.iand, 1) := by decide +kernel
theorem d23_40 : decode jdk_68_method_14_code 40 = .ok (.i2c, 1) := by decide +kernel
theorem d23_41 : decode jdk_68_method_14_code 41 = .ok (.ireturn, 1) := by decide +kernel
theorem d23_42 : decode jdk_68_method_14_code 42 = .ok (.aload_n 3, 1) := by decide +kernel
theorem d23_43 : decode jdk_68_method_14_code 43 = .ok (.iload_n 1, 1) := by decide +kernel
theorem d23_44 : decode jdk_68_method_14_code 44 = .ok (.invokestatic 148, 3) := by decide +kernel
theorem d23_47 : decode jdk_68_method_14_code 47 = .ok (.ireturn, 1) := by decide +kernel
theorem pd_934 : parseMethodDescriptor "(II)I" = some ⟨[.int, .int], some .int⟩ := by decide +kernel
theorem pd_999 : parseMethodDescriptor "(II)V" = some ⟨[.int, .int], none⟩ := by decide +kernel
theorem efChA (x : Addr) (i : Int32) (m : MethodId) : entryFrame m #[(.ref x), (.int i)] 5 = mkF m 0 #[.val (.ref x), .val (.int i), .unset, .unset, .unset] [] := by first | (simp [entryFrame, mkF, argsToLocals, Value.category]; done) | rfl
def QChA (Z : State) (x t : Addr) (kt : ClassId) (vs : List Value) (n i q zc : Int32) (fm fi : Value) (u8 : Addr) (h0 : Heap) (n0 : Nat) (v : Option Value) (h : Heap) (L : List Loc) : Prop := v = some (.int q) ∧ Fr n0 L ∧ h = h0
set_option maxRecDepth 65536 in
set_option maxHeartbeats 40000000 in
theorem rmChA (l : Launch) (Z : State) (a0 : Array Value) (hw : ∀ d ∈ tables_1, d.before a0 Z = true) (ws : List Jvm.Cond) (x t : Addr) (kt : ClassId) (vs : List Value) (n i q zc : Int32) (fm fi : Value) (u8 : Addr) (h0 : Heap) (n0 : Nat) (Z0 : n0 ≤ h0.size) (O0 : Old Z n0 h0) (S_CS : Sta Z Z.heap "java/lang/String" "COMPACT_STRINGS" "Z" (.int zc)) (hzc : ¬ zc = 0) (S_FM : Sta Z Z.heap "jdk/internal/util/Preconditions" "SIOOBE_FORMATTER" "Ljava/util/function/BiFunction;" fm) (hfm : fm.isRef = true) (S_FI : Sta Z Z.heap "jdk/internal/util/Preconditions" "IOOBE_FORMATTER" "Ljava/util/function/BiFunction;" fi) (hfi : fi.isRef = true) (S_IN : Sta Z Z.heap "sun/nio/cs/UTF_8" "INSTANCE" "Lsun/nio/cs/UTF_8;" (.ref u8)) (S_U8 : Sta Z Z.heap "java/nio/charset/StandardCharsets" "UTF_8" "Ljava/nio/charset/Charset;" (.ref u8)) (Ex : Exa Z h0 x "java/lang/StringBuilder") (Fv : Fld Z h0 x "java/lang/AbstractStringBuilder" "value" "[B" (.ref t)) (Fc : Fld Z h0 x "java/lang/AbstractStringBuilder" "coder" "B" (.int (0 : Int32))) (Vt : Arv Z h0 t kt .byte (8192 : Int32) vs (.int (0 : Int32))) (Fn : Fld Z h0 x "java/lang/AbstractStringBuilder" "count" "I" (.int n)) (hn : ¬ ((8192 : Int32) < n)) (hi0 : ¬ (i < (0 : Int32))) (hin : i < n) (hi8 : i < (8192 : Int32)) (hel : vs.getD i.toNatClampNeg (.int (0 : Int32)) = .int q) (hq : Pr q) :
    OwnLaw l (⟨"java/lang/AbstractStringBuilder", "charAt", "(I)C"⟩ : MethodName) jdk_68_method_14_code 5 (some .char) ws (rR 2 0 0 27) #[(.ref x), (.int i)] Z h0 (QChA Z x t kt vs n i q zc fm fi u8 h0 n0) := by
  refine own_enter (plainFor_of_name pn_java_lang_AbstractStringBuilder) (efChA x i) ?_
  intro p e s m below meth c s₁ Bd hx hby hml hZ hown X0 e0
  have N0 := Fr.nil n0
  have K0 : Keep h0 h0 [] := Keep.refl _ _
  refine P1.aloadN X0.here hx (hb hby d23_0) rfl rfl ?_
  obtain ⟨T600, X600, e600, st600⟩ := getF X0 hx hZ hown (host := "") (Or.inl (own_w hw 40 rfl)) Via.refl e0 Fc (g := (mkF m 1 #[.val (.ref x), .val (.int i), .unset, .unset, .unset] [(.ref x)])) rfl rfl (hb hby d23_1)
  refine Goes.step (T' := T600) (g' := (mkF m 4 #[.val (.ref x), .val (.int i), .unset, .unset, .unset] [(.int (0 : Int32))])) st600 ?_
  refine P1.istoreN X600.here hx #[.val (.ref x), .val (.int i), .val (.int (0 : Int32)), .unset, .unset] (hb hby d23_4) rfl ?_
  refine P1.aloadN X600.here hx (hb hby d23_5) rfl rfl ?_
  obtain ⟨T601, X601, e601, st601⟩ := getF X600 hx hZ hown (host := "") (Or.inl (own_w hw 38 rfl)) Via.refl e600 Fv (g := (mkF m 6 #[.val (.ref x), .val (.int i), .val (.int (0 : Int32)), .unset, .unset] [(.ref x)])) rfl rfl (hb hby d23_6)
  refine Goes.step (T' := T601) (g' := (mkF m 9 #[.val (.ref x), .val (.int i), .val (.int (0 : Int32)), .unset, .unset] [(.ref t)])) st601 ?_
  refine P1.astoreN X601.here hx #[.val (.ref x), .val (.int i), .val (.int (0 : Int32)), .val (.ref t), .unset] (hb hby d23_9) rfl rfl ?_
  refine P1.aloadN X601.here hx (hb hby d23_10) rfl rfl ?_
  obtain ⟨T602, X602, e602, st602⟩ := getF X601 hx hZ hown (host := "") (Or.inl (own_w hw 59 rfl)) Via.refl e601 Fn (g := (mkF m 11 #[.val (.ref x), .val (.int i), .val (.int (0 : Int32)), .val (.ref t), .unset] [(.ref x)])) rfl rfl (hb hby d23_11)
  refine Goes.step (T' := T602) (g' := (mkF m 14 #[.val (.ref x), .val (.int i), .val (.int (0 : Int32)), .val (.ref t), .unset] [(.int n)])) st602 ?_
  refine P1.aloadN X602.here hx (hb hby d23_14) rfl rfl ?_
  obtain ⟨cl603, Ar603, qk603, sl603, nz603, ha603, fi603⟩ := id Vt
  have al604 : cl603.slots.size.toInt32 = (8192 : Int32) := len_of sl603 nz603
  refine Goes.step (T' := T602) (g' := (mkF m 16 #[.val (.ref x), .val (.int i), .val (.int (0 : Int32)), .val (.ref t), .unset] [(.int (8192 : Int32)), (.int n)])) (fun t_ k_ => X602.arraylength hx (by rw [e602]; exact Ar603.1) (State.isArrayOf_alike hZ.alike Ar603.2.1) (g := (mkF m 15 #[.val (.ref x), .val (.int i), .val (.int (0 : Int32)), .val (.ref t), .unset] [(.ref t), (.int n)])) rfl rfl (hb hby d23_15) _ <| by rw [al604]; exact k_) ?_
  refine P1.iloadN X602.here hx (hb hby d23_16) rfl ?_
  refine Goes.step (T' := T602) (g' := (mkF m 18 #[.val (.ref x), .val (.int i), .val (.int (0 : Int32)), .val (.ref t), .unset] [(.int ((8192 : Int32) >>> ((0 : Int32) &&& 31))), (.int n)])) (fun t_ k_ => XS.ishr X602.here hx rfl (hb hby d23_17) rfl k_) ?_
  have rw605 : ((8192 : Int32) >>> ((0 : Int32) &&& 31)) = (8192 : Int32) := by decide
  rw [rw605]
  refine Goes.callS X602 hx (y := y20_) hown (mvT hZ (own_w hw 126 rfl)) (mvT hZ (own_w hw 127 rfl)) (mvT hZ (own_w hw 128 rfl)) (mvT hZ (own_w hw 129 rfl)) (by decide) (kc' := 0) (ks' := 0) (backOf (W := 0) (rmMinA l Z a0 hw [] n (8192 : Int32) h0 n0 Z0 O0 hn) hZ (own_w hw 129 rfl) (own_w hw 128 rfl) (ok rfl) (ok rfl)) (g := (mkF m 18 #[.val (.ref x), .val (.int i), .val (.int (0 : Int32)), .val (.ref t), .unset] [(.int (8192 : Int32)), (.int n)])) rfl (by rw [hml]; rfl) (argsL := [(.int n), (.int (8192 : Int32))]) (rest := []) (lenOf pd_934 rfl) rfl (by show 2 * 0 + _ ≤ _; exact Nat.le_of_eq rfl) (hb hby d23_18) rfl e602 (ok rfl) (ok rfl) ?_
  intro v606 T606 L606 q606 X606
  obtain ⟨rfl, N606q, hE606⟩ := q606
  have N606 := Fr.app N0 N606q
  show Goes p e below _ T606 (mkF m 21 #[.val (.ref x), .val (.int i), .val (.int (0 : Int32)), .val (.ref t), .unset] [(.int n)])
  refine P1.istore X606.here hx #[.val (.ref x), .val (.int i), .val (.int (0 : Int32)), .val (.ref t), .val (.int n)] (hb hby d23_21) rfl ?_
  refine P1.iloadN X606.here hx (hb hby d23_23) rfl ?_
  refine P1.iload X606.here hx (hb hby d23_24) rfl ?_
  refine Goes.callS X606 hx (y := (⟨"java/lang/String", "checkIndex", "(II)V"⟩ : MethodName)) hown (mvT hZ (own_w hw 130 rfl)) (mvT hZ (own_w hw 131 rfl)) (mvT hZ (own_w hw 36 rfl)) (mvT hZ (own_w hw 132 rfl)) (by decide) (kc' := 0) (ks' := 0) (backOf (W := 0) (rmSci l Z a0 hw [] i n zc fm fi u8 h0 n0 Z0 O0 S_CS hzc S_FM hfm S_FI hfi S_IN S_U8 hi0 hin) hZ (own_w hw 132 rfl) (own_w hw 36 rfl) (ok rfl) (ok rfl)) (g := (mkF m 26 #[.val (.ref x), .val (.int i), .val (.int (0 : Int32)), .val (.ref t), .val (.int n)] [(.int n), (.int i)])) rfl (by rw [hml]; rfl) (argsL := [(.int i), (.int n)]) (rest := []) (lenOf pd_999 rfl) rfl (by show 2 * 0 + _ ≤ _; exact Nat.le_of_eq rfl) (hb hby d23_26) rfl hE606 (ok rfl) (ok rfl) ?_
  intro v607 T607 L607 q607 X607
  obtain ⟨rfl, N607q, hE607⟩ := q607
  have N607 := Fr.app N606 N607q
  show Goes p e below _ T607 (mkF m 29 #[.val (.ref x), .val (.int i), .val (.int (0 : Int32)), .val (.ref t), .val (.int n)] [])
  refine P1.iloadN X607.here hx (hb hby d23_29) rfl ?_
  refine P1.ifNo X607.here hx (hb hby d23_30) ((if0 _ _).trans (teq (by decide : (0 : Int32) = (0 : Int32))).2) ?_
  refine P1.aloadN X607.here hx (hb hby d23_33) rfl rfl ?_
  refine P1.iloadN X607.here hx (hb hby d23_34) rfl ?_
  obtain ⟨cl608, Ar608, qk608, sl608, nz608, ha608, fi608⟩ := id Vt
  have i609 := inb_of (j := i) sl608 ⟨hi0, hi8⟩
  refine Goes.step (T' := T607) (g' := (mkF m 36 #[.val (.ref x), .val (.int i), .val (.int (0 : Int32)), .val (.ref t), .val (.int n)] [(.int q)])) (fun t_ k_ => X607.baloadBytes hx (j := i) (v := (.int q)) (by rw [hE607]; exact Ar608.1) (State.isArrayOf_alike hZ.alike Ar608.2.1) Ar608.2.2 i609 (Has.at ha608 i609 hel) (g := (mkF m 35 #[.val (.ref x), .val (.int i), .val (.int (0 : Int32)), .val (.ref t), .val (.int n)] [(.int i), (.ref t)])) rfl rfl (hb hby d23_35) _ k_) ?_
  refine P1.sipush X607.here hx (255 : Int32) (hb hby d23_36) rfl ?_
  refine P1.iand X607.here hx (hb hby d23_39) ?_
  have rw610 : (q &&& (255 : Int32)) = q := hq.and
  rw [rw610]
  refine Goes.step (T' := T607) (g' := (mkF m 41 #[.val (.ref x), .val (.int i), .val (.int (0 : Int32)), .val (.ref t), .val (.int n)] [(.int (q.toUInt32.toUInt16.toUInt32.toInt32))])) (fun t_ k_ => XS.i2c X607.here hx rfl (hb hby d23_40) rfl k_) ?_
  have rw611 : (q.toUInt32.toUInt16.toUInt32.toInt32) = q := hq.i2c
  rw [rw611]
  refine Goes.retN X607 hx Bd.notSynchronized (t := .char) Bd.returns (by simp) (hb hby d23_41) (ok rfl) (ok rfl) ?_
  rw [hE607]
  exact ⟨by rw [hq.nc], N607, rfl⟩
theorem d22_0 : decode jdk_67_method_88_code 0 = .ok (.aload_n 0, 1) := by decide +kernel
theorem d22_1 : decode jdk_67_method_88_code 1 = .ok (.iload_n 1, 1) := by decide +kernel
theorem d22_2 : decode jdk_67_method_88_code 2 = .ok (.invokespecial 329, 3) := by decide +kernel
theorem d22_5 : decode jdk_67_method_88_code 5 = .ok (.ireturn, 1) := by decide +kernel
theorem pd_577 : parseMethodDescriptor "(I)C" = some ⟨[.int], some .char⟩ := by decide +kernel
theorem efChB (x : Addr) (i : Int32) (m : MethodId) : entryFrame m #[(.ref x), (.int i)] 2 = mkF m 0 #[.val (.ref x), .val (.int i)] [] := by first | (simp [entryFrame, mkF, argsToLocals, Value.category]; done) | rfl
def QChB (Z : State) (x t : Addr) (kt : ClassId) (vs : List Value) (n i q zc : Int32) (fm fi : Value) (u8 : Addr) (h0 : Heap) (n0 : Nat) (v : Option Value) (h : Heap) (L : List Loc) : Prop := v = some (.int q) ∧ Fr n0 L ∧ h = h0
set_option maxRecDepth 65536 in
set_option maxHeartbeats 40000000 in
theorem rmChB (l : Launch) (Z : State) (a0 : Array Value) (hw : ∀ d ∈ tables_1, d.before a0 Z = true) (ws : List Jvm.Cond) (x t : Addr) (kt : ClassId) (vs : List Value) (n i q zc : Int32) (fm fi : Value) (u8 : Addr) (h0 : Heap) (n0 : Nat) (Z0 : n0 ≤ h0.size) (O0 : Old Z n0 h0) (S_CS : Sta Z Z.heap "java/lang/String" "COMPACT_STRINGS" "Z" (.int zc)) (hzc : ¬ zc = 0) (S_FM : Sta Z Z.heap "jdk/internal/util/Preconditions" "SIOOBE_FORMATTER" "Ljava/util/function/BiFunction;" fm) (hfm : fm.isRef = true) (S_FI : Sta Z Z.heap "jdk/internal/util/Preconditions" "IOOBE_FORMATTER" "Ljava/util/function/BiFunction;" fi) (hfi : fi.isRef = true) (S_IN : Sta Z Z.heap "sun/nio/cs/UTF_8" "INSTANCE" "Lsun/nio/cs/UTF_8;" (.ref u8)) (S_U8 : Sta Z Z.heap "java/nio/charset/StandardCharsets" "UTF_8" "Ljava/nio/charset/Charset;" (.ref u8)) (Ex : Exa Z h0 x "java/lang/StringBuilder") (Fv : Fld Z h0 x "java/lang/AbstractStringBuilder" "value" "[B" (.ref t)) (Fc : Fld Z h0 x "java/lang/AbstractStringBuilder" "coder" "B" (.int (0 : Int32))) (Vt : Arv Z h0 t kt .byte (8192 : Int32) vs (.int (0 : Int32))) (Fn : Fld Z h0 x "java/lang/AbstractStringBuilder" "count" "I" (.int n)) (hn : ¬ ((8192 : Int32) < n)) (hi0 : ¬ (i < (0 : Int32))) (hin : i < n) (hi8 : i < (8192 : Int32)) (hel : vs.getD i.toNatClampNeg (.int (0 : Int32)) = .int q) (hq : Pr q) :
    OwnLaw l y31_ jdk_67_method_88_code 2 (some .char) ws (rR 3 0 0 43) #[(.ref x), (.int i)] Z h0 (QChB Z x t kt vs n i q zc fm fi u8 h0 n0) := by
  refine own_enter (plainFor_of_name pn_java_lang_StringBuilder) (efChB x i) ?_
  intro p e s m below meth c s₁ Bd hx hby hml hZ hown X0 e0
  have N0 := Fr.nil n0
  have K0 : Keep h0 h0 [] := Keep.refl _ _
  refine P1.aloadN X0.here hx (hb hby d22_0) rfl rfl ?_
  refine P1.iloadN X0.here hx (hb hby d22_1) rfl ?_
  refine Goes.callSup X0 hx hZ (y := (⟨"java/lang/AbstractStringBuilder", "charAt", "(I)C"⟩ : MethodName)) hown (own_w hw 122 rfl) (own_sameMethod (own_w hw 123 rfl) (own_w hw 64 rfl) rfl (by decide)) (own_w hw 123 rfl) (own_w hw 56 rfl) (by decide) (kc' := 0) (ks' := 0) (backOf (W := 0) (rmChA l Z a0 hw [] x t kt vs n i q zc fm fi u8 h0 n0 Z0 O0 S_CS hzc S_FM hfm S_FI hfi S_IN S_U8 Ex Fv Fc Vt Fn hn hi0 hin hi8 hel hq) hZ (own_w hw 125 rfl) (own_w hw 32 rfl) (ok rfl) (ok rfl)) (a := x) e0 (Ins.of_exa Ex (own_w hw 31 rfl)) (own_w hw 125 rfl) (g := (mkF m 2 #[.val (.ref x), .val (.int i)] [(.int i), (.ref x)])) rfl (by rw [hml]; rfl) (argsL := [(.int i)]) (rest := []) (lenOf pd_577 rfl) rfl (by show 2 * 0 + _ ≤ _; exact Nat.le_of_eq rfl) (hb hby d22_2) rfl (ok rfl) (ok rfl) ?_
  intro v612 T612 L612 q612 X612
  obtain ⟨rfl, N612q, hE612⟩ := q612
  have N612 := Fr.app N0 N612q
  show Goes p e below _ T612 (mkF m 5 #[.val (.ref x), .val (.int i)] [(.int q)])
  refine Goes.retN X612 hx Bd.notSynchronized (t := .char) Bd.returns (by simp) (hb hby d22_5) (ok rfl) (ok rfl) ?_
  rw [hE612]
  exact ⟨by rw [hq.nc], N612, rfl⟩
theorem d27_0 : decode jdk_89_method_14_code 0 = .ok (.iload_n 0, 1) := by decide +kernel
theorem d27_1 : decode jdk_89_method_14_code 1 = .ok (.ldc 75, 2) := by decide +kernel
theorem d27_3 : decode jdk_89_method_14_code 3 = .ok (.if_icmp .lt 13, 3) := by decide +kernel
theorem d27_6 : decode jdk_89_method_14_code 6 = .ok (.iload_n 0, 1) := by decide +kernel
theorem d27_7 : decode jdk_89_method_14_code 7 = .ok (.ldc 76, 2) := by decide +kernel
theorem d27_9 : decode jdk_89_method_14_code 9 = .ok (.if_icmp .ge 7, 3) := by decide +kernel
theorem d27_12 : decode jdk_89_method_14_code 12 = .ok (.iconst 1, 1) := by decide +kernel
theorem d27_13 : decode jdk_89_method_14_code 13 = .ok (.goto 4, 3) := by decide +kernel
theorem d27_16 : decode jdk_89_method_14_code 16 = .ok (.iconst 0, 1) := by decide +kernel
theorem d27_17 : decode jdk_89_method_14_code 17 = .ok (.ireturn, 1) := by decide +kernel
theorem pn_java_lang_Character : plainName "java/lang/Character" = true := by first | (simp [plainName, overriddenIn]; done) | decide +kernel
theorem efHs (q : Int32) (m : MethodId) : entryFrame m #[(.int q)] 1 = mkF m 0 #[.val (.int q)] [] := by first | (simp [entryFrame, mkF, argsToLocals, Value.category]; done) | rfl
def QHs (Z : State) (q : Int32) (h0 : Heap) (n0 : Nat) (v : Option Value) (h : Heap) (L : List Loc) : Prop := v = some (.int 0) ∧ Fr n0 L ∧ h = h0
set_option maxRecDepth 65536 in
set_option maxHeartbeats 40000000 in
theorem rmHs (l : Launch) (Z : State) (a0 : Array Value) (hw : ∀ d ∈ tables_1, d.before a0 Z = true) (ws : List Jvm.Cond) (q : Int32) (h0 : Heap) (n0 : Nat) (Z0 : n0 ≤ h0.size) (O0 : Old Z n0 h0) (hq : Pr q) :
    OwnLaw l y18_ jdk_89_method_14_code 1 (some .boolean) ws (rR 0 0 0 0) #[(.int q)] Z h0 (QHs Z q h0 n0) := by
  refine own_enter (plainFor_of_name pn_java_lang_Character) (efHs q) ?_
  intro p e s m below meth c s₁ Bd hx hby hml hZ hown X0 e0
  have N0 := Fr.nil n0
  have K0 : Keep h0 h0 [] := Keep.refl _ _
  refine P1.iloadN X0.here hx (hb hby d27_0) rfl ?_
  refine Goes.step (T' := s₁) (g' := (mkF m 3 #[.val (.int q)] [(.int (55296 : Int32)), (.int q)])) (fun t_ k_ => X0.ldcInt hx hown (mvT hZ (own_w hw 141 rfl)) (g := (mkF m 1 #[.val (.int q)] [(.int q)])) rfl (hb hby d27_1) t_ k_) ?_
  refine P1.icmpYes X0.here hx 16 (hb hby d27_3) (tlt (hq.hs : q < (55296 : Int32))).1 (by decide) (by decide) ?_
  refine P1.iconst X0.here hx (0 : Int32) (hb hby d27_16) rfl ?_
  refine Goes.retN X0 hx Bd.notSynchronized (t := .boolean) Bd.returns (by simp) (hb hby d27_17) (ok rfl) (ok rfl) ?_
  rw [e0]
  exact ⟨rfl, N0, rfl⟩
theorem d29_0 : decode jdk_89_method_16_code 0 = .ok (.iload_n 0, 1) := by decide +kernel
theorem d29_1 : decode jdk_89_method_16_code 1 = .ok (.ldc 75, 2) := by decide +kernel
theorem d29_3 : decode jdk_89_method_16_code 3 = .ok (.if_icmp .lt 13, 3) := by decide +kernel
theorem d29_6 : decode jdk_89_method_16_code 6 = .ok (.iload_n 0, 1) := by decide +kernel
theorem d29_7 : decode jdk_89_method_16_code 7 = .ok (.ldc 77, 2) := by decide +kernel
theorem d29_9 : decode jdk_89_method_16_code 9 = .ok (.if_icmp .ge 7, 3) := by decide +kernel
theorem d29_12 : decode jdk_89_method_16_code 12 = .ok (.iconst 1, 1) := by decide +kernel
theorem d29_13 : decode jdk_89_method_16_code 13 = .ok (.goto 4, 3) := by decide +kernel
theorem d29_16 : decode jdk_89_method_16_code 16 = .ok (.iconst 0, 1) := by decide +kernel
theorem d29_17 : decode jdk_89_method_16_code 17 = .ok (.ireturn, 1) := by decide +kernel
theorem efIs (q : Int32) (m : MethodId) : entryFrame m #[(.int q)] 1 = mkF m 0 #[.val (.int q)] [] := by first | (simp [entryFrame, mkF, argsToLocals, Value.category]; done) | rfl
def QIs (Z : State) (q : Int32) (h0 : Heap) (n0 : Nat) (v : Option Value) (h : Heap) (L : List Loc) : Prop := v = some (.int 0) ∧ Fr n0 L ∧ h = h0
set_option maxRecDepth 65536 in
set_option maxHeartbeats 40000000 in
theorem rmIs (l : Launch) (Z : State) (a0 : Array Value) (hw : ∀ d ∈ tables_1, d.before a0 Z = true) (ws : List Jvm.Cond) (q : Int32) (h0 : Heap) (n0 : Nat) (Z0 : n0 ≤ h0.size) (O0 : Old Z n0 h0) (hq : Pr q) :
    OwnLaw l (⟨"java/lang/Character", "isSurrogate", "(C)Z"⟩ : MethodName) jdk_89_method_16_code 1 (some .boolean) ws (rR 0 0 0 0) #[(.int q)] Z h0 (QIs Z q h0 n0) := by
  refine own_enter (plainFor_of_name pn_java_lang_Character) (efIs q) ?_
  intro p e s m below meth c s₁ Bd hx hby hml hZ hown X0 e0
  have N0 := Fr.nil n0
  have K0 : Keep h0 h0 [] := Keep.refl _ _
  refine P1.iloadN X0.here hx (hb hby d29_0) rfl ?_
  refine Goes.step (T' := s₁) (g' := (mkF m 3 #[.val (.int q)] [(.int (55296 : Int32)), (.int q)])) (fun t_ k_ => X0.ldcInt hx hown (mvT hZ (own_w hw 141 rfl)) (g := (mkF m 1 #[.val (.int q)] [(.int q)])) rfl (hb hby d29_1) t_ k_) ?_
  refine P1.icmpYes X0.here hx 16 (hb hby d29_3) (tlt (hq.hs : q < (55296 : Int32))).1 (by decide) (by decide) ?_
  refine P1.iconst X0.here hx (0 : Int32) (hb hby d29_16) rfl ?_
  refine Goes.retN X0 hx Bd.notSynchronized (t := .boolean) Bd.returns (by simp) (hb hby d29_17) (ok rfl) (ok rfl) ?_
  rw [e0]
  exact ⟨rfl, N0, rfl⟩
theorem d28_0 : decode prog_46_method_10_code 0 = .ok (.iload_n 0, 1) := by decide +kernel
theorem d28_1 : decode prog_46_method_10_code 1 = .ok (.bipush 32, 2) := by decide +kernel
theorem d28_3 : decode prog_46_method_10_code 3 = .ok (.if_icmp .ge 30, 3) := by decide +kernel
theorem d28_6 : decode prog_46_method_10_code 6 = .ok (.iload_n 0, 1) := by decide +kernel
theorem d28_7 : decode prog_46_method_10_code 7 = .ok (.bipush 9, 2) := by decide +kernel
theorem d28_9 : decode prog_46_method_10_code 9 = .ok (.if_icmp .eq 15, 3) := by decide +kernel
theorem d28_12 : decode prog_46_method_10_code 12 = .ok (.iload_n 0, 1) := by decide +kernel
theorem d28_13 : decode prog_46_method_10_code 13 = .ok (.bipush 10, 2) := by decide +kernel
theorem d28_15 : decode prog_46_method_10_code 15 = .ok (.if_icmp .eq 9, 3) := by decide +kernel
theorem d28_18 : decode prog_46_method_10_code 18 = .ok (.iload_n 0, 1) := by decide +kernel
theorem d28_19 : decode prog_46_method_10_code 19 = .ok (.bipush 13, 2) := by decide +kernel
theorem d28_21 : decode prog_46_method_10_code 21 = .ok (.if_icmp .ne 7, 3) := by decide +kernel
theorem d28_24 : decode prog_46_method_10_code 24 = .ok (.iconst 1, 1) := by decide +kernel
theorem d28_25 : decode prog_46_method_10_code 25 = .ok (.goto 4, 3) := by decide +kernel
theorem d28_28 : decode prog_46_method_10_code 28 = .ok (.iconst 0, 1) := by decide +kernel
theorem d28_29 : decode prog_46_method_10_code 29 = .ok (.istore_n 1, 1) := by decide +kernel
theorem d28_30 : decode prog_46_method_10_code 30 = .ok (.goto 28, 3) := by decide +kernel
theorem d28_33 : decode prog_46_method_10_code 33 = .ok (.iload_n 0, 1) := by decide +kernel
theorem d28_34 : decode prog_46_method_10_code 34 = .ok (.invokestatic 76, 3) := by decide +kernel
theorem d28_37 : decode prog_46_method_10_code 37 = .ok (.ifCond .ne 19, 3) := by decide +kernel
theorem d28_40 : decode prog_46_method_10_code 40 = .ok (.iload_n 0, 1) := by decide +kernel
theorem d28_41 : decode prog_46_method_10_code 41 = .ok (.ldc 79, 2) := by decide +kernel
theorem d28_43 : decode prog_46_method_10_code 43 = .ok (.if_icmp .eq 13, 3) := by decide +kernel
theorem d28_46 : decode prog_46_method_10_code 46 = .ok (.iload_n 0, 1) := by decide +kernel
theorem d28_47 : decode prog_46_method_10_code 47 = .ok (.ldc 80, 2) := by decide +kernel
theorem d28_49 : decode prog_46_method_10_code 49 = .ok (.if_icmp .eq 7, 3) := by decide +kernel
theorem d28_52 : decode prog_46_method_10_code 52 = .ok (.iconst 1, 1) := by decide +kernel
theorem d28_53 : decode prog_46_method_10_code 53 = .ok (.goto 4, 3) := by decide +kernel
theorem d28_56 : decode prog_46_method_10_code 56 = .ok (.iconst 0, 1) := by decide +kernel
theorem d28_57 : decode prog_46_method_10_code 57 = .ok (.istore_n 1, 1) := by decide +kernel
theorem d28_58 : decode prog_46_method_10_code 58 = .ok (.iload_n 1, 1) := by decide +kernel
theorem d28_59 : decode prog_46_method_10_code 59 = .ok (.ireturn, 1) := by decide +kernel
theorem efIa (q : Int32) (m : MethodId) : entryFrame m #[(.int q)] 2 = mkF m 0 #[.val (.int q), .unset] [] := by first | (simp [entryFrame, mkF, argsToLocals, Value.category]; done) | rfl
def QIa (Z : State) (q : Int32) (h0 : Heap) (n0 : Nat) (v : Option Value) (h : Heap) (L : List Loc) : Prop := v = some (.int 1) ∧ Fr n0 L ∧ h = h0
set_option maxRecDepth 65536 in
set_option maxHeartbeats 40000000 in
theorem rmIa (l : Launch) (Z : State) (a0 : Array Value) (hw : ∀ d ∈ tables_1, d.before a0 Z = true) (ws : List Jvm.Cond) (q : Int32) (h0 : Heap) (n0 : Nat) (Z0 : n0 ≤ h0.size) (O0 : Old Z n0 h0) (hq : Pr q) :
    OwnLaw l y1_ prog_46_method_10_code 2 (some .boolean) ws (rR 1 0 0 12) #[(.int q)] Z h0 (QIa Z q h0 n0) := by
  refine own_enter (plainFor_of_name pn_com_example_medeweten_medeweten_core_XmlText) (efIa q) ?_
  intro p e s m below meth c s₁ Bd hx hby hml hZ hown X0 e0
  have N0 := Fr.nil n0
  have K0 : Keep h0 h0 [] := Keep.refl _ _
  refine P1.iloadN X0.here hx (hb hby d28_0) rfl ?_
  refine P1.bipush X0.here hx (32 : Int32) (hb hby d28_1) rfl ?_
  refine P1.icmpYes X0.here hx 33 (hb hby d28_3) (flt (hq.ge : ¬ (q < (32 : Int32)))).2.1 (by decide) (by decide) ?_
  refine P1.iloadN X0.here hx (hb hby d28_33) rfl ?_
  refine Goes.callS X0 hx (y := (⟨"java/lang/Character", "isSurrogate", "(C)Z"⟩ : MethodName)) hown (mvT hZ (own_w hw 145 rfl)) (mvT hZ (own_w hw 146 rfl)) (mvT hZ (own_w hw 139 rfl)) (mvT hZ (own_w hw 147 rfl)) (by decide) (kc' := 0) (ks' := 0) (backOf (W := 0) (rmIs l Z a0 hw [] q h0 n0 Z0 O0 hq) hZ (own_w hw 147 rfl) (own_w hw 139 rfl) (ok rfl) (ok rfl)) (g := (mkF m 34 #[.val (.int q), .unset] [(.int q)])) rfl (by rw [hml]; rfl) (argsL := [(.int q)]) (rest := []) (lenOf pd_657 rfl) rfl (by show 2 * 0 + _ ≤ _; exact Nat.le_of_eq rfl) (hb hby d28_34) rfl e0 (ok rfl) (ok rfl) ?_
  intro v613 T613 L613 q613 X613
  obtain ⟨rfl, N613q, hE613⟩ := q613
  have N613 := Fr.app N0 N613q
  show Goes p e below _ T613 (mkF m 37 #[.val (.int q), .unset] [(.int (0 : Int32))])
  refine P1.ifNo X613.here hx (hb hby d28_37) ((if0 _ _).trans (teq (by decide : (0 : Int32) = (0 : Int32))).2) ?_
  refine P1.iloadN X613.here hx (hb hby d28_40) rfl ?_
  refine Goes.step (T' := T613) (g' := (mkF m 43 #[.val (.int q), .unset] [(.int (65534 : Int32)), (.int q)])) (fun t_ k_ => X613.ldcInt hx hown (mvT hZ (own_w hw 148 rfl)) (g := (mkF m 41 #[.val (.int q), .unset] [(.int q)])) rfl (hb hby d28_41) t_ k_) ?_
  refine P1.icmpNo X613.here hx (hb hby d28_43) (feq (hq.n1 : ¬ (q = (65534 : Int32)))).1 ?_
  refine P1.iloadN X613.here hx (hb hby d28_46) rfl ?_
  refine Goes.step (T' := T613) (g' := (mkF m 49 #[.val (.int q), .unset] [(.int (65535 : Int32)), (.int q)])) (fun t_ k_ => X613.ldcInt hx hown (mvT hZ (own_w hw 149 rfl)) (g := (mkF m 47 #[.val (.int q), .unset] [(.int q)])) rfl (hb hby d28_47) t_ k_) ?_
  refine P1.icmpNo X613.here hx (hb hby d28_49) (feq (hq.n2 : ¬ (q = (65535 : Int32)))).1 ?_
  refine P1.iconst X613.here hx (1 : Int32) (hb hby d28_52) rfl ?_
  refine P1.goto X613.here hx 57 (hb hby d28_53) (by decide) (by decide) ?_
  refine P1.istoreN X613.here hx #[.val (.int q), .val (.int (1 : Int32))] (hb hby d28_57) rfl ?_
  refine P1.iloadN X613.here hx (hb hby d28_58) rfl ?_
  refine Goes.retN X613 hx Bd.notSynchronized (t := .boolean) Bd.returns (by simp) (hb hby d28_59) (ok rfl) (ok rfl) ?_
  rw [hE613]
  exact ⟨rfl, N613, rfl⟩
theorem d19_0 : decode prog_46_method_9_code 0 = .ok (.aload_n 0, 1) := by decide +kernel
theorem d19_1 : decode prog_46_method_9_code 1 = .ok (.invokevirtual 51, 3) := by decide +kernel
theorem d19_4 : decode prog_46_method_9_code 4 = .ok (.istore_n 1, 1) := by decide +kernel
theorem d19_5 : decode prog_46_method_9_code 5 = .ok (.iconst 0, 1) := by decide +kernel
theorem d19_6 : decode prog_46_method_9_code 6 = .ok (.istore_n 2, 1) := by decide +kernel
theorem d19_7 : decode prog_46_method_9_code 7 = .ok (.iload_n 2, 1) := by decide +kernel
theorem d19_8 : decode prog_46_method_9_code 8 = .ok (.iload_n 1, 1) := by decide +kernel
theorem d19_9 : decode prog_46_method_9_code 9 = .ok (.if_icmp .ge 62, 3) := by decide +kernel
theorem d19_12 : decode prog_46_method_9_code 12 = .ok (.aload_n 0, 1) := by decide +kernel
theorem d19_13 : decode prog_46_method_9_code 13 = .ok (.iload_n 2, 1) := by decide +kernel
theorem d19_14 : decode prog_46_method_9_code 14 = .ok (.invokevirtual 55, 3) := by decide +kernel
theorem d19_17 : decode prog_46_method_9_code 17 = .ok (.istore_n 3, 1) := by decide +kernel
theorem d19_18 : decode prog_46_method_9_code 18 = .ok (.iload_n 3, 1) := by decide +kernel
theorem d19_19 : decode prog_46_method_9_code 19 = .ok (.invokestatic 59, 3) := by decide +kernel
theorem d19_22 : decode prog_46_method_9_code 22 = .ok (.ifCond .eq 29, 3) := by decide +kernel
theorem d19_25 : decode prog_46_method_9_code 25 = .ok (.iload_n 2, 1) := by decide +kernel
theorem d19_26 : decode prog_46_method_9_code 26 = .ok (.iconst 1, 1) := by decide +kernel
theorem d19_27 : decode prog_46_method_9_code 27 = .ok (.iadd, 1) := by decide +kernel
theorem d19_28 : decode prog_46_method_9_code 28 = .ok (.iload_n 1, 1) := by decide +kernel
theorem d19_29 : decode prog_46_method_9_code 29 = .ok (.if_icmp .ge 22, 3) := by decide +kernel
theorem d19_32 : decode prog_46_method_9_code 32 = .ok (.aload_n 0, 1) := by decide +kernel
theorem d19_33 : decode prog_46_method_9_code 33 = .ok (.iload_n 2, 1) := by decide +kernel
theorem d19_34 : decode prog_46_method_9_code 34 = .ok (.iconst 1, 1) := by decide +kernel
theorem d19_35 : decode prog_46_method_9_code 35 = .ok (.iadd, 1) := by decide +kernel
theorem d19_36 : decode prog_46_method_9_code 36 = .ok (.invokevirtual 55, 3) := by decide +kernel
theorem d19_39 : decode prog_46_method_9_code 39 = .ok (.invokestatic 65, 3) := by decide +kernel
theorem d19_42 : decode prog_46_method_9_code 42 = .ok (.ifCond .eq 9, 3) := by decide +kernel
theorem d19_45 : decode prog_46_method_9_code 45 = .ok (.iinc 2 1, 3) := by decide +kernel
theorem d19_48 : decode prog_46_method_9_code 48 = .ok (.goto 17, 3) := by decide +kernel
theorem d19_51 : decode prog_46_method_9_code 51 = .ok (.iload_n 3, 1) := by decide +kernel
theorem d19_52 : decode prog_46_method_9_code 52 = .ok (.invokestatic 68, 3) := by decide +kernel
theorem d19_55 : decode prog_46_method_9_code 55 = .ok (.ifCond .ne 10, 3) := by decide +kernel
theorem d19_58 : decode prog_46_method_9_code 58 = .ok (.aload_n 0, 1) := by decide +kernel
theorem d19_59 : decode prog_46_method_9_code 59 = .ok (.iload_n 2, 1) := by decide +kernel
theorem d19_60 : decode prog_46_method_9_code 60 = .ok (.ldc 71, 2) := by decide +kernel
theorem d19_62 : decode prog_46_method_9_code 62 = .ok (.invokevirtual 72, 3) := by decide +kernel
theorem d19_65 : decode prog_46_method_9_code 65 = .ok (.iinc 2 1, 3) := by decide +kernel
theorem d19_68 : decode prog_46_method_9_code 68 = .ok (.goto (-61), 3) := by decide +kernel
theorem d19_71 : decode prog_46_method_9_code 71 = .ok (.return_, 1) := by decide +kernel
theorem efRd_5 (x : Addr) (m : MethodId) : entryFrame m #[(.ref x)] 4 = mkF m 0 #[.val (.ref x), .unset, .unset, .unset] [] := by first | (simp [entryFrame, mkF, argsToLocals, Value.category]; done) | rfl
def QRd_5 (Z : State) (x t : Addr) (kt : ClassId) (d0 d1 d2 d3 d4 zc : Int32) (fm fi : Value) (u8 : Addr) (h0 : Heap) (n0 : Nat) (v : Option Value) (h : Heap) (L : List Loc) : Prop := v = none ∧ Fr n0 L ∧ h = h0
set_option maxRecDepth 65536 in
set_option maxHeartbeats 40000000 in
theorem rmRd_5 (l : Launch) (Z : State) (a0 : Array Value) (hw : ∀ d ∈ tables_1, d.before a0 Z = true) (ws : List Jvm.Cond) (x t : Addr) (kt : ClassId) (d0 d1 d2 d3 d4 zc : Int32) (fm fi : Value) (u8 : Addr) (h0 : Heap) (n0 : Nat) (Z0 : n0 ≤ h0.size) (O0 : Old Z n0 h0) (S_CS : Sta Z Z.heap "java/lang/String" "COMPACT_STRINGS" "Z" (.int zc)) (hzc : ¬ zc = 0) (S_FM : Sta Z Z.heap "jdk/internal/util/Preconditions" "SIOOBE_FORMATTER" "Ljava/util/function/BiFunction;" fm) (hfm : fm.isRef = true) (S_FI : Sta Z Z.heap "jdk/internal/util/Preconditions" "IOOBE_FORMATTER" "Ljava/util/function/BiFunction;" fi) (hfi : fi.isRef = true) (S_IN : Sta Z Z.heap "sun/nio/cs/UTF_8" "INSTANCE" "Lsun/nio/cs/UTF_8;" (.ref u8)) (S_U8 : Sta Z Z.heap "java/nio/charset/StandardCharsets" "UTF_8" "Ljava/nio/charset/Charset;" (.ref u8)) (gx : n0 ≤ x) (gt : n0 ≤ t) (Ex : Exa Z h0 x "java/lang/StringBuilder") (Fv : Fld Z h0 x "java/lang/AbstractStringBuilder" "value" "[B" (.ref t)) (Fc : Fld Z h0 x "java/lang/AbstractStringBuilder" "coder" "B" (.int (0 : Int32))) (Fn : Fld Z h0 x "java/lang/AbstractStringBuilder" "count" "I" (.int (5 : Int32))) (Vt : Arv Z h0 t kt .byte (8192 : Int32) [(.int d0), (.int d1), (.int d2), (.int d3), (.int d4)] (.int (0 : Int32))) (h_d0 : Pr d0) (h_d1 : Pr d1) (h_d2 : Pr d2) (h_d3 : Pr d3) (h_d4 : Pr d4) :
    OwnLaw l y2_ prog_46_method_9_code 4 none ws (rR 4 0 0 56) #[(.ref x)] Z h0 (QRd_5 Z x t kt d0 d1 d2 d3 d4 zc fm fi u8 h0 n0) := by
  refine own_enter (plainFor_of_name pn_com_example_medeweten_medeweten_core_XmlText) (efRd_5 x) ?_
  intro p e s m below meth c s₁ Bd hx hby hml hZ hown X0 e0
  have N0 := Fr.nil n0
  have K0 : Keep h0 h0 [] := Keep.refl _ _
  refine P1.aloadN X0.here hx (hb hby d19_0) rfl rfl ?_
  refine Goes.callV X0 hx hZ (y := y32_) (z := y32_) hown (mvT hZ (own_w hw 108 rfl)) (mvT hZ (own_w hw 109 rfl)) (notFace_of_selects (args := #[]) (mvT hZ (own_w hw 111 rfl))) (mvT hZ (own_w hw 111 rfl)) (mvT hZ (own_w hw 110 rfl)) (by decide) (kc' := 0) (ks' := 0) (backOf (W := 0) (rmSl l Z a0 hw [] x (5 : Int32) h0 n0 Z0 O0 Ex Fn) hZ (own_w hw 112 rfl) (own_w hw 24 rfl) (ok rfl) (ok rfl)) (b := x) e0 Ex (g := (mkF m 1 #[.val (.ref x), .unset, .unset, .unset] [(.ref x)])) rfl (by rw [hml]; rfl) (argsL := []) (rest := []) (lenOf pd_341 rfl) rfl (by show 2 * 0 + _ ≤ _; exact Nat.le_of_eq rfl) (hb hby d19_1) rfl (ok rfl) (ok rfl) ?_
  intro v614 T614 L614 q614 X614
  obtain ⟨rfl, N614q, hE614⟩ := q614
  have N614 := Fr.app N0 N614q
  show Goes p e below _ T614 (mkF m 4 #[.val (.ref x), .unset, .unset, .unset] [(.int (5 : Int32))])
  refine P1.istoreN X614.here hx #[.val (.ref x), .val (.int (5 : Int32)), .unset, .unset] (hb hby d19_4) rfl ?_
  refine P1.iconst X614.here hx (0 : Int32) (hb hby d19_5) rfl ?_
  refine P1.istoreN X614.here hx #[.val (.ref x), .val (.int (5 : Int32)), .val (.int (0 : Int32)), .unset] (hb hby d19_6) rfl ?_
  refine P1.iloadN X614.here hx (hb hby d19_7) rfl ?_
  refine P1.iloadN X614.here hx (hb hby d19_8) rfl ?_
  refine P1.icmpNo X614.here hx (hb hby d19_9) (tlt (by decide : (0 : Int32) < (5 : Int32))).2.1 ?_
  refine P1.aloadN X614.here hx (hb hby d19_12) rfl rfl ?_
  refine P1.iloadN X614.here hx (hb hby d19_13) rfl ?_
  refine Goes.callV X614 hx hZ (y := y31_) (z := y31_) hown (mvT hZ (own_w hw 117 rfl)) (mvT hZ (own_w hw 118 rfl)) (notFace_of_selects (args := #[]) (mvT hZ (own_w hw 120 rfl))) (mvT hZ (own_w hw 120 rfl)) (mvT hZ (own_w hw 119 rfl)) (by decide) (kc' := 0) (ks' := 0) (backOf (W := 0) (rmChB l Z a0 hw [] x t kt [(.int d0), (.int d1), (.int d2), (.int d3), (.int d4)] (5 : Int32) (0 : Int32) d0 zc fm fi u8 h0 n0 Z0 O0 S_CS hzc S_FM hfm S_FI hfi S_IN S_U8 Ex Fv Fc Vt Fn (by decide) (by decide) (by decide) (by decide) rfl h_d0) hZ (own_w hw 121 rfl) (own_w hw 24 rfl) (ok rfl) (ok rfl)) (b := x) hE614 Ex (g := (mkF m 14 #[.val (.ref x), .val (.int (5 : Int32)), .val (.int (0 : Int32)), .unset] [(.int (0 : Int32)), (.ref x)])) rfl (by rw [hml]; rfl) (argsL := [(.int (0 : Int32))]) (rest := []) (lenOf pd_577 rfl) rfl (by show 2 * 0 + _ ≤ _; exact Nat.le_of_eq rfl) (hb hby d19_14) rfl (ok rfl) (ok rfl) ?_
  intro v615 T615 L615 q615 X615
  obtain ⟨rfl, N615q, hE615⟩ := q615
  have N615 := Fr.app N614 N615q
  show Goes p e below _ T615 (mkF m 17 #[.val (.ref x), .val (.int (5 : Int32)), .val (.int (0 : Int32)), .unset] [(.int d0)])
  refine P1.istoreN X615.here hx #[.val (.ref x), .val (.int (5 : Int32)), .val (.int (0 : Int32)), .val (.int d0)] (hb hby d19_17) rfl ?_
  refine P1.iloadN X615.here hx (hb hby d19_18) rfl ?_
  refine Goes.callS X615 hx (y := y18_) hown (mvT hZ (own_w hw 137 rfl)) (mvT hZ (own_w hw 138 rfl)) (mvT hZ (own_w hw 139 rfl)) (mvT hZ (own_w hw 140 rfl)) (by decide) (kc' := 0) (ks' := 0) (backOf (W := 0) (rmHs l Z a0 hw [] d0 h0 n0 Z0 O0 h_d0) hZ (own_w hw 140 rfl) (own_w hw 139 rfl) (ok rfl) (ok rfl)) (g := (mkF m 19 #[.val (.ref x), .val (.int (5 : Int32)), .val (.int (0 : Int32)), .val (.int d0)] [(.int d0)])) rfl (by rw [hml]; rfl) (argsL := [(.int d0)]) (rest := []) (lenOf pd_657 rfl) rfl (by show 2 * 0 + _ ≤ _; exact Nat.le_of_eq rfl) (hb hby d19_19) rfl hE615 (ok rfl) (ok rfl) ?_
  intro v616 T616 L616 q616 X616
  obtain ⟨rfl, N616q, hE616⟩ := q616
  have N616 := Fr.app N615 N616q
  show Goes p e below _ T616 (mkF m 22 #[.val (.ref x), .val (.int (5 : Int32)), .val (.int (0 : Int32)), .val (.int d0)] [(.int (0 : Int32))])
  refine P1.ifYes X616.here hx 51 (hb hby d19_22) ((if0 _ _).trans (teq (by decide : (0 : Int32) = (0 : Int32))).1) (by decide) (by decide) ?_
  refine P1.iloadN X616.here hx (hb hby d19_51) rfl ?_
  refine Goes.callS X616 hx (y := y1_) hown (mvT hZ (own_w hw 142 rfl)) (mvT hZ (own_w hw 143 rfl)) (mvT hZ (own_w hw 8 rfl)) (mvT hZ (own_w hw 144 rfl)) (by decide) (kc' := 0) (ks' := 0) (backOf (W := 0) (rmIa l Z a0 hw [] d0 h0 n0 Z0 O0 h_d0) hZ (own_w hw 144 rfl) (own_w hw 8 rfl) (ok rfl) (ok rfl)) (g := (mkF m 52 #[.val (.ref x), .val (.int (5 : Int32)), .val (.int (0 : Int32)), .val (.int d0)] [(.int d0)])) rfl (by rw [hml]; rfl) (argsL := [(.int d0)]) (rest := []) (lenOf pd_657 rfl) rfl (by show 2 * 0 + _ ≤ _; exact Nat.le_of_eq rfl) (hb hby d19_52) rfl hE616 (ok rfl) (ok rfl) ?_
  intro v617 T617 L617 q617 X617
  obtain ⟨rfl, N617q, hE617⟩ := q617
  have N617 := Fr.app N616 N617q
  show Goes p e below _ T617 (mkF m 55 #[.val (.ref x), .val (.int (5 : Int32)), .val (.int (0 : Int32)), .val (.int d0)] [(.int (1 : Int32))])
  refine P1.ifYes X617.here hx 65 (hb hby d19_55) ((if0 _ _).trans (feq (by decide : ¬ ((1 : Int32) = (0 : Int32)))).2) (by decide) (by decide) ?_
  refine Goes.step (T' := T617) (g' := (mkF m 68 #[.val (.ref x), .val (.int (5 : Int32)), .val (.int ((0 : Int32) + (1 : Int32))), .val (.int d0)] [])) (fun t_ k_ => XS.iinc X617.here hx rfl (hb hby d19_65) rfl (l' := #[.val (.ref x), .val (.int (5 : Int32)), .val (.int ((0 : Int32) + (1 : Int32))), .val (.int d0)]) rfl k_) ?_
  have rw618 : ((0 : Int32) + (1 : Int32)) = (1 : Int32) := by decide
  rw [rw618]
  refine P1.goto X617.here hx 7 (hb hby d19_68) (by decide) (by decide) ?_
  refine P1.iloadN X617.here hx (hb hby d19_7) rfl ?_
  refine P1.iloadN X617.here hx (hb hby d19_8) rfl ?_
  refine P1.icmpNo X617.here hx (hb hby d19_9) (tlt (by decide : (1 : Int32) < (5 : Int32))).2.1 ?_
  refine P1.aloadN X617.here hx (hb hby d19_12) rfl rfl ?_
  refine P1.iloadN X617.here hx (hb hby d19_13) rfl ?_
  refine Goes.callV X617 hx hZ (y := y31_) (z := y31_) hown (mvT hZ (own_w hw 117 rfl)) (mvT hZ (own_w hw 118 rfl)) (notFace_of_selects (args := #[]) (mvT hZ (own_w hw 120 rfl))) (mvT hZ (own_w hw 120 rfl)) (mvT hZ (own_w hw 119 rfl)) (by decide) (kc' := 0) (ks' := 0) (backOf (W := 0) (rmChB l Z a0 hw [] x t kt [(.int d0), (.int d1), (.int d2), (.int d3), (.int d4)] (5 : Int32) (1 : Int32) d1 zc fm fi u8 h0 n0 Z0 O0 S_CS hzc S_FM hfm S_FI hfi S_IN S_U8 Ex Fv Fc Vt Fn (by decide) (by decide) (by decide) (by decide) rfl h_d1) hZ (own_w hw 121 rfl) (own_w hw 24 rfl) (ok rfl) (ok rfl)) (b := x) hE617 Ex (g := (mkF m 14 #[.val (.ref x), .val (.int (5 : Int32)), .val (.int (1 : Int32)), .val (.int d0)] [(.int (1 : Int32)), (.ref x)])) rfl (by rw [hml]; rfl) (argsL := [(.int (1 : Int32))]) (rest := []) (lenOf pd_577 rfl) rfl (by show 2 * 0 + _ ≤ _; exact Nat.le_of_eq rfl) (hb hby d19_14) rfl (ok rfl) (ok rfl) ?_
  intro v619 T619 L619 q619 X619
  obtain ⟨rfl, N619q, hE619⟩ := q619
  have N619 := Fr.app N617 N619q
  show Goes p e below _ T619 (mkF m 17 #[.val (.ref x), .val (.int (5 : Int32)), .val (.int (1 : Int32)), .val (.int d0)] [(.int d1)])
  refine P1.istoreN X619.here hx #[.val (.ref x), .val (.int (5 : Int32)), .val (.int (1 : Int32)), .val (.int d1)] (hb hby d19_17) rfl ?_
  refine P1.iloadN X619.here hx (hb hby d19_18) rfl ?_
  refine Goes.callS X619 hx (y := y18_) hown (mvT hZ (own_w hw 137 rfl)) (mvT hZ (own_w hw 138 rfl)) (mvT hZ (own_w hw 139 rfl)) (mvT hZ (own_w hw 140 rfl)) (by decide) (kc' := 0) (ks' := 0) (backOf (W := 0) (rmHs l Z a0 hw [] d1 h0 n0 Z0 O0 h_d1) hZ (own_w hw 140 rfl) (own_w hw 139 rfl) (ok rfl) (ok rfl)) (g := (mkF m 19 #[.val (.ref x), .val (.int (5 : Int32)), .val (.int (1 : Int32)), .val (.int d1)] [(.int d1)])) rfl (by rw [hml]; rfl) (argsL := [(.int d1)]) (rest := []) (lenOf pd_657 rfl) rfl (by show 2 * 0 + _ ≤ _; exact Nat.le_of_eq rfl) (hb hby d19_19) rfl hE619 (ok rfl) (ok rfl) ?_
  intro v620 T620 L620 q620 X620
  obtain ⟨rfl, N620q, hE620⟩ := q620
  have N620 := Fr.app N619 N620q
  show Goes p e below _ T620 (mkF m 22 #[.val (.ref x), .val (.int (5 : Int32)), .val (.int (1 : Int32)), .val (.int d1)] [(.int (0 : Int32))])
  refine P1.ifYes X620.here hx 51 (hb hby d19_22) ((if0 _ _).trans (teq (by decide : (0 : Int32) = (0 : Int32))).1) (by decide) (by decide) ?_
  refine P1.iloadN X620.here hx (hb hby d19_51) rfl ?_
  refine Goes.callS X620 hx (y := y1_) hown (mvT hZ (own_w hw 142 rfl)) (mvT hZ (own_w hw 143 rfl)) (mvT hZ (own_w hw 8 rfl)) (mvT hZ (own_w hw 144 rfl)) (by decide) (kc' := 0) (ks' := 0) (backOf (W := 0) (rmIa l Z a0 hw [] d1 h0 n0 Z0 O0 h_d1) hZ (own_w hw 144 rfl) (own_w hw 8 rfl) (ok rfl) (ok rfl)) (g := (mkF m 52 #[.val (.ref x), .val (.int (5 : Int32)), .val (.int (1 : Int32)), .val (.int d1)] [(.int d1)])) rfl (by rw [hml]; rfl) (argsL := [(.int d1)]) (rest := []) (lenOf pd_657 rfl) rfl (by show 2 * 0 + _ ≤ _; exact Nat.le_of_eq rfl) (hb hby d19_52) rfl hE620 (ok rfl) (ok rfl) ?_
  intro v621 T621 L621 q621 X621
  obtain ⟨rfl, N621q, hE621⟩ := q621
  have N621 := Fr.app N620 N621q
  show Goes p e below _ T621 (mkF m 55 #[.val (.ref x), .val (.int (5 : Int32)), .val (.int (1 : Int32)), .val (.int d1)] [(.int (1 : Int32))])
  refine P1.ifYes X621.here hx 65 (hb hby d19_55) ((if0 _ _).trans (feq (by decide : ¬ ((1 : Int32) = (0 : Int32)))).2) (by decide) (by decide) ?_
  refine Goes.step (T' := T621) (g' := (mkF m 68 #[.val (.ref x), .val (.int (5 : Int32)), .val (.int ((1 : Int32) + (1 : Int32))), .val (.int d1)] [])) (fun t_ k_ => XS.iinc X621.here hx rfl (hb hby d19_65) rfl (l' := #[.val (.ref x), .val (.int (5 : Int32)), .val (.int ((1 : Int32) + (1 : Int32))), .val (.int d1)]) rfl k_) ?_
  have rw622 : ((1 : Int32) + (1 : Int32)) = (2 : Int32) := by decide
  rw [rw622]
  refine P1.goto X621.here hx 7 (hb hby d19_68) (by decide) (by decide) ?_
  refine P1.iloadN X621.here hx (hb hby d19_7) rfl ?_
  refine P1.iloadN X621.here hx (hb hby d19_8) rfl ?_
  refine P1.icmpNo X621.here hx (hb hby d19_9) (tlt (by decide : (2 : Int32) < (5 : Int32))).2.1 ?_
  refine P1.aloadN X621.here hx (hb hby d19_12) rfl rfl ?_
  refine P1.iloadN X621.here hx (hb hby d19_13) rfl ?_
  refine Goes.callV X621 hx hZ (y := y31_) (z := y31_) hown (mvT hZ (own_w hw 117 rfl)) (mvT hZ (own_w hw 118 rfl)) (notFace_of_selects (args := #[]) (mvT hZ (own_w hw 120 rfl))) (mvT hZ (own_w hw 120 rfl)) (mvT hZ (own_w hw 119 rfl)) (by decide) (kc' := 0) (ks' := 0) (backOf (W := 0) (rmChB l Z a0 hw [] x t kt [(.int d0), (.int d1), (.int d2), (.int d3), (.int d4)] (5 : Int32) (2 : Int32) d2 zc fm fi u8 h0 n0 Z0 O0 S_CS hzc S_FM hfm S_FI hfi S_IN S_U8 Ex Fv Fc Vt Fn (by decide) (by decide) (by decide) (by decide) rfl h_d2) hZ (own_w hw 121 rfl) (own_w hw 24 rfl) (ok rfl) (ok rfl)) (b := x) hE621 Ex (g := (mkF m 14 #[.val (.ref x), .val (.int (5 : Int32)), .val (.int (2 : Int32)), .val (.int d1)] [(.int (2 : Int32)), (.ref x)])) rfl (by rw [hml]; rfl) (argsL := [(.int (2 : Int32))]) (rest := []) (lenOf pd_577 rfl) rfl (by show 2 * 0 + _ ≤ _; exact Nat.le_of_eq rfl) (hb hby d19_14) rfl (ok rfl) (ok rfl) ?_
  intro v623 T623 L623 q623 X623
  obtain ⟨rfl, N623q, hE623⟩ := q623
  have N623 := Fr.app N621 N623q
  show Goes p e below _ T623 (mkF m 17 #[.val (.ref x), .val (.int (5 : Int32)), .val (.int (2 : Int32)), .val (.int d1)] [(.int d2)])
  refine P1.istoreN X623.here hx #[.val (.ref x), .val (.int (5 : Int32)), .val (.int (2 : Int32)), .val (.int d2)] (hb hby d19_17) rfl ?_
  refine P1.iloadN X623.here hx (hb hby d19_18) rfl ?_
  refine Goes.callS X623 hx (y := y18_) hown (mvT hZ (own_w hw 137 rfl)) (mvT hZ (own_w hw 138 rfl)) (mvT hZ (own_w hw 139 rfl)) (mvT hZ (own_w hw 140 rfl)) (by decide) (kc' := 0) (ks' := 0) (backOf (W := 0) (rmHs l Z a0 hw [] d2 h0 n0 Z0 O0 h_d2) hZ (own_w hw 140 rfl) (own_w hw 139 rfl) (ok rfl) (ok rfl)) (g := (mkF m 19 #[.val (.ref x), .val (.int (5 : Int32)), .val (.int (2 : Int32)), .val (.int d2)] [(.int d2)])) rfl (by rw [hml]; rfl) (argsL := [(.int d2)]) (rest := []) (lenOf pd_657 rfl) rfl (by show 2 * 0 + _ ≤ _; exact Nat.le_of_eq rfl) (hb hby d19_19) rfl hE623 (ok rfl) (ok rfl) ?_
  intro v624 T624 L624 q624 X624
  obtain ⟨rfl, N624q, hE624⟩ := q624
  have N624 := Fr.app N623 N624q
  show Goes p e below _ T624 (mkF m 22 #[.val (.ref x), .val (.int (5 : Int32)), .val (.int (2 : Int32)), .val (.int d2)] [(.int (0 : Int32))])
  refine P1.ifYes X624.here hx 51 (hb hby d19_22) ((if0 _ _).trans (teq (by decide : (0 : Int32) = (0 : Int32))).1) (by decide) (by decide) ?_
  refine P1.iloadN X624.here hx (hb hby d19_51) rfl ?_
  refine Goes.callS X624 hx (y := y1_) hown (mvT hZ (own_w hw 142 rfl)) (mvT hZ (own_w hw 143 rfl)) (mvT hZ (own_w hw 8 rfl)) (mvT hZ (own_w hw 144 rfl)) (by decide) (kc' := 0) (ks' := 0) (backOf (W := 0) (rmIa l Z a0 hw [] d2 h0 n0 Z0 O0 h_d2) hZ (own_w hw 144 rfl) (own_w hw 8 rfl) (ok rfl) (ok rfl)) (g := (mkF m 52 #[.val (.ref x), .val (.int (5 : Int32)), .val (.int (2 : Int32)), .val (.int d2)] [(.int d2)])) rfl (by rw [hml]; rfl) (argsL := [(.int d2)]) (rest := []) (lenOf pd_657 rfl) rfl (by show 2 * 0 + _ ≤ _; exact Nat.le_of_eq rfl) (hb hby d19_52) rfl hE624 (ok rfl) (ok rfl) ?_
  intro v625 T625 L625 q625 X625
  obtain ⟨rfl, N625q, hE625⟩ := q625
  have N625 := Fr.app N624 N625q
  show Goes p e below _ T625 (mkF m 55 #[.val (.ref x), .val (.int (5 : Int32)), .val (.int (2 : Int32)), .val (.int d2)] [(.int (1 : Int32))])
  refine P1.ifYes X625.here hx 65 (hb hby d19_55) ((if0 _ _).trans (feq (by decide : ¬ ((1 : Int32) = (0 : Int32)))).2) (by decide) (by decide) ?_
  refine Goes.step (T' := T625) (g' := (mkF m 68 #[.val (.ref x), .val (.int (5 : Int32)), .val (.int ((2 : Int32) + (1 : Int32))), .val (.int d2)] [])) (fun t_ k_ => XS.iinc X625.here hx rfl (hb hby d19_65) rfl (l' := #[.val (.ref x), .val (.int (5 : Int32)), .val (.int ((2 : Int32) + (1 : Int32))), .val (.int d2)]) rfl k_) ?_
  have rw626 : ((2 : Int32) + (1 : Int32)) = (3 : Int32) := by decide
  rw [rw626]
  refine P1.goto X625.here hx 7 (hb hby d19_68) (by decide) (by decide) ?_
  refine P1.iloadN X625.here hx (hb hby d19_7) rfl ?_
  refine P1.iloadN X625.here hx (hb hby d19_8) rfl ?_
  refine P1.icmpNo X625.here hx (hb hby d19_9) (tlt (by decide : (3 : Int32) < (5 : Int32))).2.1 ?_
  refine P1.aloadN X625.here hx (hb hby d19_12) rfl rfl ?_
  refine P1.iloadN X625.here hx (hb hby d19_13) rfl ?_
  refine Goes.callV X625 hx hZ (y := y31_) (z := y31_) hown (mvT hZ (own_w hw 117 rfl)) (mvT hZ (own_w hw 118 rfl)) (notFace_of_selects (args := #[]) (mvT hZ (own_w hw 120 rfl))) (mvT hZ (own_w hw 120 rfl)) (mvT hZ (own_w hw 119 rfl)) (by decide) (kc' := 0) (ks' := 0) (backOf (W := 0) (rmChB l Z a0 hw [] x t kt [(.int d0), (.int d1), (.int d2), (.int d3), (.int d4)] (5 : Int32) (3 : Int32) d3 zc fm fi u8 h0 n0 Z0 O0 S_CS hzc S_FM hfm S_FI hfi S_IN S_U8 Ex Fv Fc Vt Fn (by decide) (by decide) (by decide) (by decide) rfl h_d3) hZ (own_w hw 121 rfl) (own_w hw 24 rfl) (ok rfl) (ok rfl)) (b := x) hE625 Ex (g := (mkF m 14 #[.val (.ref x), .val (.int (5 : Int32)), .val (.int (3 : Int32)), .val (.int d2)] [(.int (3 : Int32)), (.ref x)])) rfl (by rw [hml]; rfl) (argsL := [(.int (3 : Int32))]) (rest := []) (lenOf pd_577 rfl) rfl (by show 2 * 0 + _ ≤ _; exact Nat.le_of_eq rfl) (hb hby d19_14) rfl (ok rfl) (ok rfl) ?_
  intro v627 T627 L627 q627 X627
  obtain ⟨rfl, N627q, hE627⟩ := q627
  have N627 := Fr.app N625 N627q
  show Goes p e below _ T627 (mkF m 17 #[.val (.ref x), .val (.int (5 : Int32)), .val (.int (3 : Int32)), .val (.int d2)] [(.int d3)])
  refine P1.istoreN X627.here hx #[.val (.ref x), .val (.int (5 : Int32)), .val (.int (3 : Int32)), .val (.int d3)] (hb hby d19_17) rfl ?_
  refine P1.iloadN X627.here hx (hb hby d19_18) rfl ?_
  refine Goes.callS X627 hx (y := y18_) hown (mvT hZ (own_w hw 137 rfl)) (mvT hZ (own_w hw 138 rfl)) (mvT hZ (own_w hw 139 rfl)) (mvT hZ (own_w hw 140 rfl)) (by decide) (kc' := 0) (ks' := 0) (backOf (W := 0) (rmHs l Z a0 hw [] d3 h0 n0 Z0 O0 h_d3) hZ (own_w hw 140 rfl) (own_w hw 139 rfl) (ok rfl) (ok rfl)) (g := (mkF m 19 #[.val (.ref x), .val (.int (5 : Int32)), .val (.int (3 : Int32)), .val (.int d3)] [(.int d3)])) rfl (by rw [hml]; rfl) (argsL := [(.int d3)]) (rest := []) (lenOf pd_657 rfl) rfl (by show 2 * 0 + _ ≤ _; exact Nat.le_of_eq rfl) (hb hby d19_19) rfl hE627 (ok rfl) (ok rfl) ?_
  intro v628 T628 L628 q628 X628
  obtain ⟨rfl, N628q, hE628⟩ := q628
  have N628 := Fr.app N627 N628q
  show Goes p e below _ T628 (mkF m 22 #[.val (.ref x), .val (.int (5 : Int32)), .val (.int (3 : Int32)), .val (.int d3)] [(.int (0 : Int32))])
  refine P1.ifYes X628.here hx 51 (hb hby d19_22) ((if0 _ _).trans (teq (by decide : (0 : Int32) = (0 : Int32))).1) (by decide) (by decide) ?_
  refine P1.iloadN X628.here hx (hb hby d19_51) rfl ?_
  refine Goes.callS X628 hx (y := y1_) hown (mvT hZ (own_w hw 142 rfl)) (mvT hZ (own_w hw 143 rfl)) (mvT hZ (own_w hw 8 rfl)) (mvT hZ (own_w hw 144 rfl)) (by decide) (kc' := 0) (ks' := 0) (backOf (W := 0) (rmIa l Z a0 hw [] d3 h0 n0 Z0 O0 h_d3) hZ (own_w hw 144 rfl) (own_w hw 8 rfl) (ok rfl) (ok rfl)) (g := (mkF m 52 #[.val (.ref x), .val (.int (5 : Int32)), .val (.int (3 : Int32)), .val (.int d3)] [(.int d3)])) rfl (by rw [hml]; rfl) (argsL := [(.int d3)]) (rest := []) (lenOf pd_657 rfl) rfl (by show 2 * 0 + _ ≤ _; exact Nat.le_of_eq rfl) (hb hby d19_52) rfl hE628 (ok rfl) (ok rfl) ?_
  intro v629 T629 L629 q629 X629
  obtain ⟨rfl, N629q, hE629⟩ := q629
  have N629 := Fr.app N628 N629q
  show Goes p e below _ T629 (mkF m 55 #[.val (.ref x), .val (.int (5 : Int32)), .val (.int (3 : Int32)), .val (.int d3)] [(.int (1 : Int32))])
  refine P1.ifYes X629.here hx 65 (hb hby d19_55) ((if0 _ _).trans (feq (by decide : ¬ ((1 : Int32) = (0 : Int32)))).2) (by decide) (by decide) ?_
  refine Goes.step (T' := T629) (g' := (mkF m 68 #[.val (.ref x), .val (.int (5 : Int32)), .val (.int ((3 : Int32) + (1 : Int32))), .val (.int d3)] [])) (fun t_ k_ => XS.iinc X629.here hx rfl (hb hby d19_65) rfl (l' := #[.val (.ref x), .val (.int (5 : Int32)), .val (.int ((3 : Int32) + (1 : Int32))), .val (.int d3)]) rfl k_) ?_
  have rw630 : ((3 : Int32) + (1 : Int32)) = (4 : Int32) := by decide
  rw [rw630]
  refine P1.goto X629.here hx 7 (hb hby d19_68) (by decide) (by decide) ?_
  refine P1.iloadN X629.here hx (hb hby d19_7) rfl ?_
  refine P1.iloadN X629.here hx (hb hby d19_8) rfl ?_
  refine P1.icmpNo X629.here hx (hb hby d19_9) (tlt (by decide : (4 : Int32) < (5 : Int32))).2.1 ?_
  refine P1.aloadN X629.here hx (hb hby d19_12) rfl rfl ?_
  refine P1.iloadN X629.here hx (hb hby d19_13) rfl ?_
  refine Goes.callV X629 hx hZ (y := y31_) (z := y31_) hown (mvT hZ (own_w hw 117 rfl)) (mvT hZ (own_w hw 118 rfl)) (notFace_of_selects (args := #[]) (mvT hZ (own_w hw 120 rfl))) (mvT hZ (own_w hw 120 rfl)) (mvT hZ (own_w hw 119 rfl)) (by decide) (kc' := 0) (ks' := 0) (backOf (W := 0) (rmChB l Z a0 hw [] x t kt [(.int d0), (.int d1), (.int d2), (.int d3), (.int d4)] (5 : Int32) (4 : Int32) d4 zc fm fi u8 h0 n0 Z0 O0 S_CS hzc S_FM hfm S_FI hfi S_IN S_U8 Ex Fv Fc Vt Fn (by decide) (by decide) (by decide) (by decide) rfl h_d4) hZ (own_w hw 121 rfl) (own_w hw 24 rfl) (ok rfl) (ok rfl)) (b := x) hE629 Ex (g := (mkF m 14 #[.val (.ref x), .val (.int (5 : Int32)), .val (.int (4 : Int32)), .val (.int d3)] [(.int (4 : Int32)), (.ref x)])) rfl (by rw [hml]; rfl) (argsL := [(.int (4 : Int32))]) (rest := []) (lenOf pd_577 rfl) rfl (by show 2 * 0 + _ ≤ _; exact Nat.le_of_eq rfl) (hb hby d19_14) rfl (ok rfl) (ok rfl) ?_
  intro v631 T631 L631 q631 X631
  obtain ⟨rfl, N631q, hE631⟩ := q631
  have N631 := Fr.app N629 N631q
  show Goes p e below _ T631 (mkF m 17 #[.val (.ref x), .val (.int (5 : Int32)), .val (.int (4 : Int32)), .val (.int d3)] [(.int d4)])
  refine P1.istoreN X631.here hx #[.val (.ref x), .val (.int (5 : Int32)), .val (.int (4 : Int32)), .val (.int d4)] (hb hby d19_17) rfl ?_
  refine P1.iloadN X631.here hx (hb hby d19_18) rfl ?_
  refine Goes.callS X631 hx (y := y18_) hown (mvT hZ (own_w hw 137 rfl)) (mvT hZ (own_w hw 138 rfl)) (mvT hZ (own_w hw 139 rfl)) (mvT hZ (own_w hw 140 rfl)) (by decide) (kc' := 0) (ks' := 0) (backOf (W := 0) (rmHs l Z a0 hw [] d4 h0 n0 Z0 O0 h_d4) hZ (own_w hw 140 rfl) (own_w hw 139 rfl) (ok rfl) (ok rfl)) (g := (mkF m 19 #[.val (.ref x), .val (.int (5 : Int32)), .val (.int (4 : Int32)), .val (.int d4)] [(.int d4)])) rfl (by rw [hml]; rfl) (argsL := [(.int d4)]) (rest := []) (lenOf pd_657 rfl) rfl (by show 2 * 0 + _ ≤ _; exact Nat.le_of_eq rfl) (hb hby d19_19) rfl hE631 (ok rfl) (ok rfl) ?_
  intro v632 T632 L632 q632 X632
  obtain ⟨rfl, N632q, hE632⟩ := q632
  have N632 := Fr.app N631 N632q
  show Goes p e below _ T632 (mkF m 22 #[.val (.ref x), .val (.int (5 : Int32)), .val (.int (4 : Int32)), .val (.int d4)] [(.int (0 : Int32))])
  refine P1.ifYes X632.here hx 51 (hb hby d19_22) ((if0 _ _).trans (teq (by decide : (0 : Int32) = (0 : Int32))).1) (by decide) (by decide) ?_
  refine P1.iloadN X632.here hx (hb hby d19_51) rfl ?_
  refine Goes.callS X632 hx (y := y1_) hown (mvT hZ (own_w hw 142 rfl)) (mvT hZ (own_w hw 143 rfl)) (mvT hZ (own_w hw 8 rfl)) (mvT hZ (own_w hw 144 rfl)) (by decide) (kc' := 0) (ks' := 0) (backOf (W := 0) (rmIa l Z a0 hw [] d4 h0 n0 Z0 O0 h_d4) hZ (own_w hw 144 rfl) (own_w hw 8 rfl) (ok rfl) (ok rfl)) (g := (mkF m 52 #[.val (.ref x), .val (.int (5 : Int32)), .val (.int (4 : Int32)), .val (.int d4)] [(.int d4)])) rfl (by rw [hml]; rfl) (argsL := [(.int d4)]) (rest := []) (lenOf pd_657 rfl) rfl (by show 2 * 0 + _ ≤ _; exact Nat.le_of_eq rfl) (hb hby d19_52) rfl hE632 (ok rfl) (ok rfl) ?_
  intro v633 T633 L633 q633 X633
  obtain ⟨rfl, N633q, hE633⟩ := q633
  have N633 := Fr.app N632 N633q
  show Goes p e below _ T633 (mkF m 55 #[.val (.ref x), .val (.int (5 : Int32)), .val (.int (4 : Int32)), .val (.int d4)] [(.int (1 : Int32))])
  refine P1.ifYes X633.here hx 65 (hb hby d19_55) ((if0 _ _).trans (feq (by decide : ¬ ((1 : Int32) = (0 : Int32)))).2) (by decide) (by decide) ?_
  refine Goes.step (T' := T633) (g' := (mkF m 68 #[.val (.ref x), .val (.int (5 : Int32)), .val (.int ((4 : Int32) + (1 : Int32))), .val (.int d4)] [])) (fun t_ k_ => XS.iinc X633.here hx rfl (hb hby d19_65) rfl (l' := #[.val (.ref x), .val (.int (5 : Int32)), .val (.int ((4 : Int32) + (1 : Int32))), .val (.int d4)]) rfl k_) ?_
  have rw634 : ((4 : Int32) + (1 : Int32)) = (5 : Int32) := by decide
  rw [rw634]
  refine P1.goto X633.here hx 7 (hb hby d19_68) (by decide) (by decide) ?_
  refine P1.iloadN X633.here hx (hb hby d19_7) rfl ?_
  refine P1.iloadN X633.here hx (hb hby d19_8) rfl ?_
  refine P1.icmpYes X633.here hx 71 (hb hby d19_9) (flt (by decide : ¬ ((5 : Int32) < (5 : Int32)))).2.1 (by decide) (by decide) ?_
  refine Goes.retV X633 hx Bd.notSynchronized Bd.returns (hb hby d19_71) (ok rfl) (ok rfl) ?_
  rw [hE633]
  exact ⟨rfl, N633, rfl⟩
theorem efRd_4 (x : Addr) (m : MethodId) : entryFrame m #[(.ref x)] 4 = mkF m 0 #[.val (.ref x), .unset, .unset, .unset] [] := by first | (simp [entryFrame, mkF, argsToLocals, Value.category]; done) | rfl
def QRd_4 (Z : State) (x t : Addr) (kt : ClassId) (d0 d1 d2 d3 zc : Int32) (fm fi : Value) (u8 : Addr) (h0 : Heap) (n0 : Nat) (v : Option Value) (h : Heap) (L : List Loc) : Prop := v = none ∧ Fr n0 L ∧ h = h0
set_option maxRecDepth 65536 in
set_option maxHeartbeats 40000000 in
theorem rmRd_4 (l : Launch) (Z : State) (a0 : Array Value) (hw : ∀ d ∈ tables_1, d.before a0 Z = true) (ws : List Jvm.Cond) (x t : Addr) (kt : ClassId) (d0 d1 d2 d3 zc : Int32) (fm fi : Value) (u8 : Addr) (h0 : Heap) (n0 : Nat) (Z0 : n0 ≤ h0.size) (O0 : Old Z n0 h0) (S_CS : Sta Z Z.heap "java/lang/String" "COMPACT_STRINGS" "Z" (.int zc)) (hzc : ¬ zc = 0) (S_FM : Sta Z Z.heap "jdk/internal/util/Preconditions" "SIOOBE_FORMATTER" "Ljava/util/function/BiFunction;" fm) (hfm : fm.isRef = true) (S_FI : Sta Z Z.heap "jdk/internal/util/Preconditions" "IOOBE_FORMATTER" "Ljava/util/function/BiFunction;" fi) (hfi : fi.isRef = true) (S_IN : Sta Z Z.heap "sun/nio/cs/UTF_8" "INSTANCE" "Lsun/nio/cs/UTF_8;" (.ref u8)) (S_U8 : Sta Z Z.heap "java/nio/charset/StandardCharsets" "UTF_8" "Ljava/nio/charset/Charset;" (.ref u8)) (gx : n0 ≤ x) (gt : n0 ≤ t) (Ex : Exa Z h0 x "java/lang/StringBuilder") (Fv : Fld Z h0 x "java/lang/AbstractStringBuilder" "value" "[B" (.ref t)) (Fc : Fld Z h0 x "java/lang/AbstractStringBuilder" "coder" "B" (.int (0 : Int32))) (Fn : Fld Z h0 x "java/lang/AbstractStringBuilder" "count" "I" (.int (4 : Int32))) (Vt : Arv Z h0 t kt .byte (8192 : Int32) [(.int d0), (.int d1), (.int d2), (.int d3)] (.int (0 : Int32))) (h_d0 : Pr d0) (h_d1 : Pr d1) (h_d2 : Pr d2) (h_d3 : Pr d3) :
    OwnLaw l y2_ prog_46_method_9_code 4 none ws (rR 4 0 0 56) #[(.ref x)] Z h0 (QRd_4 Z x t kt d0 d1 d2 d3 zc fm fi u8 h0 n0) := by
  refine own_enter (plainFor_of_name pn_com_example_medeweten_medeweten_core_XmlText) (efRd_4 x) ?_
  intro p e s m below meth c s₁ Bd hx hby hml hZ hown X0 e0
  have N0 := Fr.nil n0
  have K0 : Keep h0 h0 [] := Keep.refl _ _
  refine P1.aloadN X0.here hx (hb hby d19_0) rfl rfl ?_
  refine Goes.callV X0 hx hZ (y := y32_) (z := y32_) hown (mvT hZ (own_w hw 108 rfl)) (mvT hZ (own_w hw 109 rfl)) (notFace_of_selects (args := #[]) (mvT hZ (own_w hw 111 rfl))) (mvT hZ (own_w hw 111 rfl)) (mvT hZ (own_w hw 110 rfl)) (by decide) (kc' := 0) (ks' := 0) (backOf (W := 0) (rmSl l Z a0 hw [] x (4 : Int32) h0 n0 Z0 O0 Ex Fn) hZ (own_w hw 112 rfl) (own_w hw 24 rfl) (ok rfl) (ok rfl)) (b := x) e0 Ex (g := (mkF m 1 #[.val (.ref x), .unset, .unset, .unset] [(.ref x)])) rfl (by rw [hml]; rfl) (argsL := []) (rest := []) (lenOf pd_341 rfl) rfl (by show 2 * 0 + _ ≤ _; exact Nat.le_of_eq rfl) (hb hby d19_1) rfl (ok rfl) (ok rfl) ?_
  intro v635 T635 L635 q635 X635
  obtain ⟨rfl, N635q, hE635⟩ := q635
  have N635 := Fr.app N0 N635q
  show Goes p e below _ T635 (mkF m 4 #[.val (.ref x), .unset, .unset, .unset] [(.int (4 : Int32))])
  refine P1.istoreN X635.here hx #[.val (.ref x), .val (.int (4 : Int32)), .unset, .unset] (hb hby d19_4) rfl ?_
  refine P1.iconst X635.here hx (0 : Int32) (hb hby d19_5) rfl ?_
  refine P1.istoreN X635.here hx #[.val (.ref x), .val (.int (4 : Int32)), .val (.int (0 : Int32)), .unset] (hb hby d19_6) rfl ?_
  refine P1.iloadN X635.here hx (hb hby d19_7) rfl ?_
  refine P1.iloadN X635.here hx (hb hby d19_8) rfl ?_
  refine P1.icmpNo X635.here hx (hb hby d19_9) (tlt (by decide : (0 : Int32) < (4 : Int32))).2.1 ?_
  refine P1.aloadN X635.here hx (hb hby d19_12) rfl rfl ?_
  refine P1.iloadN X635.here hx (hb hby d19_13) rfl ?_
  refine Goes.callV X635 hx hZ (y := y31_) (z := y31_) hown (mvT hZ (own_w hw 117 rfl)) (mvT hZ (own_w hw 118 rfl)) (notFace_of_selects (args := #[]) (mvT hZ (own_w hw 120 rfl))) (mvT hZ (own_w hw 120 rfl)) (mvT hZ (own_w hw 119 rfl)) (by decide) (kc' := 0) (ks' := 0) (backOf (W := 0) (rmChB l Z a0 hw [] x t kt [(.int d0), (.int d1), (.int d2), (.int d3)] (4 : Int32) (0 : Int32) d0 zc fm fi u8 h0 n0 Z0 O0 S_CS hzc S_FM hfm S_FI hfi S_IN S_U8 Ex Fv Fc Vt Fn (by decide) (by decide) (by decide) (by decide) rfl h_d0) hZ (own_w hw 121 rfl) (own_w hw 24 rfl) (ok rfl) (ok rfl)) (b := x) hE635 Ex (g := (mkF m 14 #[.val (.ref x), .val (.int (4 : Int32)), .val (.int (0 : Int32)), .unset] [(.int (0 : Int32)), (.ref x)])) rfl (by rw [hml]; rfl) (argsL := [(.int (0 : Int32))]) (rest := []) (lenOf pd_577 rfl) rfl (by show 2 * 0 + _ ≤ _; exact Nat.le_of_eq rfl) (hb hby d19_14) rfl (ok rfl) (ok rfl) ?_
  intro v636 T636 L636 q636 X636
  obtain ⟨rfl, N636q, hE636⟩ := q636
  have N636 := Fr.app N635 N636q
  show Goes p e below _ T636 (mkF m 17 #[.val (.ref x), .val (.int (4 : Int32)), .val (.int (0 : Int32)), .unset] [(.int d0)])
  refine P1.istoreN X636.here hx #[.val (.ref x), .val (.int (4 : Int32)), .val (.int (0 : Int32)), .val (.int d0)] (hb hby d19_17) rfl ?_
  refine P1.iloadN X636.here hx (hb hby d19_18) rfl ?_
  refine Goes.callS X636 hx (y := y18_) hown (mvT hZ (own_w hw 137 rfl)) (mvT hZ (own_w hw 138 rfl)) (mvT hZ (own_w hw 139 rfl)) (mvT hZ (own_w hw 140 rfl)) (by decide) (kc' := 0) (ks' := 0) (backOf (W := 0) (rmHs l Z a0 hw [] d0 h0 n0 Z0 O0 h_d0) hZ (own_w hw 140 rfl) (own_w hw 139 rfl) (ok rfl) (ok rfl)) (g := (mkF m 19 #[.val (.ref x), .val (.int (4 : Int32)), .val (.int (0 : Int32)), .val (.int d0)] [(.int d0)])) rfl (by rw [hml]; rfl) (argsL := [(.int d0)]) (rest := []) (lenOf pd_657 rfl) rfl (by show 2 * 0 + _ ≤ _; exact Nat.le_of_eq rfl) (hb hby d19_19) rfl hE636 (ok rfl) (ok rfl) ?_
  intro v637 T637 L637 q637 X637
  obtain ⟨rfl, N637q, hE637⟩ := q637
  have N637 := Fr.app N636 N637q
  show Goes p e below _ T637 (mkF m 22 #[.val (.ref x), .val (.int (4 : Int32)), .val (.int (0 : Int32)), .val (.int d0)] [(.int (0 : Int32))])
  refine P1.ifYes X637.here hx 51 (hb hby d19_22) ((if0 _ _).trans (teq (by decide : (0 : Int32) = (0 : Int32))).1) (by decide) (by decide) ?_
  refine P1.iloadN X637.here hx (hb hby d19_51) rfl ?_
  refine Goes.callS X637 hx (y := y1_) hown (mvT hZ (own_w hw 142 rfl)) (mvT hZ (own_w hw 143 rfl)) (mvT hZ (own_w hw 8 rfl)) (mvT hZ (own_w hw 144 rfl)) (by decide) (kc' := 0) (ks' := 0) (backOf (W := 0) (rmIa l Z a0 hw [] d0 h0 n0 Z0 O0 h_d0) hZ (own_w hw 144 rfl) (own_w hw 8 rfl) (ok rfl) (ok rfl)) (g := (mkF m 52 #[.val (.ref x), .val (.int (4 : Int32)), .val (.int (0 : Int32)), .val (.int d0)] [(.int d0)])) rfl (by rw [hml]; rfl) (argsL := [(.int d0)]) (rest := []) (lenOf pd_657 rfl) rfl (by show 2 * 0 + _ ≤ _; exact Nat.le_of_eq rfl) (hb hby d19_52) rfl hE637 (ok rfl) (ok rfl) ?_
  intro v638 T638 L638 q638 X638
  obtain ⟨rfl, N638q, hE638⟩ := q638
  have N638 := Fr.app N637 N638q
  show Goes p e below _ T638 (mkF m 55 #[.val (.ref x), .val (.int (4 : Int32)), .val (.int (0 : Int32)), .val (.int d0)] [(.int (1 : Int32))])
  refine P1.ifYes X638.here hx 65 (hb hby d19_55) ((if0 _ _).trans (feq (by decide : ¬ ((1 : Int32) = (0 : Int32)))).2) (by decide) (by decide) ?_
  refine Goes.step (T' := T638) (g' := (mkF m 68 #[.val (.ref x), .val (.int (4 : Int32)), .val (.int ((0 : Int32) + (1 : Int32))), .val (.int d0)] [])) (fun t_ k_ => XS.iinc X638.here hx rfl (hb hby d19_65) rfl (l' := #[.val (.ref x), .val (.int (4 : Int32)), .val (.int ((0 : Int32) + (1 : Int32))), .val (.int d0)]) rfl k_) ?_
  have rw639 : ((0 : Int32) + (1 : Int32)) = (1 : Int32) := by decide
  rw [rw639]
  refine P1.goto X638.here hx 7 (hb hby d19_68) (by decide) (by decide) ?_
  refine P1.iloadN X638.here hx (hb hby d19_7) rfl ?_
  refine P1.iloadN X638.here hx (hb hby d19_8) rfl ?_
  refine P1.icmpNo X638.here hx (hb hby d19_9) (tlt (by decide : (1 : Int32) < (4 : Int32))).2.1 ?_
  refine P1.aloadN X638.here hx (hb hby d19_12) rfl rfl ?_
  refine P1.iloadN X638.here hx (hb hby d19_13) rfl ?_
  refine Goes.callV X638 hx hZ (y := y31_) (z := y31_) hown (mvT hZ (own_w hw 117 rfl)) (mvT hZ (own_w hw 118 rfl)) (notFace_of_selects (args := #[]) (mvT hZ (own_w hw 120 rfl))) (mvT hZ (own_w hw 120 rfl)) (mvT hZ (own_w hw 119 rfl)) (by decide) (kc' := 0) (ks' := 0) (backOf (W := 0) (rmChB l Z a0 hw [] x t kt [(.int d0), (.int d1), (.int d2), (.int d3)] (4 : Int32) (1 : Int32) d1 zc fm fi u8 h0 n0 Z0 O0 S_CS hzc S_FM hfm S_FI hfi S_IN S_U8 Ex Fv Fc Vt Fn (by decide) (by decide) (by decide) (by decide) rfl h_d1) hZ (own_w hw 121 rfl) (own_w hw 24 rfl) (ok rfl) (ok rfl)) (b := x) hE638 Ex (g := (mkF m 14 #[.val (.ref x), .val (.int (4 : Int32)), .val (.int (1 : Int32)), .val (.int d0)] [(.int (1 : Int32)), (.ref x)])) rfl (by rw [hml]; rfl) (argsL := [(.int (1 : Int32))]) (rest := []) (lenOf pd_577 rfl) rfl (by show 2 * 0 + _ ≤ _; exact Nat.le_of_eq rfl) (hb hby d19_14) rfl (ok rfl) (ok rfl) ?_
  intro v640 T640 L640 q640 X640
  obtain ⟨rfl, N640q, hE640⟩ := q640
  have N640 := Fr.app N638 N640q
  show Goes p e below _ T640 (mkF m 17 #[.val (.ref x), .val (.int (4 : Int32)), .val (.int (1 : Int32)), .val (.int d0)] [(.int d1)])
  refine P1.istoreN X640.here hx #[.val (.ref x), .val (.int (4 : Int32)), .val (.int (1 : Int32)), .val (.int d1)] (hb hby d19_17) rfl ?_
  refine P1.iloadN X640.here hx (hb hby d19_18) rfl ?_
  refine Goes.callS X640 hx (y := y18_) hown (mvT hZ (own_w hw 137 rfl)) (mvT hZ (own_w hw 138 rfl)) (mvT hZ (own_w hw 139 rfl)) (mvT hZ (own_w hw 140 rfl)) (by decide) (kc' := 0) (ks' := 0) (backOf (W := 0) (rmHs l Z a0 hw [] d1 h0 n0 Z0 O0 h_d1) hZ (own_w hw 140 rfl) (own_w hw 139 rfl) (ok rfl) (ok rfl)) (g := (mkF m 19 #[.val (.ref x), .val (.int (4 : Int32)), .val (.int (1 : Int32)), .val (.int d1)] [(.int d1)])) rfl (by rw [hml]; rfl) (argsL := [(.int d1)]) (rest := []) (lenOf pd_657 rfl) rfl (by show 2 * 0 + _ ≤ _; exact Nat.le_of_eq rfl) (hb hby d19_19) rfl hE640 (ok rfl) (ok rfl) ?_
  intro v641 T641 L641 q641 X641
  obtain ⟨rfl, N641q, hE641⟩ := q641
  have N641 := Fr.app N640 N641q
  show Goes p e below _ T641 (mkF m 22 #[.val (.ref x), .val (.int (4 : Int32)), .val (.int (1 : Int32)), .val (.int d1)] [(.int (0 : Int32))])
  refine P1.ifYes X641.here hx 51 (hb hby d19_22) ((if0 _ _).trans (teq (by decide : (0 : Int32) = (0 : Int32))).1) (by decide) (by decide) ?_
  refine P1.iloadN X641.here hx (hb hby d19_51) rfl ?_
  refine Goes.callS X641 hx (y := y1_) hown (mvT hZ (own_w hw 142 rfl)) (mvT hZ (own_w hw 143 rfl)) (mvT hZ (own_w hw 8 rfl)) (mvT hZ (own_w hw 144 rfl)) (by decide) (kc' := 0) (ks' := 0) (backOf (W := 0) (rmIa l Z a0 hw [] d1 h0 n0 Z0 O0 h_d1) hZ (own_w hw 144 rfl) (own_w hw 8 rfl) (ok rfl) (ok rfl)) (g := (mkF m 52 #[.val (.ref x), .val (.int (4 : Int32)), .val (.int (1 : Int32)), .val (.int d1)] [(.int d1)])) rfl (by rw [hml]; rfl) (argsL := [(.int d1)]) (rest := []) (lenOf pd_657 rfl) rfl (by show 2 * 0 + _ ≤ _; exact Nat.le_of_eq rfl) (hb hby d19_52) rfl hE641 (ok rfl) (ok rfl) ?_
  intro v642 T642 L642 q642 X642
  obtain ⟨rfl, N642q, hE642⟩ := q642
  have N642 := Fr.app N641 N642q
  show Goes p e below _ T642 (mkF m 55 #[.val (.ref x), .val (.int (4 : Int32)), .val (.int (1 : Int32)), .val (.int d1)] [(.int (1 : Int32))])
  refine P1.ifYes X642.here hx 65 (hb hby d19_55) ((if0 _ _).trans (feq (by decide : ¬ ((1 : Int32) = (0 : Int32)))).2) (by decide) (by decide) ?_
  refine Goes.step (T' := T642) (g' := (mkF m 68 #[.val (.ref x), .val (.int (4 : Int32)), .val (.int ((1 : Int32) + (1 : Int32))), .val (.int d1)] [])) (fun t_ k_ => XS.iinc X642.here hx rfl (hb hby d19_65) rfl (l' := #[.val (.ref x), .val (.int (4 : Int32)), .val (.int ((1 : Int32) + (1 : Int32))), .val (.int d1)]) rfl k_) ?_
  have rw643 : ((1 : Int32) + (1 : Int32)) = (2 : Int32) := by decide
  rw [rw643]
  refine P1.goto X642.here hx 7 (hb hby d19_68) (by decide) (by decide) ?_
  refine P1.iloadN X642.here hx (hb hby d19_7) rfl ?_
  refine P1.iloadN X642.here hx (hb hby d19_8) rfl ?_
  refine P1.icmpNo X642.here hx (hb hby d19_9) (tlt (by decide : (2 : Int32) < (4 : Int32))).2.1 ?_
  refine P1.aloadN X642.here hx (hb hby d19_12) rfl rfl ?_
  refine P1.iloadN X642.here hx (hb hby d19_13) rfl ?_
  refine Goes.callV X642 hx hZ (y := y31_) (z := y31_) hown (mvT hZ (own_w hw 117 rfl)) (mvT hZ (own_w hw 118 rfl)) (notFace_of_selects (args := #[]) (mvT hZ (own_w hw 120 rfl))) (mvT hZ (own_w hw 120 rfl)) (mvT hZ (own_w hw 119 rfl)) (by decide) (kc' := 0) (ks' := 0) (backOf (W := 0) (rmChB l Z a0 hw [] x t kt [(.int d0), (.int d1), (.int d2), (.int d3)] (4 : Int32) (2 : Int32) d2 zc fm fi u8 h0 n0 Z0 O0 S_CS hzc S_FM hfm S_FI hfi S_IN S_U8 Ex Fv Fc Vt Fn (by decide) (by decide) (by decide) (by decide) rfl h_d2) hZ (own_w hw 121 rfl) (own_w hw 24 rfl) (ok rfl) (ok rfl)) (b := x) hE642 Ex (g := (mkF m 14 #[.val (.ref x), .val (.int (4 : Int32)), .val (.int (2 : Int32)), .val (.int d1)] [(.int (2 : Int32)), (.ref x)])) rfl (by rw [hml]; rfl) (argsL := [(.int (2 : Int32))]) (rest := []) (lenOf pd_577 rfl) rfl (by show 2 * 0 + _ ≤ _; exact Nat.le_of_eq rfl) (hb hby d19_14) rfl (ok rfl) (ok rfl) ?_
  intro v644 T644 L644 q644 X644
  obtain ⟨rfl, N644q, hE644⟩ := q644
  have N644 := Fr.app N642 N644q
  show Goes p e below _ T644 (mkF m 17 #[.val (.ref x), .val (.int (4 : Int32)), .val (.int (2 : Int32)), .val (.int d1)] [(.int d2)])
  refine P1.istoreN X644.here hx #[.val (.ref x), .val (.int (4 : Int32)), .val (.int (2 : Int32)), .val (.int d2)] (hb hby d19_17) rfl ?_
  refine P1.iloadN X644.here hx (hb hby d19_18) rfl ?_
  refine Goes.callS X644 hx (y := y18_) hown (mvT hZ (own_w hw 137 rfl)) (mvT hZ (own_w hw 138 rfl)) (mvT hZ (own_w hw 139 rfl)) (mvT hZ (own_w hw 140 rfl)) (by decide) (kc' := 0) (ks' := 0) (backOf (W := 0) (rmHs l Z a0 hw [] d2 h0 n0 Z0 O0 h_d2) hZ (own_w hw 140 rfl) (own_w hw 139 rfl) (ok rfl) (ok rfl)) (g := (mkF m 19 #[.val (.ref x), .val (.int (4 : Int32)), .val (.int (2 : Int32)), .val (.int d2)] [(.int d2)])) rfl (by rw [hml]; rfl) (argsL := [(.int d2)]) (rest := []) (lenOf pd_657 rfl) rfl (by show 2 * 0 + _ ≤ _; exact Nat.le_of_eq rfl) (hb hby d19_19) rfl hE644 (ok rfl) (ok rfl) ?_
  intro v645 T645 L645 q645 X645
  obtain ⟨rfl, N645q, hE645⟩ := q645
  have N645 := Fr.app N644 N645q
  show Goes p e below _ T645 (mkF m 22 #[.val (.ref x), .val (.int (4 : Int32)), .val (.int (2 : Int32)), .val (.int d2)] [(.int (0 : Int32))])
  refine P1.ifYes X645.here hx 51 (hb hby d19_22) ((if0 _ _).trans (teq (by decide : (0 : Int32) = (0 : Int32))).1) (by decide) (by decide) ?_
  refine P1.iloadN X645.here hx (hb hby d19_51) rfl ?_
  refine Goes.callS X645 hx (y := y1_) hown (mvT hZ (own_w hw 142 rfl)) (mvT hZ (own_w hw 143 rfl)) (mvT hZ (own_w hw 8 rfl)) (mvT hZ (own_w hw 144 rfl)) (by decide) (kc' := 0) (ks' := 0) (backOf (W := 0) (rmIa l Z a0 hw [] d2 h0 n0 Z0 O0 h_d2) hZ (own_w hw 144 rfl) (own_w hw 8 rfl) (ok rfl) (ok rfl)) (g := (mkF m 52 #[.val (.ref x), .val (.int (4 : Int32)), .val (.int (2 : Int32)), .val (.int d2)] [(.int d2)])) rfl (by rw [hml]; rfl) (argsL := [(.int d2)]) (rest := []) (lenOf pd_657 rfl) rfl (by show 2 * 0 + _ ≤ _; exact Nat.le_of_eq rfl) (hb hby d19_52) rfl hE645 (ok rfl) (ok rfl) ?_
  intro v646 T646 L646 q646 X646
  obtain ⟨rfl, N646q, hE646⟩ := q646
  have N646 := Fr.app N645 N646q
  show Goes p e below _ T646 (mkF m 55 #[.val (.ref x), .val (.int (4 : Int32)), .val (.int (2 : Int32)), .val (.int d2)] [(.int (1 : Int32))])
  refine P1.ifYes X646.here hx 65 (hb hby d19_55) ((if0 _ _).trans (feq (by decide : ¬ ((1 : Int32) = (0 : Int32)))).2) (by decide) (by decide) ?_
  refine Goes.step (T' := T646) (g' := (mkF m 68 #[.val (.ref x), .val (.int (4 : Int32)), .val (.int ((2 : Int32) + (1 : Int32))), .val (.int d2)] [])) (fun t_ k_ => XS.iinc X646.here hx rfl (hb hby d19_65) rfl (l' := #[.val (.ref x), .val (.int (4 : Int32)), .val (.int ((2 : Int32) + (1 : Int32))), .val (.int d2)]) rfl k_) ?_
  have rw647 : ((2 : Int32) + (1 : Int32)) = (3 : Int32) := by decide
  rw [rw647]
  refine P1.goto X646.here hx 7 (hb hby d19_68) (by decide) (by decide) ?_
  refine P1.iloadN X646.here hx (hb hby d19_7) rfl ?_
  refine P1.iloadN X646.here hx (hb hby d19_8) rfl ?_
  refine P1.icmpNo X646.here hx (hb hby d19_9) (tlt (by decide : (3 : Int32) < (4 : Int32))).2.1 ?_
  refine P1.aloadN X646.here hx (hb hby d19_12) rfl rfl ?_
  refine P1.iloadN X646.here hx (hb hby d19_13) rfl ?_
  refine Goes.callV X646 hx hZ (y := y31_) (z := y31_) hown (mvT hZ (own_w hw 117 rfl)) (mvT hZ (own_w hw 118 rfl)) (notFace_of_selects (args := #[]) (mvT hZ (own_w hw 120 rfl))) (mvT hZ (own_w hw 120 rfl)) (mvT hZ (own_w hw 119 rfl)) (by decide) (kc' := 0) (ks' := 0) (backOf (W := 0) (rmChB l Z a0 hw [] x t kt [(.int d0), (.int d1), (.int d2), (.int d3)] (4 : Int32) (3 : Int32) d3 zc fm fi u8 h0 n0 Z0 O0 S_CS hzc S_FM hfm S_FI hfi S_IN S_U8 Ex Fv Fc Vt Fn (by decide) (by decide) (by decide) (by decide) rfl h_d3) hZ (own_w hw 121 rfl) (own_w hw 24 rfl) (ok rfl) (ok rfl)) (b := x) hE646 Ex (g := (mkF m 14 #[.val (.ref x), .val (.int (4 : Int32)), .val (.int (3 : Int32)), .val (.int d2)] [(.int (3 : Int32)), (.ref x)])) rfl (by rw [hml]; rfl) (argsL := [(.int (3 : Int32))]) (rest := []) (lenOf pd_577 rfl) rfl (by show 2 * 0 + _ ≤ _; exact Nat.le_of_eq rfl) (hb hby d19_14) rfl (ok rfl) (ok rfl) ?_
  intro v648 T648 L648 q648 X648
  obtain ⟨rfl, N648q, hE648⟩ := q648
  have N648 := Fr.app N646 N648q
  show Goes p e below _ T648 (mkF m 17 #[.val (.ref x), .val (.int (4 : Int32)), .val (.int (3 : Int32)), .val (.int d2)] [(.int d3)])
  refine P1.istoreN X648.here hx #[.val (.ref x), .val (.int (4 : Int32)), .val (.int (3 : Int32)), .val (.int d3)] (hb hby d19_17) rfl ?_
  refine P1.iloadN X648.here hx (hb hby d19_18) rfl ?_
  refine Goes.callS X648 hx (y := y18_) hown (mvT hZ (own_w hw 137 rfl)) (mvT hZ (own_w hw 138 rfl)) (mvT hZ (own_w hw 139 rfl)) (mvT hZ (own_w hw 140 rfl)) (by decide) (kc' := 0) (ks' := 0) (backOf (W := 0) (rmHs l Z a0 hw [] d3 h0 n0 Z0 O0 h_d3) hZ (own_w hw 140 rfl) (own_w hw 139 rfl) (ok rfl) (ok rfl)) (g := (mkF m 19 #[.val (.ref x), .val (.int (4 : Int32)), .val (.int (3 : Int32)), .val (.int d3)] [(.int d3)])) rfl (by rw [hml]; rfl) (argsL := [(.int d3)]) (rest := []) (lenOf pd_657 rfl) rfl (by show 2 * 0 + _ ≤ _; exact Nat.le_of_eq rfl) (hb hby d19_19) rfl hE648 (ok rfl) (ok rfl) ?_
  intro v649 T649 L649 q649 X649
  obtain ⟨rfl, N649q, hE649⟩ := q649
  have N649 := Fr.app N648 N649q
  show Goes p e below _ T649 (mkF m 22 #[.val (.ref x), .val (.int (4 : Int32)), .val (.int (3 : Int32)), .val (.int d3)] [(.int (0 : Int32))])
  refine P1.ifYes X649.here hx 51 (hb hby d19_22) ((if0 _ _).trans (teq (by decide : (0 : Int32) = (0 : Int32))).1) (by decide) (by decide) ?_
  refine P1.iloadN X649.here hx (hb hby d19_51) rfl ?_
  refine Goes.callS X649 hx (y := y1_) hown (mvT hZ (own_w hw 142 rfl)) (mvT hZ (own_w hw 143 rfl)) (mvT hZ (own_w hw 8 rfl)) (mvT hZ (own_w hw 144 rfl)) (by decide) (kc' := 0) (ks' := 0) (backOf (W := 0) (rmIa l Z a0 hw [] d3 h0 n0 Z0 O0 h_d3) hZ (own_w hw 144 rfl) (own_w hw 8 rfl) (ok rfl) (ok rfl)) (g := (mkF m 52 #[.val (.ref x), .val (.int (4 : Int32)), .val (.int (3 : Int32)), .val (.int d3)] [(.int d3)])) rfl (by rw [hml]; rfl) (argsL := [(.int d3)]) (rest := []) (lenOf pd_657 rfl) rfl (by show 2 * 0 + _ ≤ _; exact Nat.le_of_eq rfl) (hb hby d19_52) rfl hE649 (ok rfl) (ok rfl) ?_
  intro v650 T650 L650 q650 X650
  obtain ⟨rfl, N650q, hE650⟩ := q650
  have N650 := Fr.app N649 N650q
  show Goes p e below _ T650 (mkF m 55 #[.val (.ref x), .val (.int (4 : Int32)), .val (.int (3 : Int32)), .val (.int d3)] [(.int (1 : Int32))])
  refine P1.ifYes X650.here hx 65 (hb hby d19_55) ((if0 _ _).trans (feq (by decide : ¬ ((1 : Int32) = (0 : Int32)))).2) (by decide) (by decide) ?_
  refine Goes.step (T' := T650) (g' := (mkF m 68 #[.val (.ref x), .val (.int (4 : Int32)), .val (.int ((3 : Int32) + (1 : Int32))), .val (.int d3)] [])) (fun t_ k_ => XS.iinc X650.here hx rfl (hb hby d19_65) rfl (l' := #[.val (.ref x), .val (.int (4 : Int32)), .val (.int ((3 : Int32) + (1 : Int32))), .val (.int d3)]) rfl k_) ?_
  have rw651 : ((3 : Int32) + (1 : Int32)) = (4 : Int32) := by decide
  rw [rw651]
  refine P1.goto X650.here hx 7 (hb hby d19_68) (by decide) (by decide) ?_
  refine P1.iloadN X650.here hx (hb hby d19_7) rfl ?_
  refine P1.iloadN X650.here hx (hb hby d19_8) rfl ?_
  refine P1.icmpYes X650.here hx 71 (hb hby d19_9) (flt (by decide : ¬ ((4 : Int32) < (4 : Int32)))).2.1 (by decide) (by decide) ?_
  refine Goes.retV X650 hx Bd.notSynchronized Bd.returns (hb hby d19_71) (ok rfl) (ok rfl) ?_
  rw [hE650]
  exact ⟨rfl, N650, rfl⟩
theorem efRd_3 (x : Addr) (m : MethodId) : entryFrame m #[(.ref x)] 4 = mkF m 0 #[.val (.ref x), .unset, .unset, .unset] [] := by first | (simp [entryFrame, mkF, argsToLocals, Value.category]; done) | rfl
def QRd_3 (Z : State) (x t : Addr) (kt : ClassId) (d0 d1 d2 zc : Int32) (fm fi : Value) (u8 : Addr) (h0 : Heap) (n0 : Nat) (v : Option Value) (h : Heap) (L : List Loc) : Prop := v = none ∧ Fr n0 L ∧ h = h0
set_option maxRecDepth 65536 in
set_option maxHeartbeats 40000000 in
theorem rmRd_3 (l : Launch) (Z : State) (a0 : Array Value) (hw : ∀ d ∈ tables_1, d.before a0 Z = true) (ws : List Jvm.Cond) (x t : Addr) (kt : ClassId) (d0 d1 d2 zc : Int32) (fm fi : Value) (u8 : Addr) (h0 : Heap) (n0 : Nat) (Z0 : n0 ≤ h0.size) (O0 : Old Z n0 h0) (S_CS : Sta Z Z.heap "java/lang/String" "COMPACT_STRINGS" "Z" (.int zc)) (hzc : ¬ zc = 0) (S_FM : Sta Z Z.heap "jdk/internal/util/Preconditions" "SIOOBE_FORMATTER" "Ljava/util/function/BiFunction;" fm) (hfm : fm.isRef = true) (S_FI : Sta Z Z.heap "jdk/internal/util/Preconditions" "IOOBE_FORMATTER" "Ljava/util/function/BiFunction;" fi) (hfi : fi.isRef = true) (S_IN : Sta Z Z.heap "sun/nio/cs/UTF_8" "INSTANCE" "Lsun/nio/cs/UTF_8;" (.ref u8)) (S_U8 : Sta Z Z.heap "java/nio/charset/StandardCharsets" "UTF_8" "Ljava/nio/charset/Charset;" (.ref u8)) (gx : n0 ≤ x) (gt : n0 ≤ t) (Ex : Exa Z h0 x "java/lang/StringBuilder") (Fv : Fld Z h0 x "java/lang/AbstractStringBuilder" "value" "[B" (.ref t)) (Fc : Fld Z h0 x "java/lang/AbstractStringBuilder" "coder" "B" (.int (0 : Int32))) (Fn : Fld Z h0 x "java/lang/AbstractStringBuilder" "count" "I" (.int (3 : Int32))) (Vt : Arv Z h0 t kt .byte (8192 : Int32) [(.int d0), (.int d1), (.int d2)] (.int (0 : Int32))) (h_d0 : Pr d0) (h_d1 : Pr d1) (h_d2 : Pr d2) :
    OwnLaw l y2_ prog_46_method_9_code 4 none ws (rR 4 0 0 56) #[(.ref x)] Z h0 (QRd_3 Z x t kt d0 d1 d2 zc fm fi u8 h0 n0) := by
  refine own_enter (plainFor_of_name pn_com_example_medeweten_medeweten_core_XmlText) (efRd_3 x) ?_
  intro p e s m below meth c s₁ Bd hx hby hml hZ hown X0 e0
  have N0 := Fr.nil n0
  have K0 : Keep h0 h0 [] := Keep.refl _ _
  refine P1.aloadN X0.here hx (hb hby d19_0) rfl rfl ?_
  refine Goes.callV X0 hx hZ (y := y32_) (z := y32_) hown (mvT hZ (own_w hw 108 rfl)) (mvT hZ (own_w hw 109 rfl)) (notFace_of_selects (args := #[]) (mvT hZ (own_w hw 111 rfl))) (mvT hZ (own_w hw 111 rfl)) (mvT hZ (own_w hw 110 rfl)) (by decide) (kc' := 0) (ks' := 0) (backOf (W := 0) (rmSl l Z a0 hw [] x (3 : Int32) h0 n0 Z0 O0 Ex Fn) hZ (own_w hw 112 rfl) (own_w hw 24 rfl) (ok rfl) (ok rfl)) (b := x) e0 Ex (g := (mkF m 1 #[.val (.ref x), .unset, .unset, .unset] [(.ref x)])) rfl (by rw [hml]; rfl) (argsL := []) (rest := []) (lenOf pd_341 rfl) rfl (by show 2 * 0 + _ ≤ _; exact Nat.le_of_eq rfl) (hb hby d19_1) rfl (ok rfl) (ok rfl) ?_
  intro v652 T652 L652 q652 X652
  obtain ⟨rfl, N652q, hE652⟩ := q652
  have N652 := Fr.app N0 N652q
  show Goes p e below _ T652 (mkF m 4 #[.val (.ref x), .unset, .unset, .unset] [(.int (3 : Int32))])
  refine P1.istoreN X652.here hx #[.val (.ref x), .val (.int (3 : Int32)), .unset, .unset] (hb hby d19_4) rfl ?_
  refine P1.iconst X652.here hx (0 : Int32) (hb hby d19_5) rfl ?_
  refine P1.istoreN X652.here hx #[.val (.ref x), .val (.int (3 : Int32)), .val (.int (0 : Int32)), .unset] (hb hby d19_6) rfl ?_
  refine P1.iloadN X652.here hx (hb hby d19_7) rfl ?_
  refine P1.iloadN X652.here hx (hb hby d19_8) rfl ?_
  refine P1.icmpNo X652.here hx (hb hby d19_9) (tlt (by decide : (0 : Int32) < (3 : Int32))).2.1 ?_
  refine P1.aloadN X652.here hx (hb hby d19_12) rfl rfl ?_
  refine P1.iloadN X652.here hx (hb hby d19_13) rfl ?_
  refine Goes.callV X652 hx hZ (y := y31_) (z := y31_) hown (mvT hZ (own_w hw 117 rfl)) (mvT hZ (own_w hw 118 rfl)) (notFace_of_selects (args := #[]) (mvT hZ (own_w hw 120 rfl))) (mvT hZ (own_w hw 120 rfl)) (mvT hZ (own_w hw 119 rfl)) (by decide) (kc' := 0) (ks' := 0) (backOf (W := 0) (rmChB l Z a0 hw [] x t kt [(.int d0), (.int d1), (.int d2)] (3 : Int32) (0 : Int32) d0 zc fm fi u8 h0 n0 Z0 O0 S_CS hzc S_FM hfm S_FI hfi S_IN S_U8 Ex Fv Fc Vt Fn (by decide) (by decide) (by decide) (by decide) rfl h_d0) hZ (own_w hw 121 rfl) (own_w hw 24 rfl) (ok rfl) (ok rfl)) (b := x) hE652 Ex (g := (mkF m 14 #[.val (.ref x), .val (.int (3 : Int32)), .val (.int (0 : Int32)), .unset] [(.int (0 : Int32)), (.ref x)])) rfl (by rw [hml]; rfl) (argsL := [(.int (0 : Int32))]) (rest := []) (lenOf pd_577 rfl) rfl (by show 2 * 0 + _ ≤ _; exact Nat.le_of_eq rfl) (hb hby d19_14) rfl (ok rfl) (ok rfl) ?_
  intro v653 T653 L653 q653 X653
  obtain ⟨rfl, N653q, hE653⟩ := q653
  have N653 := Fr.app N652 N653q
  show Goes p e below _ T653 (mkF m 17 #[.val (.ref x), .val (.int (3 : Int32)), .val (.int (0 : Int32)), .unset] [(.int d0)])
  refine P1.istoreN X653.here hx #[.val (.ref x), .val (.int (3 : Int32)), .val (.int (0 : Int32)), .val (.int d0)] (hb hby d19_17) rfl ?_
  refine P1.iloadN X653.here hx (hb hby d19_18) rfl ?_
  refine Goes.callS X653 hx (y := y18_) hown (mvT hZ (own_w hw 137 rfl)) (mvT hZ (own_w hw 138 rfl)) (mvT hZ (own_w hw 139 rfl)) (mvT hZ (own_w hw 140 rfl)) (by decide) (kc' := 0) (ks' := 0) (backOf (W := 0) (rmHs l Z a0 hw [] d0 h0 n0 Z0 O0 h_d0) hZ (own_w hw 140 rfl) (own_w hw 139 rfl) (ok rfl) (ok rfl)) (g := (mkF m 19 #[.val (.ref x), .val (.int (3 : Int32)), .val (.int (0 : Int32)), .val (.int d0)] [(.int d0)])) rfl (by rw [hml]; rfl) (argsL := [(.int d0)]) (rest := []) (lenOf pd_657 rfl) rfl (by show 2 * 0 + _ ≤ _; exact Nat.le_of_eq rfl) (hb hby d19_19) rfl hE653 (ok rfl) (ok rfl) ?_
  intro v654 T654 L654 q654 X654
  obtain ⟨rfl, N654q, hE654⟩ := q654
  have N654 := Fr.app N653 N654q
  show Goes p e below _ T654 (mkF m 22 #[.val (.ref x), .val (.int (3 : Int32)), .val (.int (0 : Int32)), .val (.int d0)] [(.int (0 : Int32))])
  refine P1.ifYes X654.here hx 51 (hb hby d19_22) ((if0 _ _).trans (teq (by decide : (0 : Int32) = (0 : Int32))).1) (by decide) (by decide) ?_
  refine P1.iloadN X654.here hx (hb hby d19_51) rfl ?_
  refine Goes.callS X654 hx (y := y1_) hown (mvT hZ (own_w hw 142 rfl)) (mvT hZ (own_w hw 143 rfl)) (mvT hZ (own_w hw 8 rfl)) (mvT hZ (own_w hw 144 rfl)) (by decide) (kc' := 0) (ks' := 0) (backOf (W := 0) (rmIa l Z a0 hw [] d0 h0 n0 Z0 O0 h_d0) hZ (own_w hw 144 rfl) (own_w hw 8 rfl) (ok rfl) (ok rfl)) (g := (mkF m 52 #[.val (.ref x), .val (.int (3 : Int32)), .val (.int (0 : Int32)), .val (.int d0)] [(.int d0)])) rfl (by rw [hml]; rfl) (argsL := [(.int d0)]) (rest := []) (lenOf pd_657 rfl) rfl (by show 2 * 0 + _ ≤ _; exact Nat.le_of_eq rfl) (hb hby d19_52) rfl hE654 (ok rfl) (ok rfl) ?_
  intro v655 T655 L655 q655 X655
  obtain ⟨rfl, N655q, hE655⟩ := q655
  have N655 := Fr.app N654 N655q
  show Goes p e below _ T655 (mkF m 55 #[.val (.ref x), .val (.int (3 : Int32)), .val (.int (0 : Int32)), .val (.int d0)] [(.int (1 : Int32))])
  refine P1.ifYes X655.here hx 65 (hb hby d19_55) ((if0 _ _).trans (feq (by decide : ¬ ((1 : Int32) = (0 : Int32)))).2) (by decide) (by decide) ?_
  refine Goes.step (T' := T655) (g' := (mkF m 68 #[.val (.ref x), .val (.int (3 : Int32)), .val (.int ((0 : Int32) + (1 : Int32))), .val (.int d0)] [])) (fun t_ k_ => XS.iinc X655.here hx rfl (hb hby d19_65) rfl (l' := #[.val (.ref x), .val (.int (3 : Int32)), .val (.int ((0 : Int32) + (1 : Int32))), .val (.int d0)]) rfl k_) ?_
  have rw656 : ((0 : Int32) + (1 : Int32)) = (1 : Int32) := by decide
  rw [rw656]
  refine P1.goto X655.here hx 7 (hb hby d19_68) (by decide) (by decide) ?_
  refine P1.iloadN X655.here hx (hb hby d19_7) rfl ?_
  refine P1.iloadN X655.here hx (hb hby d19_8) rfl ?_
  refine P1.icmpNo X655.here hx (hb hby d19_9) (tlt (by decide : (1 : Int32) < (3 : Int32))).2.1 ?_
  refine P1.aloadN X655.here hx (hb hby d19_12) rfl rfl ?_
  refine P1.iloadN X655.here hx (hb hby d19_13) rfl ?_
  refine Goes.callV X655 hx hZ (y := y31_) (z := y31_) hown (mvT hZ (own_w hw 117 rfl)) (mvT hZ (own_w hw 118 rfl)) (notFace_of_selects (args := #[]) (mvT hZ (own_w hw 120 rfl))) (mvT hZ (own_w hw 120 rfl)) (mvT hZ (own_w hw 119 rfl)) (by decide) (kc' := 0) (ks' := 0) (backOf (W := 0) (rmChB l Z a0 hw [] x t kt [(.int d0), (.int d1), (.int d2)] (3 : Int32) (1 : Int32) d1 zc fm fi u8 h0 n0 Z0 O0 S_CS hzc S_FM hfm S_FI hfi S_IN S_U8 Ex Fv Fc Vt Fn (by decide) (by decide) (by decide) (by decide) rfl h_d1) hZ (own_w hw 121 rfl) (own_w hw 24 rfl) (ok rfl) (ok rfl)) (b := x) hE655 Ex (g := (mkF m 14 #[.val (.ref x), .val (.int (3 : Int32)), .val (.int (1 : Int32)), .val (.int d0)] [(.int (1 : Int32)), (.ref x)])) rfl (by rw [hml]; rfl) (argsL := [(.int (1 : Int32))]) (rest := []) (lenOf pd_577 rfl) rfl (by show 2 * 0 + _ ≤ _; exact Nat.le_of_eq rfl) (hb hby d19_14) rfl (ok rfl) (ok rfl) ?_
  intro v657 T657 L657 q657 X657
  obtain ⟨rfl, N657q, hE657⟩ := q657
  have N657 := Fr.app N655 N657q
  show Goes p e below _ T657 (mkF m 17 #[.val (.ref x), .val (.int (3 : Int32)), .val (.int (1 : Int32)), .val (.int d0)] [(.int d1)])
  refine P1.istoreN X657.here hx #[.val (.ref x), .val (.int (3 : Int32)), .val (.int (1 : Int32)), .val (.int d1)] (hb hby d19_17) rfl ?_
  refine P1.iloadN X657.here hx (hb hby d19_18) rfl ?_
  refine Goes.callS X657 hx (y := y18_) hown (mvT hZ (own_w hw 137 rfl)) (mvT hZ (own_w hw 138 rfl)) (mvT hZ (own_w hw 139 rfl)) (mvT hZ (own_w hw 140 rfl)) (by decide) (kc' := 0) (ks' := 0) (backOf (W := 0) (rmHs l Z a0 hw [] d1 h0 n0 Z0 O0 h_d1) hZ (own_w hw 140 rfl) (own_w hw 139 rfl) (ok rfl) (ok rfl)) (g := (mkF m 19 #[.val (.ref x), .val (.int (3 : Int32)), .val (.int (1 : Int32)), .val (.int d1)] [(.int d1)])) rfl (by rw [hml]; rfl) (argsL := [(.int d1)]) (rest := []) (lenOf pd_657 rfl) rfl (by show 2 * 0 + _ ≤ _; exact Nat.le_of_eq rfl) (hb hby d19_19) rfl hE657 (ok rfl) (ok rfl) ?_
  intro v658 T658 L658 q658 X658
  obtain ⟨rfl, N658q, hE658⟩ := q658
  have N658 := Fr.app N657 N658q
  show Goes p e below _ T658 (mkF m 22 #[.val (.ref x), .val (.int (3 : Int32)), .val (.int (1 : Int32)), .val (.int d1)] [(.int (0 : Int32))])
  refine P1.ifYes X658.here hx 51 (hb hby d19_22) ((if0 _ _).trans (teq (by decide : (0 : Int32) = (0 : Int32))).1) (by decide) (by decide) ?_
  refine P1.iloadN X658.here hx (hb hby d19_51) rfl ?_
  refine Goes.callS X658 hx (y := y1_) hown (mvT hZ (own_w hw 142 rfl)) (mvT hZ (own_w hw 143 rfl)) (mvT hZ (own_w hw 8 rfl)) (mvT hZ (own_w hw 144 rfl)) (by decide) (kc' := 0) (ks' := 0) (backOf (W := 0) (rmIa l Z a0 hw [] d1 h0 n0 Z0 O0 h_d1) hZ (own_w hw 144 rfl) (own_w hw 8 rfl) (ok rfl) (ok rfl)) (g := (mkF m 52 #[.val (.ref x), .val (.int (3 : Int32)), .val (.int (1 : Int32)), .val (.int d1)] [(.int d1)])) rfl (by rw [hml]; rfl) (argsL := [(.int d1)]) (rest := []) (lenOf pd_657 rfl) rfl (by show 2 * 0 + _ ≤ _; exact Nat.le_of_eq rfl) (hb hby d19_52) rfl hE658 (ok rfl) (ok rfl) ?_
  intro v659 T659 L659 q659 X659
  obtain ⟨rfl, N659q, hE659⟩ := q659
  have N659 := Fr.app N658 N659q
  show Goes p e below _ T659 (mkF m 55 #[.val (.ref x), .val (.int (3 : Int32)), .val (.int (1 : Int32)), .val (.int d1)] [(.int (1 : Int32))])
  refine P1.ifYes X659.here hx 65 (hb hby d19_55) ((if0 _ _).trans (feq (by decide : ¬ ((1 : Int32) = (0 : Int32)))).2) (by decide) (by decide) ?_
  refine Goes.step (T' := T659) (g' := (mkF m 68 #[.val (.ref x), .val (.int (3 : Int32)), .val (.int ((1 : Int32) + (1 : Int32))), .val (.int d1)] [])) (fun t_ k_ => XS.iinc X659.here hx rfl (hb hby d19_65) rfl (l' := #[.val (.ref x), .val (.int (3 : Int32)), .val (.int ((1 : Int32) + (1 : Int32))), .val (.int d1)]) rfl k_) ?_
  have rw660 : ((1 : Int32) + (1 : Int32)) = (2 : Int32) := by decide
  rw [rw660]
  refine P1.goto X659.here hx 7 (hb hby d19_68) (by decide) (by decide) ?_
  refine P1.iloadN X659.here hx (hb hby d19_7) rfl ?_
  refine P1.iloadN X659.here hx (hb hby d19_8) rfl ?_
  refine P1.icmpNo X659.here hx (hb hby d19_9) (tlt (by decide : (2 : Int32) < (3 : Int32))).2.1 ?_
  refine P1.aloadN X659.here hx (hb hby d19_12) rfl rfl ?_
  refine P1.iloadN X659.here hx (hb hby d19_13) rfl ?_
  refine Goes.callV X659 hx hZ (y := y31_) (z := y31_) hown (mvT hZ (own_w hw 117 rfl)) (mvT hZ (own_w hw 118 rfl)) (notFace_of_selects (args := #[]) (mvT hZ (own_w hw 120 rfl))) (mvT hZ (own_w hw 120 rfl)) (mvT hZ (own_w hw 119 rfl)) (by decide) (kc' := 0) (ks' := 0) (backOf (W := 0) (rmChB l Z a0 hw [] x t kt [(.int d0), (.int d1), (.int d2)] (3 : Int32) (2 : Int32) d2 zc fm fi u8 h0 n0 Z0 O0 S_CS hzc S_FM hfm S_FI hfi S_IN S_U8 Ex Fv Fc Vt Fn (by decide) (by decide) (by decide) (by decide) rfl h_d2) hZ (own_w hw 121 rfl) (own_w hw 24 rfl) (ok rfl) (ok rfl)) (b := x) hE659 Ex (g := (mkF m 14 #[.val (.ref x), .val (.int (3 : Int32)), .val (.int (2 : Int32)), .val (.int d1)] [(.int (2 : Int32)), (.ref x)])) rfl (by rw [hml]; rfl) (argsL := [(.int (2 : Int32))]) (rest := []) (lenOf pd_577 rfl) rfl (by show 2 * 0 + _ ≤ _; exact Nat.le_of_eq rfl) (hb hby d19_14) rfl (ok rfl) (ok rfl) ?_
  intro v661 T661 L661 q661 X661
  obtain ⟨rfl, N661q, hE661⟩ := q661
  have N661 := Fr.app N659 N661q
  show Goes p e below _ T661 (mkF m 17 #[.val (.ref x), .val (.int (3 : Int32)), .val (.int (2 : Int32)), .val (.int d1)] [(.int d2)])
  refine P1.istoreN X661.here hx #[.val (.ref x), .val (.int (3 : Int32)), .val (.int (2 : Int32)), .val (.int d2)] (hb hby d19_17) rfl ?_
  refine P1.iloadN X661.here hx (hb hby d19_18) rfl ?_
  refine Goes.callS X661 hx (y := y18_) hown (mvT hZ (own_w hw 137 rfl)) (mvT hZ (own_w hw 138 rfl)) (mvT hZ (own_w hw 139 rfl)) (mvT hZ (own_w hw 140 rfl)) (by decide) (kc' := 0) (ks' := 0) (backOf (W := 0) (rmHs l Z a0 hw [] d2 h0 n0 Z0 O0 h_d2) hZ (own_w hw 140 rfl) (own_w hw 139 rfl) (ok rfl) (ok rfl)) (g := (mkF m 19 #[.val (.ref x), .val (.int (3 : Int32)), .val (.int (2 : Int32)), .val (.int d2)] [(.int d2)])) rfl (by rw [hml]; rfl) (argsL := [(.int d2)]) (rest := []) (lenOf pd_657 rfl) rfl (by show 2 * 0 + _ ≤ _; exact Nat.le_of_eq rfl) (hb hby d19_19) rfl hE661 (ok rfl) (ok rfl) ?_
  intro v662 T662 L662 q662 X662
  obtain ⟨rfl, N662q, hE662⟩ := q662
  have N662 := Fr.app N661 N662q
  show Goes p e below _ T662 (mkF m 22 #[.val (.ref x), .val (.int (3 : Int32)), .val (.int (2 : Int32)), .val (.int d2)] [(.int (0 : Int32))])
  refine P1.ifYes X662.here hx 51 (hb hby d19_22) ((if0 _ _).trans (teq (by decide : (0 : Int32) = (0 : Int32))).1) (by decide) (by decide) ?_
  refine P1.iloadN X662.here hx (hb hby d19_51) rfl ?_
  refine Goes.callS X662 hx (y := y1_) hown (mvT hZ (own_w hw 142 rfl)) (mvT hZ (own_w hw 143 rfl)) (mvT hZ (own_w hw 8 rfl)) (mvT hZ (own_w hw 144 rfl)) (by decide) (kc' := 0) (ks' := 0) (backOf (W := 0) (rmIa l Z a0 hw [] d2 h0 n0 Z0 O0 h_d2) hZ (own_w hw 144 rfl) (own_w hw 8 rfl) (ok rfl) (ok rfl)) (g := (mkF m 52 #[.val (.ref x), .val (.int (3 : Int32)), .val (.int (2 : Int32)), .val (.int d2)] [(.int d2)])) rfl (by rw [hml]; rfl) (argsL := [(.int d2)]) (rest := []) (lenOf pd_657 rfl) rfl (by show 2 * 0 + _ ≤ _; exact Nat.le_of_eq rfl) (hb hby d19_52) rfl hE662 (ok rfl) (ok rfl) ?_
  intro v663 T663 L663 q663 X663
  obtain ⟨rfl, N663q, hE663⟩ := q663
  have N663 := Fr.app N662 N663q
  show Goes p e below _ T663 (mkF m 55 #[.val (.ref x), .val (.int (3 : Int32)), .val (.int (2 : Int32)), .val (.int d2)] [(.int (1 : Int32))])
  refine P1.ifYes X663.here hx 65 (hb hby d19_55) ((if0 _ _).trans (feq (by decide : ¬ ((1 : Int32) = (0 : Int32)))).2) (by decide) (by decide) ?_
  refine Goes.step (T' := T663) (g' := (mkF m 68 #[.val (.ref x), .val (.int (3 : Int32)), .val (.int ((2 : Int32) + (1 : Int32))), .val (.int d2)] [])) (fun t_ k_ => XS.iinc X663.here hx rfl (hb hby d19_65) rfl (l' := #[.val (.ref x), .val (.int (3 : Int32)), .val (.int ((2 : Int32) + (1 : Int32))), .val (.int d2)]) rfl k_) ?_
  have rw664 : ((2 : Int32) + (1 : Int32)) = (3 : Int32) := by decide
  rw [rw664]
  refine P1.goto X663.here hx 7 (hb hby d19_68) (by decide) (by decide) ?_
  refine P1.iloadN X663.here hx (hb hby d19_7) rfl ?_
  refine P1.iloadN X663.here hx (hb hby d19_8) rfl ?_
  refine P1.icmpYes X663.here hx 71 (hb hby d19_9) (flt (by decide : ¬ ((3 : Int32) < (3 : Int32)))).2.1 (by decide) (by decide) ?_
  refine Goes.retV X663 hx Bd.notSynchronized Bd.returns (hb hby d19_71) (ok rfl) (ok rfl) ?_
  rw [hE663]
  exact ⟨rfl, N663, rfl⟩
theorem efRd_2 (x : Addr) (m : MethodId) : entryFrame m #[(.ref x)] 4 = mkF m 0 #[.val (.ref x), .unset, .unset, .unset] [] := by first | (simp [entryFrame, mkF, argsToLocals, Value.category]; done) | rfl
def QRd_2 (Z : State) (x t : Addr) (kt : ClassId) (d0 d1 zc : Int32) (fm fi : Value) (u8 : Addr) (h0 : Heap) (n0 : Nat) (v : Option Value) (h : Heap) (L : List Loc) : Prop := v = none ∧ Fr n0 L ∧ h = h0
set_option maxRecDepth 65536 in
set_option maxHeartbeats 40000000 in
theorem rmRd_2 (l : Launch) (Z : State) (a0 : Array Value) (hw : ∀ d ∈ tables_1, d.before a0 Z = true) (ws : List Jvm.Cond) (x t : Addr) (kt : ClassId) (d0 d1 zc : Int32) (fm fi : Value) (u8 : Addr) (h0 : Heap) (n0 : Nat) (Z0 : n0 ≤ h0.size) (O0 : Old Z n0 h0) (S_CS : Sta Z Z.heap "java/lang/String" "COMPACT_STRINGS" "Z" (.int zc)) (hzc : ¬ zc = 0) (S_FM : Sta Z Z.heap "jdk/internal/util/Preconditions" "SIOOBE_FORMATTER" "Ljava/util/function/BiFunction;" fm) (hfm : fm.isRef = true) (S_FI : Sta Z Z.heap "jdk/internal/util/Preconditions" "IOOBE_FORMATTER" "Ljava/util/function/BiFunction;" fi) (hfi : fi.isRef = true) (S_IN : Sta Z Z.heap "sun/nio/cs/UTF_8" "INSTANCE" "Lsun/nio/cs/UTF_8;" (.ref u8)) (S_U8 : Sta Z Z.heap "java/nio/charset/StandardCharsets" "UTF_8" "Ljava/nio/charset/Charset;" (.ref u8)) (gx : n0 ≤ x) (gt : n0 ≤ t) (Ex : Exa Z h0 x "java/lang/StringBuilder") (Fv : Fld Z h0 x "java/lang/AbstractStringBuilder" "value" "[B" (.ref t)) (Fc : Fld Z h0 x "java/lang/AbstractStringBuilder" "coder" "B" (.int (0 : Int32))) (Fn : Fld Z h0 x "java/lang/AbstractStringBuilder" "count" "I" (.int (2 : Int32))) (Vt : Arv Z h0 t kt .byte (8192 : Int32) [(.int d0), (.int d1)] (.int (0 : Int32))) (h_d0 : Pr d0) (h_d1 : Pr d1) :
    OwnLaw l y2_ prog_46_method_9_code 4 none ws (rR 4 0 0 56) #[(.ref x)] Z h0 (QRd_2 Z x t kt d0 d1 zc fm fi u8 h0 n0) := by
  refine own_enter (plainFor_of_name pn_com_example_medeweten_medeweten_core_XmlText) (efRd_2 x) ?_
  intro p e s m below meth c s₁ Bd hx hby hml hZ hown X0 e0
  have N0 := Fr.nil n0
  have K0 : Keep h0 h0 [] := Keep.refl _ _
  refine P1.aloadN X0.here hx (hb hby d19_0) rfl rfl ?_
  refine Goes.callV X0 hx hZ (y := y32_) (z := y32_) hown (mvT hZ (own_w hw 108 rfl)) (mvT hZ (own_w hw 109 rfl)) (notFace_of_selects (args := #[]) (mvT hZ (own_w hw 111 rfl))) (mvT hZ (own_w hw 111 rfl)) (mvT hZ (own_w hw 110 rfl)) (by decide) (kc' := 0) (ks' := 0) (backOf (W := 0) (rmSl l Z a0 hw [] x (2 : Int32) h0 n0 Z0 O0 Ex Fn) hZ (own_w hw 112 rfl) (own_w hw 24 rfl) (ok rfl) (ok rfl)) (b := x) e0 Ex (g := (mkF m 1 #[.val (.ref x), .unset, .unset, .unset] [(.ref x)])) rfl (by rw [hml]; rfl) (argsL := []) (rest := []) (lenOf pd_341 rfl) rfl (by show 2 * 0 + _ ≤ _; exact Nat.le_of_eq rfl) (hb hby d19_1) rfl (ok rfl) (ok rfl) ?_
  intro v665 T665 L665 q665 X665
  obtain ⟨rfl, N665q, hE665⟩ := q665
  have N665 := Fr.app N0 N665q
  show Goes p e below _ T665 (mkF m 4 #[.val (.ref x), .unset, .unset, .unset] [(.int (2 : Int32))])
  refine P1.istoreN X665.here hx #[.val (.ref x), .val (.int (2 : Int32)), .unset, .unset] (hb hby d19_4) rfl ?_
  refine P1.iconst X665.here hx (0 : Int32) (hb hby d19_5) rfl ?_
  refine P1.istoreN X665.here hx #[.val (.ref x), .val (.int (2 : Int32)), .val (.int (0 : Int32)), .unset] (hb hby d19_6) rfl ?_
  refine P1.iloadN X665.here hx (hb hby d19_7) rfl ?_
  refine P1.iloadN X665.here hx (hb hby d19_8) rfl ?_
  refine P1.icmpNo X665.here hx (hb hby d19_9) (tlt (by decide : (0 : Int32) < (2 : Int32))).2.1 ?_
  refine P1.aloadN X665.here hx (hb hby d19_12) rfl rfl ?_
  refine P1.iloadN X665.here hx (hb hby d19_13) rfl ?_
  refine Goes.callV X665 hx hZ (y := y31_) (z := y31_) hown (mvT hZ (own_w hw 117 rfl)) (mvT hZ (own_w hw 118 rfl)) (notFace_of_selects (args := #[]) (mvT hZ (own_w hw 120 rfl))) (mvT hZ (own_w hw 120 rfl)) (mvT hZ (own_w hw 119 rfl)) (by decide) (kc' := 0) (ks' := 0) (backOf (W := 0) (rmChB l Z a0 hw [] x t kt [(.int d0), (.int d1)] (2 : Int32) (0 : Int32) d0 zc fm fi u8 h0 n0 Z0 O0 S_CS hzc S_FM hfm S_FI hfi S_IN S_U8 Ex Fv Fc Vt Fn (by decide) (by decide) (by decide) (by decide) rfl h_d0) hZ (own_w hw 121 rfl) (own_w hw 24 rfl) (ok rfl) (ok rfl)) (b := x) hE665 Ex (g := (mkF m 14 #[.val (.ref x), .val (.int (2 : Int32)), .val (.int (0 : Int32)), .unset] [(.int (0 : Int32)), (.ref x)])) rfl (by rw [hml]; rfl) (argsL := [(.int (0 : Int32))]) (rest := []) (lenOf pd_577 rfl) rfl (by show 2 * 0 + _ ≤ _; exact Nat.le_of_eq rfl) (hb hby d19_14) rfl (ok rfl) (ok rfl) ?_
  intro v666 T666 L666 q666 X666
  obtain ⟨rfl, N666q, hE666⟩ := q666
  have N666 := Fr.app N665 N666q
  show Goes p e below _ T666 (mkF m 17 #[.val (.ref x), .val (.int (2 : Int32)), .val (.int (0 : Int32)), .unset] [(.int d0)])
  refine P1.istoreN X666.here hx #[.val (.ref x), .val (.int (2 : Int32)), .val (.int (0 : Int32)), .val (.int d0)] (hb hby d19_17) rfl ?_
  refine P1.iloadN X666.here hx (hb hby d19_18) rfl ?_
  refine Goes.callS X666 hx (y := y18_) hown (mvT hZ (own_w hw 137 rfl)) (mvT hZ (own_w hw 138 rfl)) (mvT hZ (own_w hw 139 rfl)) (mvT hZ (own_w hw 140 rfl)) (by decide) (kc' := 0) (ks' := 0) (backOf (W := 0) (rmHs l Z a0 hw [] d0 h0 n0 Z0 O0 h_d0) hZ (own_w hw 140 rfl) (own_w hw 139 rfl) (ok rfl) (ok rfl)) (g := (mkF m 19 #[.val (.ref x), .val (.int (2 : Int32)), .val (.int (0 : Int32)), .val (.int d0)] [(.int d0)])) rfl (by rw [hml]; rfl) (argsL := [(.int d0)]) (rest := []) (lenOf pd_657 rfl) rfl (by show 2 * 0 + _ ≤ _; exact Nat.le_of_eq rfl) (hb hby d19_19) rfl hE666 (ok rfl) (ok rfl) ?_
  intro v667 T667 L667 q667 X667
  obtain ⟨rfl, N667q, hE667⟩ := q667
  have N667 := Fr.app N666 N667q
  show Goes p e below _ T667 (mkF m 22 #[.val (.ref x), .val (.int (2 : Int32)), .val (.int (0 : Int32)), .val (.int d0)] [(.int (0 : Int32))])
  refine P1.ifYes X667.here hx 51 (hb hby d19_22) ((if0 _ _).trans (teq (by decide : (0 : Int32) = (0 : Int32))).1) (by decide) (by decide) ?_
  refine P1.iloadN X667.here hx (hb hby d19_51) rfl ?_
  refine Goes.callS X667 hx (y := y1_) hown (mvT hZ (own_w hw 142 rfl)) (mvT hZ (own_w hw 143 rfl)) (mvT hZ (own_w hw 8 rfl)) (mvT hZ (own_w hw 144 rfl)) (by decide) (kc' := 0) (ks' := 0) (backOf (W := 0) (rmIa l Z a0 hw [] d0 h0 n0 Z0 O0 h_d0) hZ (own_w hw 144 rfl) (own_w hw 8 rfl) (ok rfl) (ok rfl)) (g := (mkF m 52 #[.val (.ref x), .val (.int (2 : Int32)), .val (.int (0 : Int32)), .val (.int d0)] [(.int d0)])) rfl (by rw [hml]; rfl) (argsL := [(.int d0)]) (rest := []) (lenOf pd_657 rfl) rfl (by show 2 * 0 + _ ≤ _; exact Nat.le_of_eq rfl) (hb hby d19_52) rfl hE667 (ok rfl) (ok rfl) ?_
  intro v668 T668 L668 q668 X668
  obtain ⟨rfl, N668q, hE668⟩ := q668
  have N668 := Fr.app N667 N668q
  show Goes p e below _ T668 (mkF m 55 #[.val (.ref x), .val (.int (2 : Int32)), .val (.int (0 : Int32)), .val (.int d0)] [(.int (1 : Int32))])
  refine P1.ifYes X668.here hx 65 (hb hby d19_55) ((if0 _ _).trans (feq (by decide : ¬ ((1 : Int32) = (0 : Int32)))).2) (by decide) (by decide) ?_
  refine Goes.step (T' := T668) (g' := (mkF m 68 #[.val (.ref x), .val (.int (2 : Int32)), .val (.int ((0 : Int32) + (1 : Int32))), .val (.int d0)] [])) (fun t_ k_ => XS.iinc X668.here hx rfl (hb hby d19_65) rfl (l' := #[.val (.ref x), .val (.int (2 : Int32)), .val (.int ((0 : Int32) + (1 : Int32))), .val (.int d0)]) rfl k_) ?_
  have rw669 : ((0 : Int32) + (1 : Int32)) = (1 : Int32) := by decide
  rw [rw669]
  refine P1.goto X668.here hx 7 (hb hby d19_68) (by decide) (by decide) ?_
  refine P1.iloadN X668.here hx (hb hby d19_7) rfl ?_
  refine P1.iloadN X668.here hx (hb hby d19_8) rfl ?_
  refine P1.icmpNo X668.here hx (hb hby d19_9) (tlt (by decide : (1 : Int32) < (2 : Int32))).2.1 ?_
  refine P1.aloadN X668.here hx (hb hby d19_12) rfl rfl ?_
  refine P1.iloadN X668.here hx (hb hby d19_13) rfl ?_
  refine Goes.callV X668 hx hZ (y := y31_) (z := y31_) hown (mvT hZ (own_w hw 117 rfl)) (mvT hZ (own_w hw 118 rfl)) (notFace_of_selects (args := #[]) (mvT hZ (own_w hw 120 rfl))) (mvT hZ (own_w hw 120 rfl)) (mvT hZ (own_w hw 119 rfl)) (by decide) (kc' := 0) (ks' := 0) (backOf (W := 0) (rmChB l Z a0 hw [] x t kt [(.int d0), (.int d1)] (2 : Int32) (1 : Int32) d1 zc fm fi u8 h0 n0 Z0 O0 S_CS hzc S_FM hfm S_FI hfi S_IN S_U8 Ex Fv Fc Vt Fn (by decide) (by decide) (by decide) (by decide) rfl h_d1) hZ (own_w hw 121 rfl) (own_w hw 24 rfl) (ok rfl) (ok rfl)) (b := x) hE668 Ex (g := (mkF m 14 #[.val (.ref x), .val (.int (2 : Int32)), .val (.int (1 : Int32)), .val (.int d0)] [(.int (1 : Int32)), (.ref x)])) rfl (by rw [hml]; rfl) (argsL := [(.int (1 : Int32))]) (rest := []) (lenOf pd_577 rfl) rfl (by show 2 * 0 + _ ≤ _; exact Nat.le_of_eq rfl) (hb hby d19_14) rfl (ok rfl) (ok rfl) ?_
  intro v670 T670 L670 q670 X670
  obtain ⟨rfl, N670q, hE670⟩ := q670
  have N670 := Fr.app N668 N670q
  show Goes p e below _ T670 (mkF m 17 #[.val (.ref x), .val (.int (2 : Int32)), .val (.int (1 : Int32)), .val (.int d0)] [(.int d1)])
  refine P1.istoreN X670.here hx #[.val (.ref x), .val (.int (2 : Int32)), .val (.int (1 : Int32)), .val (.int d1)] (hb hby d19_17) rfl ?_
  refine P1.iloadN X670.here hx (hb hby d19_18) rfl ?_
  refine Goes.callS X670 hx (y := y18_) hown (mvT hZ (own_w hw 137 rfl)) (mvT hZ (own_w hw 138 rfl)) (mvT hZ (own_w hw 139 rfl)) (mvT hZ (own_w hw 140 rfl)) (by decide) (kc' := 0) (ks' := 0) (backOf (W := 0) (rmHs l Z a0 hw [] d1 h0 n0 Z0 O0 h_d1) hZ (own_w hw 140 rfl) (own_w hw 139 rfl) (ok rfl) (ok rfl)) (g := (mkF m 19 #[.val (.ref x), .val (.int (2 : Int32)), .val (.int (1 : Int32)), .val (.int d1)] [(.int d1)])) rfl (by rw [hml]; rfl) (argsL := [(.int d1)]) (rest := []) (lenOf pd_657 rfl) rfl (by show 2 * 0 + _ ≤ _; exact Nat.le_of_eq rfl) (hb hby d19_19) rfl hE670 (ok rfl) (ok rfl) ?_
  intro v671 T671 L671 q671 X671
  obtain ⟨rfl, N671q, hE671⟩ := q671
  have N671 := Fr.app N670 N671q
  show Goes p e below _ T671 (mkF m 22 #[.val (.ref x), .val (.int (2 : Int32)), .val (.int (1 : Int32)), .val (.int d1)] [(.int (0 : Int32))])
  refine P1.ifYes X671.here hx 51 (hb hby d19_22) ((if0 _ _).trans (teq (by decide : (0 : Int32) = (0 : Int32))).1) (by decide) (by decide) ?_
  refine P1.iloadN X671.here hx (hb hby d19_51) rfl ?_
  refine Goes.callS X671 hx (y := y1_) hown (mvT hZ (own_w hw 142 rfl)) (mvT hZ (own_w hw 143 rfl)) (mvT hZ (own_w hw 8 rfl)) (mvT hZ (own_w hw 144 rfl)) (by decide) (kc' := 0) (ks' := 0) (backOf (W := 0) (rmIa l Z a0 hw [] d1 h0 n0 Z0 O0 h_d1) hZ (own_w hw 144 rfl) (own_w hw 8 rfl) (ok rfl) (ok rfl)) (g := (mkF m 52 #[.val (.ref x), .val (.int (2 : Int32)), .val (.int (1 : Int32)), .val (.int d1)] [(.int d1)])) rfl (by rw [hml]; rfl) (argsL := [(.int d1)]) (rest := []) (lenOf pd_657 rfl) rfl (by show 2 * 0 + _ ≤ _; exact Nat.le_of_eq rfl) (hb hby d19_52) rfl hE671 (ok rfl) (ok rfl) ?_
  intro v672 T672 L672 q672 X672
  obtain ⟨rfl, N672q, hE672⟩ := q672
  have N672 := Fr.app N671 N672q
  show Goes p e below _ T672 (mkF m 55 #[.val (.ref x), .val (.int (2 : Int32)), .val (.int (1 : Int32)), .val (.int d1)] [(.int (1 : Int32))])
  refine P1.ifYes X672.here hx 65 (hb hby d19_55) ((if0 _ _).trans (feq (by decide : ¬ ((1 : Int32) = (0 : Int32)))).2) (by decide) (by decide) ?_
  refine Goes.step (T' := T672) (g' := (mkF m 68 #[.val (.ref x), .val (.int (2 : Int32)), .val (.int ((1 : Int32) + (1 : Int32))), .val (.int d1)] [])) (fun t_ k_ => XS.iinc X672.here hx rfl (hb hby d19_65) rfl (l' := #[.val (.ref x), .val (.int (2 : Int32)), .val (.int ((1 : Int32) + (1 : Int32))), .val (.int d1)]) rfl k_) ?_
  have rw673 : ((1 : Int32) + (1 : Int32)) = (2 : Int32) := by decide
  rw [rw673]
  refine P1.goto X672.here hx 7 (hb hby d19_68) (by decide) (by decide) ?_
  refine P1.iloadN X672.here hx (hb hby d19_7) rfl ?_
  refine P1.iloadN X672.here hx (hb hby d19_8) rfl ?_
  refine P1.icmpYes X672.here hx 71 (hb hby d19_9) (flt (by decide : ¬ ((2 : Int32) < (2 : Int32)))).2.1 (by decide) (by decide) ?_
  refine Goes.retV X672 hx Bd.notSynchronized Bd.returns (hb hby d19_71) (ok rfl) (ok rfl) ?_
  rw [hE672]
  exact ⟨rfl, N672, rfl⟩
theorem efRd_1 (x : Addr) (m : MethodId) : entryFrame m #[(.ref x)] 4 = mkF m 0 #[.val (.ref x), .unset, .unset, .unset] [] := by first | (simp [entryFrame, mkF, argsToLocals, Value.category]; done) | rfl
def QRd_1 (Z : State) (x t : Addr) (kt : ClassId) (d0 zc : Int32) (fm fi : Value) (u8 : Addr) (h0 : Heap) (n0 : Nat) (v : Option Value) (h : Heap) (L : List Loc) : Prop := v = none ∧ Fr n0 L ∧ h = h0
set_option maxRecDepth 65536 in
set_option maxHeartbeats 40000000 in
theorem rmRd_1 (l : Launch) (Z : State) (a0 : Array Value) (hw : ∀ d ∈ tables_1, d.before a0 Z = true) (ws : List Jvm.Cond) (x t : Addr) (kt : ClassId) (d0 zc : Int32) (fm fi : Value) (u8 : Addr) (h0 : Heap) (n0 : Nat) (Z0 : n0 ≤ h0.size) (O0 : Old Z n0 h0) (S_CS : Sta Z Z.heap "java/lang/String" "COMPACT_STRINGS" "Z" (.int zc)) (hzc : ¬ zc = 0) (S_FM : Sta Z Z.heap "jdk/internal/util/Preconditions" "SIOOBE_FORMATTER" "Ljava/util/function/BiFunction;" fm) (hfm : fm.isRef = true) (S_FI : Sta Z Z.heap "jdk/internal/util/Preconditions" "IOOBE_FORMATTER" "Ljava/util/function/BiFunction;" fi) (hfi : fi.isRef = true) (S_IN : Sta Z Z.heap "sun/nio/cs/UTF_8" "INSTANCE" "Lsun/nio/cs/UTF_8;" (.ref u8)) (S_U8 : Sta Z Z.heap "java/nio/charset/StandardCharsets" "UTF_8" "Ljava/nio/charset/Charset;" (.ref u8)) (gx : n0 ≤ x) (gt : n0 ≤ t) (Ex : Exa Z h0 x "java/lang/StringBuilder") (Fv : Fld Z h0 x "java/lang/AbstractStringBuilder" "value" "[B" (.ref t)) (Fc : Fld Z h0 x "java/lang/AbstractStringBuilder" "coder" "B" (.int (0 : Int32))) (Fn : Fld Z h0 x "java/lang/AbstractStringBuilder" "count" "I" (.int (1 : Int32))) (Vt : Arv Z h0 t kt .byte (8192 : Int32) [(.int d0)] (.int (0 : Int32))) (h_d0 : Pr d0) :
    OwnLaw l y2_ prog_46_method_9_code 4 none ws (rR 4 0 0 56) #[(.ref x)] Z h0 (QRd_1 Z x t kt d0 zc fm fi u8 h0 n0) := by
  refine own_enter (plainFor_of_name pn_com_example_medeweten_medeweten_core_XmlText) (efRd_1 x) ?_
  intro p e s m below meth c s₁ Bd hx hby hml hZ hown X0 e0
  have N0 := Fr.nil n0
  have K0 : Keep h0 h0 [] := Keep.refl _ _
  refine P1.aloadN X0.here hx (hb hby d19_0) rfl rfl ?_
  refine Goes.callV X0 hx hZ (y := y32_) (z := y32_) hown (mvT hZ (own_w hw 108 rfl)) (mvT hZ (own_w hw 109 rfl)) (notFace_of_selects (args := #[]) (mvT hZ (own_w hw 111 rfl))) (mvT hZ (own_w hw 111 rfl)) (mvT hZ (own_w hw 110 rfl)) (by decide) (kc' := 0) (ks' := 0) (backOf (W := 0) (rmSl l Z a0 hw [] x (1 : Int32) h0 n0 Z0 O0 Ex Fn) hZ (own_w hw 112 rfl) (own_w hw 24 rfl) (ok rfl) (ok rfl)) (b := x) e0 Ex (g := (mkF m 1 #[.val (.ref x), .unset, .unset, .unset] [(.ref x)])) rfl (by rw [hml]; rfl) (argsL := []) (rest := []) (lenOf pd_341 rfl) rfl (by show 2 * 0 + _ ≤ _; exact Nat.le_of_eq rfl) (hb hby d19_1) rfl (ok rfl) (ok rfl) ?_
  intro v674 T674 L674 q674 X674
  obtain ⟨rfl, N674q, hE674⟩ := q674
  have N674 := Fr.app N0 N674q
  show Goes p e below _ T674 (mkF m 4 #[.val (.ref x), .unset, .unset, .unset] [(.int (1 : Int32))])
  refine P1.istoreN X674.here hx #[.val (.ref x), .val (.int (1 : Int32)), .unset, .unset] (hb hby d19_4) rfl ?_
  refine P1.iconst X674.here hx (0 : Int32) (hb hby d19_5) rfl ?_
  refine P1.istoreN X674.here hx #[.val (.ref x), .val (.int (1 : Int32)), .val (.int (0 : Int32)), .unset] (hb hby d19_6) rfl ?_
  refine P1.iloadN X674.here hx (hb hby d19_7) rfl ?_
  refine P1.iloadN X674.here hx (hb hby d19_8) rfl ?_
  refine P1.icmpNo X674.here hx (hb hby d19_9) (tlt (by decide : (0 : Int32) < (1 : Int32))).2.1 ?_
  refine P1.aloadN X674.here hx (hb hby d19_12) rfl rfl ?_
  refine P1.iloadN X674.here hx (hb hby d19_13) rfl ?_
  refine Goes.callV X674 hx hZ (y := y31_) (z := y31_) hown (mvT hZ (own_w hw 117 rfl)) (mvT hZ (own_w hw 118 rfl)) (notFace_of_selects (args := #[]) (mvT hZ (own_w hw 120 rfl))) (mvT hZ (own_w hw 120 rfl)) (mvT hZ (own_w hw 119 rfl)) (by decide) (kc' := 0) (ks' := 0) (backOf (W := 0) (rmChB l Z a0 hw [] x t kt [(.int d0)] (1 : Int32) (0 : Int32) d0 zc fm fi u8 h0 n0 Z0 O0 S_CS hzc S_FM hfm S_FI hfi S_IN S_U8 Ex Fv Fc Vt Fn (by decide) (by decide) (by decide) (by decide) rfl h_d0) hZ (own_w hw 121 rfl) (own_w hw 24 rfl) (ok rfl) (ok rfl)) (b := x) hE674 Ex (g := (mkF m 14 #[.val (.ref x), .val (.int (1 : Int32)), .val (.int (0 : Int32)), .unset] [(.int (0 : Int32)), (.ref x)])) rfl (by rw [hml]; rfl) (argsL := [(.int (0 : Int32))]) (rest := []) (lenOf pd_577 rfl) rfl (by show 2 * 0 + _ ≤ _; exact Nat.le_of_eq rfl) (hb hby d19_14) rfl (ok rfl) (ok rfl) ?_
  intro v675 T675 L675 q675 X675
  obtain ⟨rfl, N675q, hE675⟩ := q675
  have N675 := Fr.app N674 N675q
  show Goes p e below _ T675 (mkF m 17 #[.val (.ref x), .val (.int (1 : Int32)), .val (.int (0 : Int32)), .unset] [(.int d0)])
  refine P1.istoreN X675.here hx #[.val (.ref x), .val (.int (1 : Int32)), .val (.int (0 : Int32)), .val (.int d0)] (hb hby d19_17) rfl ?_
  refine P1.iloadN X675.here hx (hb hby d19_18) rfl ?_
  refine Goes.callS X675 hx (y := y18_) hown (mvT hZ (own_w hw 137 rfl)) (mvT hZ (own_w hw 138 rfl)) (mvT hZ (own_w hw 139 rfl)) (mvT hZ (own_w hw 140 rfl)) (by decide) (kc' := 0) (ks' := 0) (backOf (W := 0) (rmHs l Z a0 hw [] d0 h0 n0 Z0 O0 h_d0) hZ (own_w hw 140 rfl) (own_w hw 139 rfl) (ok rfl) (ok rfl)) (g := (mkF m 19 #[.val (.ref x), .val (.int (1 : Int32)), .val (.int (0 : Int32)), .val (.int d0)] [(.int d0)])) rfl (by rw [hml]; rfl) (argsL := [(.int d0)]) (rest := []) (lenOf pd_657 rfl) rfl (by show 2 * 0 + _ ≤ _; exact Nat.le_of_eq rfl) (hb hby d19_19) rfl hE675 (ok rfl) (ok rfl) ?_
  intro v676 T676 L676 q676 X676
  obtain ⟨rfl, N676q, hE676⟩ := q676
  have N676 := Fr.app N675 N676q
  show Goes p e below _ T676 (mkF m 22 #[.val (.ref x), .val (.int (1 : Int32)), .val (.int (0 : Int32)), .val (.int d0)] [(.int (0 : Int32))])
  refine P1.ifYes X676.here hx 51 (hb hby d19_22) ((if0 _ _).trans (teq (by decide : (0 : Int32) = (0 : Int32))).1) (by decide) (by decide) ?_
  refine P1.iloadN X676.here hx (hb hby d19_51) rfl ?_
  refine Goes.callS X676 hx (y := y1_) hown (mvT hZ (own_w hw 142 rfl)) (mvT hZ (own_w hw 143 rfl)) (mvT hZ (own_w hw 8 rfl)) (mvT hZ (own_w hw 144 rfl)) (by decide) (kc' := 0) (ks' := 0) (backOf (W := 0) (rmIa l Z a0 hw [] d0 h0 n0 Z0 O0 h_d0) hZ (own_w hw 144 rfl) (own_w hw 8 rfl) (ok rfl) (ok rfl)) (g := (mkF m 52 #[.val (.ref x), .val (.int (1 : Int32)), .val (.int (0 : Int32)), .val (.int d0)] [(.int d0)])) rfl (by rw [hml]; rfl) (argsL := [(.int d0)]) (rest := []) (lenOf pd_657 rfl) rfl (by show 2 * 0 + _ ≤ _; exact Nat.le_of_eq rfl) (hb hby d19_52) rfl hE676 (ok rfl) (ok rfl) ?_
  intro v677 T677 L677 q677 X677
  obtain ⟨rfl, N677q, hE677⟩ := q677
  have N677 := Fr.app N676 N677q
  show Goes p e below _ T677 (mkF m 55 #[.val (.ref x), .val (.int (1 : Int32)), .val (.int (0 : Int32)), .val (.int d0)] [(.int (1 : Int32))])
  refine P1.ifYes X677.here hx 65 (hb hby d19_55) ((if0 _ _).trans (feq (by decide : ¬ ((1 : Int32) = (0 : Int32)))).2) (by decide) (by decide) ?_
  refine Goes.step (T' := T677) (g' := (mkF m 68 #[.val (.ref x), .val (.int (1 : Int32)), .val (.int ((0 : Int32) + (1 : Int32))), .val (.int d0)] [])) (fun t_ k_ => XS.iinc X677.here hx rfl (hb hby d19_65) rfl (l' := #[.val (.ref x), .val (.int (1 : Int32)), .val (.int ((0 : Int32) + (1 : Int32))), .val (.int d0)]) rfl k_) ?_
  have rw678 : ((0 : Int32) + (1 : Int32)) = (1 : Int32) := by decide
  rw [rw678]
  refine P1.goto X677.here hx 7 (hb hby d19_68) (by decide) (by decide) ?_
  refine P1.iloadN X677.here hx (hb hby d19_7) rfl ?_
  refine P1.iloadN X677.here hx (hb hby d19_8) rfl ?_
  refine P1.icmpYes X677.here hx 71 (hb hby d19_9) (flt (by decide : ¬ ((1 : Int32) < (1 : Int32)))).2.1 (by decide) (by decide) ?_
  refine Goes.retV X677 hx Bd.notSynchronized Bd.returns (hb hby d19_71) (ok rfl) (ok rfl) ?_
  rw [hE677]
  exact ⟨rfl, N677, rfl⟩
def QRdG (Z : State) (x t : Addr) (kt : ClassId) (cs : List Int32) (zc : Int32) (fm fi : Value) (u8 : Addr) (h0 : Heap) (n0 : Nat) (v : Option Value) (h : Heap) (L : List Loc) : Prop := v = none ∧ Fr n0 L ∧ h = h0
set_option maxRecDepth 65536 in
set_option maxHeartbeats 40000000 in
theorem rmRdG (l : Launch) (Z : State) (a0 : Array Value) (hw : ∀ d ∈ tables_1, d.before a0 Z = true) (ws : List Jvm.Cond) (x t : Addr) (kt : ClassId) (cs : List Int32) (zc : Int32) (fm fi : Value) (u8 : Addr) (h0 : Heap) (n0 : Nat) (Z0 : n0 ≤ h0.size) (O0 : Old Z n0 h0) (S_CS : Sta Z Z.heap "java/lang/String" "COMPACT_STRINGS" "Z" (.int zc)) (hzc : ¬ zc = 0) (S_FM : Sta Z Z.heap "jdk/internal/util/Preconditions" "SIOOBE_FORMATTER" "Ljava/util/function/BiFunction;" fm) (hfm : fm.isRef = true) (S_FI : Sta Z Z.heap "jdk/internal/util/Preconditions" "IOOBE_FORMATTER" "Ljava/util/function/BiFunction;" fi) (hfi : fi.isRef = true) (S_IN : Sta Z Z.heap "sun/nio/cs/UTF_8" "INSTANCE" "Lsun/nio/cs/UTF_8;" (.ref u8)) (S_U8 : Sta Z Z.heap "java/nio/charset/StandardCharsets" "UTF_8" "Ljava/nio/charset/Charset;" (.ref u8)) (gx : n0 ≤ x) (gt : n0 ≤ t) (Ex : Exa Z h0 x "java/lang/StringBuilder") (Fv : Fld Z h0 x "java/lang/AbstractStringBuilder" "value" "[B" (.ref t)) (Fc : Fld Z h0 x "java/lang/AbstractStringBuilder" "coder" "B" (.int (0 : Int32))) (Fn : Fld Z h0 x "java/lang/AbstractStringBuilder" "count" "I" (.int (Int32.ofNat cs.length))) (Vt : Arv Z h0 t kt .byte (8192 : Int32) (cs.map Value.int) (.int (0 : Int32))) (h1 : 1 ≤ cs.length) (h5 : cs.length ≤ 5) (hcs : ∀ c ∈ cs, Pr c) :
    OwnLaw l y2_ prog_46_method_9_code 4 none ws (rR 4 0 0 56) #[(.ref x)] Z h0 (QRdG Z x t kt cs zc fm fi u8 h0 n0) := by
  match cs, h1, h5, hcs, Fn, Vt with
  | [d0], _, _, hcs, Fn, Vt => exact rmRd_1 l Z a0 hw ws x t kt d0 zc fm fi u8 h0 n0 Z0 O0 S_CS hzc S_FM hfm S_FI hfi S_IN S_U8 gx gt Ex Fv Fc Fn Vt (hcs _ (by simp))
  | [d0, d1], _, _, hcs, Fn, Vt => exact rmRd_2 l Z a0 hw ws x t kt d0 d1 zc fm fi u8 h0 n0 Z0 O0 S_CS hzc S_FM hfm S_FI hfi S_IN S_U8 gx gt Ex Fv Fc Fn Vt (hcs _ (by simp)) (hcs _ (by simp))
  | [d0, d1, d2], _, _, hcs, Fn, Vt => exact rmRd_3 l Z a0 hw ws x t kt d0 d1 d2 zc fm fi u8 h0 n0 Z0 O0 S_CS hzc S_FM hfm S_FI hfi S_IN S_U8 gx gt Ex Fv Fc Fn Vt (hcs _ (by simp)) (hcs _ (by simp)) (hcs _ (by simp))
  | [d0, d1, d2, d3], _, _, hcs, Fn, Vt => exact rmRd_4 l Z a0 hw ws x t kt d0 d1 d2 d3 zc fm fi u8 h0 n0 Z0 O0 S_CS hzc S_FM hfm S_FI hfi S_IN S_U8 gx gt Ex Fv Fc Fn Vt (hcs _ (by simp)) (hcs _ (by simp)) (hcs _ (by simp)) (hcs _ (by simp))
  | [d0, d1, d2, d3, d4], _, _, hcs, Fn, Vt => exact rmRd_5 l Z a0 hw ws x t kt d0 d1 d2 d3 d4 zc fm fi u8 h0 n0 Z0 O0 S_CS hzc S_FM hfm S_FI hfi S_IN S_U8 gx gt Ex Fv Fc Fn Vt (hcs _ (by simp)) (hcs _ (by simp)) (hcs _ (by simp)) (hcs _ (by simp)) (hcs _ (by simp))
  | [], h1, _, _, _, _ => exact absurd h1 (by decide)
  | _ :: _ :: _ :: _ :: _ :: _ :: _, _, h5, _, _, _ => exact absurd h5 (by simp)
theorem d35_0 : decode jdk_65_method_133_code 0 = .ok (.iload_n 1, 1) := by decide +kernel
theorem d35_1 : decode jdk_65_method_133_code 1 = .ok (.iload_n 2, 1) := by decide +kernel
theorem d35_2 : decode jdk_65_method_133_code 2 = .ok (.invokestatic 343, 3) := by decide +kernel
theorem d35_5 : decode jdk_65_method_133_code 5 = .ok (.iload_n 2, 1) := by decide +kernel
theorem d35_6 : decode jdk_65_method_133_code 6 = .ok (.iload_n 1, 1) := by decide +kernel
theorem d35_7 : decode jdk_65_method_133_code 7 = .ok (.isub, 1) := by decide +kernel
theorem d35_8 : decode jdk_65_method_133_code 8 = .ok (.istore_n 3, 1) := by decide +kernel
theorem d35_9 : decode jdk_65_method_133_code 9 = .ok (.iload_n 3, 1) := by decide +kernel
theorem d35_10 : decode jdk_65_method_133_code 10 = .ok (.newarray .byte, 2) := by decide +kernel
theorem d35_12 : decode jdk_65_method_133_code 12 = .ok (.astore 4, 2) := by decide +kernel
theorem d35_14 : decode jdk_65_method_133_code 14 = .ok (.aload_n 0, 1) := by decide +kernel
theorem d35_15 : decode jdk_65_method_133_code 15 = .ok (.iload_n 1, 1) := by decide +kernel
theorem d35_16 : decode jdk_65_method_133_code 16 = .ok (.aload 4, 2) := by decide +kernel
theorem d35_18 : decode jdk_65_method_133_code 18 = .ok (.iconst 0, 1) := by decide +kernel
theorem d35_19 : decode jdk_65_method_133_code 19 = .ok (.aload_n 0, 1) := by decide +kernel
theorem d35_20 : decode jdk_65_method_133_code 20 = .ok (.arraylength, 1) := by decide +kernel
theorem d35_21 : decode jdk_65_method_133_code 21 = .ok (.iload_n 1, 1) := by decide +kernel
theorem d35_22 : decode jdk_65_method_133_code 22 = .ok (.isub, 1) := by decide +kernel
theorem d35_23 : decode jdk_65_method_133_code 23 = .ok (.iload_n 3, 1) := by decide +kernel
theorem d35_24 : decode jdk_65_method_133_code 24 = .ok (.invokestatic 304, 3) := by decide +kernel
theorem d35_27 : decode jdk_65_method_133_code 27 = .ok (.invokestatic 150, 3) := by decide +kernel
theorem d35_30 : decode jdk_65_method_133_code 30 = .ok (.aload 4, 2) := by decide +kernel
theorem d35_32 : decode jdk_65_method_133_code 32 = .ok (.areturn, 1) := by decide +kernel
theorem efCy (t : Addr) (ni : Int32) (m : MethodId) : entryFrame m #[(.ref t), (.int (0 : Int32)), (.int ni)] 5 = mkF m 0 #[.val (.ref t), .val (.int (0 : Int32)), .val (.int ni), .unset, .unset] [] := by first | (simp [entryFrame, mkF, argsToLocals, Value.category]; done) | rfl
def QCy (Z : State) (t : Addr) (kt : ClassId) (cs : List Int32) (ni : Int32) (h0 : Heap) (n0 : Nat) (v : Option Value) (h : Heap) (L : List Loc) : Prop := ∃ r kr, v = some (.ref r) ∧ Fr n0 L ∧ Keep h0 h [] ∧ h0.size ≤ r ∧ Exa Z h r "[B" ∧ Arv Z h r kr .byte (Int32.ofNat cs.length) (cs.map Value.int) (.int (0 : Int32))
set_option maxRecDepth 65536 in
set_option maxHeartbeats 40000000 in
theorem rmCy (l : Launch) (Z : State) (a0 : Array Value) (hw : ∀ d ∈ tables_1, d.before a0 Z = true) (ws : List Jvm.Cond) (t : Addr) (kt : ClassId) (cs : List Int32) (ni : Int32) (h0 : Heap) (n0 : Nat) (Z0 : n0 ≤ h0.size) (O0 : Old Z n0 h0) (Vt : Arv Z h0 t kt .byte (8192 : Int32) (cs.map Value.int) (.int (0 : Int32))) (h5 : cs.length ≤ 5) (hni : ni = Int32.ofNat cs.length) :
    OwnLaw l (⟨"java/util/Arrays", "copyOfRangeByte", "([BII)[B"⟩ : MethodName) jdk_65_method_133_code 5 (some (.array .byte)) ws (rR 1 1 8 18) #[(.ref t), (.int (0 : Int32)), (.int ni)] Z h0 (QCy Z t kt cs ni h0 n0) := by
  refine own_enter (plainFor_of_name pn_java_util_Arrays) (efCy t ni) ?_
  intro p e s m below meth c s₁ Bd hx hby hml hZ hown X0 e0
  have N0 := Fr.nil n0
  have K0 : Keep h0 h0 [] := Keep.refl _ _
  obtain ⟨m0, m1, m2, m3, m4⟩ := own_n5 h5
  subst hni
  refine P1.iloadN X0.here hx (hb hby d35_0) rfl ?_
  refine P1.iloadN X0.here hx (hb hby d35_1) rfl ?_
  refine Goes.callS X0 hx (y := (⟨"java/util/Arrays", "checkLength", "(II)V"⟩ : MethodName)) hown (mvT hZ (own_w hw 182 rfl)) (mvT hZ (own_w hw 183 rfl)) (mvT hZ (own_w hw 177 rfl)) (mvT hZ (own_w hw 184 rfl)) (by decide) (kc' := 0) (ks' := 0) (backOf (W := 0) (rmCkl l Z a0 hw [] (0 : Int32) (Int32.ofNat cs.length) h0 n0 Z0 O0 m0) hZ (own_w hw 184 rfl) (own_w hw 177 rfl) (ok rfl) (ok rfl)) (g := (mkF m 2 #[.val (.ref t), .val (.int (0 : Int32)), .val (.int (Int32.ofNat cs.length)), .unset, .unset] [(.int (Int32.ofNat cs.length)), (.int (0 : Int32))])) rfl (by rw [hml]; rfl) (argsL := [(.int (0 : Int32)), (.int (Int32.ofNat cs.length))]) (rest := []) (lenOf pd_999 rfl) rfl (by show 2 * 0 + _ ≤ _; exact Nat.le_of_eq rfl) (hb hby d35_2) rfl e0 (ok rfl) (ok rfl) ?_
  intro v679 T679 L679 q679 X679
  obtain ⟨rfl, N679q, hE679⟩ := q679
  have N679 := Fr.app N0 N679q
  show Goes p e below _ T679 (mkF m 5 #[.val (.ref t), .val (.int (0 : Int32)), .val (.int (Int32.ofNat cs.length)), .unset, .unset] [])
  refine P1.iloadN X679.here hx (hb hby d35_5) rfl ?_
  refine P1.iloadN X679.here hx (hb hby d35_6) rfl ?_
  refine P1.isub X679.here hx (hb hby d35_7) ?_
  have rw680 : ((Int32.ofNat cs.length) - (0 : Int32)) = (Int32.ofNat cs.length) := m4
  rw [rw680]
  refine P1.istoreN X679.here hx #[.val (.ref t), .val (.int (0 : Int32)), .val (.int (Int32.ofNat cs.length)), .val (.int (Int32.ofNat cs.length)), .unset] (hb hby d35_8) rfl ?_
  refine P1.iloadN X679.here hx (hb hby d35_9) rfl ?_
  obtain ⟨T681, h681, k681, X681, e681, E681, A681, B681, st681⟩ := newPE X679 hx hZ (own_w hw 37 rfl) hE679 (g := (mkF m 10 #[.val (.ref t), .val (.int (0 : Int32)), .val (.int (Int32.ofNat cs.length)), .val (.int (Int32.ofNat cs.length)), .unset] [(.int (Int32.ofNat cs.length))])) rfl (hb hby d35_10) rfl m0 (cap := 8) (by rw [m3]; omega) (ok rfl) (ok rfl) (ok rfl) (ad := "[B") (by decide)
  obtain ⟨b681, g681⟩ : ∃ z, z = h0.size := ⟨_, rfl⟩
  rw [← g681] at A681 B681 st681
  have ge_b681 : n0 ≤ b681 := Nat.le_trans Z0 (Nat.le_of_eq g681.symm)
  have sz_b681 : h0.size ≤ b681 := Nat.le_trans K0.1 (Nat.le_of_eq g681.symm)
  have V681 : Arv Z h681 b681 k681 .byte (Int32.ofNat cs.length) [] (.int (0 : Int32)) := Arv.new A681 m0
  refine Goes.step (T' := T681) (g' := (mkF m 12 #[.val (.ref t), .val (.int (0 : Int32)), .val (.int (Int32.ofNat cs.length)), .val (.int (Int32.ofNat cs.length)), .unset] [(.ref b681)])) st681 ?_
  refine P1.astore X681.here hx #[.val (.ref t), .val (.int (0 : Int32)), .val (.int (Int32.ofNat cs.length)), .val (.int (Int32.ofNat cs.length)), .val (.ref b681)] (hb hby d35_12) rfl rfl ?_
  refine P1.aloadN X681.here hx (hb hby d35_14) rfl rfl ?_
  refine P1.iloadN X681.here hx (hb hby d35_15) rfl ?_
  refine P1.aload X681.here hx (hb hby d35_16) rfl rfl ?_
  refine P1.iconst X681.here hx (0 : Int32) (hb hby d35_18) rfl ?_
  refine P1.aloadN X681.here hx (hb hby d35_19) rfl rfl ?_
  have V682 : Arv Z h681 t kt .byte (8192 : Int32) (cs.map Value.int) (.int (0 : Int32)) := Vt.ext E681
  obtain ⟨cl683, Ar683, qk683, sl683, nz683, ha683, fi683⟩ := id V682
  have al684 : cl683.slots.size.toInt32 = (8192 : Int32) := len_of sl683 nz683
  refine Goes.step (T' := T681) (g' := (mkF m 21 #[.val (.ref t), .val (.int (0 : Int32)), .val (.int (Int32.ofNat cs.length)), .val (.int (Int32.ofNat cs.length)), .val (.ref b681)] [(.int (8192 : Int32)), (.int (0 : Int32)), (.ref b681), (.int (0 : Int32)), (.ref t)])) (fun t_ k_ => X681.arraylength hx (by rw [e681]; exact Ar683.1) (State.isArrayOf_alike hZ.alike Ar683.2.1) (g := (mkF m 20 #[.val (.ref t), .val (.int (0 : Int32)), .val (.int (Int32.ofNat cs.length)), .val (.int (Int32.ofNat cs.length)), .val (.ref b681)] [(.ref t), (.int (0 : Int32)), (.ref b681), (.int (0 : Int32)), (.ref t)])) rfl rfl (hb hby d35_20) _ <| by rw [al684]; exact k_) ?_
  refine P1.iloadN X681.here hx (hb hby d35_21) rfl ?_
  refine P1.isub X681.here hx (hb hby d35_22) ?_
  have rw685 : ((8192 : Int32) - (0 : Int32)) = (8192 : Int32) := by decide
  rw [rw685]
  refine P1.iloadN X681.here hx (hb hby d35_23) rfl ?_
  have Z686 : n0 ≤ h681.size := Nat.le_trans Z0 E681.1
  have O687 : Old Z n0 h681 := O0.ext E681
  refine Goes.callS X681 hx (y := y20_) hown (mvT hZ (own_w hw 185 rfl)) (mvT hZ (own_w hw 127 rfl)) (mvT hZ (own_w hw 128 rfl)) (mvT hZ (own_w hw 129 rfl)) (by decide) (kc' := 0) (ks' := 0) (backOf (W := 4) (rmMinB l Z a0 hw [] (8192 : Int32) (Int32.ofNat cs.length) h681 n0 Z686 O687 m1) hZ (own_w hw 129 rfl) (own_w hw 128 rfl) (ok rfl) (ok rfl)) (g := (mkF m 24 #[.val (.ref t), .val (.int (0 : Int32)), .val (.int (Int32.ofNat cs.length)), .val (.int (Int32.ofNat cs.length)), .val (.ref b681)] [(.int (Int32.ofNat cs.length)), (.int (8192 : Int32)), (.int (0 : Int32)), (.ref b681), (.int (0 : Int32)), (.ref t)])) rfl (by rw [hml]; rfl) (argsL := [(.int (8192 : Int32)), (.int (Int32.ofNat cs.length))]) (rest := [(.int (0 : Int32)), (.ref b681), (.int (0 : Int32)), (.ref t)]) (lenOf pd_934 rfl) rfl (by show 2 * 0 + _ ≤ _; exact Nat.le_of_eq rfl) (hb hby d35_24) rfl e681 (ok rfl) (ok rfl) ?_
  intro v688 T688 L688 q688 X688
  obtain ⟨rfl, N688q, hE688⟩ := q688
  have N688 := Fr.app N679 N688q
  show Goes p e below _ T688 (mkF m 27 #[.val (.ref t), .val (.int (0 : Int32)), .val (.int (Int32.ofNat cs.length)), .val (.int (Int32.ofNat cs.length)), .val (.ref b681)] [(.int (Int32.ofNat cs.length)), (.int (0 : Int32)), (.ref b681), (.int (0 : Int32)), (.ref t)])
  have Vp689 : Arv Z h681 b681 k681 .byte (Int32.ofNat cs.length) (List.replicate cs.length (.int (0 : Int32))) (.int (0 : Int32)) := V681.pad (pad_rep [] (.int (0 : Int32)) cs.length)
  obtain ⟨T689, h689, L689, X689, e689, N689, K689, Va689, st689⟩ := cpA X688 hx hZ hown (own_w hw 186 rfl) (own_w hw 189 rfl) (own_w hw 187 rfl) (own_w hw 188 rfl) hE688 V682 Vp689 (us := (cs.map Value.int)) (Or.inl ⟨rfl, rfl⟩) (by decide) (by decide) m0 (by rw [m3]; exact Nat.le_trans (by rw [show (0 : Int32).toNatClampNeg = 0 from rfl]; omega) (show 5 ≤ (8192 : Int32).toNatClampNeg from Nat.le_of_ble_eq_true rfl)) (by rw [m3, show (0 : Int32).toNatClampNeg = 0 from rfl]; omega) (own_copied h5) (by rw [m3, show (0 : Int32).toNatClampNeg = 0 from rfl]; simp) N688 ge_b681 (g := (mkF m 27 #[.val (.ref t), .val (.int (0 : Int32)), .val (.int (Int32.ofNat cs.length)), .val (.int (Int32.ofNat cs.length)), .val (.ref b681)] [(.int (Int32.ofNat cs.length)), (.int (0 : Int32)), (.ref b681), (.int (0 : Int32)), (.ref t)])) rfl (by rw [hml]; rfl) rfl (hb hby d35_27) (ok rfl) (W := 0) (by show 2 * 0 + _ ≤ _; exact Nat.le_of_eq rfl) (ok rfl)
  rw [m3, show (0 : Int32).toNatClampNeg = 0 from rfl, List.take_zero, List.nil_append, Nat.zero_add, List.drop_of_length_le (by simp), List.append_nil] at Va689
  have V689 : Arv Z h689 b681 k681 .byte (Int32.ofNat cs.length) (cs.map Value.int) (.int (0 : Int32)) := Va689
  refine Goes.step (T' := T689) (g' := (mkF m 30 #[.val (.ref t), .val (.int (0 : Int32)), .val (.int (Int32.ofNat cs.length)), .val (.int (Int32.ofNat cs.length)), .val (.ref b681)] [])) st689 ?_
  refine P1.aload X689.here hx (hb hby d35_30) rfl rfl ?_
  refine Goes.retA X689 hx Bd.notSynchronized Bd.returns rfl rfl (hb hby d35_32) (ok rfl) (ok rfl) ?_
  rw [e689]
  have K690 : Keep h0 h681 [] := K0.ext E681
  have K691 : Keep h0 h689 [] := K690.trans K689 (allS (Or.inr sz_b681) all0)
  have E692 : Exa Z h689 b681 "[B" := B681.keep K689
  exact ⟨b681, k681, rfl, N689, K691, sz_b681, E692, V689⟩
theorem d34_0 : decode jdk_65_method_132_code 0 = .ok (.iload_n 1, 1) := by decide +kernel
theorem d34_1 : decode jdk_65_method_132_code 1 = .ok (.ifCond .ne 9, 3) := by decide +kernel
theorem d34_4 : decode jdk_65_method_132_code 4 = .ok (.iload_n 2, 1) := by decide +kernel
theorem d34_5 : decode jdk_65_method_132_code 5 = .ok (.aload_n 0, 1) := by decide +kernel
theorem d34_6 : decode jdk_65_method_132_code 6 = .ok (.arraylength, 1) := by decide +kernel
theorem d34_7 : decode jdk_65_method_132_code 7 = .ok (.if_icmp .eq 10, 3) := by decide +kernel
theorem d34_10 : decode jdk_65_method_132_code 10 = .ok (.aload_n 0, 1) := by decide +kernel
theorem d34_11 : decode jdk_65_method_132_code 11 = .ok (.iload_n 1, 1) := by decide +kernel
theorem d34_12 : decode jdk_65_method_132_code 12 = .ok (.iload_n 2, 1) := by decide +kernel
theorem d34_13 : decode jdk_65_method_132_code 13 = .ok (.invokestatic 339, 3) := by decide +kernel
theorem d34_16 : decode jdk_65_method_132_code 16 = .ok (.areturn, 1) := by decide +kernel
theorem d34_17 : decode jdk_65_method_132_code 17 = .ok (.aload_n 0, 1) := by decide +kernel
theorem d34_18 : decode jdk_65_method_132_code 18 = .ok (.invokevirtual 310, 3) := by decide +kernel
theorem d34_21 : decode jdk_65_method_132_code 21 = .ok (.checkcast 311, 3) := by decide +kernel
theorem d34_24 : decode jdk_65_method_132_code 24 = .ok (.areturn, 1) := by decide +kernel
theorem pd_2488 : parseMethodDescriptor "([BII)[B" = some ⟨[(.array .byte), .int, .int], some (.array .byte)⟩ := by decide +kernel
theorem efCr (t : Addr) (ni : Int32) (m : MethodId) : entryFrame m #[(.ref t), (.int (0 : Int32)), (.int ni)] 3 = mkF m 0 #[.val (.ref t), .val (.int (0 : Int32)), .val (.int ni)] [] := by first | (simp [entryFrame, mkF, argsToLocals, Value.category]; done) | rfl
def QCr (Z : State) (t : Addr) (kt : ClassId) (cs : List Int32) (ni : Int32) (h0 : Heap) (n0 : Nat) (v : Option Value) (h : Heap) (L : List Loc) : Prop := ∃ r kr, v = some (.ref r) ∧ Fr n0 L ∧ Keep h0 h [] ∧ h0.size ≤ r ∧ Exa Z h r "[B" ∧ Arv Z h r kr .byte (Int32.ofNat cs.length) (cs.map Value.int) (.int (0 : Int32))
set_option maxRecDepth 65536 in
set_option maxHeartbeats 40000000 in
theorem rmCr (l : Launch) (Z : State) (a0 : Array Value) (hw : ∀ d ∈ tables_1, d.before a0 Z = true) (ws : List Jvm.Cond) (t : Addr) (kt : ClassId) (cs : List Int32) (ni : Int32) (h0 : Heap) (n0 : Nat) (Z0 : n0 ≤ h0.size) (O0 : Old Z n0 h0) (Vt : Arv Z h0 t kt .byte (8192 : Int32) (cs.map Value.int) (.int (0 : Int32))) (h5 : cs.length ≤ 5) (hni : ni = Int32.ofNat cs.length) :
    OwnLaw l (⟨"java/util/Arrays", "copyOfRange", "([BII)[B"⟩ : MethodName) jdk_65_method_132_code 3 (some (.array .byte)) ws (rR 2 1 8 34) #[(.ref t), (.int (0 : Int32)), (.int ni)] Z h0 (QCr Z t kt cs ni h0 n0) := by
  refine own_enter (plainFor_of_name pn_java_util_Arrays) (efCr t ni) ?_
  intro p e s m below meth c s₁ Bd hx hby hml hZ hown X0 e0
  have N0 := Fr.nil n0
  have K0 : Keep h0 h0 [] := Keep.refl _ _
  obtain ⟨m0, m1, m2, m3, m4⟩ := own_n5 h5
  subst hni
  refine P1.iloadN X0.here hx (hb hby d34_0) rfl ?_
  refine P1.ifNo X0.here hx (hb hby d34_1) ((if0 _ _).trans (teq (by decide : (0 : Int32) = (0 : Int32))).2) ?_
  refine P1.iloadN X0.here hx (hb hby d34_4) rfl ?_
  refine P1.aloadN X0.here hx (hb hby d34_5) rfl rfl ?_
  obtain ⟨cl693, Ar693, qk693, sl693, nz693, ha693, fi693⟩ := id Vt
  have al694 : cl693.slots.size.toInt32 = (8192 : Int32) := len_of sl693 nz693
  refine Goes.step (T' := s₁) (g' := (mkF m 7 #[.val (.ref t), .val (.int (0 : Int32)), .val (.int (Int32.ofNat cs.length))] [(.int (8192 : Int32)), (.int (Int32.ofNat cs.length))])) (fun t_ k_ => X0.arraylength hx (by rw [e0]; exact Ar693.1) (State.isArrayOf_alike hZ.alike Ar693.2.1) (g := (mkF m 6 #[.val (.ref t), .val (.int (0 : Int32)), .val (.int (Int32.ofNat cs.length))] [(.ref t), (.int (Int32.ofNat cs.length))])) rfl rfl (hb hby d34_6) _ <| by rw [al694]; exact k_) ?_
  refine P1.icmpNo X0.here hx (hb hby d34_7) (feq (m2 : ¬ ((Int32.ofNat cs.length) = (8192 : Int32)))).1 ?_
  refine P1.aloadN X0.here hx (hb hby d34_10) rfl rfl ?_
  refine P1.iloadN X0.here hx (hb hby d34_11) rfl ?_
  refine P1.iloadN X0.here hx (hb hby d34_12) rfl ?_
  refine Goes.callS X0 hx (y := (⟨"java/util/Arrays", "copyOfRangeByte", "([BII)[B"⟩ : MethodName)) hown (mvT hZ (own_w hw 179 rfl)) (mvT hZ (own_w hw 180 rfl)) (mvT hZ (own_w hw 177 rfl)) (mvT hZ (own_w hw 181 rfl)) (by decide) (kc' := 1) (ks' := 8) (backOf (W := 0) (rmCy l Z a0 hw [] t kt cs (Int32.ofNat cs.length) h0 n0 Z0 O0 Vt h5 rfl) hZ (own_w hw 181 rfl) (own_w hw 177 rfl) (ok rfl) (ok rfl)) (g := (mkF m 13 #[.val (.ref t), .val (.int (0 : Int32)), .val (.int (Int32.ofNat cs.length))] [(.int (Int32.ofNat cs.length)), (.int (0 : Int32)), (.ref t)])) rfl (by rw [hml]; rfl) (argsL := [(.ref t), (.int (0 : Int32)), (.int (Int32.ofNat cs.length))]) (rest := []) (lenOf pd_2488 rfl) rfl (by show 2 * 0 + _ ≤ _; exact Nat.le_of_eq rfl) (hb hby d34_13) rfl e0 (ok rfl) (ok rfl) ?_
  intro v695 T695 L695 q695 X695
  obtain ⟨r695, kr695, rfl, N695q, K695, szr695, g695E, g695V⟩ := q695
  have ge_r695 : n0 ≤ r695 := Nat.le_trans Z0 szr695
  have sz_r695 : h0.size ≤ r695 := Nat.le_trans K0.1 szr695
  have N695 := Fr.app N0 N695q
  show Goes p e below _ T695 (mkF m 16 #[.val (.ref t), .val (.int (0 : Int32)), .val (.int (Int32.ofNat cs.length))] [(.ref r695)])
  refine Goes.retA X695 hx Bd.notSynchronized Bd.returns rfl rfl (hb hby d34_16) (ok rfl) (ok rfl) ?_
  have K696 : Keep h0 T695.heap [] := K0.trans K695 all0
  exact ⟨r695, kr695, rfl, N695, K696, sz_r695, g695E, g695V⟩
theorem d32_0 : decode jdk_42_method_150_code 0 = .ok (.aload_n 0, 1) := by decide +kernel
theorem d32_1 : decode jdk_42_method_150_code 1 = .ok (.invokespecial 1, 3) := by decide +kernel
theorem d32_4 : decode jdk_42_method_150_code 4 = .ok (.aload_n 1, 1) := by decide +kernel
theorem d32_5 : decode jdk_42_method_150_code 5 = .ok (.invokevirtual 552, 3) := by decide +kernel
theorem d32_8 : decode jdk_42_method_150_code 8 = .ok (.astore_n 3, 1) := by decide +kernel
theorem d32_9 : decode jdk_42_method_150_code 9 = .ok (.aload_n 1, 1) := by decide +kernel
theorem d32_10 : decode jdk_42_method_150_code 10 = .ok (.invokevirtual 549, 3) := by decide +kernel
theorem d32_13 : decode jdk_42_method_150_code 13 = .ok (.istore 4, 2) := by decide +kernel
theorem d32_15 : decode jdk_42_method_150_code 15 = .ok (.aload_n 1, 1) := by decide +kernel
theorem d32_16 : decode jdk_42_method_150_code 16 = .ok (.invokevirtual 1047, 3) := by decide +kernel
theorem d32_19 : decode jdk_42_method_150_code 19 = .ok (.ifCond .eq 22, 3) := by decide +kernel
theorem d32_22 : decode jdk_42_method_150_code 22 = .ok (.aload_n 0, 1) := by decide +kernel
theorem d32_23 : decode jdk_42_method_150_code 23 = .ok (.iconst 0, 1) := by decide +kernel
theorem d32_24 : decode jdk_42_method_150_code 24 = .ok (.putfield 15, 3) := by decide +kernel
theorem d32_27 : decode jdk_42_method_150_code 27 = .ok (.aload_n 0, 1) := by decide +kernel
theorem d32_28 : decode jdk_42_method_150_code 28 = .ok (.aload_n 3, 1) := by decide +kernel
theorem d32_29 : decode jdk_42_method_150_code 29 = .ok (.iconst 0, 1) := by decide +kernel
theorem d32_30 : decode jdk_42_method_150_code 30 = .ok (.iload 4, 2) := by decide +kernel
theorem d32_32 : decode jdk_42_method_150_code 32 = .ok (.invokestatic 54, 3) := by decide +kernel
theorem d32_35 : decode jdk_42_method_150_code 35 = .ok (.putfield 9, 3) := by decide +kernel
theorem d32_38 : decode jdk_42_method_150_code 38 = .ok (.goto 59, 3) := by decide +kernel
theorem d32_41 : decode jdk_42_method_150_code 41 = .ok (.getstatic 38, 3) := by decide +kernel
theorem d32_44 : decode jdk_42_method_150_code 44 = .ok (.ifCond .eq 35, 3) := by decide +kernel
theorem d32_47 : decode jdk_42_method_150_code 47 = .ok (.aload_n 1, 1) := by decide +kernel
theorem d32_48 : decode jdk_42_method_150_code 48 = .ok (.getfield 1048, 3) := by decide +kernel
theorem d32_51 : decode jdk_42_method_150_code 51 = .ok (.ifCond .eq 28, 3) := by decide +kernel
theorem d32_54 : decode jdk_42_method_150_code 54 = .ok (.aload_n 0, 1) := by decide +kernel
theorem d32_55 : decode jdk_42_method_150_code 55 = .ok (.aload_n 3, 1) := by decide +kernel
theorem d32_56 : decode jdk_42_method_150_code 56 = .ok (.iconst 0, 1) := by decide +kernel
theorem d32_57 : decode jdk_42_method_150_code 57 = .ok (.iload 4, 2) := by decide +kernel
theorem d32_59 : decode jdk_42_method_150_code 59 = .ok (.invokestatic 1051, 3) := by decide +kernel
theorem d32_62 : decode jdk_42_method_150_code 62 = .ok (.putfield 9, 3) := by decide +kernel
theorem d32_65 : decode jdk_42_method_150_code 65 = .ok (.aload_n 0, 1) := by decide +kernel
theorem d32_66 : decode jdk_42_method_150_code 66 = .ok (.aload_n 0, 1) := by decide +kernel
theorem d32_67 : decode jdk_42_method_150_code 67 = .ok (.getfield 9, 3) := by decide +kernel
theorem d32_70 : decode jdk_42_method_150_code 70 = .ok (.iload 4, 2) := by decide +kernel
theorem d32_72 : decode jdk_42_method_150_code 72 = .ok (.invokestatic 47, 3) := by decide +kernel
theorem d32_75 : decode jdk_42_method_150_code 75 = .ok (.putfield 15, 3) := by decide +kernel
theorem d32_78 : decode jdk_42_method_150_code 78 = .ok (.return_, 1) := by decide +kernel
theorem d32_79 : decode jdk_42_method_150_code 79 = .ok (.aload_n 0, 1) := by decide +kernel
theorem d32_80 : decode jdk_42_method_150_code 80 = .ok (.iconst 1, 1) := by decide +kernel
theorem d32_81 : decode jdk_42_method_150_code 81 = .ok (.putfield 15, 3) := by decide +kernel
theorem d32_84 : decode jdk_42_method_150_code 84 = .ok (.aload_n 0, 1) := by decide +kernel
theorem d32_85 : decode jdk_42_method_150_code 85 = .ok (.aload_n 3, 1) := by decide +kernel
theorem d32_86 : decode jdk_42_method_150_code 86 = .ok (.iconst 0, 1) := by decide +kernel
theorem d32_87 : decode jdk_42_method_150_code 87 = .ok (.iload 4, 2) := by decide +kernel
theorem d32_89 : decode jdk_42_method_150_code 89 = .ok (.iconst 1, 1) := by decide +kernel
theorem d32_90 : decode jdk_42_method_150_code 90 = .ok (.ishl, 1) := by decide +kernel
theorem d32_91 : decode jdk_42_method_150_code 91 = .ok (.invokestatic 54, 3) := by decide +kernel
theorem d32_94 : decode jdk_42_method_150_code 94 = .ok (.putfield 9, 3) := by decide +kernel
theorem d32_97 : decode jdk_42_method_150_code 97 = .ok (.return_, 1) := by decide +kernel
theorem pd_659 : parseMethodDescriptor "()[B" = some ⟨[], some (.array .byte)⟩ := by decide +kernel
theorem efT3 (y x : Addr) (m : MethodId) : entryFrame m #[(.ref y), (.ref x), .null] 5 = mkF m 0 #[.val (.ref y), .val (.ref x), .val .null, .unset, .unset] [] := by first | (simp [entryFrame, mkF, argsToLocals, Value.category]; done) | rfl
def QT3 (Z : State) (y x t : Addr) (kt : ClassId) (cs : List Int32) (zc : Int32) (fm fi : Value) (u8 : Addr) (h0 : Heap) (n0 : Nat) (v : Option Value) (h : Heap) (L : List Loc) : Prop := ∃ r kr, v = none ∧ Fr n0 L ∧ Keep h0 h [y] ∧ h0.size ≤ r ∧ Exa Z h y "java/lang/String" ∧ Fld Z h y "java/lang/String" "value" "[B" (.ref r) ∧ Fld Z h y "java/lang/String" "coder" "B" (.int (0 : Int32)) ∧ Exa Z h r "[B" ∧ Arv Z h r kr .byte (Int32.ofNat cs.length) (cs.map Value.int) (.int (0 : Int32))
set_option maxRecDepth 65536 in
set_option maxHeartbeats 40000000 in
theorem rmT3 (l : Launch) (Z : State) (a0 : Array Value) (hw : ∀ d ∈ tables_1, d.before a0 Z = true) (ws : List Jvm.Cond) (y x t : Addr) (kt : ClassId) (cs : List Int32) (zc : Int32) (fm fi : Value) (u8 : Addr) (h0 : Heap) (n0 : Nat) (Z0 : n0 ≤ h0.size) (O0 : Old Z n0 h0) (S_CS : Sta Z Z.heap "java/lang/String" "COMPACT_STRINGS" "Z" (.int zc)) (hzc : ¬ zc = 0) (S_FM : Sta Z Z.heap "jdk/internal/util/Preconditions" "SIOOBE_FORMATTER" "Ljava/util/function/BiFunction;" fm) (hfm : fm.isRef = true) (S_FI : Sta Z Z.heap "jdk/internal/util/Preconditions" "IOOBE_FORMATTER" "Ljava/util/function/BiFunction;" fi) (hfi : fi.isRef = true) (S_IN : Sta Z Z.heap "sun/nio/cs/UTF_8" "INSTANCE" "Lsun/nio/cs/UTF_8;" (.ref u8)) (S_U8 : Sta Z Z.heap "java/nio/charset/StandardCharsets" "UTF_8" "Ljava/nio/charset/Charset;" (.ref u8)) (gy : n0 ≤ y) (Ey : Exa Z h0 y "java/lang/String") (Vy : Fld Z h0 y "java/lang/String" "value" "[B" .null) (Cy : Fld Z h0 y "java/lang/String" "coder" "B" (.int (0 : Int32))) (gx : n0 ≤ x) (gt : n0 ≤ t) (Ex : Exa Z h0 x "java/lang/StringBuilder") (Fv : Fld Z h0 x "java/lang/AbstractStringBuilder" "value" "[B" (.ref t)) (Fc : Fld Z h0 x "java/lang/AbstractStringBuilder" "coder" "B" (.int (0 : Int32))) (Fn : Fld Z h0 x "java/lang/AbstractStringBuilder" "count" "I" (.int (Int32.ofNat cs.length))) (Vt : Arv Z h0 t kt .byte (8192 : Int32) (cs.map Value.int) (.int (0 : Int32))) (h1 : 1 ≤ cs.length) (h5 : cs.length ≤ 5) (hcs : ∀ c ∈ cs, Pr c) :
    OwnLaw l (⟨"java/lang/String", "<init>", "(Ljava/lang/AbstractStringBuilder;Ljava/lang/Void;)V"⟩ : MethodName) jdk_42_method_150_code 5 none ws (rR 3 1 8 49) #[(.ref y), (.ref x), .null] Z h0 (QT3 Z y x t kt cs zc fm fi u8 h0 n0) := by
  refine own_enter (plainFor_of_name pn_java_lang_String) (efT3 y x) ?_
  intro p e s m below meth c s₁ Bd hx hby hml hZ hown X0 e0
  have hnm := (name_of_methodNamed Bd.named Bd.method).1
  have N0 := Fr.nil n0
  have K0 : Keep h0 h0 [] := Keep.refl _ _
  obtain ⟨m0, m1, m2, m3, m4⟩ := own_n5 h5
  have K0 : Keep h0 h0 [y] := Keep.refl _ _
  refine P1.aloadN X0.here hx (hb hby d32_0) rfl rfl ?_
  obtain ⟨T697, X697, e697, st697⟩ := initO X0 hx hZ hown (own_w hw 164 rfl) (own_w hw 18 rfl) (own_w hw 19 rfl) e0 (g := (mkF m 1 #[.val (.ref y), .val (.ref x), .val .null, .unset, .unset] [(.ref y)])) rfl (by rw [hml]; rfl) rfl (hb hby d32_1) (by decide) (W := 0) (by show 2 * 0 + _ ≤ _; exact Nat.le_of_eq rfl) (by decide)
  refine Goes.step (T' := T697) (g' := (mkF m 4 #[.val (.ref y), .val (.ref x), .val .null, .unset, .unset] [])) st697 ?_
  refine P1.aloadN X697.here hx (hb hby d32_4) rfl rfl ?_
  refine Goes.callV X697 hx hZ (y := y15_) (z := y15_) hown (mvT hZ (own_w hw 165 rfl)) (mvT hZ (own_w hw 166 rfl)) (notFace_of_selects (args := #[]) (mvT hZ (own_w hw 168 rfl))) (mvT hZ (own_w hw 168 rfl)) (mvT hZ (own_w hw 167 rfl)) (by decide) (kc' := 0) (ks' := 0) (backOf (W := 0) (rmGv l Z a0 hw [] x t h0 n0 Z0 O0 Fv) hZ (own_w hw 169 rfl) (own_w hw 32 rfl) (ok rfl) (ok rfl)) (b := x) e697 Ex (g := (mkF m 5 #[.val (.ref y), .val (.ref x), .val .null, .unset, .unset] [(.ref x)])) rfl (by rw [hml]; rfl) (argsL := []) (rest := []) (lenOf pd_659 rfl) rfl (by show 2 * 0 + _ ≤ _; exact Nat.le_of_eq rfl) (hb hby d32_5) rfl (ok rfl) (ok rfl) ?_
  intro v698 T698 L698 q698 X698
  obtain ⟨rfl, N698q, hE698⟩ := q698
  have N698 := Fr.app N0 N698q
  show Goes p e below _ T698 (mkF m 8 #[.val (.ref y), .val (.ref x), .val .null, .unset, .unset] [(.ref t)])
  refine P1.astoreN X698.here hx #[.val (.ref y), .val (.ref x), .val .null, .val (.ref t), .unset] (hb hby d32_8) rfl rfl ?_
  refine P1.aloadN X698.here hx (hb hby d32_9) rfl rfl ?_
  refine Goes.callV X698 hx hZ (y := y17_) (z := y32_) hown (mvT hZ (own_w hw 170 rfl)) (mvT hZ (own_w hw 115 rfl)) (own_notFace (a0 := #[]) (mvT hZ (own_w hw 64 rfl)) rfl) (mvT hZ (own_w hw 171 rfl)) (mvT hZ (own_w hw 110 rfl)) (by decide) (kc' := 0) (ks' := 0) (backOf (W := 0) (rmSl l Z a0 hw [] x (Int32.ofNat cs.length) h0 n0 Z0 O0 Ex Fn) hZ (own_w hw 112 rfl) (own_w hw 24 rfl) (ok rfl) (ok rfl)) (b := x) hE698 Ex (g := (mkF m 10 #[.val (.ref y), .val (.ref x), .val .null, .val (.ref t), .unset] [(.ref x)])) rfl (by rw [hml]; rfl) (argsL := []) (rest := []) (lenOf pd_341 rfl) rfl (by show 2 * 0 + _ ≤ _; exact Nat.le_of_eq rfl) (hb hby d32_10) rfl (ok rfl) (ok rfl) ?_
  intro v699 T699 L699 q699 X699
  obtain ⟨rfl, N699q, hE699⟩ := q699
  have N699 := Fr.app N698 N699q
  show Goes p e below _ T699 (mkF m 13 #[.val (.ref y), .val (.ref x), .val .null, .val (.ref t), .unset] [(.int (Int32.ofNat cs.length))])
  refine P1.istore X699.here hx #[.val (.ref y), .val (.ref x), .val .null, .val (.ref t), .val (.int (Int32.ofNat cs.length))] (hb hby d32_13) rfl ?_
  refine P1.aloadN X699.here hx (hb hby d32_15) rfl rfl ?_
  refine Goes.callV X699 hx hZ (y := y16_) (z := y16_) hown (mvT hZ (own_w hw 172 rfl)) (mvT hZ (own_w hw 67 rfl)) (notFace_of_selects (args := #[]) (mvT hZ (own_w hw 69 rfl))) (mvT hZ (own_w hw 69 rfl)) (mvT hZ (own_w hw 68 rfl)) (by decide) (kc' := 0) (ks' := 0) (backOf (W := 0) (rmIl l Z a0 hw [] x zc fm fi u8 h0 n0 Z0 O0 S_CS hzc S_FM hfm S_FI hfi S_IN S_U8 Fc) hZ (own_w hw 70 rfl) (own_w hw 32 rfl) (ok rfl) (ok rfl)) (b := x) hE699 Ex (g := (mkF m 16 #[.val (.ref y), .val (.ref x), .val .null, .val (.ref t), .val (.int (Int32.ofNat cs.length))] [(.ref x)])) rfl (by rw [hml]; rfl) (argsL := []) (rest := []) (lenOf pd_392 rfl) rfl (by show 2 * 0 + _ ≤ _; exact Nat.le_of_eq rfl) (hb hby d32_16) rfl (ok rfl) (ok rfl) ?_
  intro v700 T700 L700 q700 X700
  obtain ⟨rfl, N700q, hE700⟩ := q700
  have N700 := Fr.app N699 N700q
  show Goes p e below _ T700 (mkF m 19 #[.val (.ref y), .val (.ref x), .val .null, .val (.ref t), .val (.int (Int32.ofNat cs.length))] [(.int (1 : Int32))])
  refine P1.ifNo X700.here hx (hb hby d32_19) ((if0 _ _).trans (feq (by decide : ¬ ((1 : Int32) = (0 : Int32)))).1) ?_
  refine P1.aloadN X700.here hx (hb hby d32_22) rfl rfl ?_
  refine P1.iconst X700.here hx (0 : Int32) (hb hby d32_23) rfl ?_
  obtain ⟨T701, h701, X701, e701, W701, st701⟩ := putFN X700 hx hZ hown (own_w hw 173 rfl) Via.refl hE700 Cy Ey (Or.inr ⟨(own_w hw 174 rfl), rfl, hnm⟩) (own_w hw 156 rfl) (ty := .byte) (v' := (.int (0 : Int32))) (by decide) rfl (by decide) (g := (mkF m 24 #[.val (.ref y), .val (.ref x), .val .null, .val (.ref t), .val (.int (Int32.ofNat cs.length))] [(.int (0 : Int32)), (.ref y)])) rfl rfl (hb hby d32_24)
  have Fw701 : Fld Z h701 y "java/lang/String" "coder" "B" (.int (0 : Int32)) := Cy.same W701
  have N701 := Fr.snoc X701 N700 gy
  refine Goes.step (T' := T701) (g' := (mkF m 27 #[.val (.ref y), .val (.ref x), .val .null, .val (.ref t), .val (.int (Int32.ofNat cs.length))] [])) st701 ?_
  refine P1.aloadN X701.here hx (hb hby d32_27) rfl rfl ?_
  refine P1.aloadN X701.here hx (hb hby d32_28) rfl rfl ?_
  refine P1.iconst X701.here hx (0 : Int32) (hb hby d32_29) rfl ?_
  refine P1.iload X701.here hx (hb hby d32_30) rfl ?_
  have K702 : Keep h0 h701 [y] := K0.wr W701 (Or.inl (by simp))
  have Z703 : n0 ≤ h701.size := Nat.le_trans Z0 (Keep.of_wr W701).1
  have ne704 : y ≠ t := own_ne_arv Ey (own_w hw 156 rfl) Vt
  have V705 : Arv Z h701 t kt .byte (8192 : Int32) (cs.map Value.int) (.int (0 : Int32)) := Vt.other W701 (Ne.symm ne704)
  have O706 : Old Z n0 h701 := O0.wr W701 gy
  refine Goes.callS X701 hx (y := (⟨"java/util/Arrays", "copyOfRange", "([BII)[B"⟩ : MethodName)) hown (mvT hZ (own_w hw 175 rfl)) (mvT hZ (own_w hw 176 rfl)) (mvT hZ (own_w hw 177 rfl)) (mvT hZ (own_w hw 178 rfl)) (by decide) (kc' := 1) (ks' := 8) (backOf (W := 1) (rmCr l Z a0 hw [] t kt cs (Int32.ofNat cs.length) h701 n0 Z703 O706 V705 h5 rfl) hZ (own_w hw 178 rfl) (own_w hw 177 rfl) (ok rfl) (ok rfl)) (g := (mkF m 32 #[.val (.ref y), .val (.ref x), .val .null, .val (.ref t), .val (.int (Int32.ofNat cs.length))] [(.int (Int32.ofNat cs.length)), (.int (0 : Int32)), (.ref t), (.ref y)])) rfl (by rw [hml]; rfl) (argsL := [(.ref t), (.int (0 : Int32)), (.int (Int32.ofNat cs.length))]) (rest := [(.ref y)]) (lenOf pd_2488 rfl) rfl (by show 2 * 0 + _ ≤ _; exact Nat.le_of_eq rfl) (hb hby d32_32) rfl e701 (ok rfl) (ok rfl) ?_
  intro v707 T707 L707 q707 X707
  obtain ⟨r707, kr707, rfl, N707q, K707, szr707, g707E, g707V⟩ := q707
  have ge_r707 : n0 ≤ r707 := Nat.le_trans Z703 szr707
  have sz_r707 : h0.size ≤ r707 := Nat.le_trans K702.1 szr707
  have N707 := Fr.app N701 N707q
  show Goes p e below _ T707 (mkF m 35 #[.val (.ref y), .val (.ref x), .val .null, .val (.ref t), .val (.int (Int32.ofNat cs.length))] [(.ref r707), (.ref y)])
  have F708 : Fld Z h701 y "java/lang/String" "value" "[B" .null := Vy.other W701 (Or.inr (slot_ne (Or.inr (own_w hw 191 rfl)) (Or.inr (own_w hw 174 rfl)) (by decide) (t := (.array .byte)) (t' := .byte) (by decide) (by decide)))
  have F709 : Fld Z T707.heap y "java/lang/String" "value" "[B" .null := F708.keep K707 nin0
  have E710 : Exa Z h701 y "java/lang/String" := Ey.wr W701
  have E711 : Exa Z T707.heap y "java/lang/String" := E710.keep K707
  obtain ⟨T712, h712, X712, e712, W712, st712⟩ := putF X707 hx hZ hown (host := "") (Or.inl (own_w hw 190 rfl)) Via.refl rfl F709 E711 (Or.inr ⟨(own_w hw 191 rfl), rfl, hnm⟩) (own_w hw 156 rfl) (ty := (.array .byte)) (by decide) rfl rfl (g := (mkF m 35 #[.val (.ref y), .val (.ref x), .val .null, .val (.ref t), .val (.int (Int32.ofNat cs.length))] [(.ref r707), (.ref y)])) rfl rfl (hb hby d32_35)
  have Fw712 : Fld Z h712 y "java/lang/String" "value" "[B" (.ref r707) := F709.same W712
  have N712 := Fr.snoc X712 N707 gy
  refine Goes.step (T' := T712) (g' := (mkF m 38 #[.val (.ref y), .val (.ref x), .val .null, .val (.ref t), .val (.int (Int32.ofNat cs.length))] [])) st712 ?_
  refine P1.goto X712.here hx 97 (hb hby d32_38) (by decide) (by decide) ?_
  refine Goes.retV X712 hx Bd.notSynchronized Bd.returns (hb hby d32_97) (ok rfl) (ok rfl) ?_
  rw [e712]
  have E713 : Exa Z h712 y "java/lang/String" := E711.wr W712
  have F714 : Fld Z T707.heap y "java/lang/String" "coder" "B" (.int (0 : Int32)) := Fw701.keep K707 nin0
  have F715 : Fld Z h712 y "java/lang/String" "coder" "B" (.int (0 : Int32)) := F714.other W712 (Or.inr (slot_ne (Or.inr (own_w hw 174 rfl)) (Or.inr (own_w hw 191 rfl)) (by decide) (t := .byte) (t' := (.array .byte)) (by decide) (by decide)))
  have E716 : Exa Z h712 r707 "[B" := g707E.wr W712
  have ne717 : y ≠ r707 := Nat.ne_of_lt (Nat.lt_of_lt_of_le E710.lt szr707)
  have V718 : Arv Z h712 r707 kr707 .byte (Int32.ofNat cs.length) (cs.map Value.int) (.int (0 : Int32)) := g707V.other W712 (Ne.symm ne717)
  have K719 : Keep h0 T707.heap [y] := K702.trans K707 all0
  have K720 : Keep h0 h712 [y] := K719.wr W712 (Or.inl (by simp))
  exact ⟨r707, kr707, rfl, N712, K720, sz_r707, E713, Fw712, F715, E716, V718⟩
theorem d31_0 : decode jdk_42_method_53_code 0 = .ok (.aload_n 0, 1) := by decide +kernel
theorem d31_1 : decode jdk_42_method_53_code 1 = .ok (.aload_n 1, 1) := by decide +kernel
theorem d31_2 : decode jdk_42_method_53_code 2 = .ok (.aconst_null, 1) := by decide +kernel
theorem d31_3 : decode jdk_42_method_53_code 3 = .ok (.invokespecial 489, 3) := by decide +kernel
theorem d31_6 : decode jdk_42_method_53_code 6 = .ok (.return_, 1) := by decide +kernel
theorem pd_127641 : parseMethodDescriptor "(Ljava/lang/AbstractStringBuilder;Ljava/lang/Void;)V" = some ⟨[(.object "java/lang/AbstractStringBuilder"), (.object "java/lang/Void")], none⟩ := by decide +kernel
theorem efT2 (y x : Addr) (m : MethodId) : entryFrame m #[(.ref y), (.ref x)] 2 = mkF m 0 #[.val (.ref y), .val (.ref x)] [] := by first | (simp [entryFrame, mkF, argsToLocals, Value.category]; done) | rfl
def QT2 (Z : State) (y x t : Addr) (kt : ClassId) (cs : List Int32) (zc : Int32) (fm fi : Value) (u8 : Addr) (h0 : Heap) (n0 : Nat) (v : Option Value) (h : Heap) (L : List Loc) : Prop := ∃ r kr, v = none ∧ Fr n0 L ∧ Keep h0 h [y] ∧ h0.size ≤ r ∧ Exa Z h y "java/lang/String" ∧ Fld Z h y "java/lang/String" "value" "[B" (.ref r) ∧ Fld Z h y "java/lang/String" "coder" "B" (.int (0 : Int32)) ∧ Exa Z h r "[B" ∧ Arv Z h r kr .byte (Int32.ofNat cs.length) (cs.map Value.int) (.int (0 : Int32))
set_option maxRecDepth 65536 in
set_option maxHeartbeats 40000000 in
theorem rmT2 (l : Launch) (Z : State) (a0 : Array Value) (hw : ∀ d ∈ tables_1, d.before a0 Z = true) (ws : List Jvm.Cond) (y x t : Addr) (kt : ClassId) (cs : List Int32) (zc : Int32) (fm fi : Value) (u8 : Addr) (h0 : Heap) (n0 : Nat) (Z0 : n0 ≤ h0.size) (O0 : Old Z n0 h0) (S_CS : Sta Z Z.heap "java/lang/String" "COMPACT_STRINGS" "Z" (.int zc)) (hzc : ¬ zc = 0) (S_FM : Sta Z Z.heap "jdk/internal/util/Preconditions" "SIOOBE_FORMATTER" "Ljava/util/function/BiFunction;" fm) (hfm : fm.isRef = true) (S_FI : Sta Z Z.heap "jdk/internal/util/Preconditions" "IOOBE_FORMATTER" "Ljava/util/function/BiFunction;" fi) (hfi : fi.isRef = true) (S_IN : Sta Z Z.heap "sun/nio/cs/UTF_8" "INSTANCE" "Lsun/nio/cs/UTF_8;" (.ref u8)) (S_U8 : Sta Z Z.heap "java/nio/charset/StandardCharsets" "UTF_8" "Ljava/nio/charset/Charset;" (.ref u8)) (gy : n0 ≤ y) (Ey : Exa Z h0 y "java/lang/String") (Vy : Fld Z h0 y "java/lang/String" "value" "[B" .null) (Cy : Fld Z h0 y "java/lang/String" "coder" "B" (.int (0 : Int32))) (gx : n0 ≤ x) (gt : n0 ≤ t) (Ex : Exa Z h0 x "java/lang/StringBuilder") (Fv : Fld Z h0 x "java/lang/AbstractStringBuilder" "value" "[B" (.ref t)) (Fc : Fld Z h0 x "java/lang/AbstractStringBuilder" "coder" "B" (.int (0 : Int32))) (Fn : Fld Z h0 x "java/lang/AbstractStringBuilder" "count" "I" (.int (Int32.ofNat cs.length))) (Vt : Arv Z h0 t kt .byte (8192 : Int32) (cs.map Value.int) (.int (0 : Int32))) (h1 : 1 ≤ cs.length) (h5 : cs.length ≤ 5) (hcs : ∀ c ∈ cs, Pr c) :
    OwnLaw l (⟨"java/lang/String", "<init>", "(Ljava/lang/StringBuilder;)V"⟩ : MethodName) jdk_42_method_53_code 2 none ws (rR 4 1 8 65) #[(.ref y), (.ref x)] Z h0 (QT2 Z y x t kt cs zc fm fi u8 h0 n0) := by
  refine own_enter (plainFor_of_name pn_java_lang_String) (efT2 y x) ?_
  intro p e s m below meth c s₁ Bd hx hby hml hZ hown X0 e0
  have N0 := Fr.nil n0
  have K0 : Keep h0 h0 [] := Keep.refl _ _
  obtain ⟨m0, m1, m2, m3, m4⟩ := own_n5 h5
  have K0 : Keep h0 h0 [y] := Keep.refl _ _
  refine P1.aloadN X0.here hx (hb hby d31_0) rfl rfl ?_
  refine P1.aloadN X0.here hx (hb hby d31_1) rfl rfl ?_
  refine P1.aconstNull X0.here hx (hb hby d31_2) ?_
  refine Goes.callC X0 hx (y := (⟨"java/lang/String", "<init>", "(Ljava/lang/AbstractStringBuilder;Ljava/lang/Void;)V"⟩ : MethodName)) rfl hown (mvT hZ (own_w hw 161 rfl)) (mvT hZ (own_w hw 162 rfl)) (mvT hZ (own_w hw 163 rfl)) (by decide) (kc' := 1) (ks' := 8) (backOf (W := 0) (rmT3 l Z a0 hw [] y x t kt cs zc fm fi u8 h0 n0 Z0 O0 S_CS hzc S_FM hfm S_FI hfi S_IN S_U8 gy Ey Vy Cy gx gt Ex Fv Fc Fn Vt h1 h5 hcs) hZ (own_w hw 163 rfl) (own_w hw 36 rfl) (ok rfl) (ok rfl)) (g := (mkF m 3 #[.val (.ref y), .val (.ref x)] [.null, (.ref x), (.ref y)])) (a := y) rfl (by rw [hml]; rfl) (argsL := [(.ref x), .null]) (rest := []) (lenOf pd_127641 rfl) rfl (by show 2 * 0 + _ ≤ _; exact Nat.le_of_eq rfl) (hb hby d31_3) rfl e0 (ok rfl) (ok rfl) ?_
  intro v721 T721 L721 q721 X721
  obtain ⟨r721, kr721, rfl, N721q, K721, szr721, g721S, g721v, g721c, g721E, g721V⟩ := q721
  have ge_r721 : n0 ≤ r721 := Nat.le_trans Z0 szr721
  have sz_r721 : h0.size ≤ r721 := Nat.le_trans K0.1 szr721
  have N721 := Fr.app N0 N721q
  show Goes p e below _ T721 (mkF m 6 #[.val (.ref y), .val (.ref x)] [])
  refine Goes.retV X721 hx Bd.notSynchronized Bd.returns (hb hby d31_6) (ok rfl) (ok rfl) ?_
  have K722 : Keep h0 T721.heap [y] := K0.trans K721 (allS (Or.inl (by simp)) all0)
  exact ⟨r721, kr721, rfl, N721, K722, sz_r721, g721S, g721v, g721c, g721E, g721V⟩
theorem d30_0 : decode jdk_67_method_42_code 0 = .ok (.new 18, 3) := by decide +kernel
theorem d30_3 : decode jdk_67_method_42_code 3 = .ok (.dup, 1) := by decide +kernel
theorem d30_4 : decode jdk_67_method_42_code 4 = .ok (.aload_n 0, 1) := by decide +kernel
theorem d30_5 : decode jdk_67_method_42_code 5 = .ok (.invokespecial 137, 3) := by decide +kernel
theorem d30_8 : decode jdk_67_method_42_code 8 = .ok (.areturn, 1) := by decide +kernel
theorem pd_37548 : parseMethodDescriptor "(Ljava/lang/StringBuilder;)V" = some ⟨[(.object "java/lang/StringBuilder")], none⟩ := by decide +kernel
theorem efTs (x : Addr) (m : MethodId) : entryFrame m #[(.ref x)] 1 = mkF m 0 #[.val (.ref x)] [] := by first | (simp [entryFrame, mkF, argsToLocals, Value.category]; done) | rfl
def QTs (Z : State) (x t : Addr) (kt : ClassId) (cs : List Int32) (zc : Int32) (fm fi : Value) (u8 : Addr) (h0 : Heap) (n0 : Nat) (v : Option Value) (h : Heap) (L : List Loc) : Prop := ∃ y r kr, v = some (.ref y) ∧ Fr n0 L ∧ Keep h0 h [] ∧ Exa Z h y "java/lang/String" ∧ Fld Z h y "java/lang/String" "value" "[B" (.ref r) ∧ Fld Z h y "java/lang/String" "coder" "B" (.int (0 : Int32)) ∧ Exa Z h r "[B" ∧ Arv Z h r kr .byte (Int32.ofNat cs.length) (cs.map Value.int) (.int (0 : Int32))
set_option maxRecDepth 65536 in
set_option maxHeartbeats 40000000 in
theorem rmTs (l : Launch) (Z : State) (a0 : Array Value) (hw : ∀ d ∈ tables_1, d.before a0 Z = true) (ws : List Jvm.Cond) (x t : Addr) (kt : ClassId) (cs : List Int32) (zc : Int32) (fm fi : Value) (u8 : Addr) (h0 : Heap) (n0 : Nat) (Z0 : n0 ≤ h0.size) (O0 : Old Z n0 h0) (S_CS : Sta Z Z.heap "java/lang/String" "COMPACT_STRINGS" "Z" (.int zc)) (hzc : ¬ zc = 0) (S_FM : Sta Z Z.heap "jdk/internal/util/Preconditions" "SIOOBE_FORMATTER" "Ljava/util/function/BiFunction;" fm) (hfm : fm.isRef = true) (S_FI : Sta Z Z.heap "jdk/internal/util/Preconditions" "IOOBE_FORMATTER" "Ljava/util/function/BiFunction;" fi) (hfi : fi.isRef = true) (S_IN : Sta Z Z.heap "sun/nio/cs/UTF_8" "INSTANCE" "Lsun/nio/cs/UTF_8;" (.ref u8)) (S_U8 : Sta Z Z.heap "java/nio/charset/StandardCharsets" "UTF_8" "Ljava/nio/charset/Charset;" (.ref u8)) (gx : n0 ≤ x) (gt : n0 ≤ t) (Ex : Exa Z h0 x "java/lang/StringBuilder") (Fv : Fld Z h0 x "java/lang/AbstractStringBuilder" "value" "[B" (.ref t)) (Fc : Fld Z h0 x "java/lang/AbstractStringBuilder" "coder" "B" (.int (0 : Int32))) (Fn : Fld Z h0 x "java/lang/AbstractStringBuilder" "count" "I" (.int (Int32.ofNat cs.length))) (Vt : Arv Z h0 t kt .byte (8192 : Int32) (cs.map Value.int) (.int (0 : Int32))) (h1 : 1 ≤ cs.length) (h5 : cs.length ≤ 5) (hcs : ∀ c ∈ cs, Pr c) :
    OwnLaw l y33_ jdk_67_method_42_code 1 (some (.object "java/lang/String")) ws (rR 5 2 12 79) #[(.ref x)] Z h0 (QTs Z x t kt cs zc fm fi u8 h0 n0) := by
  refine own_enter (plainFor_of_name pn_java_lang_StringBuilder) (efTs x) ?_
  intro p e s m below meth c s₁ Bd hx hby hml hZ hown X0 e0
  have N0 := Fr.nil n0
  have K0 : Keep h0 h0 [] := Keep.refl _ _
  obtain ⟨m0, m1, m2, m3, m4⟩ := own_n5 h5
  obtain ⟨T723, h723, X723, e723, E723, A723, D723, -, st723⟩ := newO X0 hx hZ hown (own_w hw 155 rfl) (own_w hw 156 rfl) (own_w hw 36 rfl) e0 (g := (mkF m 0 #[.val (.ref x)] [])) rfl (hb hby d30_0) (ok rfl) (ok rfl)
  obtain ⟨b723, g723⟩ : ∃ z, z = h0.size := ⟨_, rfl⟩
  rw [← g723] at A723 D723 st723
  have ge_b723 : n0 ≤ b723 := Nat.le_trans Z0 (Nat.le_of_eq g723.symm)
  have sz_b723 : h0.size ≤ b723 := Nat.le_trans K0.1 (Nat.le_of_eq g723.symm)
  have F723_coder : Fld Z h723 b723 "java/lang/String" "coder" "B" (.int (0 : Int32)) := D723 (Or.inr (own_w hw 174 rfl)) (ty := .byte) (by decide)
  have F723_value : Fld Z h723 b723 "java/lang/String" "value" "[B" .null := D723 (Or.inr (own_w hw 191 rfl)) (ty := (.array .byte)) (by decide)
  refine Goes.step (T' := T723) (g' := (mkF m 3 #[.val (.ref x)] [(.ref b723)])) st723 ?_
  refine P1.dup X723.here hx (hb hby d30_3) rfl ?_
  refine P1.aloadN X723.here hx (hb hby d30_4) rfl rfl ?_
  have E724 : Exa Z h723 x "java/lang/StringBuilder" := Ex.ext E723
  have F725 : Fld Z h723 x "java/lang/AbstractStringBuilder" "value" "[B" (.ref t) := Fv.ext E723
  have F726 : Fld Z h723 x "java/lang/AbstractStringBuilder" "coder" "B" (.int (0 : Int32)) := Fc.ext E723
  have F727 : Fld Z h723 x "java/lang/AbstractStringBuilder" "count" "I" (.int (Int32.ofNat cs.length)) := Fn.ext E723
  have V728 : Arv Z h723 t kt .byte (8192 : Int32) (cs.map Value.int) (.int (0 : Int32)) := Vt.ext E723
  have K729 : Keep h0 h723 [] := K0.ext E723
  have Z730 : n0 ≤ h723.size := Nat.le_trans Z0 E723.1
  have O731 : Old Z n0 h723 := O0.ext E723
  refine Goes.callC X723 hx (y := (⟨"java/lang/String", "<init>", "(Ljava/lang/StringBuilder;)V"⟩ : MethodName)) rfl hown (mvT hZ (own_w hw 157 rfl)) (mvT hZ (own_w hw 158 rfl)) (mvT hZ (own_w hw 160 rfl)) (by decide) (kc' := 1) (ks' := 8) (backOf (W := 1) (rmT2 l Z a0 hw [] b723 x t kt cs zc fm fi u8 h723 n0 Z730 O731 S_CS hzc S_FM hfm S_FI hfi S_IN S_U8 ge_b723 A723 F723_value F723_coder gx gt E724 F725 F726 F727 V728 h1 h5 hcs) hZ (own_w hw 160 rfl) (own_w hw 36 rfl) (ok rfl) (ok rfl)) (g := (mkF m 5 #[.val (.ref x)] [(.ref x), (.ref b723), (.ref b723)])) (a := b723) rfl (by rw [hml]; rfl) (argsL := [(.ref x)]) (rest := [(.ref b723)]) (lenOf pd_37548 rfl) rfl (by show 2 * 0 + _ ≤ _; exact Nat.le_of_eq rfl) (hb hby d30_5) rfl e723 (ok rfl) (ok rfl) ?_
  intro v732 T732 L732 q732 X732
  obtain ⟨r732, kr732, rfl, N732q, K732, szr732, g732S, g732v, g732c, g732E, g732V⟩ := q732
  have ge_r732 : n0 ≤ r732 := Nat.le_trans Z730 szr732
  have sz_r732 : h0.size ≤ r732 := Nat.le_trans K729.1 szr732
  have N732 := Fr.app N0 N732q
  show Goes p e below _ T732 (mkF m 8 #[.val (.ref x)] [(.ref b723)])
  refine Goes.retA X732 hx Bd.notSynchronized Bd.returns rfl rfl (hb hby d30_8) (ok rfl) (ok rfl) ?_
  have K733 : Keep h0 T732.heap [] := K729.trans K732 (allS (Or.inr sz_b723) all0)
  exact ⟨b723, r732, kr732, rfl, N732, K733, g732S, g732v, g732c, g732E, g732V⟩
theorem d42_0 : decode jdk_123_method_3_code 0 = .ok (.iload_n 1, 1) := by decide +kernel
theorem d42_1 : decode jdk_123_method_3_code 1 = .ok (.iload_n 2, 1) := by decide +kernel
theorem d42_2 : decode jdk_123_method_3_code 2 = .ok (.iadd, 1) := by decide +kernel
theorem d42_3 : decode jdk_123_method_3_code 3 = .ok (.istore_n 3, 1) := by decide +kernel
theorem d42_4 : decode jdk_123_method_3_code 4 = .ok (.iload_n 1, 1) := by decide +kernel
theorem d42_5 : decode jdk_123_method_3_code 5 = .ok (.istore 4, 2) := by decide +kernel
theorem d42_7 : decode jdk_123_method_3_code 7 = .ok (.iload 4, 2) := by decide +kernel
theorem d42_9 : decode jdk_123_method_3_code 9 = .ok (.iload_n 3, 1) := by decide +kernel
theorem d42_10 : decode jdk_123_method_3_code 10 = .ok (.if_icmp .ge 21, 3) := by decide +kernel
theorem d42_13 : decode jdk_123_method_3_code 13 = .ok (.aload_n 0, 1) := by decide +kernel
theorem d42_14 : decode jdk_123_method_3_code 14 = .ok (.iload 4, 2) := by decide +kernel
theorem d42_16 : decode jdk_123_method_3_code 16 = .ok (.baload, 1) := by decide +kernel
theorem d42_17 : decode jdk_123_method_3_code 17 = .ok (.ifCond .ge 8, 3) := by decide +kernel
theorem d42_20 : decode jdk_123_method_3_code 20 = .ok (.iload 4, 2) := by decide +kernel
theorem d42_22 : decode jdk_123_method_3_code 22 = .ok (.iload_n 1, 1) := by decide +kernel
theorem d42_23 : decode jdk_123_method_3_code 23 = .ok (.isub, 1) := by decide +kernel
theorem d42_24 : decode jdk_123_method_3_code 24 = .ok (.ireturn, 1) := by decide +kernel
theorem d42_25 : decode jdk_123_method_3_code 25 = .ok (.iinc 4 1, 3) := by decide +kernel
theorem d42_28 : decode jdk_123_method_3_code 28 = .ok (.goto (-21), 3) := by decide +kernel
theorem d42_31 : decode jdk_123_method_3_code 31 = .ok (.iload_n 2, 1) := by decide +kernel
theorem d42_32 : decode jdk_123_method_3_code 32 = .ok (.ireturn, 1) := by decide +kernel
theorem pn_java_lang_StringCoding : plainName "java/lang/StringCoding" = true := by first | (simp [plainName, overriddenIn]; done) | decide +kernel
theorem efKp_5 (r : Addr) (m : MethodId) : entryFrame m #[(.ref r), (.int (0 : Int32)), (.int (5 : Int32))] 5 = mkF m 0 #[.val (.ref r), .val (.int (0 : Int32)), .val (.int (5 : Int32)), .unset, .unset] [] := by first | (simp [entryFrame, mkF, argsToLocals, Value.category]; done) | rfl
def QKp_5 (Z : State) (r : Addr) (kr : ClassId) (d0 d1 d2 d3 d4 : Int32) (h0 : Heap) (n0 : Nat) (v : Option Value) (h : Heap) (L : List Loc) : Prop := v = some (.int (5 : Int32)) ∧ Fr n0 L ∧ h = h0
set_option maxRecDepth 65536 in
set_option maxHeartbeats 40000000 in
theorem rmKp_5 (l : Launch) (Z : State) (a0 : Array Value) (hw : ∀ d ∈ tables_1, d.before a0 Z = true) (ws : List Jvm.Cond) (r : Addr) (kr : ClassId) (d0 d1 d2 d3 d4 : Int32) (h0 : Heap) (n0 : Nat) (Z0 : n0 ≤ h0.size) (O0 : Old Z n0 h0) (Vr : Arv Z h0 r kr .byte (5 : Int32) [(.int d0), (.int d1), (.int d2), (.int d3), (.int d4)] (.int (0 : Int32))) (h_d0 : Pr d0) (h_d1 : Pr d1) (h_d2 : Pr d2) (h_d3 : Pr d3) (h_d4 : Pr d4) :
    OwnLaw l y34_ jdk_123_method_3_code 5 (some .int) ws (rR 0 0 0 0) #[(.ref r), (.int (0 : Int32)), (.int (5 : Int32))] Z h0 (QKp_5 Z r kr d0 d1 d2 d3 d4 h0 n0) := by
  refine own_enter (plainFor_of_name pn_java_lang_StringCoding) (efKp_5 r) ?_
  intro p e s m below meth c s₁ Bd hx hby hml hZ hown X0 e0
  have N0 := Fr.nil n0
  have K0 : Keep h0 h0 [] := Keep.refl _ _
  refine P1.iloadN X0.here hx (hb hby d42_0) rfl ?_
  refine P1.iloadN X0.here hx (hb hby d42_1) rfl ?_
  refine P1.iadd X0.here hx (hb hby d42_2) ?_
  have rw734 : ((0 : Int32) + (5 : Int32)) = (5 : Int32) := by decide
  rw [rw734]
  refine P1.istoreN X0.here hx #[.val (.ref r), .val (.int (0 : Int32)), .val (.int (5 : Int32)), .val (.int (5 : Int32)), .unset] (hb hby d42_3) rfl ?_
  refine P1.iloadN X0.here hx (hb hby d42_4) rfl ?_
  refine P1.istore X0.here hx #[.val (.ref r), .val (.int (0 : Int32)), .val (.int (5 : Int32)), .val (.int (5 : Int32)), .val (.int (0 : Int32))] (hb hby d42_5) rfl ?_
  refine P1.iload X0.here hx (hb hby d42_7) rfl ?_
  refine P1.iloadN X0.here hx (hb hby d42_9) rfl ?_
  refine P1.icmpNo X0.here hx (hb hby d42_10) (tlt (by decide : (0 : Int32) < (5 : Int32))).2.1 ?_
  refine P1.aloadN X0.here hx (hb hby d42_13) rfl rfl ?_
  refine P1.iload X0.here hx (hb hby d42_14) rfl ?_
  obtain ⟨cl735, Ar735, qk735, sl735, nz735, ha735, fi735⟩ := id Vr
  have i736 := inb_of (j := (0 : Int32)) sl735 ⟨by decide, by decide⟩
  refine Goes.step (T' := s₁) (g' := (mkF m 17 #[.val (.ref r), .val (.int (0 : Int32)), .val (.int (5 : Int32)), .val (.int (5 : Int32)), .val (.int (0 : Int32))] [(.int d0)])) (fun t_ k_ => X0.baloadBytes hx (j := (0 : Int32)) (v := (.int d0)) (by rw [e0]; exact Ar735.1) (State.isArrayOf_alike hZ.alike Ar735.2.1) Ar735.2.2 i736 (Has.at ha735 i736 rfl) (g := (mkF m 16 #[.val (.ref r), .val (.int (0 : Int32)), .val (.int (5 : Int32)), .val (.int (5 : Int32)), .val (.int (0 : Int32))] [(.int (0 : Int32)), (.ref r)])) rfl rfl (hb hby d42_16) _ k_) ?_
  refine P1.ifYes X0.here hx 25 (hb hby d42_17) ((if0 _ _).trans (flt (h_d0.nn : ¬ (d0 < (0 : Int32)))).2.1) (by decide) (by decide) ?_
  refine Goes.step (T' := s₁) (g' := (mkF m 28 #[.val (.ref r), .val (.int (0 : Int32)), .val (.int (5 : Int32)), .val (.int (5 : Int32)), .val (.int ((0 : Int32) + (1 : Int32)))] [])) (fun t_ k_ => XS.iinc X0.here hx rfl (hb hby d42_25) rfl (l' := #[.val (.ref r), .val (.int (0 : Int32)), .val (.int (5 : Int32)), .val (.int (5 : Int32)), .val (.int ((0 : Int32) + (1 : Int32)))]) rfl k_) ?_
  have rw737 : ((0 : Int32) + (1 : Int32)) = (1 : Int32) := by decide
  rw [rw737]
  refine P1.goto X0.here hx 7 (hb hby d42_28) (by decide) (by decide) ?_
  refine P1.iload X0.here hx (hb hby d42_7) rfl ?_
  refine P1.iloadN X0.here hx (hb hby d42_9) rfl ?_
  refine P1.icmpNo X0.here hx (hb hby d42_10) (tlt (by decide : (1 : Int32) < (5 : Int32))).2.1 ?_
  refine P1.aloadN X0.here hx (hb hby d42_13) rfl rfl ?_
  refine P1.iload X0.here hx (hb hby d42_14) rfl ?_
  obtain ⟨cl738, Ar738, qk738, sl738, nz738, ha738, fi738⟩ := id Vr
  have i739 := inb_of (j := (1 : Int32)) sl738 ⟨by decide, by decide⟩
  refine Goes.step (T' := s₁) (g' := (mkF m 17 #[.val (.ref r), .val (.int (0 : Int32)), .val (.int (5 : Int32)), .val (.int (5 : Int32)), .val (.int (1 : Int32))] [(.int d1)])) (fun t_ k_ => X0.baloadBytes hx (j := (1 : Int32)) (v := (.int d1)) (by rw [e0]; exact Ar738.1) (State.isArrayOf_alike hZ.alike Ar738.2.1) Ar738.2.2 i739 (Has.at ha738 i739 rfl) (g := (mkF m 16 #[.val (.ref r), .val (.int (0 : Int32)), .val (.int (5 : Int32)), .val (.int (5 : Int32)), .val (.int (1 : Int32))] [(.int (1 : Int32)), (.ref r)])) rfl rfl (hb hby d42_16) _ k_) ?_
  refine P1.ifYes X0.here hx 25 (hb hby d42_17) ((if0 _ _).trans (flt (h_d1.nn : ¬ (d1 < (0 : Int32)))).2.1) (by decide) (by decide) ?_
  refine Goes.step (T' := s₁) (g' := (mkF m 28 #[.val (.ref r), .val (.int (0 : Int32)), .val (.int (5 : Int32)), .val (.int (5 : Int32)), .val (.int ((1 : Int32) + (1 : Int32)))] [])) (fun t_ k_ => XS.iinc X0.here hx rfl (hb hby d42_25) rfl (l' := #[.val (.ref r), .val (.int (0 : Int32)), .val (.int (5 : Int32)), .val (.int (5 : Int32)), .val (.int ((1 : Int32) + (1 : Int32)))]) rfl k_) ?_
  have rw740 : ((1 : Int32) + (1 : Int32)) = (2 : Int32) := by decide
  rw [rw740]
  refine P1.goto X0.here hx 7 (hb hby d42_28) (by decide) (by decide) ?_
  refine P1.iload X0.here hx (hb hby d42_7) rfl ?_
  refine P1.iloadN X0.here hx (hb hby d42_9) rfl ?_
  refine P1.icmpNo X0.here hx (hb hby d42_10) (tlt (by decide : (2 : Int32) < (5 : Int32))).2.1 ?_
  refine P1.aloadN X0.here hx (hb hby d42_13) rfl rfl ?_
  refine P1.iload X0.here hx (hb hby d42_14) rfl ?_
  obtain ⟨cl741, Ar741, qk741, sl741, nz741, ha741, fi741⟩ := id Vr
  have i742 := inb_of (j := (2 : Int32)) sl741 ⟨by decide, by decide⟩
  refine Goes.step (T' := s₁) (g' := (mkF m 17 #[.val (.ref r), .val (.int (0 : Int32)), .val (.int (5 : Int32)), .val (.int (5 : Int32)), .val (.int (2 : Int32))] [(.int d2)])) (fun t_ k_ => X0.baloadBytes hx (j := (2 : Int32)) (v := (.int d2)) (by rw [e0]; exact Ar741.1) (State.isArrayOf_alike hZ.alike Ar741.2.1) Ar741.2.2 i742 (Has.at ha741 i742 rfl) (g := (mkF m 16 #[.val (.ref r), .val (.int (0 : Int32)), .val (.int (5 : Int32)), .val (.int (5 : Int32)), .val (.int (2 : Int32))] [(.int (2 : Int32)), (.ref r)])) rfl rfl (hb hby d42_16) _ k_) ?_
  refine P1.ifYes X0.here hx 25 (hb hby d42_17) ((if0 _ _).trans (flt (h_d2.nn : ¬ (d2 < (0 : Int32)))).2.1) (by decide) (by decide) ?_
  refine Goes.step (T' := s₁) (g' := (mkF m 28 #[.val (.ref r), .val (.int (0 : Int32)), .val (.int (5 : Int32)), .val (.int (5 : Int32)), .val (.int ((2 : Int32) + (1 : Int32)))] [])) (fun t_ k_ => XS.iinc X0.here hx rfl (hb hby d42_25) rfl (l' := #[.val (.ref r), .val (.int (0 : Int32)), .val (.int (5 : Int32)), .val (.int (5 : Int32)), .val (.int ((2 : Int32) + (1 : Int32)))]) rfl k_) ?_
  have rw743 : ((2 : Int32) + (1 : Int32)) = (3 : Int32) := by decide
  rw [rw743]
  refine P1.goto X0.here hx 7 (hb hby d42_28) (by decide) (by decide) ?_
  refine P1.iload X0.here hx (hb hby d42_7) rfl ?_
  refine P1.iloadN X0.here hx (hb hby d42_9) rfl ?_
  refine P1.icmpNo X0.here hx (hb hby d42_10) (tlt (by decide : (3 : Int32) < (5 : Int32))).2.1 ?_
  refine P1.aloadN X0.here hx (hb hby d42_13) rfl rfl ?_
  refine P1.iload X0.here hx (hb hby d42_14) rfl ?_
  obtain ⟨cl744, Ar744, qk744, sl744, nz744, ha744, fi744⟩ := id Vr
  have i745 := inb_of (j := (3 : Int32)) sl744 ⟨by decide, by decide⟩
  refine Goes.step (T' := s₁) (g' := (mkF m 17 #[.val (.ref r), .val (.int (0 : Int32)), .val (.int (5 : Int32)), .val (.int (5 : Int32)), .val (.int (3 : Int32))] [(.int d3)])) (fun t_ k_ => X0.baloadBytes hx (j := (3 : Int32)) (v := (.int d3)) (by rw [e0]; exact Ar744.1) (State.isArrayOf_alike hZ.alike Ar744.2.1) Ar744.2.2 i745 (Has.at ha744 i745 rfl) (g := (mkF m 16 #[.val (.ref r), .val (.int (0 : Int32)), .val (.int (5 : Int32)), .val (.int (5 : Int32)), .val (.int (3 : Int32))] [(.int (3 : Int32)), (.ref r)])) rfl rfl (hb hby d42_16) _ k_) ?_
  refine P1.ifYes X0.here hx 25 (hb hby d42_17) ((if0 _ _).trans (flt (h_d3.nn : ¬ (d3 < (0 : Int32)))).2.1) (by decide) (by decide) ?_
  refine Goes.step (T' := s₁) (g' := (mkF m 28 #[.val (.ref r), .val (.int (0 : Int32)), .val (.int (5 : Int32)), .val (.int (5 : Int32)), .val (.int ((3 : Int32) + (1 : Int32)))] [])) (fun t_ k_ => XS.iinc X0.here hx rfl (hb hby d42_25) rfl (l' := #[.val (.ref r), .val (.int (0 : Int32)), .val (.int (5 : Int32)), .val (.int (5 : Int32)), .val (.int ((3 : Int32) + (1 : Int32)))]) rfl k_) ?_
  have rw746 : ((3 : Int32) + (1 : Int32)) = (4 : Int32) := by decide
  rw [rw746]
  refine P1.goto X0.here hx 7 (hb hby d42_28) (by decide) (by decide) ?_
  refine P1.iload X0.here hx (hb hby d42_7) rfl ?_
  refine P1.iloadN X0.here hx (hb hby d42_9) rfl ?_
  refine P1.icmpNo X0.here hx (hb hby d42_10) (tlt (by decide : (4 : Int32) < (5 : Int32))).2.1 ?_
  refine P1.aloadN X0.here hx (hb hby d42_13) rfl rfl ?_
  refine P1.iload X0.here hx (hb hby d42_14) rfl ?_
  obtain ⟨cl747, Ar747, qk747, sl747, nz747, ha747, fi747⟩ := id Vr
  have i748 := inb_of (j := (4 : Int32)) sl747 ⟨by decide, by decide⟩
  refine Goes.step (T' := s₁) (g' := (mkF m 17 #[.val (.ref r), .val (.int (0 : Int32)), .val (.int (5 : Int32)), .val (.int (5 : Int32)), .val (.int (4 : Int32))] [(.int d4)])) (fun t_ k_ => X0.baloadBytes hx (j := (4 : Int32)) (v := (.int d4)) (by rw [e0]; exact Ar747.1) (State.isArrayOf_alike hZ.alike Ar747.2.1) Ar747.2.2 i748 (Has.at ha747 i748 rfl) (g := (mkF m 16 #[.val (.ref r), .val (.int (0 : Int32)), .val (.int (5 : Int32)), .val (.int (5 : Int32)), .val (.int (4 : Int32))] [(.int (4 : Int32)), (.ref r)])) rfl rfl (hb hby d42_16) _ k_) ?_
  refine P1.ifYes X0.here hx 25 (hb hby d42_17) ((if0 _ _).trans (flt (h_d4.nn : ¬ (d4 < (0 : Int32)))).2.1) (by decide) (by decide) ?_
  refine Goes.step (T' := s₁) (g' := (mkF m 28 #[.val (.ref r), .val (.int (0 : Int32)), .val (.int (5 : Int32)), .val (.int (5 : Int32)), .val (.int ((4 : Int32) + (1 : Int32)))] [])) (fun t_ k_ => XS.iinc X0.here hx rfl (hb hby d42_25) rfl (l' := #[.val (.ref r), .val (.int (0 : Int32)), .val (.int (5 : Int32)), .val (.int (5 : Int32)), .val (.int ((4 : Int32) + (1 : Int32)))]) rfl k_) ?_
  have rw749 : ((4 : Int32) + (1 : Int32)) = (5 : Int32) := by decide
  rw [rw749]
  refine P1.goto X0.here hx 7 (hb hby d42_28) (by decide) (by decide) ?_
  refine P1.iload X0.here hx (hb hby d42_7) rfl ?_
  refine P1.iloadN X0.here hx (hb hby d42_9) rfl ?_
  refine P1.icmpYes X0.here hx 31 (hb hby d42_10) (flt (by decide : ¬ ((5 : Int32) < (5 : Int32)))).2.1 (by decide) (by decide) ?_
  refine P1.iloadN X0.here hx (hb hby d42_31) rfl ?_
  refine Goes.retI X0 hx Bd.notSynchronized Bd.returns (hb hby d42_32) (ok rfl) (ok rfl) ?_
  rw [e0]
  exact ⟨rfl, N0, rfl⟩
theorem efKp_4 (r : Addr) (m : MethodId) : entryFrame m #[(.ref r), (.int (0 : Int32)), (.int (4 : Int32))] 5 = mkF m 0 #[.val (.ref r), .val (.int (0 : Int32)), .val (.int (4 : Int32)), .unset, .unset] [] := by first | (simp [entryFrame, mkF, argsToLocals, Value.category]; done) | rfl
def QKp_4 (Z : State) (r : Addr) (kr : ClassId) (d0 d1 d2 d3 : Int32) (h0 : Heap) (n0 : Nat) (v : Option Value) (h : Heap) (L : List Loc) : Prop := v = some (.int (4 : Int32)) ∧ Fr n0 L ∧ h = h0
set_option maxRecDepth 65536 in
set_option maxHeartbeats 40000000 in
theorem rmKp_4 (l : Launch) (Z : State) (a0 : Array Value) (hw : ∀ d ∈ tables_1, d.before a0 Z = true) (ws : List Jvm.Cond) (r : Addr) (kr : ClassId) (d0 d1 d2 d3 : Int32) (h0 : Heap) (n0 : Nat) (Z0 : n0 ≤ h0.size) (O0 : Old Z n0 h0) (Vr : Arv Z h0 r kr .byte (4 : Int32) [(.int d0), (.int d1), (.int d2), (.int d3)] (.int (0 : Int32))) (h_d0 : Pr d0) (h_d1 : Pr d1) (h_d2 : Pr d2) (h_d3 : Pr d3) :
    OwnLaw l y34_ jdk_123_method_3_code 5 (some .int) ws (rR 0 0 0 0) #[(.ref r), (.int (0 : Int32)), (.int (4 : Int32))] Z h0 (QKp_4 Z r kr d0 d1 d2 d3 h0 n0) := by
  refine own_enter (plainFor_of_name pn_java_lang_StringCoding) (efKp_4 r) ?_
  intro p e s m below meth c s₁ Bd hx hby hml hZ hown X0 e0
  have N0 := Fr.nil n0
  have K0 : Keep h0 h0 [] := Keep.refl _ _
  refine P1.iloadN X0.here hx (hb hby d42_0) rfl ?_
  refine P1.iloadN X0.here hx (hb hby d42_1) rfl ?_
  refine P1.iadd X0.here hx (hb hby d42_2) ?_
  have rw750 : ((0 : Int32) + (4 : Int32)) = (4 : Int32) := by decide
  rw [rw750]
  refine P1.istoreN X0.here hx #[.val (.ref r), .val (.int (0 : Int32)), .val (.int (4 : Int32)), .val (.int (4 : Int32)), .unset] (hb hby d42_3) rfl ?_
  refine P1.iloadN X0.here hx (hb hby d42_4) rfl ?_
  refine P1.istore X0.here hx #[.val (.ref r), .val (.int (0 : Int32)), .val (.int (4 : Int32)), .val (.int (4 : Int32)), .val (.int (0 : Int32))] (hb hby d42_5) rfl ?_
  refine P1.iload X0.here hx (hb hby d42_7) rfl ?_
  refine P1.iloadN X0.here hx (hb hby d42_9) rfl ?_
  refine P1.icmpNo X0.here hx (hb hby d42_10) (tlt (by decide : (0 : Int32) < (4 : Int32))).2.1 ?_
  refine P1.aloadN X0.here hx (hb hby d42_13) rfl rfl ?_
  refine P1.iload X0.here hx (hb hby d42_14) rfl ?_
  obtain ⟨cl751, Ar751, qk751, sl751, nz751, ha751, fi751⟩ := id Vr
  have i752 := inb_of (j := (0 : Int32)) sl751 ⟨by decide, by decide⟩
  refine Goes.step (T' := s₁) (g' := (mkF m 17 #[.val (.ref r), .val (.int (0 : Int32)), .val (.int (4 : Int32)), .val (.int (4 : Int32)), .val (.int (0 : Int32))] [(.int d0)])) (fun t_ k_ => X0.baloadBytes hx (j := (0 : Int32)) (v := (.int d0)) (by rw [e0]; exact Ar751.1) (State.isArrayOf_alike hZ.alike Ar751.2.1) Ar751.2.2 i752 (Has.at ha751 i752 rfl) (g := (mkF m 16 #[.val (.ref r), .val (.int (0 : Int32)), .val (.int (4 : Int32)), .val (.int (4 : Int32)), .val (.int (0 : Int32))] [(.int (0 : Int32)), (.ref r)])) rfl rfl (hb hby d42_16) _ k_) ?_
  refine P1.ifYes X0.here hx 25 (hb hby d42_17) ((if0 _ _).trans (flt (h_d0.nn : ¬ (d0 < (0 : Int32)))).2.1) (by decide) (by decide) ?_
  refine Goes.step (T' := s₁) (g' := (mkF m 28 #[.val (.ref r), .val (.int (0 : Int32)), .val (.int (4 : Int32)), .val (.int (4 : Int32)), .val (.int ((0 : Int32) + (1 : Int32)))] [])) (fun t_ k_ => XS.iinc X0.here hx rfl (hb hby d42_25) rfl (l' := #[.val (.ref r), .val (.int (0 : Int32)), .val (.int (4 : Int32)), .val (.int (4 : Int32)), .val (.int ((0 : Int32) + (1 : Int32)))]) rfl k_) ?_
  have rw753 : ((0 : Int32) + (1 : Int32)) = (1 : Int32) := by decide
  rw [rw753]
  refine P1.goto X0.here hx 7 (hb hby d42_28) (by decide) (by decide) ?_
  refine P1.iload X0.here hx (hb hby d42_7) rfl ?_
  refine P1.iloadN X0.here hx (hb hby d42_9) rfl ?_
  refine P1.icmpNo X0.here hx (hb hby d42_10) (tlt (by decide : (1 : Int32) < (4 : Int32))).2.1 ?_
  refine P1.aloadN X0.here hx (hb hby d42_13) rfl rfl ?_
  refine P1.iload X0.here hx (hb hby d42_14) rfl ?_
  obtain ⟨cl754, Ar754, qk754, sl754, nz754, ha754, fi754⟩ := id Vr
  have i755 := inb_of (j := (1 : Int32)) sl754 ⟨by decide, by decide⟩
  refine Goes.step (T' := s₁) (g' := (mkF m 17 #[.val (.ref r), .val (.int (0 : Int32)), .val (.int (4 : Int32)), .val (.int (4 : Int32)), .val (.int (1 : Int32))] [(.int d1)])) (fun t_ k_ => X0.baloadBytes hx (j := (1 : Int32)) (v := (.int d1)) (by rw [e0]; exact Ar754.1) (State.isArrayOf_alike hZ.alike Ar754.2.1) Ar754.2.2 i755 (Has.at ha754 i755 rfl) (g := (mkF m 16 #[.val (.ref r), .val (.int (0 : Int32)), .val (.int (4 : Int32)), .val (.int (4 : Int32)), .val (.int (1 : Int32))] [(.int (1 : Int32)), (.ref r)])) rfl rfl (hb hby d42_16) _ k_) ?_
  refine P1.ifYes X0.here hx 25 (hb hby d42_17) ((if0 _ _).trans (flt (h_d1.nn : ¬ (d1 < (0 : Int32)))).2.1) (by decide) (by decide) ?_
  refine Goes.step (T' := s₁) (g' := (mkF m 28 #[.val (.ref r), .val (.int (0 : Int32)), .val (.int (4 : Int32)), .val (.int (4 : Int32)), .val (.int ((1 : Int32) + (1 : Int32)))] [])) (fun t_ k_ => XS.iinc X0.here hx rfl (hb hby d42_25) rfl (l' := #[.val (.ref r), .val (.int (0 : Int32)), .val (.int (4 : Int32)), .val (.int (4 : Int32)), .val (.int ((1 : Int32) + (1 : Int32)))]) rfl k_) ?_
  have rw756 : ((1 : Int32) + (1 : Int32)) = (2 : Int32) := by decide
  rw [rw756]
  refine P1.goto X0.here hx 7 (hb hby d42_28) (by decide) (by decide) ?_
  refine P1.iload X0.here hx (hb hby d42_7) rfl ?_
  refine P1.iloadN X0.here hx (hb hby d42_9) rfl ?_
  refine P1.icmpNo X0.here hx (hb hby d42_10) (tlt (by decide : (2 : Int32) < (4 : Int32))).2.1 ?_
  refine P1.aloadN X0.here hx (hb hby d42_13) rfl rfl ?_
  refine P1.iload X0.here hx (hb hby d42_14) rfl ?_
  obtain ⟨cl757, Ar757, qk757, sl757, nz757, ha757, fi757⟩ := id Vr
  have i758 := inb_of (j := (2 : Int32)) sl757 ⟨by decide, by decide⟩
  refine Goes.step (T' := s₁) (g' := (mkF m 17 #[.val (.ref r), .val (.int (0 : Int32)), .val (.int (4 : Int32)), .val (.int (4 : Int32)), .val (.int (2 : Int32))] [(.int d2)])) (fun t_ k_ => X0.baloadBytes hx (j := (2 : Int32)) (v := (.int d2)) (by rw [e0]; exact Ar757.1) (State.isArrayOf_alike hZ.alike Ar757.2.1) Ar757.2.2 i758 (Has.at ha757 i758 rfl) (g := (mkF m 16 #[.val (.ref r), .val (.int (0 : Int32)), .val (.int (4 : Int32)), .val (.int (4 : Int32)), .val (.int (2 : Int32))] [(.int (2 : Int32)), (.ref r)])) rfl rfl (hb hby d42_16) _ k_) ?_
  refine P1.ifYes X0.here hx 25 (hb hby d42_17) ((if0 _ _).trans (flt (h_d2.nn : ¬ (d2 < (0 : Int32)))).2.1) (by decide) (by decide) ?_
  refine Goes.step (T' := s₁) (g' := (mkF m 28 #[.val (.ref r), .val (.int (0 : Int32)), .val (.int (4 : Int32)), .val (.int (4 : Int32)), .val (.int ((2 : Int32) + (1 : Int32)))] [])) (fun t_ k_ => XS.iinc X0.here hx rfl (hb hby d42_25) rfl (l' := #[.val (.ref r), .val (.int (0 : Int32)), .val (.int (4 : Int32)), .val (.int (4 : Int32)), .val (.int ((2 : Int32) + (1 : Int32)))]) rfl k_) ?_
  have rw759 : ((2 : Int32) + (1 : Int32)) = (3 : Int32) := by decide
  rw [rw759]
  refine P1.goto X0.here hx 7 (hb hby d42_28) (by decide) (by decide) ?_
  refine P1.iload X0.here hx (hb hby d42_7) rfl ?_
  refine P1.iloadN X0.here hx (hb hby d42_9) rfl ?_
  refine P1.icmpNo X0.here hx (hb hby d42_10) (tlt (by decide : (3 : Int32) < (4 : Int32))).2.1 ?_
  refine P1.aloadN X0.here hx (hb hby d42_13) rfl rfl ?_
  refine P1.iload X0.here hx (hb hby d42_14) rfl ?_
  obtain ⟨cl760, Ar760, qk760, sl760, nz760, ha760, fi760⟩ := id Vr
  have i761 := inb_of (j := (3 : Int32)) sl760 ⟨by decide, by decide⟩
  refine Goes.step (T' := s₁) (g' := (mkF m 17 #[.val (.ref r), .val (.int (0 : Int32)), .val (.int (4 : Int32)), .val (.int (4 : Int32)), .val (.int (3 : Int32))] [(.int d3)])) (fun t_ k_ => X0.baloadBytes hx (j := (3 : Int32)) (v := (.int d3)) (by rw [e0]; exact Ar760.1) (State.isArrayOf_alike hZ.alike Ar760.2.1) Ar760.2.2 i761 (Has.at ha760 i761 rfl) (g := (mkF m 16 #[.val (.ref r), .val (.int (0 : Int32)), .val (.int (4 : Int32)), .val (.int (4 : Int32)), .val (.int (3 : Int32))] [(.int (3 : Int32)), (.ref r)])) rfl rfl (hb hby d42_16) _ k_) ?_
  refine P1.ifYes X0.here hx 25 (hb hby d42_17) ((if0 _ _).trans (flt (h_d3.nn : ¬ (d3 < (0 : Int32)))).2.1) (by decide) (by decide) ?_
  refine Goes.step (T' := s₁) (g' := (mkF m 28 #[.val (.ref r), .val (.int (0 : Int32)), .val (.int (4 : Int32)), .val (.int (4 : Int32)), .val (.int ((3 : Int32) + (1 : Int32)))] [])) (fun t_ k_ => XS.iinc X0.here hx rfl (hb hby d42_25) rfl (l' := #[.val (.ref r), .val (.int (0 : Int32)), .val (.int (4 : Int32)), .val (.int (4 : Int32)), .val (.int ((3 : Int32) + (1 : Int32)))]) rfl k_) ?_
  have rw762 : ((3 : Int32) + (1 : Int32)) = (4 : Int32) := by decide
  rw [rw762]
  refine P1.goto X0.here hx 7 (hb hby d42_28) (by decide) (by decide) ?_
  refine P1.iload X0.here hx (hb hby d42_7) rfl ?_
  refine P1.iloadN X0.here hx (hb hby d42_9) rfl ?_
  refine P1.icmpYes X0.here hx 31 (hb hby d42_10) (flt (by decide : ¬ ((4 : Int32) < (4 : Int32)))).2.1 (by decide) (by decide) ?_
  refine P1.iloadN X0.here hx (hb hby d42_31) rfl ?_
  refine Goes.retI X0 hx Bd.notSynchronized Bd.returns (hb hby d42_32) (ok rfl) (ok rfl) ?_
  rw [e0]
  exact ⟨rfl, N0, rfl⟩
theorem efKp_3 (r : Addr) (m : MethodId) : entryFrame m #[(.ref r), (.int (0 : Int32)), (.int (3 : Int32))] 5 = mkF m 0 #[.val (.ref r), .val (.int (0 : Int32)), .val (.int (3 : Int32)), .unset, .unset] [] := by first | (simp [entryFrame, mkF, argsToLocals, Value.category]; done) | rfl
def QKp_3 (Z : State) (r : Addr) (kr : ClassId) (d0 d1 d2 : Int32) (h0 : Heap) (n0 : Nat) (v : Option Value) (h : Heap) (L : List Loc) : Prop := v = some (.int (3 : Int32)) ∧ Fr n0 L ∧ h = h0
set_option maxRecDepth 65536 in
set_option maxHeartbeats 40000000 in
theorem rmKp_3 (l : Launch) (Z : State) (a0 : Array Value) (hw : ∀ d ∈ tables_1, d.before a0 Z = true) (ws : List Jvm.Cond) (r : Addr) (kr : ClassId) (d0 d1 d2 : Int32) (h0 : Heap) (n0 : Nat) (Z0 : n0 ≤ h0.size) (O0 : Old Z n0 h0) (Vr : Arv Z h0 r kr .byte (3 : Int32) [(.int d0), (.int d1), (.int d2)] (.int (0 : Int32))) (h_d0 : Pr d0) (h_d1 : Pr d1) (h_d2 : Pr d2) :
    OwnLaw l y34_ jdk_123_method_3_code 5 (some .int) ws (rR 0 0 0 0) #[(.ref r), (.int (0 : Int32)), (.int (3 : Int32))] Z h0 (QKp_3 Z r kr d0 d1 d2 h0 n0) := by
  refine own_enter (plainFor_of_name pn_java_lang_StringCoding) (efKp_3 r) ?_
  intro p e s m below meth c s₁ Bd hx hby hml hZ hown X0 e0
  have N0 := Fr.nil n0
  have K0 : Keep h0 h0 [] := Keep.refl _ _
  refine P1.iloadN X0.here hx (hb hby d42_0) rfl ?_
  refine P1.iloadN X0.here hx (hb hby d42_1) rfl ?_
  refine P1.iadd X0.here hx (hb hby d42_2) ?_
  have rw763 : ((0 : Int32) + (3 : Int32)) = (3 : Int32) := by decide
  rw [rw763]
  refine P1.istoreN X0.here hx #[.val (.ref r), .val (.int (0 : Int32)), .val (.int (3 : Int32)), .val (.int (3 : Int32)), .unset] (hb hby d42_3) rfl ?_
  refine P1.iloadN X0.here hx (hb hby d42_4) rfl ?_
  refine P1.istore X0.here hx #[.val (.ref r), .val (.int (0 : Int32)), .val (.int (3 : Int32)), .val (.int (3 : Int32)), .val (.int (0 : Int32))] (hb hby d42_5) rfl ?_
  refine P1.iload X0.here hx (hb hby d42_7) rfl ?_
  refine P1.iloadN X0.here hx (hb hby d42_9) rfl ?_
  refine P1.icmpNo X0.here hx (hb hby d42_10) (tlt (by decide : (0 : Int32) < (3 : Int32))).2.1 ?_
  refine P1.aloadN X0.here hx (hb hby d42_13) rfl rfl ?_
  refine P1.iload X0.here hx (hb hby d42_14) rfl ?_
  obtain ⟨cl764, Ar764, qk764, sl764, nz764, ha764, fi764⟩ := id Vr
  have i765 := inb_of (j := (0 : Int32)) sl764 ⟨by decide, by decide⟩
  refine Goes.step (T' := s₁) (g' := (mkF m 17 #[.val (.ref r), .val (.int (0 : Int32)), .val (.int (3 : Int32)), .val (.int (3 : Int32)), .val (.int (0 : Int32))] [(.int d0)])) (fun t_ k_ => X0.baloadBytes hx (j := (0 : Int32)) (v := (.int d0)) (by rw [e0]; exact Ar764.1) (State.isArrayOf_alike hZ.alike Ar764.2.1) Ar764.2.2 i765 (Has.at ha764 i765 rfl) (g := (mkF m 16 #[.val (.ref r), .val (.int (0 : Int32)), .val (.int (3 : Int32)), .val (.int (3 : Int32)), .val (.int (0 : Int32))] [(.int (0 : Int32)), (.ref r)])) rfl rfl (hb hby d42_16) _ k_) ?_
  refine P1.ifYes X0.here hx 25 (hb hby d42_17) ((if0 _ _).trans (flt (h_d0.nn : ¬ (d0 < (0 : Int32)))).2.1) (by decide) (by decide) ?_
  refine Goes.step (T' := s₁) (g' := (mkF m 28 #[.val (.ref r), .val (.int (0 : Int32)), .val (.int (3 : Int32)), .val (.int (3 : Int32)), .val (.int ((0 : Int32) + (1 : Int32)))] [])) (fun t_ k_ => XS.iinc X0.here hx rfl (hb hby d42_25) rfl (l' := #[.val (.ref r), .val (.int (0 : Int32)), .val (.int (3 : Int32)), .val (.int (3 : Int32)), .val (.int ((0 : Int32) + (1 : Int32)))]) rfl k_) ?_
  have rw766 : ((0 : Int32) + (1 : Int32)) = (1 : Int32) := by decide
  rw [rw766]
  refine P1.goto X0.here hx 7 (hb hby d42_28) (by decide) (by decide) ?_
  refine P1.iload X0.here hx (hb hby d42_7) rfl ?_
  refine P1.iloadN X0.here hx (hb hby d42_9) rfl ?_
  refine P1.icmpNo X0.here hx (hb hby d42_10) (tlt (by decide : (1 : Int32) < (3 : Int32))).2.1 ?_
  refine P1.aloadN X0.here hx (hb hby d42_13) rfl rfl ?_
  refine P1.iload X0.here hx (hb hby d42_14) rfl ?_
  obtain ⟨cl767, Ar767, qk767, sl767, nz767, ha767, fi767⟩ := id Vr
  have i768 := inb_of (j := (1 : Int32)) sl767 ⟨by decide, by decide⟩
  refine Goes.step (T' := s₁) (g' := (mkF m 17 #[.val (.ref r), .val (.int (0 : Int32)), .val (.int (3 : Int32)), .val (.int (3 : Int32)), .val (.int (1 : Int32))] [(.int d1)])) (fun t_ k_ => X0.baloadBytes hx (j := (1 : Int32)) (v := (.int d1)) (by rw [e0]; exact Ar767.1) (State.isArrayOf_alike hZ.alike Ar767.2.1) Ar767.2.2 i768 (Has.at ha767 i768 rfl) (g := (mkF m 16 #[.val (.ref r), .val (.int (0 : Int32)), .val (.int (3 : Int32)), .val (.int (3 : Int32)), .val (.int (1 : Int32))] [(.int (1 : Int32)), (.ref r)])) rfl rfl (hb hby d42_16) _ k_) ?_
  refine P1.ifYes X0.here hx 25 (hb hby d42_17) ((if0 _ _).trans (flt (h_d1.nn : ¬ (d1 < (0 : Int32)))).2.1) (by decide) (by decide) ?_
  refine Goes.step (T' := s₁) (g' := (mkF m 28 #[.val (.ref r), .val (.int (0 : Int32)), .val (.int (3 : Int32)), .val (.int (3 : Int32)), .val (.int ((1 : Int32) + (1 : Int32)))] [])) (fun t_ k_ => XS.iinc X0.here hx rfl (hb hby d42_25) rfl (l' := #[.val (.ref r), .val (.int (0 : Int32)), .val (.int (3 : Int32)), .val (.int (3 : Int32)), .val (.int ((1 : Int32) + (1 : Int32)))]) rfl k_) ?_
  have rw769 : ((1 : Int32) + (1 : Int32)) = (2 : Int32) := by decide
  rw [rw769]
  refine P1.goto X0.here hx 7 (hb hby d42_28) (by decide) (by decide) ?_
  refine P1.iload X0.here hx (hb hby d42_7) rfl ?_
  refine P1.iloadN X0.here hx (hb hby d42_9) rfl ?_
  refine P1.icmpNo X0.here hx (hb hby d42_10) (tlt (by decide : (2 : Int32) < (3 : Int32))).2.1 ?_
  refine P1.aloadN X0.here hx (hb hby d42_13) rfl rfl ?_
  refine P1.iload X0.here hx (hb hby d42_14) rfl ?_
  obtain ⟨cl770, Ar770, qk770, sl770, nz770, ha770, fi770⟩ := id Vr
  have i771 := inb_of (j := (2 : Int32)) sl770 ⟨by decide, by decide⟩
  refine Goes.step (T' := s₁) (g' := (mkF m 17 #[.val (.ref r), .val (.int (0 : Int32)), .val (.int (3 : Int32)), .val (.int (3 : Int32)), .val (.int (2 : Int32))] [(.int d2)])) (fun t_ k_ => X0.baloadBytes hx (j := (2 : Int32)) (v := (.int d2)) (by rw [e0]; exact Ar770.1) (State.isArrayOf_alike hZ.alike Ar770.2.1) Ar770.2.2 i771 (Has.at ha770 i771 rfl) (g := (mkF m 16 #[.val (.ref r), .val (.int (0 : Int32)), .val (.int (3 : Int32)), .val (.int (3 : Int32)), .val (.int (2 : Int32))] [(.int (2 : Int32)), (.ref r)])) rfl rfl (hb hby d42_16) _ k_) ?_
  refine P1.ifYes X0.here hx 25 (hb hby d42_17) ((if0 _ _).trans (flt (h_d2.nn : ¬ (d2 < (0 : Int32)))).2.1) (by decide) (by decide) ?_
  refine Goes.step (T' := s₁) (g' := (mkF m 28 #[.val (.ref r), .val (.int (0 : Int32)), .val (.int (3 : Int32)), .val (.int (3 : Int32)), .val (.int ((2 : Int32) + (1 : Int32)))] [])) (fun t_ k_ => XS.iinc X0.here hx rfl (hb hby d42_25) rfl (l' := #[.val (.ref r), .val (.int (0 : Int32)), .val (.int (3 : Int32)), .val (.int (3 : Int32)), .val (.int ((2 : Int32) + (1 : Int32)))]) rfl k_) ?_
  have rw772 : ((2 : Int32) + (1 : Int32)) = (3 : Int32) := by decide
  rw [rw772]
  refine P1.goto X0.here hx 7 (hb hby d42_28) (by decide) (by decide) ?_
  refine P1.iload X0.here hx (hb hby d42_7) rfl ?_
  refine P1.iloadN X0.here hx (hb hby d42_9) rfl ?_
  refine P1.icmpYes X0.here hx 31 (hb hby d42_10) (flt (by decide : ¬ ((3 : Int32) < (3 : Int32)))).2.1 (by decide) (by decide) ?_
  refine P1.iloadN X0.here hx (hb hby d42_31) rfl ?_
  refine Goes.retI X0 hx Bd.notSynchronized Bd.returns (hb hby d42_32) (ok rfl) (ok rfl) ?_
  rw [e0]
  exact ⟨rfl, N0, rfl⟩
theorem efKp_2 (r : Addr) (m : MethodId) : entryFrame m #[(.ref r), (.int (0 : Int32)), (.int (2 : Int32))] 5 = mkF m 0 #[.val (.ref r), .val (.int (0 : Int32)), .val (.int (2 : Int32)), .unset, .unset] [] := by first | (simp [entryFrame, mkF, argsToLocals, Value.category]; done) | rfl
def QKp_2 (Z : State) (r : Addr) (kr : ClassId) (d0 d1 : Int32) (h0 : Heap) (n0 : Nat) (v : Option Value) (h : Heap) (L : List Loc) : Prop := v = some (.int (2 : Int32)) ∧ Fr n0 L ∧ h = h0
set_option maxRecDepth 65536 in
set_option maxHeartbeats 40000000 in
theorem rmKp_2 (l : Launch) (Z : State) (a0 : Array Value) (hw : ∀ d ∈ tables_1, d.before a0 Z = true) (ws : List Jvm.Cond) (r : Addr) (kr : ClassId) (d0 d1 : Int32) (h0 : Heap) (n0 : Nat) (Z0 : n0 ≤ h0.size) (O0 : Old Z n0 h0) (Vr : Arv Z h0 r kr .byte (2 : Int32) [(.int d0), (.int d1)] (.int (0 : Int32))) (h_d0 : Pr d0) (h_d1 : Pr d1) :
    OwnLaw l y34_ jdk_123_method_3_code 5 (some .int) ws (rR 0 0 0 0) #[(.ref r), (.int (0 : Int32)), (.int (2 : Int32))] Z h0 (QKp_2 Z r kr d0 d1 h0 n0) := by
  refine own_enter (plainFor_of_name pn_java_lang_StringCoding) (efKp_2 r) ?_
  intro p e s m below meth c s₁ Bd hx hby hml hZ hown X0 e0
  have N0 := Fr.nil n0
  have K0 : Keep h0 h0 [] := Keep.refl _ _
  refine P1.iloadN X0.here hx (hb hby d42_0) rfl ?_
  refine P1.iloadN X0.here hx (hb hby d42_1) rfl ?_
  refine P1.iadd X0.here hx (hb hby d42_2) ?_
  have rw773 : ((0 : Int32) + (2 : Int32)) = (2 : Int32) := by decide
  rw [rw773]
  refine P1.istoreN X0.here hx #[.val (.ref r), .val (.int (0 : Int32)), .val (.int (2 : Int32)), .val (.int (2 : Int32)), .unset] (hb hby d42_3) rfl ?_
  refine P1.iloadN X0.here hx (hb hby d42_4) rfl ?_
  refine P1.istore X0.here hx #[.val (.ref r), .val (.int (0 : Int32)), .val (.int (2 : Int32)), .val (.int (2 : Int32)), .val (.int (0 : Int32))] (hb hby d42_5) rfl ?_
  refine P1.iload X0.here hx (hb hby d42_7) rfl ?_
  refine P1.iloadN X0.here hx (hb hby d42_9) rfl ?_
  refine P1.icmpNo X0.here hx (hb hby d42_10) (tlt (by decide : (0 : Int32) < (2 : Int32))).2.1 ?_
  refine P1.aloadN X0.here hx (hb hby d42_13) rfl rfl ?_
  refine P1.iload X0.here hx (hb hby d42_14) rfl ?_
  obtain ⟨cl774, Ar774, qk774, sl774, nz774, ha774, fi774⟩ := id Vr
  have i775 := inb_of (j := (0 : Int32)) sl774 ⟨by decide, by decide⟩
  refine Goes.step (T' := s₁) (g' := (mkF m 17 #[.val (.ref r), .val (.int (0 : Int32)), .val (.int (2 : Int32)), .val (.int (2 : Int32)), .val (.int (0 : Int32))] [(.int d0)])) (fun t_ k_ => X0.baloadBytes hx (j := (0 : Int32)) (v := (.int d0)) (by rw [e0]; exact Ar774.1) (State.isArrayOf_alike hZ.alike Ar774.2.1) Ar774.2.2 i775 (Has.at ha774 i775 rfl) (g := (mkF m 16 #[.val (.ref r), .val (.int (0 : Int32)), .val (.int (2 : Int32)), .val (.int (2 : Int32)), .val (.int (0 : Int32))] [(.int (0 : Int32)), (.ref r)])) rfl rfl (hb hby d42_16) _ k_) ?_
  refine P1.ifYes X0.here hx 25 (hb hby d42_17) ((if0 _ _).trans (flt (h_d0.nn : ¬ (d0 < (0 : Int32)))).2.1) (by decide) (by decide) ?_
  refine Goes.step (T' := s₁) (g' := (mkF m 28 #[.val (.ref r), .val (.int (0 : Int32)), .val (.int (2 : Int32)), .val (.int (2 : Int32)), .val (.int ((0 : Int32) + (1 : Int32)))] [])) (fun t_ k_ => XS.iinc X0.here hx rfl (hb hby d42_25) rfl (l' := #[.val (.ref r), .val (.int (0 : Int32)), .val (.int (2 : Int32)), .val (.int (2 : Int32)), .val (.int ((0 : Int32) + (1 : Int32)))]) rfl k_) ?_
  have rw776 : ((0 : Int32) + (1 : Int32)) = (1 : Int32) := by decide
  rw [rw776]
  refine P1.goto X0.here hx 7 (hb hby d42_28) (by decide) (by decide) ?_
  refine P1.iload X0.here hx (hb hby d42_7) rfl ?_
  refine P1.iloadN X0.here hx (hb hby d42_9) rfl ?_
  refine P1.icmpNo X0.here hx (hb hby d42_10) (tlt (by decide : (1 : Int32) < (2 : Int32))).2.1 ?_
  refine P1.aloadN X0.here hx (hb hby d42_13) rfl rfl ?_
  refine P1.iload X0.here hx (hb hby d42_14) rfl ?_
  obtain ⟨cl777, Ar777, qk777, sl777, nz777, ha777, fi777⟩ := id Vr
  have i778 := inb_of (j := (1 : Int32)) sl777 ⟨by decide, by decide⟩
  refine Goes.step (T' := s₁) (g' := (mkF m 17 #[.val (.ref r), .val (.int (0 : Int32)), .val (.int (2 : Int32)), .val (.int (2 : Int32)), .val (.int (1 : Int32))] [(.int d1)])) (fun t_ k_ => X0.baloadBytes hx (j := (1 : Int32)) (v := (.int d1)) (by rw [e0]; exact Ar777.1) (State.isArrayOf_alike hZ.alike Ar777.2.1) Ar777.2.2 i778 (Has.at ha777 i778 rfl) (g := (mkF m 16 #[.val (.ref r), .val (.int (0 : Int32)), .val (.int (2 : Int32)), .val (.int (2 : Int32)), .val (.int (1 : Int32))] [(.int (1 : Int32)), (.ref r)])) rfl rfl (hb hby d42_16) _ k_) ?_
  refine P1.ifYes X0.here hx 25 (hb hby d42_17) ((if0 _ _).trans (flt (h_d1.nn : ¬ (d1 < (0 : Int32)))).2.1) (by decide) (by decide) ?_
  refine Goes.step (T' := s₁) (g' := (mkF m 28 #[.val (.ref r), .val (.int (0 : Int32)), .val (.int (2 : Int32)), .val (.int (2 : Int32)), .val (.int ((1 : Int32) + (1 : Int32)))] [])) (fun t_ k_ => XS.iinc X0.here hx rfl (hb hby d42_25) rfl (l' := #[.val (.ref r), .val (.int (0 : Int32)), .val (.int (2 : Int32)), .val (.int (2 : Int32)), .val (.int ((1 : Int32) + (1 : Int32)))]) rfl k_) ?_
  have rw779 : ((1 : Int32) + (1 : Int32)) = (2 : Int32) := by decide
  rw [rw779]
  refine P1.goto X0.here hx 7 (hb hby d42_28) (by decide) (by decide) ?_
  refine P1.iload X0.here hx (hb hby d42_7) rfl ?_
  refine P1.iloadN X0.here hx (hb hby d42_9) rfl ?_
  refine P1.icmpYes X0.here hx 31 (hb hby d42_10) (flt (by decide : ¬ ((2 : Int32) < (2 : Int32)))).2.1 (by decide) (by decide) ?_
  refine P1.iloadN X0.here hx (hb hby d42_31) rfl ?_
  refine Goes.retI X0 hx Bd.notSynchronized Bd.returns (hb hby d42_32) (ok rfl) (ok rfl) ?_
  rw [e0]
  exact ⟨rfl, N0, rfl⟩
theorem efKp_1 (r : Addr) (m : MethodId) : entryFrame m #[(.ref r), (.int (0 : Int32)), (.int (1 : Int32))] 5 = mkF m 0 #[.val (.ref r), .val (.int (0 : Int32)), .val (.int (1 : Int32)), .unset, .unset] [] := by first | (simp [entryFrame, mkF, argsToLocals, Value.category]; done) | rfl
def QKp_1 (Z : State) (r : Addr) (kr : ClassId) (d0 : Int32) (h0 : Heap) (n0 : Nat) (v : Option Value) (h : Heap) (L : List Loc) : Prop := v = some (.int (1 : Int32)) ∧ Fr n0 L ∧ h = h0
set_option maxRecDepth 65536 in
set_option maxHeartbeats 40000000 in
theorem rmKp_1 (l : Launch) (Z : State) (a0 : Array Value) (hw : ∀ d ∈ tables_1, d.before a0 Z = true) (ws : List Jvm.Cond) (r : Addr) (kr : ClassId) (d0 : Int32) (h0 : Heap) (n0 : Nat) (Z0 : n0 ≤ h0.size) (O0 : Old Z n0 h0) (Vr : Arv Z h0 r kr .byte (1 : Int32) [(.int d0)] (.int (0 : Int32))) (h_d0 : Pr d0) :
    OwnLaw l y34_ jdk_123_method_3_code 5 (some .int) ws (rR 0 0 0 0) #[(.ref r), (.int (0 : Int32)), (.int (1 : Int32))] Z h0 (QKp_1 Z r kr d0 h0 n0) := by
  refine own_enter (plainFor_of_name pn_java_lang_StringCoding) (efKp_1 r) ?_
  intro p e s m below meth c s₁ Bd hx hby hml hZ hown X0 e0
  have N0 := Fr.nil n0
  have K0 : Keep h0 h0 [] := Keep.refl _ _
  refine P1.iloadN X0.here hx (hb hby d42_0) rfl ?_
  refine P1.iloadN X0.here hx (hb hby d42_1) rfl ?_
  refine P1.iadd X0.here hx (hb hby d42_2) ?_
  have rw780 : ((0 : Int32) + (1 : Int32)) = (1 : Int32) := by decide
  rw [rw780]
  refine P1.istoreN X0.here hx #[.val (.ref r), .val (.int (0 : Int32)), .val (.int (1 : Int32)), .val (.int (1 : Int32)), .unset] (hb hby d42_3) rfl ?_
  refine P1.iloadN X0.here hx (hb hby d42_4) rfl ?_
  refine P1.istore X0.here hx #[.val (.ref r), .val (.int (0 : Int32)), .val (.int (1 : Int32)), .val (.int (1 : Int32)), .val (.int (0 : Int32))] (hb hby d42_5) rfl ?_
  refine P1.iload X0.here hx (hb hby d42_7) rfl ?_
  refine P1.iloadN X0.here hx (hb hby d42_9) rfl ?_
  refine P1.icmpNo X0.here hx (hb hby d42_10) (tlt (by decide : (0 : Int32) < (1 : Int32))).2.1 ?_
  refine P1.aloadN X0.here hx (hb hby d42_13) rfl rfl ?_
  refine P1.iload X0.here hx (hb hby d42_14) rfl ?_
  obtain ⟨cl781, Ar781, qk781, sl781, nz781, ha781, fi781⟩ := id Vr
  have i782 := inb_of (j := (0 : Int32)) sl781 ⟨by decide, by decide⟩
  refine Goes.step (T' := s₁) (g' := (mkF m 17 #[.val (.ref r), .val (.int (0 : Int32)), .val (.int (1 : Int32)), .val (.int (1 : Int32)), .val (.int (0 : Int32))] [(.int d0)])) (fun t_ k_ => X0.baloadBytes hx (j := (0 : Int32)) (v := (.int d0)) (by rw [e0]; exact Ar781.1) (State.isArrayOf_alike hZ.alike Ar781.2.1) Ar781.2.2 i782 (Has.at ha781 i782 rfl) (g := (mkF m 16 #[.val (.ref r), .val (.int (0 : Int32)), .val (.int (1 : Int32)), .val (.int (1 : Int32)), .val (.int (0 : Int32))] [(.int (0 : Int32)), (.ref r)])) rfl rfl (hb hby d42_16) _ k_) ?_
  refine P1.ifYes X0.here hx 25 (hb hby d42_17) ((if0 _ _).trans (flt (h_d0.nn : ¬ (d0 < (0 : Int32)))).2.1) (by decide) (by decide) ?_
  refine Goes.step (T' := s₁) (g' := (mkF m 28 #[.val (.ref r), .val (.int (0 : Int32)), .val (.int (1 : Int32)), .val (.int (1 : Int32)), .val (.int ((0 : Int32) + (1 : Int32)))] [])) (fun t_ k_ => XS.iinc X0.here hx rfl (hb hby d42_25) rfl (l' := #[.val (.ref r), .val (.int (0 : Int32)), .val (.int (1 : Int32)), .val (.int (1 : Int32)), .val (.int ((0 : Int32) + (1 : Int32)))]) rfl k_) ?_
  have rw783 : ((0 : Int32) + (1 : Int32)) = (1 : Int32) := by decide
  rw [rw783]
  refine P1.goto X0.here hx 7 (hb hby d42_28) (by decide) (by decide) ?_
  refine P1.iload X0.here hx (hb hby d42_7) rfl ?_
  refine P1.iloadN X0.here hx (hb hby d42_9) rfl ?_
  refine P1.icmpYes X0.here hx 31 (hb hby d42_10) (flt (by decide : ¬ ((1 : Int32) < (1 : Int32)))).2.1 (by decide) (by decide) ?_
  refine P1.iloadN X0.here hx (hb hby d42_31) rfl ?_
  refine Goes.retI X0 hx Bd.notSynchronized Bd.returns (hb hby d42_32) (ok rfl) (ok rfl) ?_
  rw [e0]
  exact ⟨rfl, N0, rfl⟩
def QKpG (Z : State) (r : Addr) (kr : ClassId) (cs : List Int32) (h0 : Heap) (n0 : Nat) (v : Option Value) (h : Heap) (L : List Loc) : Prop := v = some (.int (Int32.ofNat cs.length)) ∧ Fr n0 L ∧ h = h0
set_option maxRecDepth 65536 in
set_option maxHeartbeats 40000000 in
theorem rmKpG (l : Launch) (Z : State) (a0 : Array Value) (hw : ∀ d ∈ tables_1, d.before a0 Z = true) (ws : List Jvm.Cond) (r : Addr) (kr : ClassId) (cs : List Int32) (h0 : Heap) (n0 : Nat) (Z0 : n0 ≤ h0.size) (O0 : Old Z n0 h0) (Vr : Arv Z h0 r kr .byte (Int32.ofNat cs.length) (cs.map Value.int) (.int (0 : Int32))) (h1 : 1 ≤ cs.length) (h5 : cs.length ≤ 5) (hcs : ∀ c ∈ cs, Pr c) :
    OwnLaw l y34_ jdk_123_method_3_code 5 (some .int) ws (rR 0 0 0 0) #[(.ref r), (.int (0 : Int32)), (.int (Int32.ofNat cs.length))] Z h0 (QKpG Z r kr cs h0 n0) := by
  match cs, h1, h5, hcs, Vr with
  | [d0], _, _, hcs, Vr => exact rmKp_1 l Z a0 hw ws r kr d0  h0 n0 Z0 O0 Vr (hcs _ (by simp))
  | [d0, d1], _, _, hcs, Vr => exact rmKp_2 l Z a0 hw ws r kr d0 d1  h0 n0 Z0 O0 Vr (hcs _ (by simp)) (hcs _ (by simp))
  | [d0, d1, d2], _, _, hcs, Vr => exact rmKp_3 l Z a0 hw ws r kr d0 d1 d2  h0 n0 Z0 O0 Vr (hcs _ (by simp)) (hcs _ (by simp)) (hcs _ (by simp))
  | [d0, d1, d2, d3], _, _, hcs, Vr => exact rmKp_4 l Z a0 hw ws r kr d0 d1 d2 d3  h0 n0 Z0 O0 Vr (hcs _ (by simp)) (hcs _ (by simp)) (hcs _ (by simp)) (hcs _ (by simp))
  | [d0, d1, d2, d3, d4], _, _, hcs, Vr => exact rmKp_5 l Z a0 hw ws r kr d0 d1 d2 d3 d4  h0 n0 Z0 O0 Vr (hcs _ (by simp)) (hcs _ (by simp)) (hcs _ (by simp)) (hcs _ (by simp)) (hcs _ (by simp))
  | [], h1, _, _, _ => exact absurd h1 (by decide)
  | _ :: _ :: _ :: _ :: _ :: _ :: _, _, h5, _, _ => exact absurd h5 (by simp)
theorem d41_0 : decode jdk_123_method_2_code 0 = .ok (.aload_n 0, 1) := by decide +kernel
theorem d41_1 : decode jdk_123_method_2_code 1 = .ok (.iload_n 1, 1) := by decide +kernel
theorem d41_2 : decode jdk_123_method_2_code 2 = .ok (.iload_n 2, 1) := by decide +kernel
theorem d41_3 : decode jdk_123_method_2_code 3 = .ok (.invokestatic 7, 3) := by decide +kernel
theorem d41_6 : decode jdk_123_method_2_code 6 = .ok (.iload_n 2, 1) := by decide +kernel
theorem d41_7 : decode jdk_123_method_2_code 7 = .ok (.if_icmp .eq 7, 3) := by decide +kernel
theorem d41_10 : decode jdk_123_method_2_code 10 = .ok (.iconst 1, 1) := by decide +kernel
theorem d41_11 : decode jdk_123_method_2_code 11 = .ok (.goto 4, 3) := by decide +kernel
theorem d41_14 : decode jdk_123_method_2_code 14 = .ok (.iconst 0, 1) := by decide +kernel
theorem d41_15 : decode jdk_123_method_2_code 15 = .ok (.ireturn, 1) := by decide +kernel
theorem pd_1834 : parseMethodDescriptor "([BII)I" = some ⟨[(.array .byte), .int, .int], some .int⟩ := by decide +kernel
theorem efHn (r : Addr) (ni : Int32) (m : MethodId) : entryFrame m #[(.ref r), (.int (0 : Int32)), (.int ni)] 3 = mkF m 0 #[.val (.ref r), .val (.int (0 : Int32)), .val (.int ni)] [] := by first | (simp [entryFrame, mkF, argsToLocals, Value.category]; done) | rfl
def QHn (Z : State) (r : Addr) (kr : ClassId) (cs : List Int32) (ni : Int32) (h0 : Heap) (n0 : Nat) (v : Option Value) (h : Heap) (L : List Loc) : Prop := v = some (.int 0) ∧ Fr n0 L ∧ h = h0
set_option maxRecDepth 65536 in
set_option maxHeartbeats 40000000 in
theorem rmHn (l : Launch) (Z : State) (a0 : Array Value) (hw : ∀ d ∈ tables_1, d.before a0 Z = true) (ws : List Jvm.Cond) (r : Addr) (kr : ClassId) (cs : List Int32) (ni : Int32) (h0 : Heap) (n0 : Nat) (Z0 : n0 ≤ h0.size) (O0 : Old Z n0 h0) (Vr : Arv Z h0 r kr .byte (Int32.ofNat cs.length) (cs.map Value.int) (.int (0 : Int32))) (h1 : 1 ≤ cs.length) (h5 : cs.length ≤ 5) (hcs : ∀ c ∈ cs, Pr c) (hni : ni = Int32.ofNat cs.length) :
    OwnLaw l (⟨"java/lang/StringCoding", "hasNegatives", "([BII)Z"⟩ : MethodName) jdk_123_method_2_code 3 (some .boolean) ws (rR 1 0 0 16) #[(.ref r), (.int (0 : Int32)), (.int ni)] Z h0 (QHn Z r kr cs ni h0 n0) := by
  refine own_enter (plainFor_of_name pn_java_lang_StringCoding) (efHn r ni) ?_
  intro p e s m below meth c s₁ Bd hx hby hml hZ hown X0 e0
  have N0 := Fr.nil n0
  have K0 : Keep h0 h0 [] := Keep.refl _ _
  obtain ⟨m0, m1, m2, m3, m4⟩ := own_n5 h5
  subst hni
  refine P1.aloadN X0.here hx (hb hby d41_0) rfl rfl ?_
  refine P1.iloadN X0.here hx (hb hby d41_1) rfl ?_
  refine P1.iloadN X0.here hx (hb hby d41_2) rfl ?_
  refine Goes.callS X0 hx (y := y34_) hown (mvT hZ (own_w hw 217 rfl)) (mvT hZ (own_w hw 218 rfl)) (mvT hZ (own_w hw 215 rfl)) (mvT hZ (own_w hw 219 rfl)) (by decide) (kc' := 0) (ks' := 0) (backOf (W := 0) (rmKpG l Z a0 hw [] r kr cs h0 n0 Z0 O0 Vr h1 h5 hcs) hZ (own_w hw 219 rfl) (own_w hw 215 rfl) (ok rfl) (ok rfl)) (g := (mkF m 3 #[.val (.ref r), .val (.int (0 : Int32)), .val (.int (Int32.ofNat cs.length))] [(.int (Int32.ofNat cs.length)), (.int (0 : Int32)), (.ref r)])) rfl (by rw [hml]; rfl) (argsL := [(.ref r), (.int (0 : Int32)), (.int (Int32.ofNat cs.length))]) (rest := []) (lenOf pd_1834 rfl) rfl (by show 2 * 0 + _ ≤ _; exact Nat.le_of_eq rfl) (hb hby d41_3) rfl e0 (ok rfl) (ok rfl) ?_
  intro v784 T784 L784 q784 X784
  obtain ⟨rfl, N784q, hE784⟩ := q784
  have N784 := Fr.app N0 N784q
  show Goes p e below _ T784 (mkF m 6 #[.val (.ref r), .val (.int (0 : Int32)), .val (.int (Int32.ofNat cs.length))] [(.int (Int32.ofNat cs.length))])
  refine P1.iloadN X784.here hx (hb hby d41_6) rfl ?_
  refine P1.icmpYes X784.here hx 14 (hb hby d41_7) (teq (rfl : (Int32.ofNat cs.length) = (Int32.ofNat cs.length))).1 (by decide) (by decide) ?_
  refine P1.iconst X784.here hx (0 : Int32) (hb hby d41_14) rfl ?_
  refine Goes.retN X784 hx Bd.notSynchronized (t := .boolean) Bd.returns (by simp) (hb hby d41_15) (ok rfl) (ok rfl) ?_
  rw [hE784]
  exact ⟨rfl, N784, rfl⟩
theorem d40_0 : decode jdk_42_method_46_code 0 = .ok (.iload_n 0, 1) := by decide +kernel
theorem d40_1 : decode jdk_42_method_46_code 1 = .ok (.iconst 1, 1) := by decide +kernel
theorem d40_2 : decode jdk_42_method_46_code 2 = .ok (.if_icmp .ne 9, 3) := by decide +kernel
theorem d40_5 : decode jdk_42_method_46_code 5 = .ok (.aload_n 1, 1) := by decide +kernel
theorem d40_6 : decode jdk_42_method_46_code 6 = .ok (.iload_n 2, 1) := by decide +kernel
theorem d40_7 : decode jdk_42_method_46_code 7 = .ok (.invokestatic 473, 3) := by decide +kernel
theorem d40_10 : decode jdk_42_method_46_code 10 = .ok (.areturn, 1) := by decide +kernel
theorem d40_11 : decode jdk_42_method_46_code 11 = .ok (.aload_n 1, 1) := by decide +kernel
theorem d40_12 : decode jdk_42_method_46_code 12 = .ok (.iconst 0, 1) := by decide +kernel
theorem d40_13 : decode jdk_42_method_46_code 13 = .ok (.aload_n 1, 1) := by decide +kernel
theorem d40_14 : decode jdk_42_method_46_code 14 = .ok (.arraylength, 1) := by decide +kernel
theorem d40_15 : decode jdk_42_method_46_code 15 = .ok (.invokestatic 128, 3) := by decide +kernel
theorem d40_18 : decode jdk_42_method_46_code 18 = .ok (.ifCond .ne 11, 3) := by decide +kernel
theorem d40_21 : decode jdk_42_method_46_code 21 = .ok (.aload_n 1, 1) := by decide +kernel
theorem d40_22 : decode jdk_42_method_46_code 22 = .ok (.invokevirtual 279, 3) := by decide +kernel
theorem d40_25 : decode jdk_42_method_46_code 25 = .ok (.checkcast 280, 3) := by decide +kernel
theorem d40_28 : decode jdk_42_method_46_code 28 = .ok (.areturn, 1) := by decide +kernel
theorem d40_29 : decode jdk_42_method_46_code 29 = .ok (.iconst 0, 1) := by decide +kernel
theorem d40_30 : decode jdk_42_method_46_code 30 = .ok (.istore_n 3, 1) := by decide +kernel
theorem d40_31 : decode jdk_42_method_46_code 31 = .ok (.aload_n 1, 1) := by decide +kernel
theorem d40_32 : decode jdk_42_method_46_code 32 = .ok (.arraylength, 1) := by decide +kernel
theorem d40_33 : decode jdk_42_method_46_code 33 = .ok (.invokestatic 60, 3) := by decide +kernel
theorem d40_36 : decode jdk_42_method_46_code 36 = .ok (.astore 4, 2) := by decide +kernel
theorem d40_38 : decode jdk_42_method_46_code 38 = .ok (.aload_n 1, 1) := by decide +kernel
theorem d40_39 : decode jdk_42_method_46_code 39 = .ok (.astore 5, 2) := by decide +kernel
theorem d40_41 : decode jdk_42_method_46_code 41 = .ok (.aload 5, 2) := by decide +kernel
theorem d40_43 : decode jdk_42_method_46_code 43 = .ok (.arraylength, 1) := by decide +kernel
theorem d40_44 : decode jdk_42_method_46_code 44 = .ok (.istore 6, 2) := by decide +kernel
theorem d40_46 : decode jdk_42_method_46_code 46 = .ok (.iconst 0, 1) := by decide +kernel
theorem d40_47 : decode jdk_42_method_46_code 47 = .ok (.istore 7, 2) := by decide +kernel
theorem d40_49 : decode jdk_42_method_46_code 49 = .ok (.iload 7, 2) := by decide +kernel
theorem d40_51 : decode jdk_42_method_46_code 51 = .ok (.iload 6, 2) := by decide +kernel
theorem d40_53 : decode jdk_42_method_46_code 53 = .ok (.if_icmp .ge 71, 3) := by decide +kernel
theorem d40_56 : decode jdk_42_method_46_code 56 = .ok (.aload 5, 2) := by decide +kernel
theorem d40_58 : decode jdk_42_method_46_code 58 = .ok (.iload 7, 2) := by decide +kernel
theorem d40_60 : decode jdk_42_method_46_code 60 = .ok (.baload, 1) := by decide +kernel
theorem d40_61 : decode jdk_42_method_46_code 61 = .ok (.istore 8, 2) := by decide +kernel
theorem d40_63 : decode jdk_42_method_46_code 63 = .ok (.iload 8, 2) := by decide +kernel
theorem d40_65 : decode jdk_42_method_46_code 65 = .ok (.ifCond .ge 44, 3) := by decide +kernel
theorem d40_68 : decode jdk_42_method_46_code 68 = .ok (.aload 4, 2) := by decide +kernel
theorem d40_70 : decode jdk_42_method_46_code 70 = .ok (.iload_n 3, 1) := by decide +kernel
theorem d40_71 : decode jdk_42_method_46_code 71 = .ok (.iinc 3 1, 3) := by decide +kernel
theorem d40_74 : decode jdk_42_method_46_code 74 = .ok (.sipush 192, 3) := by decide +kernel
theorem d40_77 : decode jdk_42_method_46_code 77 = .ok (.iload 8, 2) := by decide +kernel
theorem d40_79 : decode jdk_42_method_46_code 79 = .ok (.sipush 255, 3) := by decide +kernel
theorem d40_82 : decode jdk_42_method_46_code 82 = .ok (.iand, 1) := by decide +kernel
theorem d40_83 : decode jdk_42_method_46_code 83 = .ok (.bipush 6, 2) := by decide +kernel
theorem d40_85 : decode jdk_42_method_46_code 85 = .ok (.ishr, 1) := by decide +kernel
theorem d40_86 : decode jdk_42_method_46_code 86 = .ok (.ior, 1) := by decide +kernel
theorem d40_87 : decode jdk_42_method_46_code 87 = .ok (.i2b, 1) := by decide +kernel
theorem d40_88 : decode jdk_42_method_46_code 88 = .ok (.bastore, 1) := by decide +kernel
theorem d40_89 : decode jdk_42_method_46_code 89 = .ok (.aload 4, 2) := by decide +kernel
theorem d40_91 : decode jdk_42_method_46_code 91 = .ok (.iload_n 3, 1) := by decide +kernel
theorem d40_92 : decode jdk_42_method_46_code 92 = .ok (.iinc 3 1, 3) := by decide +kernel
theorem d40_95 : decode jdk_42_method_46_code 95 = .ok (.sipush 128, 3) := by decide +kernel
theorem d40_98 : decode jdk_42_method_46_code 98 = .ok (.iload 8, 2) := by decide +kernel
theorem d40_100 : decode jdk_42_method_46_code 100 = .ok (.bipush 63, 2) := by decide +kernel
theorem d40_102 : decode jdk_42_method_46_code 102 = .ok (.iand, 1) := by decide +kernel
theorem d40_103 : decode jdk_42_method_46_code 103 = .ok (.ior, 1) := by decide +kernel
theorem d40_104 : decode jdk_42_method_46_code 104 = .ok (.i2b, 1) := by decide +kernel
theorem d40_105 : decode jdk_42_method_46_code 105 = .ok (.bastore, 1) := by decide +kernel
theorem d40_106 : decode jdk_42_method_46_code 106 = .ok (.goto 12, 3) := by decide +kernel
theorem d40_109 : decode jdk_42_method_46_code 109 = .ok (.aload 4, 2) := by decide +kernel
theorem d40_111 : decode jdk_42_method_46_code 111 = .ok (.iload_n 3, 1) := by decide +kernel
theorem d40_112 : decode jdk_42_method_46_code 112 = .ok (.iinc 3 1, 3) := by decide +kernel
theorem d40_115 : decode jdk_42_method_46_code 115 = .ok (.iload 8, 2) := by decide +kernel
theorem d40_117 : decode jdk_42_method_46_code 117 = .ok (.bastore, 1) := by decide +kernel
theorem d40_118 : decode jdk_42_method_46_code 118 = .ok (.iinc 7 1, 3) := by decide +kernel
theorem d40_121 : decode jdk_42_method_46_code 121 = .ok (.goto (-72), 3) := by decide +kernel
theorem d40_124 : decode jdk_42_method_46_code 124 = .ok (.iload_n 3, 1) := by decide +kernel
theorem d40_125 : decode jdk_42_method_46_code 125 = .ok (.aload 4, 2) := by decide +kernel
theorem d40_127 : decode jdk_42_method_46_code 127 = .ok (.arraylength, 1) := by decide +kernel
theorem d40_128 : decode jdk_42_method_46_code 128 = .ok (.if_icmp .ne 6, 3) := by decide +kernel
theorem d40_131 : decode jdk_42_method_46_code 131 = .ok (.aload 4, 2) := by decide +kernel
theorem d40_133 : decode jdk_42_method_46_code 133 = .ok (.areturn, 1) := by decide +kernel
theorem d40_134 : decode jdk_42_method_46_code 134 = .ok (.aload 4, 2) := by decide +kernel
theorem d40_136 : decode jdk_42_method_46_code 136 = .ok (.iload_n 3, 1) := by decide +kernel
theorem d40_137 : decode jdk_42_method_46_code 137 = .ok (.invokestatic 102, 3) := by decide +kernel
theorem d40_140 : decode jdk_42_method_46_code 140 = .ok (.areturn, 1) := by decide +kernel
theorem pd_1953 : parseMethodDescriptor "([BII)Z" = some ⟨[(.array .byte), .int, .int], some .boolean⟩ := by decide +kernel
theorem efEu (r : Addr) (m : MethodId) : entryFrame m #[(.int (0 : Int32)), (.ref r), (.int (1 : Int32))] 9 = mkF m 0 #[.val (.int (0 : Int32)), .val (.ref r), .val (.int (1 : Int32)), .unset, .unset, .unset, .unset, .unset, .unset] [] := by first | (simp [entryFrame, mkF, argsToLocals, Value.category]; done) | rfl
def QEu (Z : State) (r : Addr) (kr : ClassId) (cs : List Int32) (h0 : Heap) (n0 : Nat) (v : Option Value) (h : Heap) (L : List Loc) : Prop := ∃ q kq, v = some (.ref q) ∧ Fr n0 L ∧ Keep h0 h [] ∧ Arv Z h q kq .byte (Int32.ofNat cs.length) (cs.map Value.int) (.int (0 : Int32))
set_option maxRecDepth 65536 in
set_option maxHeartbeats 40000000 in
theorem rmEu (l : Launch) (Z : State) (a0 : Array Value) (hw : ∀ d ∈ tables_1, d.before a0 Z = true) (ws : List Jvm.Cond) (r : Addr) (kr : ClassId) (cs : List Int32) (h0 : Heap) (n0 : Nat) (Z0 : n0 ≤ h0.size) (O0 : Old Z n0 h0) (Vr : Arv Z h0 r kr .byte (Int32.ofNat cs.length) (cs.map Value.int) (.int (0 : Int32))) (Er : Exa Z h0 r "[B") (h1 : 1 ≤ cs.length) (h5 : cs.length ≤ 5) (hcs : ∀ c ∈ cs, Pr c) :
    OwnLaw l (⟨"java/lang/String", "encodeUTF8", "(B[BZ)[B"⟩ : MethodName) jdk_42_method_46_code 9 (some (.array .byte)) ws (rR 2 1 8 30) #[(.int (0 : Int32)), (.ref r), (.int (1 : Int32))] Z h0 (QEu Z r kr cs h0 n0) := by
  refine own_enter (plainFor_of_name pn_java_lang_String) (efEu r) ?_
  intro p e s m below meth c s₁ Bd hx hby hml hZ hown X0 e0
  have N0 := Fr.nil n0
  have K0 : Keep h0 h0 [] := Keep.refl _ _
  obtain ⟨m0, m1, m2, m3, m4⟩ := own_n5 h5
  refine P1.iloadN X0.here hx (hb hby d40_0) rfl ?_
  refine P1.iconst X0.here hx (1 : Int32) (hb hby d40_1) rfl ?_
  refine P1.icmpYes X0.here hx 11 (hb hby d40_2) (feq (by decide : ¬ ((0 : Int32) = (1 : Int32)))).2 (by decide) (by decide) ?_
  refine P1.aloadN X0.here hx (hb hby d40_11) rfl rfl ?_
  refine P1.iconst X0.here hx (0 : Int32) (hb hby d40_12) rfl ?_
  refine P1.aloadN X0.here hx (hb hby d40_13) rfl rfl ?_
  obtain ⟨cl785, Ar785, qk785, sl785, nz785, ha785, fi785⟩ := id Vr
  have al786 : cl785.slots.size.toInt32 = (Int32.ofNat cs.length) := len_of sl785 nz785
  refine Goes.step (T' := s₁) (g' := (mkF m 15 #[.val (.int (0 : Int32)), .val (.ref r), .val (.int (1 : Int32)), .unset, .unset, .unset, .unset, .unset, .unset] [(.int (Int32.ofNat cs.length)), (.int (0 : Int32)), (.ref r)])) (fun t_ k_ => X0.arraylength hx (by rw [e0]; exact Ar785.1) (State.isArrayOf_alike hZ.alike Ar785.2.1) (g := (mkF m 14 #[.val (.int (0 : Int32)), .val (.ref r), .val (.int (1 : Int32)), .unset, .unset, .unset, .unset, .unset, .unset] [(.ref r), (.int (0 : Int32)), (.ref r)])) rfl rfl (hb hby d40_14) _ <| by rw [al786]; exact k_) ?_
  refine Goes.callS X0 hx (y := (⟨"java/lang/StringCoding", "hasNegatives", "([BII)Z"⟩ : MethodName)) hown (mvT hZ (own_w hw 213 rfl)) (mvT hZ (own_w hw 214 rfl)) (mvT hZ (own_w hw 215 rfl)) (mvT hZ (own_w hw 216 rfl)) (by decide) (kc' := 0) (ks' := 0) (backOf (W := 0) (rmHn l Z a0 hw [] r kr cs (Int32.ofNat cs.length) h0 n0 Z0 O0 Vr h1 h5 hcs rfl) hZ (own_w hw 216 rfl) (own_w hw 215 rfl) (ok rfl) (ok rfl)) (g := (mkF m 15 #[.val (.int (0 : Int32)), .val (.ref r), .val (.int (1 : Int32)), .unset, .unset, .unset, .unset, .unset, .unset] [(.int (Int32.ofNat cs.length)), (.int (0 : Int32)), (.ref r)])) rfl (by rw [hml]; rfl) (argsL := [(.ref r), (.int (0 : Int32)), (.int (Int32.ofNat cs.length))]) (rest := []) (lenOf pd_1953 rfl) rfl (by show 2 * 0 + _ ≤ _; exact Nat.le_of_eq rfl) (hb hby d40_15) rfl e0 (ok rfl) (ok rfl) ?_
  intro v787 T787 L787 q787 X787
  obtain ⟨rfl, N787q, hE787⟩ := q787
  have N787 := Fr.app N0 N787q
  show Goes p e below _ T787 (mkF m 18 #[.val (.int (0 : Int32)), .val (.ref r), .val (.int (1 : Int32)), .unset, .unset, .unset, .unset, .unset, .unset] [(.int (0 : Int32))])
  refine P1.ifNo X787.here hx (hb hby d40_18) ((if0 _ _).trans (teq (by decide : (0 : Int32) = (0 : Int32))).2) ?_
  refine P1.aloadN X787.here hx (hb hby d40_21) rfl rfl ?_
  obtain ⟨T788, h788, X788, e788, E788, V788, A788, st788⟩ := cloneV X787 hx hZ hown (own_w hw 220 rfl) (own_w hw 221 rfl) (own_w hw 225 rfl) (own_w hw 223 rfl) (own_w hw 224 rfl) (own_w hw 226 rfl) hE787 Vr Er (g := (mkF m 22 #[.val (.int (0 : Int32)), .val (.ref r), .val (.int (1 : Int32)), .unset, .unset, .unset, .unset, .unset, .unset] [(.ref r)])) rfl (by rw [hml]; rfl) rfl (hb hby d40_22) (ok rfl) (W := 0) (cap := 8) (by show 2 * 0 + _ ≤ _; exact Nat.le_of_eq rfl) (ok rfl) (by rw [m3]; omega) (ok rfl) (ok rfl)
  obtain ⟨b788, g788⟩ : ∃ z, z = h0.size := ⟨_, rfl⟩
  rw [← g788] at V788 A788 st788
  have ge_b788 : n0 ≤ b788 := Nat.le_trans Z0 (Nat.le_of_eq g788.symm)
  have sz_b788 : h0.size ≤ b788 := Nat.le_trans K0.1 (Nat.le_of_eq g788.symm)
  refine Goes.step (T' := T788) (g' := (mkF m 25 #[.val (.int (0 : Int32)), .val (.ref r), .val (.int (1 : Int32)), .unset, .unset, .unset, .unset, .unset, .unset] [(.ref b788)])) st788 ?_
  obtain ⟨T789, X789, e789, st789⟩ := castY X788 hx hZ hown (own_w hw 227 rfl) e788 (Ins.self A788) (g := (mkF m 25 #[.val (.int (0 : Int32)), .val (.ref r), .val (.int (1 : Int32)), .unset, .unset, .unset, .unset, .unset, .unset] [(.ref b788)])) rfl rfl (hb hby d40_25)
  refine Goes.step (T' := T789) (g' := (mkF m 28 #[.val (.int (0 : Int32)), .val (.ref r), .val (.int (1 : Int32)), .unset, .unset, .unset, .unset, .unset, .unset] [(.ref b788)])) st789 ?_
  refine Goes.retA X789 hx Bd.notSynchronized Bd.returns rfl rfl (hb hby d40_28) (ok rfl) (ok rfl) ?_
  rw [e789]
  have K790 : Keep h0 h788 [] := K0.ext E788
  exact ⟨b788, kr, rfl, N787, K790, V788⟩
theorem d39_0 : decode jdk_42_method_18_code 0 = .ok (.aload_n 0, 1) := by decide +kernel
theorem d39_1 : decode jdk_42_method_18_code 1 = .ok (.getstatic 86, 3) := by decide +kernel
theorem d39_4 : decode jdk_42_method_18_code 4 = .ok (.if_acmp .ne 10, 3) := by decide +kernel
theorem d39_7 : decode jdk_42_method_18_code 7 = .ok (.iload_n 1, 1) := by decide +kernel
theorem d39_8 : decode jdk_42_method_18_code 8 = .ok (.aload_n 2, 1) := by decide +kernel
theorem d39_9 : decode jdk_42_method_18_code 9 = .ok (.iconst 1, 1) := by decide +kernel
theorem d39_10 : decode jdk_42_method_18_code 10 = .ok (.invokestatic 252, 3) := by decide +kernel
theorem d39_13 : decode jdk_42_method_18_code 13 = .ok (.areturn, 1) := by decide +kernel
theorem d39_14 : decode jdk_42_method_18_code 14 = .ok (.aload_n 0, 1) := by decide +kernel
theorem d39_15 : decode jdk_42_method_18_code 15 = .ok (.getstatic 116, 3) := by decide +kernel
theorem d39_18 : decode jdk_42_method_18_code 18 = .ok (.if_acmp .ne 9, 3) := by decide +kernel
theorem d39_21 : decode jdk_42_method_18_code 21 = .ok (.iload_n 1, 1) := by decide +kernel
theorem d39_22 : decode jdk_42_method_18_code 22 = .ok (.aload_n 2, 1) := by decide +kernel
theorem d39_23 : decode jdk_42_method_18_code 23 = .ok (.invokestatic 256, 3) := by decide +kernel
theorem d39_26 : decode jdk_42_method_18_code 26 = .ok (.areturn, 1) := by decide +kernel
theorem d39_27 : decode jdk_42_method_18_code 27 = .ok (.aload_n 0, 1) := by decide +kernel
theorem d39_28 : decode jdk_42_method_18_code 28 = .ok (.getstatic 123, 3) := by decide +kernel
theorem d39_31 : decode jdk_42_method_18_code 31 = .ok (.if_acmp .ne 9, 3) := by decide +kernel
theorem d39_34 : decode jdk_42_method_18_code 34 = .ok (.iload_n 1, 1) := by decide +kernel
theorem d39_35 : decode jdk_42_method_18_code 35 = .ok (.aload_n 2, 1) := by decide +kernel
theorem d39_36 : decode jdk_42_method_18_code 36 = .ok (.invokestatic 260, 3) := by decide +kernel
theorem d39_39 : decode jdk_42_method_18_code 39 = .ok (.areturn, 1) := by decide +kernel
theorem d39_40 : decode jdk_42_method_18_code 40 = .ok (.aload_n 0, 1) := by decide +kernel
theorem d39_41 : decode jdk_42_method_18_code 41 = .ok (.iload_n 1, 1) := by decide +kernel
theorem d39_42 : decode jdk_42_method_18_code 42 = .ok (.aload_n 2, 1) := by decide +kernel
theorem d39_43 : decode jdk_42_method_18_code 43 = .ok (.iconst 1, 1) := by decide +kernel
theorem d39_44 : decode jdk_42_method_18_code 44 = .ok (.invokestatic 263, 3) := by decide +kernel
theorem d39_47 : decode jdk_42_method_18_code 47 = .ok (.areturn, 1) := by decide +kernel
theorem pd_2570 : parseMethodDescriptor "(B[BZ)[B" = some ⟨[.byte, (.array .byte), .boolean], some (.array .byte)⟩ := by decide +kernel
theorem efEc (u8 r : Addr) (m : MethodId) : entryFrame m #[(.ref u8), (.int (0 : Int32)), (.ref r)] 3 = mkF m 0 #[.val (.ref u8), .val (.int (0 : Int32)), .val (.ref r)] [] := by first | (simp [entryFrame, mkF, argsToLocals, Value.category]; done) | rfl
def QEc (Z : State) (r : Addr) (kr : ClassId) (cs : List Int32) (zc : Int32) (fm fi : Value) (u8 : Addr) (h0 : Heap) (n0 : Nat) (v : Option Value) (h : Heap) (L : List Loc) : Prop := ∃ q kq, v = some (.ref q) ∧ Fr n0 L ∧ Keep h0 h [] ∧ Arv Z h q kq .byte (Int32.ofNat cs.length) (cs.map Value.int) (.int (0 : Int32))
set_option maxRecDepth 65536 in
set_option maxHeartbeats 40000000 in
theorem rmEc (l : Launch) (Z : State) (a0 : Array Value) (hw : ∀ d ∈ tables_1, d.before a0 Z = true) (ws : List Jvm.Cond) (r : Addr) (kr : ClassId) (cs : List Int32) (zc : Int32) (fm fi : Value) (u8 : Addr) (h0 : Heap) (n0 : Nat) (Z0 : n0 ≤ h0.size) (O0 : Old Z n0 h0) (S_CS : Sta Z Z.heap "java/lang/String" "COMPACT_STRINGS" "Z" (.int zc)) (hzc : ¬ zc = 0) (S_FM : Sta Z Z.heap "jdk/internal/util/Preconditions" "SIOOBE_FORMATTER" "Ljava/util/function/BiFunction;" fm) (hfm : fm.isRef = true) (S_FI : Sta Z Z.heap "jdk/internal/util/Preconditions" "IOOBE_FORMATTER" "Ljava/util/function/BiFunction;" fi) (hfi : fi.isRef = true) (S_IN : Sta Z Z.heap "sun/nio/cs/UTF_8" "INSTANCE" "Lsun/nio/cs/UTF_8;" (.ref u8)) (S_U8 : Sta Z Z.heap "java/nio/charset/StandardCharsets" "UTF_8" "Ljava/nio/charset/Charset;" (.ref u8)) (Vr : Arv Z h0 r kr .byte (Int32.ofNat cs.length) (cs.map Value.int) (.int (0 : Int32))) (Er : Exa Z h0 r "[B") (h1 : 1 ≤ cs.length) (h5 : cs.length ≤ 5) (hcs : ∀ c ∈ cs, Pr c) :
    OwnLaw l (⟨"java/lang/String", "encode", "(Ljava/nio/charset/Charset;B[B)[B"⟩ : MethodName) jdk_42_method_18_code 3 (some (.array .byte)) ws (rR 3 1 8 50) #[(.ref u8), (.int (0 : Int32)), (.ref r)] Z h0 (QEc Z r kr cs zc fm fi u8 h0 n0) := by
  refine own_enter (plainFor_of_name pn_java_lang_String) (efEc u8 r) ?_
  intro p e s m below meth c s₁ Bd hx hby hml hZ hown X0 e0
  have N0 := Fr.nil n0
  have K0 : Keep h0 h0 [] := Keep.refl _ _
  obtain ⟨m0, m1, m2, m3, m4⟩ := own_n5 h5
  refine P1.aloadN X0.here hx (hb hby d39_0) rfl rfl ?_
  obtain ⟨T791, X791, e791, st791⟩ := getS2 X0 hx hZ hown (host := "") (Or.inl (own_w hw 208 rfl)) Via.refl e0 (S_IN.ext O0.2) (g := (mkF m 1 #[.val (.ref u8), .val (.int (0 : Int32)), .val (.ref r)] [(.ref u8)])) rfl (hb hby d39_1)
  refine Goes.step (T' := T791) (g' := (mkF m 4 #[.val (.ref u8), .val (.int (0 : Int32)), .val (.ref r)] [(.ref u8), (.ref u8)])) st791 ?_
  refine Goes.step (T' := T791) (g' := (mkF m 7 #[.val (.ref u8), .val (.int (0 : Int32)), .val (.ref r)] [])) (fun t_ k_ => Jvm.RoadKit.acmp (g := (mkF m 4 #[.val (.ref u8), .val (.int (0 : Int32)), .val (.ref r)] [(.ref u8), (.ref u8)])) X791 hx rfl rfl rfl (pc0 := 4) (pc' := 7) (same := true) rfl (hb hby d39_4) rfl (decide_eq_true rfl) (by decide) (by decide) k_) ?_
  refine P1.iloadN X791.here hx (hb hby d39_7) rfl ?_
  refine P1.aloadN X791.here hx (hb hby d39_8) rfl rfl ?_
  refine P1.iconst X791.here hx (1 : Int32) (hb hby d39_9) rfl ?_
  refine Goes.callS X791 hx (y := (⟨"java/lang/String", "encodeUTF8", "(B[BZ)[B"⟩ : MethodName)) hown (mvT hZ (own_w hw 210 rfl)) (mvT hZ (own_w hw 211 rfl)) (mvT hZ (own_w hw 36 rfl)) (mvT hZ (own_w hw 212 rfl)) (by decide) (kc' := 1) (ks' := 8) (backOf (W := 0) (rmEu l Z a0 hw [] r kr cs h0 n0 Z0 O0 Vr Er h1 h5 hcs) hZ (own_w hw 212 rfl) (own_w hw 36 rfl) (ok rfl) (ok rfl)) (g := (mkF m 10 #[.val (.ref u8), .val (.int (0 : Int32)), .val (.ref r)] [(.int (1 : Int32)), (.ref r), (.int (0 : Int32))])) rfl (by rw [hml]; rfl) (argsL := [(.int (0 : Int32)), (.ref r), (.int (1 : Int32))]) (rest := []) (lenOf pd_2570 rfl) rfl (by show 2 * 0 + _ ≤ _; exact Nat.le_of_eq rfl) (hb hby d39_10) rfl e791 (ok rfl) (ok rfl) ?_
  intro v792 T792 L792 q792 X792
  obtain ⟨o792, kq792, rfl, N792q, K792, g792V⟩ := q792
  have N792 := Fr.app N0 N792q
  show Goes p e below _ T792 (mkF m 13 #[.val (.ref u8), .val (.int (0 : Int32)), .val (.ref r)] [(.ref o792)])
  refine Goes.retA X792 hx Bd.notSynchronized Bd.returns rfl rfl (hb hby d39_13) (ok rfl) (ok rfl) ?_
  have K793 : Keep h0 T792.heap [] := K0.trans K792 all0
  exact ⟨o792, kq792, rfl, N792, K793, g792V⟩
theorem d38_0 : decode jdk_42_method_152_code 0 = .ok (.getstatic 38, 3) := by decide +kernel
theorem d38_3 : decode jdk_42_method_152_code 3 = .ok (.ifCond .eq 10, 3) := by decide +kernel
theorem d38_6 : decode jdk_42_method_152_code 6 = .ok (.aload_n 0, 1) := by decide +kernel
theorem d38_7 : decode jdk_42_method_152_code 7 = .ok (.getfield 15, 3) := by decide +kernel
theorem d38_10 : decode jdk_42_method_152_code 10 = .ok (.goto 4, 3) := by decide +kernel
theorem d38_13 : decode jdk_42_method_152_code 13 = .ok (.iconst 1, 1) := by decide +kernel
theorem d38_14 : decode jdk_42_method_152_code 14 = .ok (.ireturn, 1) := by decide +kernel
theorem efCod (a : Addr) (m : MethodId) : entryFrame m #[(.ref a)] 1 = mkF m 0 #[.val (.ref a)] [] := by first | (simp [entryFrame, mkF, argsToLocals, Value.category]; done) | rfl
def QCod (Z : State) (a : Addr) (zc : Int32) (fm fi : Value) (u8 : Addr) (h0 : Heap) (n0 : Nat) (v : Option Value) (h : Heap) (L : List Loc) : Prop := v = some (.int 0) ∧ Fr n0 L ∧ h = h0
set_option maxRecDepth 65536 in
set_option maxHeartbeats 40000000 in
theorem rmCod (l : Launch) (Z : State) (a0 : Array Value) (hw : ∀ d ∈ tables_1, d.before a0 Z = true) (ws : List Jvm.Cond) (a : Addr) (zc : Int32) (fm fi : Value) (u8 : Addr) (h0 : Heap) (n0 : Nat) (Z0 : n0 ≤ h0.size) (O0 : Old Z n0 h0) (S_CS : Sta Z Z.heap "java/lang/String" "COMPACT_STRINGS" "Z" (.int zc)) (hzc : ¬ zc = 0) (S_FM : Sta Z Z.heap "jdk/internal/util/Preconditions" "SIOOBE_FORMATTER" "Ljava/util/function/BiFunction;" fm) (hfm : fm.isRef = true) (S_FI : Sta Z Z.heap "jdk/internal/util/Preconditions" "IOOBE_FORMATTER" "Ljava/util/function/BiFunction;" fi) (hfi : fi.isRef = true) (S_IN : Sta Z Z.heap "sun/nio/cs/UTF_8" "INSTANCE" "Lsun/nio/cs/UTF_8;" (.ref u8)) (S_U8 : Sta Z Z.heap "java/nio/charset/StandardCharsets" "UTF_8" "Ljava/nio/charset/Charset;" (.ref u8)) (Fa : Fld Z h0 a "java/lang/String" "coder" "B" (.int (0 : Int32))) :
    OwnLaw l y24_ jdk_42_method_152_code 1 (some .byte) ws (rR 0 0 0 0) #[(.ref a)] Z h0 (QCod Z a zc fm fi u8 h0 n0) := by
  refine own_enter (plainFor_of_name pn_java_lang_String) (efCod a) ?_
  intro p e s m below meth c s₁ Bd hx hby hml hZ hown X0 e0
  have N0 := Fr.nil n0
  have K0 : Keep h0 h0 [] := Keep.refl _ _
  obtain ⟨T794, X794, e794, st794⟩ := getS2 X0 hx hZ hown (host := "") (Or.inl (own_w hw 204 rfl)) Via.refl e0 (S_CS.ext O0.2) (g := (mkF m 0 #[.val (.ref a)] [])) rfl (hb hby d38_0)
  refine Goes.step (T' := T794) (g' := (mkF m 3 #[.val (.ref a)] [(.int zc)])) st794 ?_
  refine P1.ifNo X794.here hx (hb hby d38_3) ((if0 _ _).trans (feq (hzc : ¬ (zc = (0 : Int32)))).1) ?_
  refine P1.aloadN X794.here hx (hb hby d38_6) rfl rfl ?_
  obtain ⟨T795, X795, e795, st795⟩ := getF X794 hx hZ hown (host := "") (Or.inl (own_w hw 173 rfl)) Via.refl e794 Fa (g := (mkF m 7 #[.val (.ref a)] [(.ref a)])) rfl rfl (hb hby d38_7)
  refine Goes.step (T' := T795) (g' := (mkF m 10 #[.val (.ref a)] [(.int (0 : Int32))])) st795 ?_
  refine P1.goto X795.here hx 14 (hb hby d38_10) (by decide) (by decide) ?_
  refine Goes.retN X795 hx Bd.notSynchronized (t := .byte) Bd.returns (by simp) (hb hby d38_14) (ok rfl) (ok rfl) ?_
  rw [e795]
  exact ⟨rfl, N0, rfl⟩
theorem d37_0 : decode jdk_42_method_64_code 0 = .ok (.aload_n 1, 1) := by decide +kernel
theorem d37_1 : decode jdk_42_method_64_code 1 = .ok (.ifnonnull 11, 3) := by decide +kernel
theorem d37_4 : decode jdk_42_method_64_code 4 = .ok (.new 538, 3) := by decide +kernel
theorem d37_7 : decode jdk_42_method_64_code 7 = .ok (.dup, 1) := by decide +kernel
theorem d37_8 : decode jdk_42_method_64_code 8 = .ok (.invokespecial 540, 3) := by decide +kernel
theorem d37_11 : decode jdk_42_method_64_code 11 = .ok (.athrow, 1) := by decide +kernel
theorem d37_12 : decode jdk_42_method_64_code 12 = .ok (.aload_n 1, 1) := by decide +kernel
theorem d37_13 : decode jdk_42_method_64_code 13 = .ok (.aload_n 0, 1) := by decide +kernel
theorem d37_14 : decode jdk_42_method_64_code 14 = .ok (.invokevirtual 335, 3) := by decide +kernel
theorem d37_17 : decode jdk_42_method_64_code 17 = .ok (.aload_n 0, 1) := by decide +kernel
theorem d37_18 : decode jdk_42_method_64_code 18 = .ok (.getfield 9, 3) := by decide +kernel
theorem d37_21 : decode jdk_42_method_64_code 21 = .ok (.invokestatic 535, 3) := by decide +kernel
theorem d37_24 : decode jdk_42_method_64_code 24 = .ok (.areturn, 1) := by decide +kernel
theorem pd_320 : parseMethodDescriptor "()B" = some ⟨[], some .byte⟩ := by decide +kernel
theorem pd_48999 : parseMethodDescriptor "(Ljava/nio/charset/Charset;B[B)[B" = some ⟨[(.object "java/nio/charset/Charset"), .byte, (.array .byte)], some (.array .byte)⟩ := by decide +kernel
theorem efGb (y u8 : Addr) (m : MethodId) : entryFrame m #[(.ref y), (.ref u8)] 2 = mkF m 0 #[.val (.ref y), .val (.ref u8)] [] := by first | (simp [entryFrame, mkF, argsToLocals, Value.category]; done) | rfl
def QGb (Z : State) (y r : Addr) (kr : ClassId) (cs : List Int32) (zc : Int32) (fm fi : Value) (u8 : Addr) (h0 : Heap) (n0 : Nat) (v : Option Value) (h : Heap) (L : List Loc) : Prop := ∃ q kq, v = some (.ref q) ∧ Fr n0 L ∧ Keep h0 h [] ∧ Arv Z h q kq .byte (Int32.ofNat cs.length) (cs.map Value.int) (.int (0 : Int32))
set_option maxRecDepth 65536 in
set_option maxHeartbeats 40000000 in
theorem rmGb (l : Launch) (Z : State) (a0 : Array Value) (hw : ∀ d ∈ tables_1, d.before a0 Z = true) (ws : List Jvm.Cond) (y r : Addr) (kr : ClassId) (cs : List Int32) (zc : Int32) (fm fi : Value) (u8 : Addr) (h0 : Heap) (n0 : Nat) (Z0 : n0 ≤ h0.size) (O0 : Old Z n0 h0) (S_CS : Sta Z Z.heap "java/lang/String" "COMPACT_STRINGS" "Z" (.int zc)) (hzc : ¬ zc = 0) (S_FM : Sta Z Z.heap "jdk/internal/util/Preconditions" "SIOOBE_FORMATTER" "Ljava/util/function/BiFunction;" fm) (hfm : fm.isRef = true) (S_FI : Sta Z Z.heap "jdk/internal/util/Preconditions" "IOOBE_FORMATTER" "Ljava/util/function/BiFunction;" fi) (hfi : fi.isRef = true) (S_IN : Sta Z Z.heap "sun/nio/cs/UTF_8" "INSTANCE" "Lsun/nio/cs/UTF_8;" (.ref u8)) (S_U8 : Sta Z Z.heap "java/nio/charset/StandardCharsets" "UTF_8" "Ljava/nio/charset/Charset;" (.ref u8)) (Ey : Exa Z h0 y "java/lang/String") (Vy : Fld Z h0 y "java/lang/String" "value" "[B" (.ref r)) (Cy : Fld Z h0 y "java/lang/String" "coder" "B" (.int (0 : Int32))) (Vr : Arv Z h0 r kr .byte (Int32.ofNat cs.length) (cs.map Value.int) (.int (0 : Int32))) (Er : Exa Z h0 r "[B") (h1 : 1 ≤ cs.length) (h5 : cs.length ≤ 5) (hcs : ∀ c ∈ cs, Pr c) :
    OwnLaw l y27_ jdk_42_method_64_code 2 (some (.array .byte)) ws (rR 4 1 8 64) #[(.ref y), (.ref u8)] Z h0 (QGb Z y r kr cs zc fm fi u8 h0 n0) := by
  refine own_enter (plainFor_of_name pn_java_lang_String) (efGb y u8) ?_
  intro p e s m below meth c s₁ Bd hx hby hml hZ hown X0 e0
  have N0 := Fr.nil n0
  have K0 : Keep h0 h0 [] := Keep.refl _ _
  obtain ⟨m0, m1, m2, m3, m4⟩ := own_n5 h5
  refine P1.aloadN X0.here hx (hb hby d37_0) rfl rfl ?_
  refine P1.ifnonnullYes X0.here hx 12 (hb hby d37_1) (by decide) (by decide) ?_
  refine P1.aloadN X0.here hx (hb hby d37_12) rfl rfl ?_
  refine P1.aloadN X0.here hx (hb hby d37_13) rfl rfl ?_
  refine Goes.callV X0 hx hZ (y := y24_) (z := y24_) hown (mvT hZ (own_w hw 199 rfl)) (mvT hZ (own_w hw 200 rfl)) (notFace_of_selects (args := #[]) (mvT hZ (own_w hw 202 rfl))) (mvT hZ (own_w hw 202 rfl)) (mvT hZ (own_w hw 201 rfl)) (by decide) (kc' := 0) (ks' := 0) (backOf (W := 1) (rmCod l Z a0 hw [] y zc fm fi u8 h0 n0 Z0 O0 S_CS hzc S_FM hfm S_FI hfi S_IN S_U8 Cy) hZ (own_w hw 203 rfl) (own_w hw 36 rfl) (ok rfl) (ok rfl)) (b := y) e0 Ey (g := (mkF m 14 #[.val (.ref y), .val (.ref u8)] [(.ref y), (.ref u8)])) rfl (by rw [hml]; rfl) (argsL := []) (rest := [(.ref u8)]) (lenOf pd_320 rfl) rfl (by show 2 * 0 + _ ≤ _; exact Nat.le_of_eq rfl) (hb hby d37_14) rfl (ok rfl) (ok rfl) ?_
  intro v796 T796 L796 q796 X796
  obtain ⟨rfl, N796q, hE796⟩ := q796
  have N796 := Fr.app N0 N796q
  show Goes p e below _ T796 (mkF m 17 #[.val (.ref y), .val (.ref u8)] [(.int (0 : Int32)), (.ref u8)])
  refine P1.aloadN X796.here hx (hb hby d37_17) rfl rfl ?_
  obtain ⟨T797, X797, e797, st797⟩ := getF X796 hx hZ hown (host := "") (Or.inl (own_w hw 190 rfl)) Via.refl hE796 Vy (g := (mkF m 18 #[.val (.ref y), .val (.ref u8)] [(.ref y), (.int (0 : Int32)), (.ref u8)])) rfl rfl (hb hby d37_18)
  refine Goes.step (T' := T797) (g' := (mkF m 21 #[.val (.ref y), .val (.ref u8)] [(.ref r), (.int (0 : Int32)), (.ref u8)])) st797 ?_
  refine Goes.callS X797 hx (y := (⟨"java/lang/String", "encode", "(Ljava/nio/charset/Charset;B[B)[B"⟩ : MethodName)) hown (mvT hZ (own_w hw 205 rfl)) (mvT hZ (own_w hw 206 rfl)) (mvT hZ (own_w hw 36 rfl)) (mvT hZ (own_w hw 207 rfl)) (by decide) (kc' := 1) (ks' := 8) (backOf (W := 0) (rmEc l Z a0 hw [] r kr cs zc fm fi u8 h0 n0 Z0 O0 S_CS hzc S_FM hfm S_FI hfi S_IN S_U8 Vr Er h1 h5 hcs) hZ (own_w hw 207 rfl) (own_w hw 36 rfl) (ok rfl) (ok rfl)) (g := (mkF m 21 #[.val (.ref y), .val (.ref u8)] [(.ref r), (.int (0 : Int32)), (.ref u8)])) rfl (by rw [hml]; rfl) (argsL := [(.ref u8), (.int (0 : Int32)), (.ref r)]) (rest := []) (lenOf pd_48999 rfl) rfl (by show 2 * 0 + _ ≤ _; exact Nat.le_of_eq rfl) (hb hby d37_21) rfl e797 (ok rfl) (ok rfl) ?_
  intro v798 T798 L798 q798 X798
  obtain ⟨o798, kq798, rfl, N798q, K798, g798V⟩ := q798
  have N798 := Fr.app N796 N798q
  show Goes p e below _ T798 (mkF m 24 #[.val (.ref y), .val (.ref u8)] [(.ref o798)])
  refine Goes.retA X798 hx Bd.notSynchronized Bd.returns rfl rfl (hb hby d37_24) (ok rfl) (ok rfl) ?_
  have K799 : Keep h0 T798.heap [] := K0.trans K798 all0
  exact ⟨o798, kq798, rfl, N798, K799, g798V⟩
theorem d18_0 : decode prog_46_method_8_code 0 = .ok (.aload_n 0, 1) := by decide +kernel
theorem d18_1 : decode prog_46_method_8_code 1 = .ok (.getfield 12, 3) := by decide +kernel
theorem d18_4 : decode prog_46_method_8_code 4 = .ok (.invokestatic 21, 3) := by decide +kernel
theorem d18_7 : decode prog_46_method_8_code 7 = .ok (.aload_n 0, 1) := by decide +kernel
theorem d18_8 : decode prog_46_method_8_code 8 = .ok (.getfield 12, 3) := by decide +kernel
theorem d18_11 : decode prog_46_method_8_code 11 = .ok (.invokevirtual 25, 3) := by decide +kernel
theorem d18_14 : decode prog_46_method_8_code 14 = .ok (.getstatic 39, 3) := by decide +kernel
theorem d18_17 : decode prog_46_method_8_code 17 = .ok (.invokevirtual 45, 3) := by decide +kernel
theorem d18_20 : decode prog_46_method_8_code 20 = .ok (.areturn, 1) := by decide +kernel
theorem pd_19649 : parseMethodDescriptor "()Ljava/lang/String;" = some ⟨[], some (.object "java/lang/String")⟩ := by decide +kernel
theorem pd_41938 : parseMethodDescriptor "(Ljava/nio/charset/Charset;)[B" = some ⟨[(.object "java/nio/charset/Charset")], some (.array .byte)⟩ := by decide +kernel
theorem efU8 (y : Addr) (m : MethodId) : entryFrame m #[(.ref y)] 1 = mkF m 0 #[.val (.ref y)] [] := by first | (simp [entryFrame, mkF, argsToLocals, Value.category]; done) | rfl
def QU8 (Z : State) (y x t : Addr) (kt : ClassId) (cs : List Int32) (zc : Int32) (fm fi : Value) (u8 : Addr) (h0 : Heap) (n0 : Nat) (v : Option Value) (h : Heap) (L : List Loc) : Prop := ∃ q kq, v = some (.ref q) ∧ Fr n0 L ∧ Keep h0 h [] ∧ Arv Z h q kq .byte (Int32.ofNat cs.length) (cs.map Value.int) (.int (0 : Int32))
set_option maxRecDepth 65536 in
set_option maxHeartbeats 40000000 in
theorem rmU8 (l : Launch) (Z : State) (a0 : Array Value) (hw : ∀ d ∈ tables_1, d.before a0 Z = true) (ws : List Jvm.Cond) (y x t : Addr) (kt : ClassId) (cs : List Int32) (zc : Int32) (fm fi : Value) (u8 : Addr) (h0 : Heap) (n0 : Nat) (Z0 : n0 ≤ h0.size) (O0 : Old Z n0 h0) (S_CS : Sta Z Z.heap "java/lang/String" "COMPACT_STRINGS" "Z" (.int zc)) (hzc : ¬ zc = 0) (S_FM : Sta Z Z.heap "jdk/internal/util/Preconditions" "SIOOBE_FORMATTER" "Ljava/util/function/BiFunction;" fm) (hfm : fm.isRef = true) (S_FI : Sta Z Z.heap "jdk/internal/util/Preconditions" "IOOBE_FORMATTER" "Ljava/util/function/BiFunction;" fi) (hfi : fi.isRef = true) (S_IN : Sta Z Z.heap "sun/nio/cs/UTF_8" "INSTANCE" "Lsun/nio/cs/UTF_8;" (.ref u8)) (S_U8 : Sta Z Z.heap "java/nio/charset/StandardCharsets" "UTF_8" "Ljava/nio/charset/Charset;" (.ref u8)) (Ey : Exa Z h0 y "com/example/medeweten/medeweten/core/XmlText") (Fy : Fld Z h0 y "com/example/medeweten/medeweten/core/XmlText" "text" "Ljava/lang/StringBuilder;" (.ref x)) (gx : n0 ≤ x) (gt : n0 ≤ t) (Ex : Exa Z h0 x "java/lang/StringBuilder") (Fv : Fld Z h0 x "java/lang/AbstractStringBuilder" "value" "[B" (.ref t)) (Fc : Fld Z h0 x "java/lang/AbstractStringBuilder" "coder" "B" (.int (0 : Int32))) (Fn : Fld Z h0 x "java/lang/AbstractStringBuilder" "count" "I" (.int (Int32.ofNat cs.length))) (Vt : Arv Z h0 t kt .byte (8192 : Int32) (cs.map Value.int) (.int (0 : Int32))) (h1 : 1 ≤ cs.length) (h5 : cs.length ≤ 5) (hcs : ∀ c ∈ cs, Pr c) :
    OwnLaw l y3_ prog_46_method_8_code 1 (some (.array .byte)) ws (rR 6 3 20 91) #[(.ref y)] Z h0 (QU8 Z y x t kt cs zc fm fi u8 h0 n0) := by
  refine own_enter (plainFor_of_name pn_com_example_medeweten_medeweten_core_XmlText) (efU8 y) ?_
  intro p e s m below meth c s₁ Bd hx hby hml hZ hown X0 e0
  have N0 := Fr.nil n0
  have K0 : Keep h0 h0 [] := Keep.refl _ _
  obtain ⟨m0, m1, m2, m3, m4⟩ := own_n5 h5
  refine P1.aloadN X0.here hx (hb hby d18_0) rfl rfl ?_
  obtain ⟨T800, X800, e800, st800⟩ := getF X0 hx hZ hown (host := "") (Or.inl (own_w hw 42 rfl)) Via.refl e0 Fy (g := (mkF m 1 #[.val (.ref y)] [(.ref y)])) rfl rfl (hb hby d18_1)
  refine Goes.step (T' := T800) (g' := (mkF m 4 #[.val (.ref y)] [(.ref x)])) st800 ?_
  refine Goes.callS X800 hx (y := y2_) hown (mvT hZ (own_w hw 105 rfl)) (mvT hZ (own_w hw 106 rfl)) (mvT hZ (own_w hw 8 rfl)) (mvT hZ (own_w hw 107 rfl)) (by decide) (kc' := 0) (ks' := 0) (backOf (W := 0) (rmRdG l Z a0 hw [] x t kt cs zc fm fi u8 h0 n0 Z0 O0 S_CS hzc S_FM hfm S_FI hfi S_IN S_U8 gx gt Ex Fv Fc Fn Vt h1 h5 hcs) hZ (own_w hw 107 rfl) (own_w hw 8 rfl) (ok rfl) (ok rfl)) (g := (mkF m 4 #[.val (.ref y)] [(.ref x)])) rfl (by rw [hml]; rfl) (argsL := [(.ref x)]) (rest := []) (lenOf pd_37548 rfl) rfl (by show 2 * 0 + _ ≤ _; exact Nat.le_of_eq rfl) (hb hby d18_4) rfl e800 (ok rfl) (ok rfl) ?_
  intro v801 T801 L801 q801 X801
  obtain ⟨rfl, N801q, hE801⟩ := q801
  have N801 := Fr.app N0 N801q
  show Goes p e below _ T801 (mkF m 7 #[.val (.ref y)] [])
  refine P1.aloadN X801.here hx (hb hby d18_7) rfl rfl ?_
  obtain ⟨T802, X802, e802, st802⟩ := getF X801 hx hZ hown (host := "") (Or.inl (own_w hw 42 rfl)) Via.refl hE801 Fy (g := (mkF m 8 #[.val (.ref y)] [(.ref y)])) rfl rfl (hb hby d18_8)
  refine Goes.step (T' := T802) (g' := (mkF m 11 #[.val (.ref y)] [(.ref x)])) st802 ?_
  refine Goes.callV X802 hx hZ (y := y33_) (z := y33_) hown (mvT hZ (own_w hw 150 rfl)) (mvT hZ (own_w hw 151 rfl)) (notFace_of_selects (args := #[]) (mvT hZ (own_w hw 153 rfl))) (mvT hZ (own_w hw 153 rfl)) (mvT hZ (own_w hw 152 rfl)) (by decide) (kc' := 2) (ks' := 12) (backOf (W := 0) (rmTs l Z a0 hw [] x t kt cs zc fm fi u8 h0 n0 Z0 O0 S_CS hzc S_FM hfm S_FI hfi S_IN S_U8 gx gt Ex Fv Fc Fn Vt h1 h5 hcs) hZ (own_w hw 154 rfl) (own_w hw 24 rfl) (ok rfl) (ok rfl)) (b := x) e802 Ex (g := (mkF m 11 #[.val (.ref y)] [(.ref x)])) rfl (by rw [hml]; rfl) (argsL := []) (rest := []) (lenOf pd_19649 rfl) rfl (by show 2 * 0 + _ ≤ _; exact Nat.le_of_eq rfl) (hb hby d18_11) rfl (ok rfl) (ok rfl) ?_
  intro v803 T803 L803 q803 X803
  obtain ⟨y803, r803, kr803, rfl, N803q, K803, g803S, g803v, g803c, g803E, g803V⟩ := q803
  have N803 := Fr.app N801 N803q
  show Goes p e below _ T803 (mkF m 14 #[.val (.ref y)] [(.ref y803)])
  have O805 : Old Z n0 T803.heap := O0.keep K803 all0
  obtain ⟨T804, X804, e804, st804⟩ := getS2 X803 hx hZ hown (host := "") (Or.inl (own_w hw 192 rfl)) Via.refl rfl (S_U8.ext O805.2) (g := (mkF m 14 #[.val (.ref y)] [(.ref y803)])) rfl (hb hby d18_14)
  refine Goes.step (T' := T804) (g' := (mkF m 17 #[.val (.ref y)] [(.ref u8), (.ref y803)])) st804 ?_
  have Z806 : n0 ≤ T803.heap.size := Nat.le_trans Z0 K803.1
  refine Goes.callV X804 hx hZ (y := y27_) (z := y27_) hown (mvT hZ (own_w hw 194 rfl)) (mvT hZ (own_w hw 195 rfl)) (notFace_of_selects (args := #[]) (mvT hZ (own_w hw 197 rfl))) (mvT hZ (own_w hw 197 rfl)) (mvT hZ (own_w hw 196 rfl)) (by decide) (kc' := 1) (ks' := 8) (backOf (W := 0) (rmGb l Z a0 hw [] y803 r803 kr803 cs zc fm fi u8 T803.heap n0 Z806 O805 S_CS hzc S_FM hfm S_FI hfi S_IN S_U8 g803S g803v g803c g803V g803E h1 h5 hcs) hZ (own_w hw 198 rfl) (own_w hw 36 rfl) (ok rfl) (ok rfl)) (b := y803) e804 g803S (g := (mkF m 17 #[.val (.ref y)] [(.ref u8), (.ref y803)])) rfl (by rw [hml]; rfl) (argsL := [(.ref u8)]) (rest := []) (lenOf pd_41938 rfl) rfl (by show 2 * 0 + _ ≤ _; exact Nat.le_of_eq rfl) (hb hby d18_17) rfl (ok rfl) (ok rfl) ?_
  intro v807 T807 L807 q807 X807
  obtain ⟨o807, kq807, rfl, N807q, K807, g807V⟩ := q807
  have N807 := Fr.app N803 N807q
  show Goes p e below _ T807 (mkF m 20 #[.val (.ref y)] [(.ref o807)])
  refine Goes.retA X807 hx Bd.notSynchronized Bd.returns rfl rfl (hb hby d18_20) (ok rfl) (ok rfl) ?_
  have K808 : Keep h0 T803.heap [] := K0.trans K803 all0
  have K809 : Keep h0 T807.heap [] := K808.trans K807 all0
  exact ⟨o807, kq807, rfl, N807, K809, g807V⟩
theorem d43_0 : decode method_3_code 0 = .ok (.iload 4, 2) := by decide +kernel
theorem d43_2 : decode method_3_code 2 = .ok (.iload_n 3, 1) := by decide +kernel
theorem d43_3 : decode method_3_code 3 = .ok (.if_icmp .lt 5, 3) := by decide +kernel
theorem d43_6 : decode method_3_code 6 = .ok (.iconst 1, 1) := by decide +kernel
theorem d43_7 : decode method_3_code 7 = .ok (.ireturn, 1) := by decide +kernel
theorem d43_8 : decode method_3_code 8 = .ok (.aload_n 0, 1) := by decide +kernel
theorem d43_9 : decode method_3_code 9 = .ok (.iconst 1, 1) := by decide +kernel
theorem d43_10 : decode method_3_code 10 = .ok (.iload 4, 2) := by decide +kernel
theorem d43_12 : decode method_3_code 12 = .ok (.iadd, 1) := by decide +kernel
theorem d43_13 : decode method_3_code 13 = .ok (.baload, 1) := by decide +kernel
theorem d43_14 : decode method_3_code 14 = .ok (.aload_n 1, 1) := by decide +kernel
theorem d43_15 : decode method_3_code 15 = .ok (.iload_n 2, 1) := by decide +kernel
theorem d43_16 : decode method_3_code 16 = .ok (.iload 4, 2) := by decide +kernel
theorem d43_18 : decode method_3_code 18 = .ok (.iadd, 1) := by decide +kernel
theorem d43_19 : decode method_3_code 19 = .ok (.caload, 1) := by decide +kernel
theorem d43_20 : decode method_3_code 20 = .ok (.if_icmp .ne 7, 3) := by decide +kernel
theorem d43_23 : decode method_3_code 23 = .ok (.iconst 1, 1) := by decide +kernel
theorem d43_24 : decode method_3_code 24 = .ok (.goto 4, 3) := by decide +kernel
theorem d43_27 : decode method_3_code 27 = .ok (.iconst 0, 1) := by decide +kernel
theorem d43_28 : decode method_3_code 28 = .ok (.ireturn, 1) := by decide +kernel
theorem efAt (r b : Addr) (oi ni i : Int32) (m : MethodId) : entryFrame m #[(.ref r), (.ref b), (.int oi), (.int ni), (.int i)] 5 = mkF m 0 #[.val (.ref r), .val (.ref b), .val (.int oi), .val (.int ni), .val (.int i)] [] := by first | (simp [entryFrame, mkF, argsToLocals, Value.category]; done) | rfl
def QAt (Z : State) (r : Addr) (kr : ClassId) (b : Addr) (kb : ClassId) (pr c0 c1 c2 c3 : Int32) (o n k : Nat) (i oi ni : Int32) (h0 : Heap) (n0 : Nat) (v : Option Value) (h : Heap) (L : List Loc) : Prop := v = some (.int 1) ∧ Fr n0 L ∧ h = h0
set_option maxRecDepth 65536 in
set_option maxHeartbeats 40000000 in
theorem rmAt (l : Launch) (Z : State) (a0 : Array Value) (hw : ∀ d ∈ tables_1, d.before a0 Z = true) (ws : List Jvm.Cond) (r : Addr) (kr : ClassId) (b : Addr) (kb : ClassId) (pr c0 c1 c2 c3 : Int32) (o n k : Nat) (i oi ni : Int32) (h0 : Heap) (n0 : Nat) (Z0 : n0 ≤ h0.size) (O0 : Old Z n0 h0) (Vr : Arv Z h0 r kr .byte (Int32.ofNat (ocs pr c0 c1 c2 c3 o n).length) ((ocs pr c0 c1 c2 c3 o n).map Value.int) (.int (0 : Int32))) (Vb : Arv Z h0 b kb .char (4 : Int32) [(.int c0), (.int c1), (.int c2), (.int c3)] (.int (0 : Int32))) (hon : o + n ≤ 4) (hki : Int32.ofNat k = i) (hk3 : k ≤ 3) (hoi : oi = Int32.ofNat o) (hni : ni = Int32.ofNat n) :
    OwnLaw l y6_ method_3_code 5 (some .boolean) ws (rR 0 0 0 0) #[(.ref r), (.ref b), (.int oi), (.int ni), (.int i)] Z h0 (QAt Z r kr b kb pr c0 c1 c2 c3 o n k i oi ni h0 n0) := by
  refine own_enter (plainFor_of_name pn_com_example_medeweten_medeweten_core_XmlTextWritePinLaw) (efAt r b oi ni i) ?_
  intro p e s m below meth c s₁ Bd hx hby hml hZ hown X0 e0
  have N0 := Fr.nil n0
  have K0 : Keep h0 h0 [] := Keep.refl _ _
  subst hoi hni
  refine P1.iload X0.here hx (hb hby d43_0) rfl ?_
  refine P1.iloadN X0.here hx (hb hby d43_2) rfl ?_
  by_cases hlt : i < (Int32.ofNat n)
  ·
    obtain ⟨a1, a2, a3, a4⟩ := own_at (pr := pr) (c0 := c0) (c1 := c1) (c2 := c2) (c3 := c3) hki hon hk3 hlt
    refine P1.icmpYes X0.here hx 8 (hb hby d43_3) (tlt (hlt : i < (Int32.ofNat n))).1 (by decide) (by decide) ?_
    refine P1.aloadN X0.here hx (hb hby d43_8) rfl rfl ?_
    refine P1.iconst X0.here hx (1 : Int32) (hb hby d43_9) rfl ?_
    refine P1.iload X0.here hx (hb hby d43_10) rfl ?_
    refine P1.iadd X0.here hx (hb hby d43_12) ?_
    obtain ⟨cl810, Ar810, qk810, sl810, nz810, ha810, fi810⟩ := id Vr
    have i811 := inb_of (j := ((1 : Int32) + i)) sl810 a1
    refine Goes.step (T' := s₁) (g' := (mkF m 14 #[.val (.ref r), .val (.ref b), .val (.int (Int32.ofNat o)), .val (.int (Int32.ofNat n)), .val (.int i)] [(.int ([c0, c1, c2, c3].getD (o + k) 0))])) (fun t_ k_ => X0.baloadBytes hx (j := ((1 : Int32) + i)) (v := (.int ([c0, c1, c2, c3].getD (o + k) 0))) (by rw [e0]; exact Ar810.1) (State.isArrayOf_alike hZ.alike Ar810.2.1) Ar810.2.2 i811 (Has.at ha810 i811 a2) (g := (mkF m 13 #[.val (.ref r), .val (.ref b), .val (.int (Int32.ofNat o)), .val (.int (Int32.ofNat n)), .val (.int i)] [(.int ((1 : Int32) + i)), (.ref r)])) rfl rfl (hb hby d43_13) _ k_) ?_
    refine P1.aloadN X0.here hx (hb hby d43_14) rfl rfl ?_
    refine P1.iloadN X0.here hx (hb hby d43_15) rfl ?_
    refine P1.iload X0.here hx (hb hby d43_16) rfl ?_
    refine P1.iadd X0.here hx (hb hby d43_18) ?_
    obtain ⟨cl812, Ar812, qk812, sl812, nz812, ha812, fi812⟩ := id Vb
    have i813 := inb_of (j := ((Int32.ofNat o) + i)) sl812 a3
    refine Goes.step (T' := s₁) (g' := (mkF m 20 #[.val (.ref r), .val (.ref b), .val (.int (Int32.ofNat o)), .val (.int (Int32.ofNat n)), .val (.int i)] [(.int ([c0, c1, c2, c3].getD (o + k) 0)), (.int ([c0, c1, c2, c3].getD (o + k) 0))])) (fun t_ k_ => X0.caload hx (j := ((Int32.ofNat o) + i)) (v := (.int ([c0, c1, c2, c3].getD (o + k) 0))) (by rw [e0]; exact Ar812.1) (State.isArrayOf_alike hZ.alike Ar812.2.1) Ar812.2.2 i813 (Has.at ha812 i813 a4) (g := (mkF m 19 #[.val (.ref r), .val (.ref b), .val (.int (Int32.ofNat o)), .val (.int (Int32.ofNat n)), .val (.int i)] [(.int ((Int32.ofNat o) + i)), (.ref b), (.int ([c0, c1, c2, c3].getD (o + k) 0))])) rfl rfl (hb hby d43_19) _ k_) ?_
    refine P1.icmpNo X0.here hx (hb hby d43_20) (teq (rfl : ([c0, c1, c2, c3].getD (o + k) 0) = ([c0, c1, c2, c3].getD (o + k) 0))).2 ?_
    refine P1.iconst X0.here hx (1 : Int32) (hb hby d43_23) rfl ?_
    refine P1.goto X0.here hx 28 (hb hby d43_24) (by decide) (by decide) ?_
    refine Goes.retN X0 hx Bd.notSynchronized (t := .boolean) Bd.returns (by simp) (hb hby d43_28) (ok rfl) (ok rfl) ?_
    rw [e0]
    exact ⟨rfl, N0, rfl⟩
  ·
    refine P1.icmpNo X0.here hx (hb hby d43_3) (flt (hlt : ¬ (i < (Int32.ofNat n)))).1 ?_
    refine P1.iconst X0.here hx (1 : Int32) (hb hby d43_6) rfl ?_
    refine Goes.retN X0 hx Bd.notSynchronized (t := .boolean) Bd.returns (by simp) (hb hby d43_7) (ok rfl) (ok rfl) ?_
    rw [e0]
    exact ⟨rfl, N0, rfl⟩
theorem pd_3921 : parseMethodDescriptor "([B[CIII)Z" = some ⟨[(.array .byte), (.array .char), .int, .int, .int], some .boolean⟩ := by decide +kernel
theorem ef0 (p0 p1 p2 p3 : Int32) (m : MethodId) : entryFrame m #[(.int p0), (.int p1), (.int p2), (.int p3)] maxLocals = mkF m 0 #[.val (.int p0), .val (.int p1), .val (.int p2), .val (.int p3), .unset, .unset, .unset, .unset, .unset, .unset] [] := by first | (simp [entryFrame, mkF, argsToLocals, Value.category, maxLocals]; done) | rfl
def Q0 (Z : State) (p0 p1 p2 p3 zc : Int32) (fm fi : Value) (u8 : Addr) (h0 : Heap) (n0 : Nat) (v : Option Value) (h : Heap) (L : List Loc) : Prop := v = some (.int 1) ∧ Fr n0 L
set_option maxRecDepth 65536 in
set_option maxHeartbeats 40000000 in
theorem rm0 (l : Launch) (Z : State) (a0 : Array Value) (hw : ∀ d ∈ tables_1, d.before a0 Z = true) (ws : List Jvm.Cond) (p0 p1 p2 p3 zc : Int32) (fm fi : Value) (u8 : Addr) (h0 : Heap) (n0 : Nat) (Z0 : n0 ≤ h0.size) (O0 : Old Z n0 h0) (S_CS : Sta Z Z.heap "java/lang/String" "COMPACT_STRINGS" "Z" (.int zc)) (hzc : ¬ zc = 0) (S_FM : Sta Z Z.heap "jdk/internal/util/Preconditions" "SIOOBE_FORMATTER" "Ljava/util/function/BiFunction;" fm) (hfm : fm.isRef = true) (S_FI : Sta Z Z.heap "jdk/internal/util/Preconditions" "IOOBE_FORMATTER" "Ljava/util/function/BiFunction;" fi) (hfi : fi.isRef = true) (S_IN : Sta Z Z.heap "sun/nio/cs/UTF_8" "INSTANCE" "Lsun/nio/cs/UTF_8;" (.ref u8)) (S_U8 : Sta Z Z.heap "java/nio/charset/StandardCharsets" "UTF_8" "Ljava/nio/charset/Charset;" (.ref u8)) :
    OwnLaw l x code maxLocals ret ws room_1 #[(.int p0), (.int p1), (.int p2), (.int p3)] Z h0 (Q0 Z p0 p1 p2 p3 zc fm fi u8 h0 n0) := by
  refine own_enter (plainFor_of_name pn_com_example_medeweten_medeweten_core_XmlTextWritePinLaw) (ef0 p0 p1 p2 p3) ?_
  intro p e s m below meth c s₁ Bd hx hby hml hZ hown X0 e0
  have hml : c.maxLocals = 10 := hml
  have N0 := Fr.nil n0
  have K0 : Keep h0 h0 [] := Keep.refl _ _
  refine P1.iconst X0.here hx (4 : Int32) (hb hby at_0) rfl ?_
  obtain ⟨T814, h814, k814, X814, e814, E814, A814, st814⟩ := newP X0 hx hZ (own_w hw 0 rfl) e0 (g := (mkF m 1 #[.val (.int p0), .val (.int p1), .val (.int p2), .val (.int p3), .unset, .unset, .unset, .unset, .unset, .unset] [(.int (4 : Int32))])) rfl (hb hby at_1) rfl (by decide) (cap := 4) (ok rfl) (ok rfl) (ok rfl) (ok rfl)
  obtain ⟨b814, g814⟩ : ∃ z, z = h0.size := ⟨_, rfl⟩
  rw [← g814] at A814 st814
  have ge_b814 : n0 ≤ b814 := Nat.le_trans Z0 (Nat.le_of_eq g814.symm)
  have sz_b814 : h0.size ≤ b814 := Nat.le_trans K0.1 (Nat.le_of_eq g814.symm)
  have V814 : Arv Z h814 b814 k814 .char (4 : Int32) [(.int (0 : Int32)), (.int (0 : Int32)), (.int (0 : Int32)), (.int (0 : Int32))] (.int (0 : Int32)) := (Arv.new A814 (by decide)).pad (pad_rep [] (.int (0 : Int32)) 4)
  refine Goes.step (T' := T814) (g' := (mkF m 3 #[.val (.int p0), .val (.int p1), .val (.int p2), .val (.int p3), .unset, .unset, .unset, .unset, .unset, .unset] [(.ref b814)])) st814 ?_
  refine P1.astore X814.here hx #[.val (.int p0), .val (.int p1), .val (.int p2), .val (.int p3), .val (.ref b814), .unset, .unset, .unset, .unset, .unset] (hb hby at_3) rfl rfl ?_
  refine P1.aload X814.here hx (hb hby at_5) rfl rfl ?_
  refine P1.iconst X814.here hx (0 : Int32) (hb hby at_7) rfl ?_
  refine P1.iloadN X814.here hx (hb hby at_8) rfl ?_
  have Z815 : n0 ≤ h814.size := Nat.le_trans Z0 E814.1
  have O816 : Old Z n0 h814 := O0.ext E814
  refine Goes.callS X814 hx (y := y7_) hown (mvT hZ (own_w hw 1 rfl)) (mvT hZ (own_w hw 2 rfl)) (mvT hZ (own_w hw 3 rfl)) (mvT hZ (own_w hw 4 rfl)) (by decide) (kc' := 0) (ks' := 0) (backOf (W := 2) (rmDr l Z a0 hw [] p0 h814 n0 Z815 O816 ) hZ (own_w hw 4 rfl) (own_w hw 3 rfl) (ok rfl) (ok rfl)) (g := (mkF m 9 #[.val (.int p0), .val (.int p1), .val (.int p2), .val (.int p3), .val (.ref b814), .unset, .unset, .unset, .unset, .unset] [(.int p0), (.int (0 : Int32)), (.ref b814)])) rfl (by rw [hml]; rfl) (argsL := [(.int p0)]) (rest := [(.int (0 : Int32)), (.ref b814)]) (lenOf pd_577 rfl) rfl (by show 2 * 0 + _ ≤ _; exact Nat.le_of_eq rfl) (hb hby at_9) rfl e814 (ok rfl) (ok rfl) ?_
  intro v817 T817 L817 q817 X817
  obtain ⟨r817, rfl, bd_r817, N817q, hE817⟩ := q817
  have N817 := Fr.app N0 N817q
  show Goes p e below _ T817 (mkF m 12 #[.val (.int p0), .val (.int p1), .val (.int p2), .val (.int p3), .val (.ref b814), .unset, .unset, .unset, .unset, .unset] [(.int r817), (.int (0 : Int32)), (.ref b814)])
  obtain ⟨cl818, Ar818, qk818, sl818, nz818, ha818, fi818⟩ := id V814
  obtain ⟨T819, h819, X819, e819, W819, st819⟩ := stC X817 hx hZ hE817 Ar818 (j := (0 : Int32)) (inb_of sl818 ⟨by decide, by decide⟩) (g := (mkF m 12 #[.val (.int p0), .val (.int p1), .val (.int p2), .val (.int p3), .val (.ref b814), .unset, .unset, .unset, .unset, .unset] [(.int r817), (.int (0 : Int32)), (.ref b814)])) rfl rfl (hb hby at_12)
  rw [bd_r817.nc] at W819
  have V819 : Arv Z h819 b814 k814 .char (4 : Int32) [(.int r817), (.int (0 : Int32)), (.int (0 : Int32)), (.int (0 : Int32))] (.int (0 : Int32)) := Arv.set Ar818 qk818 sl818 nz818 ha818 fi818 (bd_r817.nc ▸ fits_nar_char r817) W819 0 rfl (ok rfl)
  have N819 := Fr.snoc X819 N817 ge_b814
  refine Goes.step (T' := T819) (g' := (mkF m 13 #[.val (.int p0), .val (.int p1), .val (.int p2), .val (.int p3), .val (.ref b814), .unset, .unset, .unset, .unset, .unset] [])) st819 ?_
  refine P1.aload X819.here hx (hb hby at_13) rfl rfl ?_
  refine P1.iconst X819.here hx (1 : Int32) (hb hby at_15) rfl ?_
  refine P1.iloadN X819.here hx (hb hby at_16) rfl ?_
  refine P1.bipush X819.here hx (8 : Int32) (hb hby at_17) rfl ?_
  refine Goes.step (T' := T819) (g' := (mkF m 20 #[.val (.int p0), .val (.int p1), .val (.int p2), .val (.int p3), .val (.ref b814), .unset, .unset, .unset, .unset, .unset] [(.int ((p0.toUInt32 >>> ((8 : Int32) &&& 31).toUInt32).toInt32)), (.int (1 : Int32)), (.ref b814)])) (fun t_ k_ => XS.iushr X819.here hx rfl (hb hby at_19) rfl k_) ?_
  have Z820 : n0 ≤ h819.size := Nat.le_trans Z815 (Keep.of_wr W819).1
  have O821 : Old Z n0 h819 := O816.wr W819 ge_b814
  refine Goes.callS X819 hx (y := y7_) hown (mvT hZ (own_w hw 1 rfl)) (mvT hZ (own_w hw 2 rfl)) (mvT hZ (own_w hw 3 rfl)) (mvT hZ (own_w hw 4 rfl)) (by decide) (kc' := 0) (ks' := 0) (backOf (W := 2) (rmDr l Z a0 hw [] ((p0.toUInt32 >>> ((8 : Int32) &&& 31).toUInt32).toInt32) h819 n0 Z820 O821 ) hZ (own_w hw 4 rfl) (own_w hw 3 rfl) (ok rfl) (ok rfl)) (g := (mkF m 20 #[.val (.int p0), .val (.int p1), .val (.int p2), .val (.int p3), .val (.ref b814), .unset, .unset, .unset, .unset, .unset] [(.int ((p0.toUInt32 >>> ((8 : Int32) &&& 31).toUInt32).toInt32)), (.int (1 : Int32)), (.ref b814)])) rfl (by rw [hml]; rfl) (argsL := [(.int ((p0.toUInt32 >>> ((8 : Int32) &&& 31).toUInt32).toInt32))]) (rest := [(.int (1 : Int32)), (.ref b814)]) (lenOf pd_577 rfl) rfl (by show 2 * 0 + _ ≤ _; exact Nat.le_of_eq rfl) (hb hby at_20) rfl e819 (ok rfl) (ok rfl) ?_
  intro v822 T822 L822 q822 X822
  obtain ⟨r822, rfl, bd_r822, N822q, hE822⟩ := q822
  have N822 := Fr.app N819 N822q
  show Goes p e below _ T822 (mkF m 23 #[.val (.int p0), .val (.int p1), .val (.int p2), .val (.int p3), .val (.ref b814), .unset, .unset, .unset, .unset, .unset] [(.int r822), (.int (1 : Int32)), (.ref b814)])
  obtain ⟨cl823, Ar823, qk823, sl823, nz823, ha823, fi823⟩ := id V819
  obtain ⟨T824, h824, X824, e824, W824, st824⟩ := stC X822 hx hZ hE822 Ar823 (j := (1 : Int32)) (inb_of sl823 ⟨by decide, by decide⟩) (g := (mkF m 23 #[.val (.int p0), .val (.int p1), .val (.int p2), .val (.int p3), .val (.ref b814), .unset, .unset, .unset, .unset, .unset] [(.int r822), (.int (1 : Int32)), (.ref b814)])) rfl rfl (hb hby at_23)
  rw [bd_r822.nc] at W824
  have V824 : Arv Z h824 b814 k814 .char (4 : Int32) [(.int r817), (.int r822), (.int (0 : Int32)), (.int (0 : Int32))] (.int (0 : Int32)) := Arv.set Ar823 qk823 sl823 nz823 ha823 fi823 (bd_r822.nc ▸ fits_nar_char r822) W824 1 rfl (ok rfl)
  have N824 := Fr.snoc X824 N822 ge_b814
  refine Goes.step (T' := T824) (g' := (mkF m 24 #[.val (.int p0), .val (.int p1), .val (.int p2), .val (.int p3), .val (.ref b814), .unset, .unset, .unset, .unset, .unset] [])) st824 ?_
  refine P1.aload X824.here hx (hb hby at_24) rfl rfl ?_
  refine P1.iconst X824.here hx (2 : Int32) (hb hby at_26) rfl ?_
  refine P1.iloadN X824.here hx (hb hby at_27) rfl ?_
  refine P1.bipush X824.here hx (16 : Int32) (hb hby at_28) rfl ?_
  refine Goes.step (T' := T824) (g' := (mkF m 31 #[.val (.int p0), .val (.int p1), .val (.int p2), .val (.int p3), .val (.ref b814), .unset, .unset, .unset, .unset, .unset] [(.int ((p0.toUInt32 >>> ((16 : Int32) &&& 31).toUInt32).toInt32)), (.int (2 : Int32)), (.ref b814)])) (fun t_ k_ => XS.iushr X824.here hx rfl (hb hby at_30) rfl k_) ?_
  have Z825 : n0 ≤ h824.size := Nat.le_trans Z820 (Keep.of_wr W824).1
  have O826 : Old Z n0 h824 := O821.wr W824 ge_b814
  refine Goes.callS X824 hx (y := y7_) hown (mvT hZ (own_w hw 1 rfl)) (mvT hZ (own_w hw 2 rfl)) (mvT hZ (own_w hw 3 rfl)) (mvT hZ (own_w hw 4 rfl)) (by decide) (kc' := 0) (ks' := 0) (backOf (W := 2) (rmDr l Z a0 hw [] ((p0.toUInt32 >>> ((16 : Int32) &&& 31).toUInt32).toInt32) h824 n0 Z825 O826 ) hZ (own_w hw 4 rfl) (own_w hw 3 rfl) (ok rfl) (ok rfl)) (g := (mkF m 31 #[.val (.int p0), .val (.int p1), .val (.int p2), .val (.int p3), .val (.ref b814), .unset, .unset, .unset, .unset, .unset] [(.int ((p0.toUInt32 >>> ((16 : Int32) &&& 31).toUInt32).toInt32)), (.int (2 : Int32)), (.ref b814)])) rfl (by rw [hml]; rfl) (argsL := [(.int ((p0.toUInt32 >>> ((16 : Int32) &&& 31).toUInt32).toInt32))]) (rest := [(.int (2 : Int32)), (.ref b814)]) (lenOf pd_577 rfl) rfl (by show 2 * 0 + _ ≤ _; exact Nat.le_of_eq rfl) (hb hby at_31) rfl e824 (ok rfl) (ok rfl) ?_
  intro v827 T827 L827 q827 X827
  obtain ⟨r827, rfl, bd_r827, N827q, hE827⟩ := q827
  have N827 := Fr.app N824 N827q
  show Goes p e below _ T827 (mkF m 34 #[.val (.int p0), .val (.int p1), .val (.int p2), .val (.int p3), .val (.ref b814), .unset, .unset, .unset, .unset, .unset] [(.int r827), (.int (2 : Int32)), (.ref b814)])
  obtain ⟨cl828, Ar828, qk828, sl828, nz828, ha828, fi828⟩ := id V824
  obtain ⟨T829, h829, X829, e829, W829, st829⟩ := stC X827 hx hZ hE827 Ar828 (j := (2 : Int32)) (inb_of sl828 ⟨by decide, by decide⟩) (g := (mkF m 34 #[.val (.int p0), .val (.int p1), .val (.int p2), .val (.int p3), .val (.ref b814), .unset, .unset, .unset, .unset, .unset] [(.int r827), (.int (2 : Int32)), (.ref b814)])) rfl rfl (hb hby at_34)
  rw [bd_r827.nc] at W829
  have V829 : Arv Z h829 b814 k814 .char (4 : Int32) [(.int r817), (.int r822), (.int r827), (.int (0 : Int32))] (.int (0 : Int32)) := Arv.set Ar828 qk828 sl828 nz828 ha828 fi828 (bd_r827.nc ▸ fits_nar_char r827) W829 2 rfl (ok rfl)
  have N829 := Fr.snoc X829 N827 ge_b814
  refine Goes.step (T' := T829) (g' := (mkF m 35 #[.val (.int p0), .val (.int p1), .val (.int p2), .val (.int p3), .val (.ref b814), .unset, .unset, .unset, .unset, .unset] [])) st829 ?_
  refine P1.aload X829.here hx (hb hby at_35) rfl rfl ?_
  refine P1.iconst X829.here hx (3 : Int32) (hb hby at_37) rfl ?_
  refine P1.iloadN X829.here hx (hb hby at_38) rfl ?_
  refine P1.bipush X829.here hx (24 : Int32) (hb hby at_39) rfl ?_
  refine Goes.step (T' := T829) (g' := (mkF m 42 #[.val (.int p0), .val (.int p1), .val (.int p2), .val (.int p3), .val (.ref b814), .unset, .unset, .unset, .unset, .unset] [(.int ((p0.toUInt32 >>> ((24 : Int32) &&& 31).toUInt32).toInt32)), (.int (3 : Int32)), (.ref b814)])) (fun t_ k_ => XS.iushr X829.here hx rfl (hb hby at_41) rfl k_) ?_
  have Z830 : n0 ≤ h829.size := Nat.le_trans Z825 (Keep.of_wr W829).1
  have O831 : Old Z n0 h829 := O826.wr W829 ge_b814
  refine Goes.callS X829 hx (y := y7_) hown (mvT hZ (own_w hw 1 rfl)) (mvT hZ (own_w hw 2 rfl)) (mvT hZ (own_w hw 3 rfl)) (mvT hZ (own_w hw 4 rfl)) (by decide) (kc' := 0) (ks' := 0) (backOf (W := 2) (rmDr l Z a0 hw [] ((p0.toUInt32 >>> ((24 : Int32) &&& 31).toUInt32).toInt32) h829 n0 Z830 O831 ) hZ (own_w hw 4 rfl) (own_w hw 3 rfl) (ok rfl) (ok rfl)) (g := (mkF m 42 #[.val (.int p0), .val (.int p1), .val (.int p2), .val (.int p3), .val (.ref b814), .unset, .unset, .unset, .unset, .unset] [(.int ((p0.toUInt32 >>> ((24 : Int32) &&& 31).toUInt32).toInt32)), (.int (3 : Int32)), (.ref b814)])) rfl (by rw [hml]; rfl) (argsL := [(.int ((p0.toUInt32 >>> ((24 : Int32) &&& 31).toUInt32).toInt32))]) (rest := [(.int (3 : Int32)), (.ref b814)]) (lenOf pd_577 rfl) rfl (by show 2 * 0 + _ ≤ _; exact Nat.le_of_eq rfl) (hb hby at_42) rfl e829 (ok rfl) (ok rfl) ?_
  intro v832 T832 L832 q832 X832
  obtain ⟨r832, rfl, bd_r832, N832q, hE832⟩ := q832
  have N832 := Fr.app N829 N832q
  show Goes p e below _ T832 (mkF m 45 #[.val (.int p0), .val (.int p1), .val (.int p2), .val (.int p3), .val (.ref b814), .unset, .unset, .unset, .unset, .unset] [(.int r832), (.int (3 : Int32)), (.ref b814)])
  obtain ⟨cl833, Ar833, qk833, sl833, nz833, ha833, fi833⟩ := id V829
  obtain ⟨T834, h834, X834, e834, W834, st834⟩ := stC X832 hx hZ hE832 Ar833 (j := (3 : Int32)) (inb_of sl833 ⟨by decide, by decide⟩) (g := (mkF m 45 #[.val (.int p0), .val (.int p1), .val (.int p2), .val (.int p3), .val (.ref b814), .unset, .unset, .unset, .unset, .unset] [(.int r832), (.int (3 : Int32)), (.ref b814)])) rfl rfl (hb hby at_45)
  rw [bd_r832.nc] at W834
  have V834 : Arv Z h834 b814 k814 .char (4 : Int32) [(.int r817), (.int r822), (.int r827), (.int r832)] (.int (0 : Int32)) := Arv.set Ar833 qk833 sl833 nz833 ha833 fi833 (bd_r832.nc ▸ fits_nar_char r832) W834 3 rfl (ok rfl)
  have N834 := Fr.snoc X834 N832 ge_b814
  refine Goes.step (T' := T834) (g' := (mkF m 46 #[.val (.int p0), .val (.int p1), .val (.int p2), .val (.int p3), .val (.ref b814), .unset, .unset, .unset, .unset, .unset] [])) st834 ?_
  refine P1.iloadN X834.here hx (hb hby at_46) rfl ?_
  have Z835 : n0 ≤ h834.size := Nat.le_trans Z830 (Keep.of_wr W834).1
  have O836 : Old Z n0 h834 := O831.wr W834 ge_b814
  refine Goes.callS X834 hx (y := y7_) hown (mvT hZ (own_w hw 1 rfl)) (mvT hZ (own_w hw 2 rfl)) (mvT hZ (own_w hw 3 rfl)) (mvT hZ (own_w hw 4 rfl)) (by decide) (kc' := 0) (ks' := 0) (backOf (W := 0) (rmDr l Z a0 hw [] p1 h834 n0 Z835 O836 ) hZ (own_w hw 4 rfl) (own_w hw 3 rfl) (ok rfl) (ok rfl)) (g := (mkF m 47 #[.val (.int p0), .val (.int p1), .val (.int p2), .val (.int p3), .val (.ref b814), .unset, .unset, .unset, .unset, .unset] [(.int p1)])) rfl (by rw [hml]; rfl) (argsL := [(.int p1)]) (rest := []) (lenOf pd_577 rfl) rfl (by show 2 * 0 + _ ≤ _; exact Nat.le_of_eq rfl) (hb hby at_47) rfl e834 (ok rfl) (ok rfl) ?_
  intro v837 T837 L837 q837 X837
  obtain ⟨r837, rfl, bd_r837, N837q, hE837⟩ := q837
  have N837 := Fr.app N834 N837q
  show Goes p e below _ T837 (mkF m 50 #[.val (.int p0), .val (.int p1), .val (.int p2), .val (.int p3), .val (.ref b814), .unset, .unset, .unset, .unset, .unset] [(.int r837)])
  refine P1.istore X837.here hx #[.val (.int p0), .val (.int p1), .val (.int p2), .val (.int p3), .val (.ref b814), .val (.int r837), .unset, .unset, .unset, .unset] (hb hby at_50) rfl ?_
  refine P1.iloadN X837.here hx (hb hby at_52) rfl ?_
  refine Goes.step (T' := T837) (g' := (mkF m 55 #[.val (.int p0), .val (.int p1), .val (.int p2), .val (.int p3), .val (.ref b814), .val (.int r837), .unset, .unset, .unset, .unset] [(.int (2147483647 : Int32)), (.int p2)])) (fun t_ k_ => X837.ldcInt hx hown (mvT hZ (own_w hw 5 rfl)) (g := (mkF m 53 #[.val (.int p0), .val (.int p1), .val (.int p2), .val (.int p3), .val (.ref b814), .val (.int r837), .unset, .unset, .unset, .unset] [(.int p2)])) rfl (hb hby at_53) t_ k_) ?_
  refine P1.iand X837.here hx (hb hby at_55) ?_
  refine P1.iconst X837.here hx (5 : Int32) (hb hby at_56) rfl ?_
  refine Goes.step (T' := T837) (g' := (mkF m 58 #[.val (.int p0), .val (.int p1), .val (.int p2), .val (.int p3), .val (.ref b814), .val (.int r837), .unset, .unset, .unset, .unset] [(.int ((p2 &&& (2147483647 : Int32)) % (5 : Int32)))])) (fun t_ k_ => iremM X837 hx rfl (hb hby at_57) rfl (by decide) k_) ?_
  obtain ⟨o, ho4, hoff⟩ := own_rem5 p2
  have rw838 : ((p2 &&& (2147483647 : Int32)) % (5 : Int32)) = (Int32.ofNat o) := hoff
  rw [rw838]
  refine P1.istore X837.here hx #[.val (.int p0), .val (.int p1), .val (.int p2), .val (.int p3), .val (.ref b814), .val (.int r837), .val (.int (Int32.ofNat o)), .unset, .unset, .unset] (hb hby at_58) rfl ?_
  refine P1.iloadN X837.here hx (hb hby at_60) rfl ?_
  refine Goes.step (T' := T837) (g' := (mkF m 63 #[.val (.int p0), .val (.int p1), .val (.int p2), .val (.int p3), .val (.ref b814), .val (.int r837), .val (.int (Int32.ofNat o)), .unset, .unset, .unset] [(.int (2147483647 : Int32)), (.int p3)])) (fun t_ k_ => X837.ldcInt hx hown (mvT hZ (own_w hw 5 rfl)) (g := (mkF m 61 #[.val (.int p0), .val (.int p1), .val (.int p2), .val (.int p3), .val (.ref b814), .val (.int r837), .val (.int (Int32.ofNat o)), .unset, .unset, .unset] [(.int p3)])) rfl (hb hby at_61) t_ k_) ?_
  refine P1.iand X837.here hx (hb hby at_63) ?_
  refine P1.iconst X837.here hx (5 : Int32) (hb hby at_64) rfl ?_
  refine P1.iload X837.here hx (hb hby at_65) rfl ?_
  refine P1.isub X837.here hx (hb hby at_67) ?_
  refine Goes.step (T' := T837) (g' := (mkF m 69 #[.val (.int p0), .val (.int p1), .val (.int p2), .val (.int p3), .val (.ref b814), .val (.int r837), .val (.int (Int32.ofNat o)), .unset, .unset, .unset] [(.int ((p3 &&& (2147483647 : Int32)) % ((5 : Int32) - (Int32.ofNat o))))])) (fun t_ k_ => iremM X837 hx rfl (hb hby at_68) rfl (own_sub5 ho4).2 k_) ?_
  obtain ⟨n, hon, hlen⟩ := own_remN p3 ho4
  have rw839 : ((p3 &&& (2147483647 : Int32)) % ((5 : Int32) - (Int32.ofNat o))) = (Int32.ofNat n) := hlen
  rw [rw839]
  refine P1.istore X837.here hx #[.val (.int p0), .val (.int p1), .val (.int p2), .val (.int p3), .val (.ref b814), .val (.int r837), .val (.int (Int32.ofNat o)), .val (.int (Int32.ofNat n)), .unset, .unset] (hb hby at_69) rfl ?_
  obtain ⟨T840, h840, X840, e840, E840, A840, D840, -, st840⟩ := newO X837 hx hZ hown (own_w hw 6 rfl) (own_w hw 7 rfl) (own_w hw 8 rfl) hE837 (g := (mkF m 71 #[.val (.int p0), .val (.int p1), .val (.int p2), .val (.int p3), .val (.ref b814), .val (.int r837), .val (.int (Int32.ofNat o)), .val (.int (Int32.ofNat n)), .unset, .unset] [])) rfl (hb hby at_71) (ok rfl) (ok rfl)
  have K841 : Keep h0 h814 [] := K0.ext E814
  have K842 : Keep h0 h819 [] := K841.wr W819 (Or.inr sz_b814)
  have K843 : Keep h0 h824 [] := K842.wr W824 (Or.inr sz_b814)
  have K844 : Keep h0 h829 [] := K843.wr W829 (Or.inr sz_b814)
  have K845 : Keep h0 h834 [] := K844.wr W834 (Or.inr sz_b814)
  obtain ⟨b840, g840⟩ : ∃ z, z = h834.size := ⟨_, rfl⟩
  rw [← g840] at A840 D840 st840
  have ge_b840 : n0 ≤ b840 := Nat.le_trans Z835 (Nat.le_of_eq g840.symm)
  have sz_b840 : h0.size ≤ b840 := Nat.le_trans K845.1 (Nat.le_of_eq g840.symm)
  have F840_lock : Fld Z h840 b840 "java/io/Writer" "lock" "Ljava/lang/Object;" .null := D840 (Or.inl (own_w hw 21 rfl)) (ty := (.object "java/lang/Object")) (by decide)
  have F840_text : Fld Z h840 b840 "com/example/medeweten/medeweten/core/XmlText" "text" "Ljava/lang/StringBuilder;" .null := D840 (Or.inr (own_w hw 43 rfl)) (ty := (.object "java/lang/StringBuilder")) (by decide)
  refine Goes.step (T' := T840) (g' := (mkF m 74 #[.val (.int p0), .val (.int p1), .val (.int p2), .val (.int p3), .val (.ref b814), .val (.int r837), .val (.int (Int32.ofNat o)), .val (.int (Int32.ofNat n)), .unset, .unset] [(.ref b840)])) st840 ?_
  refine P1.dup X840.here hx (hb hby at_74) rfl ?_
  have K846 : Keep h0 h840 [] := K845.ext E840
  have Z847 : n0 ≤ h840.size := Nat.le_trans Z835 E840.1
  have O848 : Old Z n0 h840 := O836.ext E840
  refine Goes.callC X840 hx (y := (⟨"com/example/medeweten/medeweten/core/XmlText", "<init>", "()V"⟩ : MethodName)) rfl hown (mvT hZ (own_w hw 9 rfl)) (mvT hZ (own_w hw 10 rfl)) (mvT hZ (own_w hw 11 rfl)) (by decide) (kc' := 2) (ks' := 8196) (backOf (W := 1) (rmXI l Z a0 hw [] b840 zc fm fi u8 h840 n0 Z847 O848 S_CS hzc S_FM hfm S_FI hfi S_IN S_U8 ge_b840 A840 F840_lock F840_text) hZ (own_w hw 11 rfl) (own_w hw 8 rfl) (ok rfl) (ok rfl)) (g := (mkF m 75 #[.val (.int p0), .val (.int p1), .val (.int p2), .val (.int p3), .val (.ref b814), .val (.int r837), .val (.int (Int32.ofNat o)), .val (.int (Int32.ofNat n)), .unset, .unset] [(.ref b840), (.ref b840)])) (a := b840) rfl (by rw [hml]; rfl) (argsL := []) (rest := [(.ref b840)]) (lenOf pd_380 rfl) rfl (by show 2 * 0 + _ ≤ _; exact Nat.le_of_eq rfl) (hb hby at_75) rfl e840 (ok rfl) (ok rfl) ?_
  intro v849 T849 L849 q849 X849
  obtain ⟨s849, t849, kt849, rfl, N849q, K849, ss849, st849, g849X, g849F, g849E, g849v, g849c, g849n, g849V⟩ := q849
  have ge_s849 : n0 ≤ s849 := Nat.le_trans Z847 ss849
  have sz_s849 : h0.size ≤ s849 := Nat.le_trans K846.1 ss849
  have ge_t849 : n0 ≤ t849 := Nat.le_trans Z847 st849
  have sz_t849 : h0.size ≤ t849 := Nat.le_trans K846.1 st849
  have N849 := Fr.app N837 N849q
  show Goes p e below _ T849 (mkF m 78 #[.val (.int p0), .val (.int p1), .val (.int p2), .val (.int p3), .val (.ref b814), .val (.int r837), .val (.int (Int32.ofNat o)), .val (.int (Int32.ofNat n)), .unset, .unset] [(.ref b840)])
  refine P1.astore X849.here hx #[.val (.int p0), .val (.int p1), .val (.int p2), .val (.int p3), .val (.ref b814), .val (.int r837), .val (.int (Int32.ofNat o)), .val (.int (Int32.ofNat n)), .val (.ref b840), .unset] (hb hby at_78) rfl rfl ?_
  refine P1.aload X849.here hx (hb hby at_80) rfl rfl ?_
  refine P1.iload X849.here hx (hb hby at_82) rfl ?_
  have Z850 : n0 ≤ T849.heap.size := Nat.le_trans Z847 K849.1
  have O851 : Old Z n0 T849.heap := O848.keep K849 (allS ge_b840 all0)
  refine Goes.callV X849 hx hZ (y := y4_) (z := y4_) hown (mvT hZ (own_w hw 44 rfl)) (mvT hZ (own_w hw 45 rfl)) (notFace_of_selects (args := #[]) (mvT hZ (own_w hw 47 rfl))) (mvT hZ (own_w hw 47 rfl)) (mvT hZ (own_w hw 46 rfl)) (by decide) (kc' := 0) (ks' := 0) (backOf (W := 0) (rmW1 l Z a0 hw [] b840 s849 t849 kt849 r837 zc fm fi u8 T849.heap n0 Z850 O851 S_CS hzc S_FM hfm S_FI hfi S_IN S_U8 g849X g849F ge_s849 ge_t849 g849E g849v g849c g849n g849V bd_r837) hZ (own_w hw 48 rfl) (own_w hw 8 rfl) (ok rfl) (ok rfl)) (b := b840) rfl g849X (g := (mkF m 84 #[.val (.int p0), .val (.int p1), .val (.int p2), .val (.int p3), .val (.ref b814), .val (.int r837), .val (.int (Int32.ofNat o)), .val (.int (Int32.ofNat n)), .val (.ref b840), .unset] [(.int r837), (.ref b840)])) rfl (by rw [hml]; rfl) (argsL := [(.int r837)]) (rest := []) (lenOf pd_653 rfl) rfl (by show 2 * 0 + _ ≤ _; exact Nat.le_of_eq rfl) (hb hby at_84) rfl (ok rfl) (ok rfl) ?_
  intro v852 T852 L852 q852 X852
  obtain ⟨rfl, N852q, K852, g852E, g852v, g852c, g852n, g852V⟩ := q852
  have N852 := Fr.app N849 N852q
  show Goes p e below _ T852 (mkF m 87 #[.val (.int p0), .val (.int p1), .val (.int p2), .val (.int p3), .val (.ref b814), .val (.int r837), .val (.int (Int32.ofNat o)), .val (.int (Int32.ofNat n)), .val (.ref b840), .unset] [])
  refine P1.aload X852.here hx (hb hby at_87) rfl rfl ?_
  refine P1.aload X852.here hx (hb hby at_89) rfl rfl ?_
  refine P1.iload X852.here hx (hb hby at_91) rfl ?_
  refine P1.iload X852.here hx (hb hby at_93) rfl ?_
  have E853 : Exa Z T852.heap b840 "com/example/medeweten/medeweten/core/XmlText" := g849X.keep K852
  have ne854 : b840 ≠ t849 := Nat.ne_of_lt (Nat.lt_of_lt_of_le F840_lock.lt st849)
  have ne855 : b840 ≠ s849 := Nat.ne_of_lt (Nat.lt_of_lt_of_le F840_lock.lt ss849)
  have F856 : Fld Z T852.heap b840 "com/example/medeweten/medeweten/core/XmlText" "text" "Ljava/lang/StringBuilder;" (.ref s849) := g849F.keep K852 (ninS ne855 (ninS ne854 nin0))
  have V857 : Arv Z h840 b814 k814 .char (4 : Int32) [(.int r817), (.int r822), (.int r827), (.int r832)] (.int (0 : Int32)) := V834.ext E840
  have ne858 : b814 ≠ b840 := Nat.ne_of_lt (Nat.lt_of_lt_of_le V834.lt (Nat.le_of_eq g840.symm))
  have V859 : Arv Z T849.heap b814 k814 .char (4 : Int32) [(.int r817), (.int r822), (.int r827), (.int r832)] (.int (0 : Int32)) := V857.keep K849 (ninS ne858 nin0)
  have ne860 : b814 ≠ t849 := Nat.ne_of_lt (Nat.lt_of_lt_of_le V857.lt st849)
  have ne861 : b814 ≠ s849 := Nat.ne_of_lt (Nat.lt_of_lt_of_le V857.lt ss849)
  have V862 : Arv Z T852.heap b814 k814 .char (4 : Int32) [(.int r817), (.int r822), (.int r827), (.int r832)] (.int (0 : Int32)) := V859.keep K852 (ninS ne861 (ninS ne860 nin0))
  have Z863 : n0 ≤ T852.heap.size := Nat.le_trans Z850 K852.1
  have O864 : Old Z n0 T852.heap := O851.keep K852 (allS ge_s849 (allS ge_t849 all0))
  refine Goes.callV X852 hx hZ (y := y5_) (z := y5_) hown (mvT hZ (own_w hw 75 rfl)) (mvT hZ (own_w hw 76 rfl)) (notFace_of_selects (args := #[]) (mvT hZ (own_w hw 78 rfl))) (mvT hZ (own_w hw 78 rfl)) (mvT hZ (own_w hw 77 rfl)) (by decide) (kc' := 0) (ks' := 0) (backOf (W := 0) (rmW3 l Z a0 hw [] b840 s849 t849 kt849 b814 k814 r837 r817 r822 r827 r832 o n (Int32.ofNat o) (Int32.ofNat n) zc fm fi u8 T852.heap n0 Z863 O864 S_CS hzc S_FM hfm S_FI hfi S_IN S_U8 E853 F856 ge_s849 ge_t849 g852E g852v g852c g852n g852V V862 ne860 bd_r817 bd_r822 bd_r827 bd_r832 hon rfl rfl) hZ (own_w hw 79 rfl) (own_w hw 8 rfl) (ok rfl) (ok rfl)) (b := b840) rfl E853 (g := (mkF m 95 #[.val (.int p0), .val (.int p1), .val (.int p2), .val (.int p3), .val (.ref b814), .val (.int r837), .val (.int (Int32.ofNat o)), .val (.int (Int32.ofNat n)), .val (.ref b840), .unset] [(.int (Int32.ofNat n)), (.int (Int32.ofNat o)), (.ref b814), (.ref b840)])) rfl (by rw [hml]; rfl) (argsL := [(.ref b814), (.int (Int32.ofNat o)), (.int (Int32.ofNat n))]) (rest := []) (lenOf pd_1928 rfl) rfl (by show 2 * 0 + _ ≤ _; exact Nat.le_of_eq rfl) (hb hby at_95) rfl (ok rfl) (ok rfl) ?_
  intro v865 T865 L865 q865 X865
  obtain ⟨rfl, N865q, K865, g865E, g865v, g865c, g865n, g865V⟩ := q865
  have N865 := Fr.app N852 N865q
  show Goes p e below _ T865 (mkF m 98 #[.val (.int p0), .val (.int p1), .val (.int p2), .val (.int p3), .val (.ref b814), .val (.int r837), .val (.int (Int32.ofNat o)), .val (.int (Int32.ofNat n)), .val (.ref b840), .unset] [])
  refine P1.aload X865.here hx (hb hby at_98) rfl rfl ?_
  have hlen1 : 1 ≤ (ocs r837 r817 r822 r827 r832 o n).length := by rw [own_ocs hon]; omega
  have hlen5 : (ocs r837 r817 r822 r827 r832 o n).length ≤ 5 := by rw [own_ocs hon]; omega
  have hocs := own_ocsPr (o := o) (n := n) bd_r837 bd_r817 bd_r822 bd_r827 bd_r832
  have E866 : Exa Z T865.heap b840 "com/example/medeweten/medeweten/core/XmlText" := E853.keep K865
  have F867 : Fld Z T865.heap b840 "com/example/medeweten/medeweten/core/XmlText" "text" "Ljava/lang/StringBuilder;" (.ref s849) := F856.keep K865 (ninS ne855 (ninS ne854 nin0))
  have Z868 : n0 ≤ T865.heap.size := Nat.le_trans Z863 K865.1
  have O869 : Old Z n0 T865.heap := O864.keep K865 (allS ge_s849 (allS ge_t849 all0))
  refine Goes.callV X865 hx hZ (y := y3_) (z := y3_) hown (mvT hZ (own_w hw 100 rfl)) (mvT hZ (own_w hw 101 rfl)) (notFace_of_selects (args := #[]) (mvT hZ (own_w hw 103 rfl))) (mvT hZ (own_w hw 103 rfl)) (mvT hZ (own_w hw 102 rfl)) (by decide) (kc' := 3) (ks' := 20) (backOf (W := 0) (rmU8 l Z a0 hw [] b840 s849 t849 kt849 (ocs r837 r817 r822 r827 r832 o n) zc fm fi u8 T865.heap n0 Z868 O869 S_CS hzc S_FM hfm S_FI hfi S_IN S_U8 E866 F867 ge_s849 ge_t849 g865E g865v g865c g865n g865V hlen1 hlen5 hocs) hZ (own_w hw 104 rfl) (own_w hw 8 rfl) (ok rfl) (ok rfl)) (b := b840) rfl E866 (g := (mkF m 100 #[.val (.int p0), .val (.int p1), .val (.int p2), .val (.int p3), .val (.ref b814), .val (.int r837), .val (.int (Int32.ofNat o)), .val (.int (Int32.ofNat n)), .val (.ref b840), .unset] [(.ref b840)])) rfl (by rw [hml]; rfl) (argsL := []) (rest := []) (lenOf pd_659 rfl) rfl (by show 2 * 0 + _ ≤ _; exact Nat.le_of_eq rfl) (hb hby at_100) rfl (ok rfl) (ok rfl) ?_
  intro v870 T870 L870 q870 X870
  obtain ⟨o870, kq870, rfl, N870q, K870, g870V⟩ := q870
  have N870 := Fr.app N865 N870q
  show Goes p e below _ T870 (mkF m 103 #[.val (.int p0), .val (.int p1), .val (.int p2), .val (.int p3), .val (.ref b814), .val (.int r837), .val (.int (Int32.ofNat o)), .val (.int (Int32.ofNat n)), .val (.ref b840), .unset] [(.ref o870)])
  refine P1.astore X870.here hx #[.val (.int p0), .val (.int p1), .val (.int p2), .val (.int p3), .val (.ref b814), .val (.int r837), .val (.int (Int32.ofNat o)), .val (.int (Int32.ofNat n)), .val (.ref b840), .val (.ref o870)] (hb hby at_103) rfl rfl ?_
  refine P1.aload X870.here hx (hb hby at_105) rfl rfl ?_
  obtain ⟨cl871, Ar871, qk871, sl871, nz871, ha871, fi871⟩ := id g870V
  have al872 : cl871.slots.size.toInt32 = (Int32.ofNat (ocs r837 r817 r822 r827 r832 o n).length) := len_of sl871 nz871
  refine Goes.step (T' := T870) (g' := (mkF m 108 #[.val (.int p0), .val (.int p1), .val (.int p2), .val (.int p3), .val (.ref b814), .val (.int r837), .val (.int (Int32.ofNat o)), .val (.int (Int32.ofNat n)), .val (.ref b840), .val (.ref o870)] [(.int (Int32.ofNat (ocs r837 r817 r822 r827 r832 o n).length))])) (fun t_ k_ => X870.arraylength hx Ar871.1 (State.isArrayOf_alike hZ.alike Ar871.2.1) (g := (mkF m 107 #[.val (.int p0), .val (.int p1), .val (.int p2), .val (.int p3), .val (.ref b814), .val (.int r837), .val (.int (Int32.ofNat o)), .val (.int (Int32.ofNat n)), .val (.ref b840), .val (.ref o870)] [(.ref o870)])) rfl rfl (hb hby at_107) _ <| by rw [al872]; exact k_) ?_
  refine P1.iconst X870.here hx (1 : Int32) (hb hby at_108) rfl ?_
  refine P1.iload X870.here hx (hb hby at_109) rfl ?_
  refine P1.iadd X870.here hx (hb hby at_111) ?_
  refine P1.icmpYes X870.here hx 117 (hb hby at_112) (teq (own_outlen hon : (Int32.ofNat (ocs r837 r817 r822 r827 r832 o n).length) = ((1 : Int32) + (Int32.ofNat n)))).1 (by decide) (by decide) ?_
  refine P1.aload X870.here hx (hb hby at_117) rfl rfl ?_
  refine P1.iconst X870.here hx (0 : Int32) (hb hby at_119) rfl ?_
  obtain ⟨cl873, Ar873, qk873, sl873, nz873, ha873, fi873⟩ := id g870V
  have i874 := inb_of (j := (0 : Int32)) sl873 ⟨by decide, by rw [own_ocs hon]; exact own_pos (by omega)⟩
  refine Goes.step (T' := T870) (g' := (mkF m 121 #[.val (.int p0), .val (.int p1), .val (.int p2), .val (.int p3), .val (.ref b814), .val (.int r837), .val (.int (Int32.ofNat o)), .val (.int (Int32.ofNat n)), .val (.ref b840), .val (.ref o870)] [(.int r837)])) (fun t_ k_ => X870.baloadBytes hx (j := (0 : Int32)) (v := (.int r837)) Ar873.1 (State.isArrayOf_alike hZ.alike Ar873.2.1) Ar873.2.2 i874 (Has.at ha873 i874 rfl) (g := (mkF m 120 #[.val (.int p0), .val (.int p1), .val (.int p2), .val (.int p3), .val (.ref b814), .val (.int r837), .val (.int (Int32.ofNat o)), .val (.int (Int32.ofNat n)), .val (.ref b840), .val (.ref o870)] [(.int (0 : Int32)), (.ref o870)])) rfl rfl (hb hby at_120) _ k_) ?_
  refine P1.iload X870.here hx (hb hby at_121) rfl ?_
  refine P1.icmpYes X870.here hx 128 (hb hby at_123) (teq (rfl : r837 = r837)).1 (by decide) (by decide) ?_
  refine P1.aload X870.here hx (hb hby at_128) rfl rfl ?_
  refine P1.aload X870.here hx (hb hby at_130) rfl rfl ?_
  refine P1.iload X870.here hx (hb hby at_132) rfl ?_
  refine P1.iload X870.here hx (hb hby at_134) rfl ?_
  refine P1.iconst X870.here hx (0 : Int32) (hb hby at_136) rfl ?_
  have V875 : Arv Z T865.heap b814 k814 .char (4 : Int32) [(.int r817), (.int r822), (.int r827), (.int r832)] (.int (0 : Int32)) := V862.keep K865 (ninS ne861 (ninS ne860 nin0))
  have V876 : Arv Z T870.heap b814 k814 .char (4 : Int32) [(.int r817), (.int r822), (.int r827), (.int r832)] (.int (0 : Int32)) := V875.keep K870 nin0
  have Z877 : n0 ≤ T870.heap.size := Nat.le_trans Z868 K870.1
  have O878 : Old Z n0 T870.heap := O869.keep K870 all0
  refine Goes.callS X870 hx (y := y6_) hown (mvT hZ (own_w hw 229 rfl)) (mvT hZ (own_w hw 230 rfl)) (mvT hZ (own_w hw 3 rfl)) (mvT hZ (own_w hw 231 rfl)) (by decide) (kc' := 0) (ks' := 0) (backOf (W := 0) (rmAt l Z a0 hw [] o870 kq870 b814 k814 r837 r817 r822 r827 r832 o n 0 (0 : Int32) (Int32.ofNat o) (Int32.ofNat n) T870.heap n0 Z877 O878 g870V V876 hon rfl (by decide) rfl rfl) hZ (own_w hw 231 rfl) (own_w hw 3 rfl) (ok rfl) (ok rfl)) (g := (mkF m 137 #[.val (.int p0), .val (.int p1), .val (.int p2), .val (.int p3), .val (.ref b814), .val (.int r837), .val (.int (Int32.ofNat o)), .val (.int (Int32.ofNat n)), .val (.ref b840), .val (.ref o870)] [(.int (0 : Int32)), (.int (Int32.ofNat n)), (.int (Int32.ofNat o)), (.ref b814), (.ref o870)])) rfl (by rw [hml]; rfl) (argsL := [(.ref o870), (.ref b814), (.int (Int32.ofNat o)), (.int (Int32.ofNat n)), (.int (0 : Int32))]) (rest := []) (lenOf pd_3921 rfl) rfl (by show 2 * 0 + _ ≤ _; exact Nat.le_of_eq rfl) (hb hby at_137) rfl rfl (ok rfl) (ok rfl) ?_
  intro v879 T879 L879 q879 X879
  obtain ⟨rfl, N879q, hE879⟩ := q879
  have N879 := Fr.app N870 N879q
  show Goes p e below _ T879 (mkF m 140 #[.val (.int p0), .val (.int p1), .val (.int p2), .val (.int p3), .val (.ref b814), .val (.int r837), .val (.int (Int32.ofNat o)), .val (.int (Int32.ofNat n)), .val (.ref b840), .val (.ref o870)] [(.int (1 : Int32))])
  refine P1.ifNo X879.here hx (hb hby at_140) ((if0 _ _).trans (feq (by decide : ¬ ((1 : Int32) = (0 : Int32)))).1) ?_
  refine P1.aload X879.here hx (hb hby at_143) rfl rfl ?_
  refine P1.aload X879.here hx (hb hby at_145) rfl rfl ?_
  refine P1.iload X879.here hx (hb hby at_147) rfl ?_
  refine P1.iload X879.here hx (hb hby at_149) rfl ?_
  refine P1.iconst X879.here hx (1 : Int32) (hb hby at_151) rfl ?_
  refine Goes.callS X879 hx (y := y6_) hown (mvT hZ (own_w hw 229 rfl)) (mvT hZ (own_w hw 230 rfl)) (mvT hZ (own_w hw 3 rfl)) (mvT hZ (own_w hw 231 rfl)) (by decide) (kc' := 0) (ks' := 0) (backOf (W := 0) (rmAt l Z a0 hw [] o870 kq870 b814 k814 r837 r817 r822 r827 r832 o n 1 (1 : Int32) (Int32.ofNat o) (Int32.ofNat n) T870.heap n0 Z877 O878 g870V V876 hon rfl (by decide) rfl rfl) hZ (own_w hw 231 rfl) (own_w hw 3 rfl) (ok rfl) (ok rfl)) (g := (mkF m 152 #[.val (.int p0), .val (.int p1), .val (.int p2), .val (.int p3), .val (.ref b814), .val (.int r837), .val (.int (Int32.ofNat o)), .val (.int (Int32.ofNat n)), .val (.ref b840), .val (.ref o870)] [(.int (1 : Int32)), (.int (Int32.ofNat n)), (.int (Int32.ofNat o)), (.ref b814), (.ref o870)])) rfl (by rw [hml]; rfl) (argsL := [(.ref o870), (.ref b814), (.int (Int32.ofNat o)), (.int (Int32.ofNat n)), (.int (1 : Int32))]) (rest := []) (lenOf pd_3921 rfl) rfl (by show 2 * 0 + _ ≤ _; exact Nat.le_of_eq rfl) (hb hby at_152) rfl hE879 (ok rfl) (ok rfl) ?_
  intro v880 T880 L880 q880 X880
  obtain ⟨rfl, N880q, hE880⟩ := q880
  have N880 := Fr.app N879 N880q
  show Goes p e below _ T880 (mkF m 155 #[.val (.int p0), .val (.int p1), .val (.int p2), .val (.int p3), .val (.ref b814), .val (.int r837), .val (.int (Int32.ofNat o)), .val (.int (Int32.ofNat n)), .val (.ref b840), .val (.ref o870)] [(.int (1 : Int32))])
  refine P1.ifNo X880.here hx (hb hby at_155) ((if0 _ _).trans (feq (by decide : ¬ ((1 : Int32) = (0 : Int32)))).1) ?_
  refine P1.aload X880.here hx (hb hby at_158) rfl rfl ?_
  refine P1.aload X880.here hx (hb hby at_160) rfl rfl ?_
  refine P1.iload X880.here hx (hb hby at_162) rfl ?_
  refine P1.iload X880.here hx (hb hby at_164) rfl ?_
  refine P1.iconst X880.here hx (2 : Int32) (hb hby at_166) rfl ?_
  refine Goes.callS X880 hx (y := y6_) hown (mvT hZ (own_w hw 229 rfl)) (mvT hZ (own_w hw 230 rfl)) (mvT hZ (own_w hw 3 rfl)) (mvT hZ (own_w hw 231 rfl)) (by decide) (kc' := 0) (ks' := 0) (backOf (W := 0) (rmAt l Z a0 hw [] o870 kq870 b814 k814 r837 r817 r822 r827 r832 o n 2 (2 : Int32) (Int32.ofNat o) (Int32.ofNat n) T870.heap n0 Z877 O878 g870V V876 hon rfl (by decide) rfl rfl) hZ (own_w hw 231 rfl) (own_w hw 3 rfl) (ok rfl) (ok rfl)) (g := (mkF m 167 #[.val (.int p0), .val (.int p1), .val (.int p2), .val (.int p3), .val (.ref b814), .val (.int r837), .val (.int (Int32.ofNat o)), .val (.int (Int32.ofNat n)), .val (.ref b840), .val (.ref o870)] [(.int (2 : Int32)), (.int (Int32.ofNat n)), (.int (Int32.ofNat o)), (.ref b814), (.ref o870)])) rfl (by rw [hml]; rfl) (argsL := [(.ref o870), (.ref b814), (.int (Int32.ofNat o)), (.int (Int32.ofNat n)), (.int (2 : Int32))]) (rest := []) (lenOf pd_3921 rfl) rfl (by show 2 * 0 + _ ≤ _; exact Nat.le_of_eq rfl) (hb hby at_167) rfl hE880 (ok rfl) (ok rfl) ?_
  intro v881 T881 L881 q881 X881
  obtain ⟨rfl, N881q, hE881⟩ := q881
  have N881 := Fr.app N880 N881q
  show Goes p e below _ T881 (mkF m 170 #[.val (.int p0), .val (.int p1), .val (.int p2), .val (.int p3), .val (.ref b814), .val (.int r837), .val (.int (Int32.ofNat o)), .val (.int (Int32.ofNat n)), .val (.ref b840), .val (.ref o870)] [(.int (1 : Int32))])
  refine P1.ifNo X881.here hx (hb hby at_170) ((if0 _ _).trans (feq (by decide : ¬ ((1 : Int32) = (0 : Int32)))).1) ?_
  refine P1.aload X881.here hx (hb hby at_173) rfl rfl ?_
  refine P1.aload X881.here hx (hb hby at_175) rfl rfl ?_
  refine P1.iload X881.here hx (hb hby at_177) rfl ?_
  refine P1.iload X881.here hx (hb hby at_179) rfl ?_
  refine P1.iconst X881.here hx (3 : Int32) (hb hby at_181) rfl ?_
  refine Goes.callS X881 hx (y := y6_) hown (mvT hZ (own_w hw 229 rfl)) (mvT hZ (own_w hw 230 rfl)) (mvT hZ (own_w hw 3 rfl)) (mvT hZ (own_w hw 231 rfl)) (by decide) (kc' := 0) (ks' := 0) (backOf (W := 0) (rmAt l Z a0 hw [] o870 kq870 b814 k814 r837 r817 r822 r827 r832 o n 3 (3 : Int32) (Int32.ofNat o) (Int32.ofNat n) T870.heap n0 Z877 O878 g870V V876 hon rfl (by decide) rfl rfl) hZ (own_w hw 231 rfl) (own_w hw 3 rfl) (ok rfl) (ok rfl)) (g := (mkF m 182 #[.val (.int p0), .val (.int p1), .val (.int p2), .val (.int p3), .val (.ref b814), .val (.int r837), .val (.int (Int32.ofNat o)), .val (.int (Int32.ofNat n)), .val (.ref b840), .val (.ref o870)] [(.int (3 : Int32)), (.int (Int32.ofNat n)), (.int (Int32.ofNat o)), (.ref b814), (.ref o870)])) rfl (by rw [hml]; rfl) (argsL := [(.ref o870), (.ref b814), (.int (Int32.ofNat o)), (.int (Int32.ofNat n)), (.int (3 : Int32))]) (rest := []) (lenOf pd_3921 rfl) rfl (by show 2 * 0 + _ ≤ _; exact Nat.le_of_eq rfl) (hb hby at_182) rfl hE881 (ok rfl) (ok rfl) ?_
  intro v882 T882 L882 q882 X882
  obtain ⟨rfl, N882q, hE882⟩ := q882
  have N882 := Fr.app N881 N882q
  show Goes p e below _ T882 (mkF m 185 #[.val (.int p0), .val (.int p1), .val (.int p2), .val (.int p3), .val (.ref b814), .val (.int r837), .val (.int (Int32.ofNat o)), .val (.int (Int32.ofNat n)), .val (.ref b840), .val (.ref o870)] [(.int (1 : Int32))])
  refine P1.ifNo X882.here hx (hb hby at_185) ((if0 _ _).trans (feq (by decide : ¬ ((1 : Int32) = (0 : Int32)))).1) ?_
  refine P1.iconst X882.here hx (1 : Int32) (hb hby at_188) rfl ?_
  refine P1.goto X882.here hx 193 (hb hby at_189) (by decide) (by decide) ?_
  refine Goes.retN X882 hx Bd.notSynchronized (t := .boolean) Bd.returns (by simp) (hb hby at_193) (ok rfl) (ok rfl) ?_
  rw [hE882]
  exact ⟨rfl, N882⟩
set_option maxRecDepth 65536 in
set_option maxHeartbeats 40000000 in
theorem comes_1 {Post : Tables → Env → Array Value → State → Outcome → State → Prop} (hpost : ∀ tb e args s v u, (limb_1_1.after args s (.returned v) u = true ∧ limb_1_2.after args s (.returned v) u = true ∧ True) → FrameEnd s (.returned v) u (Jvm.fieldLocs frame_1_writes args s ++ Jvm.arrayLocs frame_1_arrays args s ++ Jvm.staticLocs frame_1_statics s) 24 16512 → Post tb e args s (.returned v) u) :
    ArmFor flags0 classFile x code maxLocals ret World_1 tables_1 room_1 Calls_1 rest_1 Pre_1 Post := by
  intro l hfl _ _ p e ha hc hk s m args below hf hA hF happ hP
  obtain ⟨hcalls, hrest, hpre⟩ := hP
  obtain ⟨-, -, -, hnamed, -, -, -, hat⟩ := (Spec.applies_iff hf).mp happ
  obtain ⟨hg, hn⟩ := and_e (Cond.before_iff.mp (show (Jvm.Cond.and given_1 narrow_1).before args s = true from hpre))
  obtain ⟨hg0, hg1⟩ := and_e hg
  obtain ⟨ha0, hgr0⟩ := and_e hg1
  obtain ⟨ha1, hgr1⟩ := and_e hgr0
  obtain ⟨ha2, hgr2⟩ := and_e hgr1
  obtain ⟨w0, w1, w2, w3, rfl⟩ : ∃ w0 w1 w2 w3 : Value, args = #[w0, w1, w2, w3] := by
    have hs : args.size = 4 := by simpa [Cond.value, given_1] using hg0
    obtain ⟨L⟩ := args
    match L, hs with
    | [w0, w1, w2, w3], _ => exact ⟨w0, w1, w2, w3, rfl⟩
  have hw := fun d (hd : d ∈ tables_1) => atoms_spec (ws := Jvm.Cond.code x code maxLocals ret :: tables_1) hat d (List.mem_cons_of_mem _ hd)
  have hfit : Fit s := fun {y c} hc i hi => by
    obtain ⟨ha, rfl⟩ := Array.getElem?_eq_some_iff.mp hc
    have q := List.all_eq_true.mp ((Array.all_eq_true_iff_forall_mem.mp hF) _ (Array.getElem_mem ha)) i (List.mem_range.mpr hi)
    simpa [Array.getElem?_eq_getElem hi] using q
  obtain ⟨hsets, hown0⟩ := atoms_of _ (rest_1_c_eq ▸ (show rest_1_c.before _ s = true from hrest))
  obtain ⟨i0, ei0⟩ := is_v ha0
  obtain rfl : w0 = (.int i0) := Option.some.inj ei0
  obtain ⟨i1, ei1⟩ := is_v ha1
  obtain rfl : w1 = (.int i1) := Option.some.inj ei1
  obtain ⟨i2, ei2⟩ := is_v ha2
  obtain rfl : w2 = (.int i2) := Option.some.inj ei2
  obtain ⟨i3, ei3⟩ := is_v hgr2
  obtain rfl : w3 = (.int i3) := Option.some.inj ei3
  obtain ⟨zc, ev_zc⟩ := is_v (Cond.before_iff.mp (hsets _ (List.mem_of_getElem? (i := 1) rfl)))
  have S_CS : Sta s s.heap "java/lang/String" "COMPACT_STRINGS" "Z" (.int zc) := Sta.start ev_zc (Or.inl (hsets _ (List.mem_of_getElem? (i := 0) rfl)))
  have hzc : ¬ zc = 0 := gotF (Cond.eq_ints ev_zc (Term.int_eval (0))) (not_v (Cond.before_iff.mp (hsets _ (List.mem_of_getElem? (i := 2) rfl))))
  obtain ⟨fm, ev_fm, hfm⟩ := isR_v (Cond.before_iff.mp (hsets _ (List.mem_of_getElem? (i := 8) rfl)))
  have S_FM : Sta s s.heap "jdk/internal/util/Preconditions" "SIOOBE_FORMATTER" "Ljava/util/function/BiFunction;" fm := Sta.start ev_fm (Or.inl (hsets _ (List.mem_of_getElem? (i := 7) rfl)))
  obtain ⟨fi, ev_fi, hfi⟩ := own_laysRef (d := "Ljava/util/function/BiFunction;") (t := .object "java/util/function/BiFunction") hfit (by decide +kernel) rfl (own_w hw 91 rfl)
  have S_FI : Sta s s.heap "jdk/internal/util/Preconditions" "IOOBE_FORMATTER" "Ljava/util/function/BiFunction;" fi := Sta.start ev_fi (Or.inr ⟨(hsets _ (List.mem_of_getElem? (i := 5) rfl)), (own_w hw 91 rfl)⟩)
  obtain ⟨u8, ev_u8⟩ := exa_v (Cond.before_iff.mp (hsets _ (List.mem_of_getElem? (i := 17) rfl)))
  have S_IN : Sta s s.heap "sun/nio/cs/UTF_8" "INSTANCE" "Lsun/nio/cs/UTF_8;" (.ref u8) := Sta.start ev_u8 (Or.inl (hsets _ (List.mem_of_getElem? (i := 12) rfl)))
  have S_U8 : Sta s s.heap "java/nio/charset/StandardCharsets" "UTF_8" "Ljava/nio/charset/Charset;" (.ref u8) := Sta.start (own_eqV (Cond.before_iff.mp (hsets _ (List.mem_of_getElem? (i := 13) rfl))) ev_u8 (Or.inr rfl)) (Or.inl (hsets _ (List.mem_of_getElem? (i := 10) rfl)))
  obtain ⟨n, o, h1, h2, h3, _, L, rfl, ⟨rfl, N⟩, hq⟩ := rm0 l s _ hw tables_1 i0 i1 i2 i3 zc fm fi u8 s.heap s.heap.size (Nat.le_refl _) (Old.start s) S_CS hzc S_FM hfm S_FI hfi S_IN S_U8 p e ha hc hk s m _ below hf ((Spec.applies_iff_loose hf).mp happ).1 ⟨rfl, State.Warmed39.refl s, rfl⟩ trivial
  refine ⟨n, _, h1, h2, h3, hpost _ _ _ _ _ _ ⟨Cond.after_iff.mpr rfl, Cond.after_iff.mpr (eq_i res_at (Term.int_eval (1)) rfl), trivial⟩ ⟨hq.1, hq.2.1, (hq.2.2.sift fun y hy => Or.inr (N y hy)).mono (ok rfl) (ok rfl)⟩⟩
theorem main_1_1 : Claimed_1_1 := comes_1 fun _ _ _ _ _ _ h hF => ⟨h.1, hF⟩
theorem main_1_2 : Claimed_1_2 := comes_1 fun _ _ _ _ _ _ h hF => ⟨h.2.1, hF⟩
end Jvm.Pilot.@@N@@
namespace Jvm.Pilot.@@N@@
open Jvm Jvm.ClassFile Sem Op Lib Jvm.Free Jvm.Stand Jvm.Pilot.@@N@@.Jvm.D
/-! MADE BY PROGRAM (witnessworld.py) out of the Statement's table words and the real class files: 36 classes; the members and pool entries that the words name. The judged class is class 1, her method 3. -/
namespace start1
open Jvm.ClassFile
def u (s : String) : CpInfo := .utf8 (stringToUtf16 s)
/-- a pool by its gaps: so many unusable entries, then the entry; so many at the end -/
def gap : Nat → List CpInfo → List CpInfo
  | 0, r => r
  | n + 1, r => .unusable :: gap n r
def poolList (es : List (Nat × CpInfo)) (last : Nat) : List CpInfo := es.foldr (fun e r => gap e.1 (e.2 :: r)) (gap last [])
def pool (es : List (Nat × CpInfo)) (last : Nat) : Array CpInfo := ⟨poolList es last⟩
def fileOf (pool : Array CpInfo) (this : Nat) (attrs : Array Attribute := #[]) (ms : Array MethodInfo := #[]) (fl : Nat := 33) (sup : Nat := 0) (ifs : Array Nat := #[]) (fds : Array FieldInfo := #[]) : ClassFile where
  minorVersion := 0
  majorVersion := 65
  constantPool := pool
  accessFlags := fl
  thisClass := this
  superClass := sup
  interfaces := ifs
  fields := fds
  methods := ms
  attributes := attrs
def plain (name : String) (sup : Option ClassId) : Class where
  name := name
  kind := .ordinary
  loader := none
  accessFlags := 33
  super := sup
  interfaces := #[]
  cf := none
  fields := #[]
  methods := #[]
  instanceTypes := #[]
  staticTypes := #[]
  resolved := #[]
  callSites := []
  init := .initialized
  statics := none
  mirror := none

def pool0 : Array CpInfo := pool [(5, u "<init>"), (0, u "()V"), (1, .class_ 10), (1, u "java/lang/Object"), (85, u "clone"), (0, u "()Ljava/lang/Object;")] 26

def k0c0 : Code := { maxStack := 0, maxLocals := 1, code := object_method_1_code, exceptionTable := #[], attributes := #[] }
def k0m0 : Method := { name := "<init>", desc := "()V", sig := { parameters := [], returnType := none }, accessFlags := 1, code := some k0c0 }
def k0m1 : Method := { name := "clone", desc := "()Ljava/lang/Object;", sig := { parameters := [], returnType := some (.object "java/lang/Object") }, accessFlags := 260, code := none }
/-- java/lang/Object -/
def k0 : Class := { plain "java/lang/Object" none with
  accessFlags := 33
  interfaces := #[]
  cf := some (fileOf pool0 8 #[] #[{ accessFlags := 1, nameIndex := 5, descriptorIndex := 6, attributes := #[] }, { accessFlags := 260, nameIndex := 96, descriptorIndex := 97, attributes := #[] }] 33 0 #[] #[])
  fields := #[]
  methods := #[k0m0, k0m1]
  instanceTypes := #[]
  staticTypes := #[]
  resolved := Array.replicate 124 none
  statics := none }

def pool1 : Array CpInfo := pool [(2, .class_ 4), (0, .nameAndType 5 6), (0, u "java/lang/Object"), (0, u "<init>"), (0, u "()V"), (0, .methodref 8 9), (0, .class_ 10), (0, .nameAndType 11 12), (0, u "com/example/medeweten/medeweten/core/XmlTextWritePinLaw"), (0, u "drawn"), (0, u "(I)C"), (0, .integer 2147483647), (0, .class_ 15), (0, u "com/example/medeweten/medeweten/core/XmlText"), (0, .methodref 14 3), (0, .methodref 14 18), (0, .nameAndType 19 20), (0, u "write"), (0, u "(I)V"), (0, .methodref 14 22), (0, .nameAndType 19 23), (0, u "([CII)V"), (0, .methodref 14 25), (0, .nameAndType 26 27), (0, u "toUtf8"), (0, u "()[B"), (0, .methodref 8 29), (0, .nameAndType 30 31), (0, u "at"), (0, u "([B[CIII)Z"), (3, u "law"), (0, u "(IIII)Z")] 6

def k1m0 : Method := { name := "<init>", desc := "()V", sig := { parameters := [], returnType := none }, accessFlags := 1, code := none }
def k1c1 : Code := { maxStack := 2, maxLocals := 1, code := method_2_code, exceptionTable := #[], attributes := #[] }
def k1m1 : Method := { name := "drawn", desc := "(I)C", sig := { parameters := [.int], returnType := some .char }, accessFlags := 10, code := some k1c1 }
def k1c2 : Code := { maxStack := 4, maxLocals := 5, code := method_3_code, exceptionTable := #[], attributes := #[] }
def k1m2 : Method := { name := "at", desc := "([B[CIII)Z", sig := { parameters := [(.array .byte), (.array .char), .int, .int, .int], returnType := some .boolean }, accessFlags := 10, code := some k1c2 }
def k1c3 : Code := { maxStack := 5, maxLocals := 10, code := code, exceptionTable := #[], attributes := #[] }
def k1m3 : Method := { name := "law", desc := "(IIII)Z", sig := { parameters := [.int, .int, .int, .int], returnType := some .boolean }, accessFlags := 9, code := some k1c3 }
/-- com/example/medeweten/medeweten/core/XmlTextWritePinLaw -/
def k1 : Class := { plain "com/example/medeweten/medeweten/core/XmlTextWritePinLaw" (some 0) with
  accessFlags := 49
  interfaces := #[]
  cf := some (fileOf pool1 8 #[] #[{ accessFlags := 1, nameIndex := 5, descriptorIndex := 6, attributes := #[] }, { accessFlags := 10, nameIndex := 11, descriptorIndex := 12, attributes := #[] }, { accessFlags := 10, nameIndex := 30, descriptorIndex := 31, attributes := #[] }, { accessFlags := 9, nameIndex := 35, descriptorIndex := 36, attributes := #[] }] 49 2 #[] #[])
  fields := #[]
  methods := #[k1m0, k1m1, k1m2, k1m3]
  instanceTypes := #[]
  staticTypes := #[]
  resolved := Array.replicate 43 none
  statics := none }

def pool2 : Array CpInfo := pool [(1, .class_ 2), (0, u "java/lang/Appendable"), (0, .class_ 4), (0, u "java/lang/Object")] 9

/-- java/lang/Appendable -/
def k2 : Class := { plain "java/lang/Appendable" (some 0) with
  accessFlags := 1537
  interfaces := #[]
  cf := some (fileOf pool2 1 #[] #[] 1537 3 #[] #[])
  fields := #[]
  methods := #[]
  instanceTypes := #[]
  staticTypes := #[]
  resolved := Array.replicate 14 none
  statics := none }

def pool3 : Array CpInfo := pool [(1, .class_ 2), (0, u "java/lang/AutoCloseable"), (0, .class_ 4), (0, u "java/lang/Object")] 7

/-- java/lang/AutoCloseable -/
def k3 : Class := { plain "java/lang/AutoCloseable" (some 0) with
  accessFlags := 1537
  interfaces := #[]
  cf := some (fileOf pool3 1 #[] #[] 1537 3 #[] #[])
  fields := #[]
  methods := #[]
  instanceTypes := #[]
  staticTypes := #[]
  resolved := Array.replicate 12 none
  statics := none }

def pool4 : Array CpInfo := pool [(1, .class_ 2), (0, u "java/io/Closeable"), (0, .class_ 4), (0, u "java/lang/Object"), (0, .class_ 6), (0, u "java/lang/AutoCloseable")] 7

/-- java/io/Closeable -/
def k4 : Class := { plain "java/io/Closeable" (some 0) with
  accessFlags := 1537
  interfaces := #[3]
  cf := some (fileOf pool4 1 #[] #[] 1537 3 #[5] #[])
  fields := #[]
  methods := #[]
  instanceTypes := #[]
  staticTypes := #[]
  resolved := Array.replicate 14 none
  statics := none }

def pool5 : Array CpInfo := pool [(1, .class_ 2), (0, u "java/io/Flushable"), (0, .class_ 4), (0, u "java/lang/Object")] 7

/-- java/io/Flushable -/
def k5 : Class := { plain "java/io/Flushable" (some 0) with
  accessFlags := 1537
  interfaces := #[]
  cf := some (fileOf pool5 1 #[] #[] 1537 3 #[] #[])
  fields := #[]
  methods := #[]
  instanceTypes := #[]
  staticTypes := #[]
  resolved := Array.replicate 12 none
  statics := none }

def pool6 : Array CpInfo := pool [(1, .class_ 2), (0, u "java/io/Writer$1"), (1, .nameAndType 5 6), (0, u "<init>"), (0, u "()V"), (0, .methodref 8 4), (0, .class_ 9), (0, u "java/lang/Object"), (0, .fieldref 11 12), (0, .class_ 13), (0, .nameAndType 14 15), (0, u "java/io/Writer"), (0, u "lock"), (0, u "Ljava/lang/Object;"), (30, u "writeBuffer"), (0, u "[C"), (46, .class_ 95), (0, u "java/lang/Appendable"), (0, .class_ 97), (0, u "java/io/Closeable"), (0, .class_ 99), (0, u "java/io/Flushable"), (0, u "WRITE_BUFFER_SIZE"), (0, u "I")] 49

def k6c0 : Code := { maxStack := 2, maxLocals := 1, code := jdk_2052_method_2_code, exceptionTable := #[], attributes := #[] }
def k6m0 : Method := { name := "<init>", desc := "()V", sig := { parameters := [], returnType := none }, accessFlags := 4, code := some k6c0 }
/-- java/io/Writer -/
def k6 : Class := { plain "java/io/Writer" (some 0) with
  accessFlags := 1057
  interfaces := #[2, 4, 5]
  cf := some (fileOf pool6 11 #[.nestMembers #[1]] #[{ accessFlags := 4, nameIndex := 5, descriptorIndex := 6, attributes := #[] }] 1057 8 #[94, 96, 98] #[{ accessFlags := 2, nameIndex := 46, descriptorIndex := 47, attributes := #[] }, { accessFlags := 26, nameIndex := 100, descriptorIndex := 101, attributes := #[] }, { accessFlags := 4, nameIndex := 14, descriptorIndex := 15, attributes := #[] }])
  fields := #[{ name := "writeBuffer", type := (.array .char), accessFlags := 2, slot := 0, constantValue := 0 }, { name := "WRITE_BUFFER_SIZE", type := .int, accessFlags := 26, slot := 0, constantValue := 0 }, { name := "lock", type := (.object "java/lang/Object"), accessFlags := 4, slot := 1, constantValue := 0 }]
  methods := #[k6m0]
  instanceTypes := #[(.array .char), (.object "java/lang/Object")]
  staticTypes := #[.int]
  resolved := Array.replicate 151 none
  statics := none }

def pool7 : Array CpInfo := pool [(1, .methodref 2 3), (0, .class_ 4), (0, .nameAndType 5 6), (0, u "java/io/Writer"), (0, u "<init>"), (0, u "()V"), (0, .class_ 8), (0, u "java/lang/StringBuilder"), (0, .methodref 7 10), (0, .nameAndType 5 11), (0, u "(I)V"), (0, .fieldref 13 14), (0, .class_ 15), (0, .nameAndType 16 17), (0, u "com/example/medeweten/medeweten/core/XmlText"), (0, u "text"), (0, u "Ljava/lang/StringBuilder;"), (3, .methodref 13 22), (0, .nameAndType 23 24), (0, u "replaceDisallowed"), (0, u "(Ljava/lang/StringBuilder;)V"), (0, .methodref 7 26), (0, .nameAndType 27 28), (0, u "toString"), (0, u "()Ljava/lang/String;"), (0, .methodref 7 30), (0, .nameAndType 31 32), (0, u "append"), (0, u "([CII)Ljava/lang/StringBuilder;"), (3, .methodref 7 37), (0, .nameAndType 31 38), (0, u "(C)Ljava/lang/StringBuilder;"), (0, .fieldref 40 41), (0, .class_ 42), (0, .nameAndType 43 44), (0, u "java/nio/charset/StandardCharsets"), (0, u "UTF_8"), (0, u "Ljava/nio/charset/Charset;"), (0, .methodref 46 47), (0, .class_ 48), (0, .nameAndType 49 50), (0, u "java/lang/String"), (0, u "getBytes"), (0, u "(Ljava/nio/charset/Charset;)[B"), (0, .methodref 7 52), (0, .nameAndType 53 54), (0, u "length"), (0, u "()I"), (0, .methodref 7 56), (0, .nameAndType 57 58), (0, u "charAt"), (0, u "(I)C"), (0, .methodref 60 61), (0, .class_ 62), (0, .nameAndType 63 64), (0, u "java/lang/Character"), (0, u "isHighSurrogate"), (0, u "(C)Z"), (3, .methodref 13 69), (0, .nameAndType 70 64), (0, u "isAllowed"), (0, .integer 65533), (4, .methodref 60 77), (0, .nameAndType 78 64), (0, u "isSurrogate"), (0, .integer 65534), (0, .integer 65535), (0, u "REPLACEMENT"), (0, u "C"), (5, u "write"), (0, u "([CII)V"), (3, u "toUtf8"), (0, u "()[B")] 3

def k7c0 : Code := { maxStack := 4, maxLocals := 1, code := prog_46_method_1_code, exceptionTable := #[], attributes := #[] }
def k7m0 : Method := { name := "<init>", desc := "()V", sig := { parameters := [], returnType := none }, accessFlags := 1, code := some k7c0 }
def k7c1 : Code := { maxStack := 4, maxLocals := 4, code := prog_46_method_3_code, exceptionTable := #[], attributes := #[] }
def k7m1 : Method := { name := "write", desc := "([CII)V", sig := { parameters := [(.array .char), .int, .int], returnType := none }, accessFlags := 1, code := some k7c1 }
def k7c2 : Code := { maxStack := 2, maxLocals := 2, code := prog_46_method_5_code, exceptionTable := #[], attributes := #[] }
def k7m2 : Method := { name := "write", desc := "(I)V", sig := { parameters := [.int], returnType := none }, accessFlags := 1, code := some k7c2 }
def k7c3 : Code := { maxStack := 2, maxLocals := 1, code := prog_46_method_8_code, exceptionTable := #[], attributes := #[] }
def k7m3 : Method := { name := "toUtf8", desc := "()[B", sig := { parameters := [], returnType := some (.array .byte) }, accessFlags := 1, code := some k7c3 }
def k7c4 : Code := { maxStack := 3, maxLocals := 4, code := prog_46_method_9_code, exceptionTable := #[], attributes := #[] }
def k7m4 : Method := { name := "replaceDisallowed", desc := "(Ljava/lang/StringBuilder;)V", sig := { parameters := [(.object "java/lang/StringBuilder")], returnType := none }, accessFlags := 10, code := some k7c4 }
def k7c5 : Code := { maxStack := 2, maxLocals := 2, code := prog_46_method_10_code, exceptionTable := #[], attributes := #[] }
def k7m5 : Method := { name := "isAllowed", desc := "(C)Z", sig := { parameters := [.char], returnType := some .boolean }, accessFlags := 10, code := some k7c5 }
/-- com/example/medeweten/medeweten/core/XmlText -/
def k7 : Class := { plain "com/example/medeweten/medeweten/core/XmlText" (some 6) with
  accessFlags := 49
  interfaces := #[]
  cf := some (fileOf pool7 13 #[] #[{ accessFlags := 1, nameIndex := 5, descriptorIndex := 6, attributes := #[] }, { accessFlags := 1, nameIndex := 88, descriptorIndex := 89, attributes := #[] }, { accessFlags := 1, nameIndex := 88, descriptorIndex := 11, attributes := #[] }, { accessFlags := 1, nameIndex := 93, descriptorIndex := 94, attributes := #[] }, { accessFlags := 10, nameIndex := 23, descriptorIndex := 24, attributes := #[] }, { accessFlags := 10, nameIndex := 70, descriptorIndex := 64, attributes := #[] }] 49 2 #[] #[{ accessFlags := 26, nameIndex := 81, descriptorIndex := 82, attributes := #[] }, { accessFlags := 18, nameIndex := 16, descriptorIndex := 17, attributes := #[] }])
  fields := #[{ name := "REPLACEMENT", type := .char, accessFlags := 26, slot := 0, constantValue := 0 }, { name := "text", type := (.object "java/lang/StringBuilder"), accessFlags := 18, slot := 2, constantValue := 0 }]
  methods := #[k7m0, k7m1, k7m2, k7m3, k7m4, k7m5]
  instanceTypes := #[(.array .char), (.object "java/lang/Object"), (.object "java/lang/StringBuilder")]
  staticTypes := #[.char]
  resolved := Array.replicate 98 none
  statics := none }

def pool8 : Array CpInfo := pool [(2, .class_ 4), (1, u "java/lang/CharSequence"), (42, .class_ 48), (0, u "java/lang/CharSequence$1CodePointIterator"), (10, .class_ 60), (0, u "java/lang/CharSequence$1CharIterator"), (5, .class_ 67), (0, u "java/lang/Object")] 63

/-- java/lang/CharSequence -/
def k8 : Class := { plain "java/lang/CharSequence" (some 0) with
  accessFlags := 1537
  interfaces := #[]
  cf := some (fileOf pool8 2 #[.nestMembers #[47, 59]] #[] 1537 66 #[] #[])
  fields := #[]
  methods := #[]
  instanceTypes := #[]
  staticTypes := #[]
  resolved := Array.replicate 131 none
  statics := none }

def pool9 : Array CpInfo := pool [(1, .class_ 2), (0, u "java/lang/String"), (0, .methodref 4 5), (0, .class_ 6), (0, .nameAndType 7 8), (0, u "java/lang/Object"), (0, u "<init>"), (0, u "()V"), (1, .class_ 12), (1, u "java/lang/AbstractStringBuilder"), (0, u "EMPTYVALUE"), (0, u "[B"), (0, .fieldref 10 16), (0, .nameAndType 17 14), (0, u "value"), (0, .fieldref 1 19), (0, .nameAndType 20 21), (0, u "COMPACT_STRINGS"), (0, u "Z"), (0, .fieldref 10 23), (0, .nameAndType 24 25), (0, u "coder"), (0, u "B"), (8, u "length"), (0, u "()I"), (9, u "append"), (2, .class_ 49), (0, u "java/lang/CharSequence"), (25, u "maybeLatin1"), (3, .fieldref 10 80), (0, .nameAndType 81 82), (0, u "count"), (0, u "I"), (0, .methodref 10 84), (0, .nameAndType 85 86), (0, u "isLatin1"), (0, u "()Z"), (1, .class_ 90), (1, u "java/lang/StringLatin1"), (9, .methodref 10 101), (0, .nameAndType 102 103), (0, u "ensureCapacityInternal"), (0, u "(I)V"), (34, .methodref 139 140), (0, .class_ 141), (0, .nameAndType 142 143), (0, u "java/lang/Math"), (0, u "min"), (0, u "(II)I"), (0, .methodref 1 145), (0, .nameAndType 146 147), (0, u "checkIndex"), (0, u "(II)V"), (13, .methodref 162 163), (0, .class_ 164), (0, .nameAndType 165 166), (0, u "jdk/internal/util/Preconditions"), (0, u "checkFromToIndex"), (0, u "(IIILjava/util/function/BiFunction;)I"), (15, u "Ljava/util/function/BiFunction;"), (0, .fieldref 162 184), (0, .nameAndType 185 182), (0, u "IOOBE_FORMATTER"), (5, .methodref 88 192), (0, .nameAndType 193 194), (0, u "canEncode"), (0, u "(C)Z"), (39, u "appendChars"), (4, .methodref 10 240), (0, .nameAndType 234 241), (0, u "([CII)V"), (50, u "(C)Ljava/lang/AbstractStringBuilder;"), (99, u "charAt"), (0, u "(I)C"), (9, u "()[B"), (40, .class_ 445), (0, u "java/lang/Appendable"), (60, u "([CII)Ljava/lang/AbstractStringBuilder;"), (45, u "getValue")] 56

def k9m0 : Method := { name := "<init>", desc := "()V", sig := { parameters := [], returnType := none }, accessFlags := 0, code := none }
def k9c1 : Code := { maxStack := 2, maxLocals := 2, code := jdk_68_method_2_code, exceptionTable := #[], attributes := #[] }
def k9m1 : Method := { name := "<init>", desc := "(I)V", sig := { parameters := [.int], returnType := none }, accessFlags := 0, code := some k9c1 }
def k9c2 : Code := { maxStack := 1, maxLocals := 1, code := jdk_68_method_6_code, exceptionTable := #[], attributes := #[] }
def k9m2 : Method := { name := "length", desc := "()I", sig := { parameters := [], returnType := some .int }, accessFlags := 1, code := some k9c2 }
def k9c3 : Code := { maxStack := 4, maxLocals := 3, code := jdk_68_method_9_code, exceptionTable := #[], attributes := #[] }
def k9m3 : Method := { name := "ensureCapacityInternal", desc := "(I)V", sig := { parameters := [.int], returnType := none }, accessFlags := 2, code := some k9c3 }
def k9c4 : Code := { maxStack := 3, maxLocals := 5, code := jdk_68_method_14_code, exceptionTable := #[], attributes := #[] }
def k9m4 : Method := { name := "charAt", desc := "(I)C", sig := { parameters := [.int], returnType := some .char }, accessFlags := 1, code := some k9c4 }
def k9c5 : Code := { maxStack := 4, maxLocals := 5, code := jdk_68_method_29_code, exceptionTable := #[], attributes := #[] }
def k9m5 : Method := { name := "append", desc := "([CII)Ljava/lang/AbstractStringBuilder;", sig := { parameters := [(.array .char), .int, .int], returnType := some (.object "java/lang/AbstractStringBuilder") }, accessFlags := 1, code := some k9c5 }
def k9c6 : Code := { maxStack := 5, maxLocals := 2, code := jdk_68_method_31_code, exceptionTable := #[], attributes := #[] }
def k9m6 : Method := { name := "append", desc := "(C)Ljava/lang/AbstractStringBuilder;", sig := { parameters := [.char], returnType := some (.object "java/lang/AbstractStringBuilder") }, accessFlags := 1, code := some k9c6 }
def k9c7 : Code := { maxStack := 1, maxLocals := 1, code := jdk_68_method_64_code, exceptionTable := #[], attributes := #[] }
def k9m7 : Method := { name := "getValue", desc := "()[B", sig := { parameters := [], returnType := some (.array .byte) }, accessFlags := 16, code := some k9c7 }
def k9c8 : Code := { maxStack := 1, maxLocals := 1, code := jdk_68_method_68_code, exceptionTable := #[], attributes := #[] }
def k9m8 : Method := { name := "isLatin1", desc := "()Z", sig := { parameters := [], returnType := some .boolean }, accessFlags := 16, code := some k9c8 }
def k9c9 : Code := { maxStack := 5, maxLocals := 9, code := jdk_68_method_74_code, exceptionTable := #[], attributes := #[] }
def k9m9 : Method := { name := "appendChars", desc := "([CII)V", sig := { parameters := [(.array .char), .int, .int], returnType := none }, accessFlags := 18, code := some k9c9 }
/-- java/lang/AbstractStringBuilder -/
def k9 : Class := { plain "java/lang/AbstractStringBuilder" (some 0) with
  accessFlags := 1056
  interfaces := #[2, 8]
  cf := some (fileOf pool9 10 #[] #[{ accessFlags := 0, nameIndex := 7, descriptorIndex := 8, attributes := #[] }, { accessFlags := 0, nameIndex := 7, descriptorIndex := 103, attributes := #[] }, { accessFlags := 1, nameIndex := 34, descriptorIndex := 35, attributes := #[] }, { accessFlags := 2, nameIndex := 102, descriptorIndex := 103, attributes := #[] }, { accessFlags := 1, nameIndex := 392, descriptorIndex := 393, attributes := #[] }, { accessFlags := 1, nameIndex := 45, descriptorIndex := 506, attributes := #[] }, { accessFlags := 1, nameIndex := 45, descriptorIndex := 292, attributes := #[] }, { accessFlags := 16, nameIndex := 552, descriptorIndex := 403, attributes := #[] }, { accessFlags := 16, nameIndex := 85, descriptorIndex := 86, attributes := #[] }, { accessFlags := 18, nameIndex := 234, descriptorIndex := 241, attributes := #[] }] 1056 4 #[444, 48] #[{ accessFlags := 0, nameIndex := 17, descriptorIndex := 14, attributes := #[] }, { accessFlags := 0, nameIndex := 24, descriptorIndex := 25, attributes := #[] }, { accessFlags := 0, nameIndex := 75, descriptorIndex := 21, attributes := #[] }, { accessFlags := 0, nameIndex := 81, descriptorIndex := 82, attributes := #[] }, { accessFlags := 26, nameIndex := 13, descriptorIndex := 14, attributes := #[] }])
  fields := #[{ name := "value", type := (.array .byte), accessFlags := 0, slot := 0, constantValue := 0 }, { name := "coder", type := .byte, accessFlags := 0, slot := 1, constantValue := 0 }, { name := "maybeLatin1", type := .boolean, accessFlags := 0, slot := 2, constantValue := 0 }, { name := "count", type := .int, accessFlags := 0, slot := 3, constantValue := 0 }, { name := "EMPTYVALUE", type := (.array .byte), accessFlags := 26, slot := 0, constantValue := 0 }]
  methods := #[k9m0, k9m1, k9m2, k9m3, k9m4, k9m5, k9m6, k9m7, k9m8, k9m9]
  instanceTypes := #[(.array .byte), .byte, .boolean, .int]
  staticTypes := #[(.array .byte)]
  resolved := Array.replicate 609 none
  statics := none }

def pool10 : Array CpInfo := pool [(1, .class_ 2), (0, u "java/io/Serializable"), (0, .class_ 4), (0, u "java/lang/Object")] 2

/-- java/io/Serializable -/
def k10 : Class := { plain "java/io/Serializable" (some 0) with
  accessFlags := 1537
  interfaces := #[]
  cf := some (fileOf pool10 1 #[] #[] 1537 3 #[] #[])
  fields := #[]
  methods := #[]
  instanceTypes := #[]
  staticTypes := #[]
  resolved := Array.replicate 7 none
  statics := none }

def pool11 : Array CpInfo := pool [(1, .class_ 2), (0, u "java/lang/Comparable"), (0, .class_ 4), (0, u "java/lang/Object")] 7

/-- java/lang/Comparable -/
def k11 : Class := { plain "java/lang/Comparable" (some 0) with
  accessFlags := 1537
  interfaces := #[]
  cf := some (fileOf pool11 1 #[] #[] 1537 3 #[] #[])
  fields := #[]
  methods := #[]
  instanceTypes := #[]
  staticTypes := #[]
  resolved := Array.replicate 12 none
  statics := none }

def pool12 : Array CpInfo := pool [(1, .methodref 2 3), (0, .class_ 4), (0, .nameAndType 5 6), (0, u "java/lang/AbstractStringBuilder"), (0, u "<init>"), (0, u "(I)V"), (11, .class_ 20), (1, u "java/lang/String"), (3, .class_ 26), (1, u "java/lang/StringBuilder"), (0, u "append"), (16, .methodref 2 45), (0, .nameAndType 27 46), (0, u "([CII)Ljava/lang/AbstractStringBuilder;"), (3, .methodref 2 51), (0, .nameAndType 27 52), (0, u "(C)Ljava/lang/AbstractStringBuilder;"), (84, .methodref 18 138), (0, .nameAndType 5 139), (0, u "(Ljava/lang/StringBuilder;)V"), (5, u "()V"), (10, u "()I"), (129, u "(C)Ljava/lang/StringBuilder;"), (5, u "([CII)Ljava/lang/StringBuilder;"), (36, .methodref 2 330), (0, .nameAndType 331 332), (0, u "charAt"), (0, u "(I)C"), (10, .methodref 2 344), (0, .nameAndType 345 156), (0, u "length"), (3, .class_ 350), (0, u "java/lang/Appendable"), (0, .class_ 352), (0, u "java/io/Serializable"), (0, .class_ 354), (0, u "java/lang/Comparable"), (0, .class_ 356), (0, u "java/lang/CharSequence"), (0, u "serialVersionUID"), (0, u "J"), (40, u "toString"), (0, u "()Ljava/lang/String;")] 21

def k12m0 : Method := { name := "<init>", desc := "()V", sig := { parameters := [], returnType := none }, accessFlags := 1, code := none }
def k12c1 : Code := { maxStack := 2, maxLocals := 2, code := jdk_67_method_2_code, exceptionTable := #[], attributes := #[] }
def k12m1 : Method := { name := "<init>", desc := "(I)V", sig := { parameters := [.int], returnType := none }, accessFlags := 1, code := some k12c1 }
def k12c2 : Code := { maxStack := 4, maxLocals := 4, code := jdk_67_method_12_code, exceptionTable := #[], attributes := #[] }
def k12m2 : Method := { name := "append", desc := "([CII)Ljava/lang/StringBuilder;", sig := { parameters := [(.array .char), .int, .int], returnType := some (.object "java/lang/StringBuilder") }, accessFlags := 1, code := some k12c2 }
def k12c3 : Code := { maxStack := 2, maxLocals := 2, code := jdk_67_method_14_code, exceptionTable := #[], attributes := #[] }
def k12m3 : Method := { name := "append", desc := "(C)Ljava/lang/StringBuilder;", sig := { parameters := [.char], returnType := some (.object "java/lang/StringBuilder") }, accessFlags := 1, code := some k12c3 }
def k12c4 : Code := { maxStack := 3, maxLocals := 1, code := jdk_67_method_42_code, exceptionTable := #[], attributes := #[] }
def k12m4 : Method := { name := "toString", desc := "()Ljava/lang/String;", sig := { parameters := [], returnType := some (.object "java/lang/String") }, accessFlags := 1, code := some k12c4 }
def k12c5 : Code := { maxStack := 2, maxLocals := 2, code := jdk_67_method_88_code, exceptionTable := #[], attributes := #[] }
def k12m5 : Method := { name := "charAt", desc := "(I)C", sig := { parameters := [.int], returnType := some .char }, accessFlags := 4161, code := some k12c5 }
def k12c6 : Code := { maxStack := 1, maxLocals := 1, code := jdk_67_method_93_code, exceptionTable := #[], attributes := #[] }
def k12m6 : Method := { name := "length", desc := "()I", sig := { parameters := [], returnType := some .int }, accessFlags := 4161, code := some k12c6 }
/-- java/lang/StringBuilder -/
def k12 : Class := { plain "java/lang/StringBuilder" (some 9) with
  accessFlags := 49
  interfaces := #[2, 10, 11, 8]
  cf := some (fileOf pool12 24 #[] #[{ accessFlags := 1, nameIndex := 5, descriptorIndex := 145, attributes := #[] }, { accessFlags := 1, nameIndex := 5, descriptorIndex := 6, attributes := #[] }, { accessFlags := 1, nameIndex := 27, descriptorIndex := 292, attributes := #[] }, { accessFlags := 1, nameIndex := 27, descriptorIndex := 286, attributes := #[] }, { accessFlags := 1, nameIndex := 399, descriptorIndex := 400, attributes := #[] }, { accessFlags := 4161, nameIndex := 331, descriptorIndex := 332, attributes := #[] }, { accessFlags := 4161, nameIndex := 345, descriptorIndex := 156, attributes := #[] }] 49 2 #[349, 351, 353, 355] #[{ accessFlags := 24, nameIndex := 357, descriptorIndex := 358, attributes := #[] }])
  fields := #[{ name := "serialVersionUID", type := .long, accessFlags := 24, slot := 0, constantValue := 0 }]
  methods := #[k12m0, k12m1, k12m2, k12m3, k12m4, k12m5, k12m6]
  instanceTypes := #[(.array .byte), .byte, .boolean, .int]
  staticTypes := #[.long]
  resolved := Array.replicate 422 none
  statics := none }

def pool13 : Array CpInfo := pool [(1, .class_ 2), (0, u "java/lang/constant/Constable"), (0, .class_ 4), (0, u "java/lang/Object")] 6

/-- java/lang/constant/Constable -/
def k13 : Class := { plain "java/lang/constant/Constable" (some 0) with
  accessFlags := 1537
  interfaces := #[]
  cf := some (fileOf pool13 1 #[] #[] 1537 3 #[] #[])
  fields := #[]
  methods := #[]
  instanceTypes := #[]
  staticTypes := #[]
  resolved := Array.replicate 11 none
  statics := none }

def pool14 : Array CpInfo := pool [(1, .class_ 2), (0, u "java/lang/constant/ConstantDesc"), (0, .class_ 4), (0, u "java/lang/Object")] 32

/-- java/lang/constant/ConstantDesc -/
def k14 : Class := { plain "java/lang/constant/ConstantDesc" (some 0) with
  accessFlags := 1537
  interfaces := #[]
  cf := some (fileOf pool14 1 #[] #[] 1537 3 #[] #[])
  fields := #[]
  methods := #[]
  instanceTypes := #[]
  staticTypes := #[]
  resolved := Array.replicate 37 none
  statics := none }

def pool15 : Array CpInfo := pool [(1, .methodref 2 3), (0, .class_ 4), (0, .nameAndType 5 6), (0, u "java/lang/Object"), (0, u "<init>"), (0, u "()V"), (2, .fieldref 10 11), (0, .class_ 12), (0, .nameAndType 13 14), (0, u "java/lang/String"), (0, u "value"), (0, u "[B"), (0, .fieldref 10 16), (0, .nameAndType 17 18), (0, u "coder"), (0, u "B"), (2, u "hash"), (0, u "I"), (2, u "hashIsZero"), (0, u "Z"), (11, .fieldref 10 39), (0, .nameAndType 40 26), (0, u "COMPACT_STRINGS"), (13, .methodref 55 56), (0, .class_ 57), (0, .nameAndType 58 59), (0, u "java/util/Arrays"), (0, u "copyOfRange"), (0, u "([BII)[B"), (26, .fieldref 87 88), (0, .class_ 89), (0, .nameAndType 90 91), (0, u "sun/nio/cs/UTF_8"), (0, u "INSTANCE"), (0, u "Lsun/nio/cs/UTF_8;"), (1, .class_ 95), (1, u "java/lang/StringCoding"), (32, .methodref 93 129), (0, .nameAndType 130 131), (0, u "hasNegatives"), (0, u "([BII)Z"), (10, u "()Z"), (109, .methodref 10 253), (0, .nameAndType 254 255), (0, u "encodeUTF8"), (0, u "(B[BZ)[B"), (23, .methodref 280 281), (0, .class_ 14), (0, .nameAndType 282 283), (0, u "clone"), (0, u "()Ljava/lang/Object;"), (33, u "encode"), (16, u "()I"), (0, .methodref 10 336), (0, .nameAndType 17 337), (0, u "()B"), (2, u "()[B"), (50, u "(II)V"), (97, .methodref 10 490), (0, .nameAndType 5 491), (0, u "(Ljava/lang/AbstractStringBuilder;Ljava/lang/Void;)V"), (1, .nameAndType 494 142), (0, u "isLatin1"), (6, u "checkIndex"), (4, .nameAndType 507 334), (0, u "length"), (24, u "getBytes"), (2, .methodref 10 536), (0, .nameAndType 317 537), (0, u "(Ljava/nio/charset/Charset;B[B)[B"), (11, .methodref 550 506), (0, .class_ 551), (0, u "java/lang/AbstractStringBuilder"), (0, .methodref 550 553), (0, .nameAndType 554 340), (0, u "getValue"), (20, .class_ 576), (0, u "java/lang/CharSequence"), (22, u "CASE_INSENSITIVE_ORDER"), (0, u "Ljava/util/Comparator;"), (446, .methodref 550 493), (5, .fieldref 1054 1055), (0, .class_ 1056), (0, .nameAndType 1057 1058), (0, u "jdk/internal/util/Preconditions"), (0, u "SIOOBE_FORMATTER"), (0, u "Ljava/util/function/BiFunction;"), (0, .methodref 1054 1060), (0, .nameAndType 501 1061), (0, u "(IILjava/util/function/BiFunction;)I"), (39, u "serialPersistentFields"), (0, u "[Ljava/io/ObjectStreamField;"), (0, .class_ 1104), (0, u "java/lang/String$CaseInsensitiveComparator"), (1, .class_ 1107), (0, u "java/io/Serializable"), (0, .class_ 1109), (0, u "java/lang/Comparable"), (0, .class_ 1111), (0, u "java/lang/constant/Constable"), (0, .class_ 1113), (0, u "java/lang/constant/ConstantDesc"), (2, u "serialVersionUID"), (0, u "J"), (3, u "REPL"), (0, u "C"), (2, u "LATIN1"), (1, u "UTF16"), (105, u "(Ljava/lang/StringBuilder;)V"), (11, u "(Ljava/nio/charset/Charset;)[B")] 205

def k15m0 : Method := { name := "<init>", desc := "()V", sig := { parameters := [], returnType := none }, accessFlags := 1, code := none }
def k15c1 : Code := { maxStack := 4, maxLocals := 3, code := jdk_42_method_18_code, exceptionTable := #[], attributes := #[] }
def k15m1 : Method := { name := "encode", desc := "(Ljava/nio/charset/Charset;B[B)[B", sig := { parameters := [(.object "java/nio/charset/Charset"), .byte, (.array .byte)], returnType := some (.array .byte) }, accessFlags := 10, code := some k15c1 }
def k15c2 : Code := { maxStack := 5, maxLocals := 9, code := jdk_42_method_46_code, exceptionTable := #[], attributes := #[] }
def k15m2 : Method := { name := "encodeUTF8", desc := "(B[BZ)[B", sig := { parameters := [.byte, (.array .byte), .boolean], returnType := some (.array .byte) }, accessFlags := 10, code := some k15c2 }
def k15c3 : Code := { maxStack := 3, maxLocals := 2, code := jdk_42_method_53_code, exceptionTable := #[], attributes := #[] }
def k15m3 : Method := { name := "<init>", desc := "(Ljava/lang/StringBuilder;)V", sig := { parameters := [(.object "java/lang/StringBuilder")], returnType := none }, accessFlags := 1, code := some k15c3 }
def k15c4 : Code := { maxStack := 3, maxLocals := 2, code := jdk_42_method_64_code, exceptionTable := #[], attributes := #[] }
def k15m4 : Method := { name := "getBytes", desc := "(Ljava/nio/charset/Charset;)[B", sig := { parameters := [(.object "java/nio/charset/Charset")], returnType := some (.array .byte) }, accessFlags := 1, code := some k15c4 }
def k15c5 : Code := { maxStack := 5, maxLocals := 5, code := jdk_42_method_150_code, exceptionTable := #[], attributes := #[] }
def k15m5 : Method := { name := "<init>", desc := "(Ljava/lang/AbstractStringBuilder;Ljava/lang/Void;)V", sig := { parameters := [(.object "java/lang/AbstractStringBuilder"), (.object "java/lang/Void")], returnType := none }, accessFlags := 0, code := some k15c5 }
def k15c6 : Code := { maxStack := 1, maxLocals := 1, code := jdk_42_method_152_code, exceptionTable := #[], attributes := #[] }
def k15m6 : Method := { name := "coder", desc := "()B", sig := { parameters := [], returnType := some .byte }, accessFlags := 0, code := some k15c6 }
def k15c7 : Code := { maxStack := 3, maxLocals := 2, code := jdk_42_method_155_code, exceptionTable := #[], attributes := #[] }
def k15m7 : Method := { name := "checkIndex", desc := "(II)V", sig := { parameters := [.int, .int], returnType := none }, accessFlags := 8, code := some k15c7 }
/-- java/lang/String -/
def k15 : Class := { plain "java/lang/String" (some 0) with
  accessFlags := 49
  interfaces := #[10, 11, 8, 13, 14]
  cf := some (fileOf pool15 10 #[.nestMembers #[1103]] #[{ accessFlags := 1, nameIndex := 5, descriptorIndex := 6, attributes := #[] }, { accessFlags := 10, nameIndex := 317, descriptorIndex := 537, attributes := #[] }, { accessFlags := 10, nameIndex := 254, descriptorIndex := 255, attributes := #[] }, { accessFlags := 1, nameIndex := 5, descriptorIndex := 1233, attributes := #[] }, { accessFlags := 1, nameIndex := 532, descriptorIndex := 1245, attributes := #[] }, { accessFlags := 0, nameIndex := 5, descriptorIndex := 491, attributes := #[] }, { accessFlags := 0, nameIndex := 17, descriptorIndex := 337, attributes := #[] }, { accessFlags := 8, nameIndex := 501, descriptorIndex := 391, attributes := #[] }] 49 2 #[1106, 1108, 575, 1110, 1112] #[{ accessFlags := 18, nameIndex := 13, descriptorIndex := 14, attributes := #[] }, { accessFlags := 18, nameIndex := 17, descriptorIndex := 18, attributes := #[] }, { accessFlags := 2, nameIndex := 21, descriptorIndex := 22, attributes := #[] }, { accessFlags := 2, nameIndex := 25, descriptorIndex := 26, attributes := #[] }, { accessFlags := 26, nameIndex := 1116, descriptorIndex := 1117, attributes := #[] }, { accessFlags := 24, nameIndex := 40, descriptorIndex := 26, attributes := #[] }, { accessFlags := 26, nameIndex := 1101, descriptorIndex := 1102, attributes := #[] }, { accessFlags := 26, nameIndex := 1121, descriptorIndex := 1122, attributes := #[] }, { accessFlags := 25, nameIndex := 599, descriptorIndex := 600, attributes := #[] }, { accessFlags := 24, nameIndex := 1125, descriptorIndex := 18, attributes := #[] }, { accessFlags := 24, nameIndex := 1127, descriptorIndex := 18, attributes := #[] }])
  fields := #[{ name := "value", type := (.array .byte), accessFlags := 18, slot := 0, constantValue := 0 }, { name := "coder", type := .byte, accessFlags := 18, slot := 1, constantValue := 0 }, { name := "hash", type := .int, accessFlags := 2, slot := 2, constantValue := 0 }, { name := "hashIsZero", type := .boolean, accessFlags := 2, slot := 3, constantValue := 0 }, { name := "serialVersionUID", type := .long, accessFlags := 26, slot := 0, constantValue := 0 }, { name := "COMPACT_STRINGS", type := .boolean, accessFlags := 24, slot := 1, constantValue := 0 }, { name := "serialPersistentFields", type := (.array (.object "java/io/ObjectStreamField")), accessFlags := 26, slot := 2, constantValue := 0 }, { name := "REPL", type := .char, accessFlags := 26, slot := 3, constantValue := 0 }, { name := "CASE_INSENSITIVE_ORDER", type := (.object "java/util/Comparator"), accessFlags := 25, slot := 4, constantValue := 0 }, { name := "LATIN1", type := .byte, accessFlags := 24, slot := 5, constantValue := 0 }, { name := "UTF16", type := .byte, accessFlags := 24, slot := 6, constantValue := 0 }]
  methods := #[k15m0, k15m1, k15m2, k15m3, k15m4, k15m5, k15m6, k15m7]
  instanceTypes := #[(.array .byte), .byte, .int, .boolean]
  staticTypes := #[.long, .boolean, (.array (.object "java/io/ObjectStreamField")), .char, (.object "java/util/Comparator"), .byte, .byte]
  resolved := Array.replicate 1451 none
  statics := some 0 }

def pool16 : Array CpInfo := pool [(4, .class_ 6), (1, u "java/lang/Object"), (0, u "<init>"), (0, u "()V"), (5, .class_ 16), (1, u "java/lang/StringLatin1"), (73, u "canEncode"), (14, u "(C)Z"), (15, u "$assertionsDisabled"), (0, u "Z"), (98, .class_ 223), (1, u "java/lang/StringLatin1$LinesSpliterator"), (166, .class_ 391), (0, u "java/lang/StringLatin1$CharsSpliterator")] 3

def k16m0 : Method := { name := "<init>", desc := "()V", sig := { parameters := [], returnType := none }, accessFlags := 0, code := none }
def k16c1 : Code := { maxStack := 2, maxLocals := 1, code := jdk_43_method_3_code, exceptionTable := #[], attributes := #[] }
def k16m1 : Method := { name := "canEncode", desc := "(C)Z", sig := { parameters := [.char], returnType := some .boolean }, accessFlags := 9, code := some k16c1 }
/-- java/lang/StringLatin1 -/
def k16 : Class := { plain "java/lang/StringLatin1" (some 0) with
  accessFlags := 48
  interfaces := #[]
  cf := some (fileOf pool16 14 #[.nestMembers #[390, 221]] #[{ accessFlags := 0, nameIndex := 7, descriptorIndex := 8, attributes := #[] }, { accessFlags := 9, nameIndex := 90, descriptorIndex := 105, attributes := #[] }] 48 4 #[] #[{ accessFlags := 4120, nameIndex := 121, descriptorIndex := 122, attributes := #[] }])
  fields := #[{ name := "$assertionsDisabled", type := .boolean, accessFlags := 4120, slot := 0, constantValue := 0 }]
  methods := #[k16m0, k16m1]
  instanceTypes := #[]
  staticTypes := #[.boolean]
  resolved := Array.replicate 395 none
  statics := none }

def pool17 : Array CpInfo := pool [(2, .class_ 4), (1, u "java/lang/Object"), (0, u "<init>"), (0, u "()V"), (17, .class_ 26), (1, u "jdk/internal/util/Preconditions"), (6, u "checkIndex"), (13, u "checkFromToIndex"), (7, .class_ 56), (0, u "jdk/internal/util/Preconditions$4"), (57, .class_ 115), (0, u "jdk/internal/util/Preconditions$1"), (7, u "SIOOBE_FORMATTER"), (0, u "Ljava/util/function/BiFunction;"), (0, .class_ 126), (0, u "jdk/internal/util/Preconditions$2"), (3, u "AIOOBE_FORMATTER"), (0, .class_ 132), (0, u "jdk/internal/util/Preconditions$3"), (3, u "IOOBE_FORMATTER"), (41, u "(IILjava/util/function/BiFunction;)I"), (4, u "(IIILjava/util/function/BiFunction;)I")] 10

def k17m0 : Method := { name := "<init>", desc := "()V", sig := { parameters := [], returnType := none }, accessFlags := 1, code := none }
def k17c1 : Code := { maxStack := 3, maxLocals := 3, code := jdk_41_method_11_code, exceptionTable := #[], attributes := #[] }
def k17m1 : Method := { name := "checkIndex", desc := "(IILjava/util/function/BiFunction;)I", sig := { parameters := [.int, .int, (.object "java/util/function/BiFunction")], returnType := some .int }, accessFlags := 9, code := some k17c1 }
def k17c2 : Code := { maxStack := 4, maxLocals := 4, code := jdk_41_method_12_code, exceptionTable := #[], attributes := #[] }
def k17m2 : Method := { name := "checkFromToIndex", desc := "(IIILjava/util/function/BiFunction;)I", sig := { parameters := [.int, .int, .int, (.object "java/util/function/BiFunction")], returnType := some .int }, accessFlags := 9, code := some k17c2 }
/-- jdk/internal/util/Preconditions -/
def k17 : Class := { plain "jdk/internal/util/Preconditions" (some 0) with
  accessFlags := 33
  interfaces := #[]
  cf := some (fileOf pool17 24 #[.nestMembers #[55, 131, 125, 114]] #[{ accessFlags := 1, nameIndex := 5, descriptorIndex := 6, attributes := #[] }, { accessFlags := 9, nameIndex := 33, descriptorIndex := 178, attributes := #[] }, { accessFlags := 9, nameIndex := 47, descriptorIndex := 183, attributes := #[] }] 33 2 #[] #[{ accessFlags := 25, nameIndex := 123, descriptorIndex := 124, attributes := #[] }, { accessFlags := 25, nameIndex := 130, descriptorIndex := 124, attributes := #[] }, { accessFlags := 25, nameIndex := 136, descriptorIndex := 124, attributes := #[] }])
  fields := #[{ name := "SIOOBE_FORMATTER", type := (.object "java/util/function/BiFunction"), accessFlags := 25, slot := 0, constantValue := 0 }, { name := "AIOOBE_FORMATTER", type := (.object "java/util/function/BiFunction"), accessFlags := 25, slot := 1, constantValue := 0 }, { name := "IOOBE_FORMATTER", type := (.object "java/util/function/BiFunction"), accessFlags := 25, slot := 2, constantValue := 0 }]
  methods := #[k17m0, k17m1, k17m2]
  instanceTypes := #[]
  staticTypes := #[(.object "java/util/function/BiFunction"), (.object "java/util/function/BiFunction"), (.object "java/util/function/BiFunction")]
  resolved := Array.replicate 194 none
  statics := some 1 }

def pool18 : Array CpInfo := pool [(1, .class_ 2), (0, u "java/lang/Math"), (1, .class_ 6), (1, u "java/lang/Object"), (0, u "<init>"), (0, u "()V"), (89, .class_ 100), (1, u "java/lang/Math$RandomNumberGeneratorHolder"), (71, u "negativeZeroFloatBits"), (0, u "J"), (2, u "negativeZeroDoubleBits"), (24, u "min"), (43, u "$assertionsDisabled"), (0, u "Z"), (88, u "(II)I"), (2, u "twoToTheDoubleScaleDown"), (0, u "D"), (4, u "twoToTheDoubleScaleUp"), (9, u "E"), (3, u "PI"), (2, u "TAU"), (2, u "DEGREES_TO_RADIANS"), (0, u "RADIANS_TO_DEGREES")] 94

def k18m0 : Method := { name := "<init>", desc := "()V", sig := { parameters := [], returnType := none }, accessFlags := 2, code := none }
def k18c1 : Code := { maxStack := 2, maxLocals := 2, code := jdk_29_method_69_code, exceptionTable := #[], attributes := #[] }
def k18m1 : Method := { name := "min", desc := "(II)I", sig := { parameters := [.int, .int], returnType := some .int }, accessFlags := 9, code := some k18c1 }
/-- java/lang/Math -/
def k18 : Class := { plain "java/lang/Math" (some 0) with
  accessFlags := 49
  interfaces := #[]
  cf := some (fileOf pool18 1 #[.nestMembers #[98]] #[{ accessFlags := 2, nameIndex := 7, descriptorIndex := 8, attributes := #[] }, { accessFlags := 9, nameIndex := 201, descriptorIndex := 335, attributes := #[] }] 49 4 #[] #[{ accessFlags := 25, nameIndex := 354, descriptorIndex := 339, attributes := #[] }, { accessFlags := 25, nameIndex := 358, descriptorIndex := 339, attributes := #[] }, { accessFlags := 25, nameIndex := 361, descriptorIndex := 339, attributes := #[] }, { accessFlags := 26, nameIndex := 364, descriptorIndex := 339, attributes := #[] }, { accessFlags := 26, nameIndex := 365, descriptorIndex := 339, attributes := #[] }, { accessFlags := 26, nameIndex := 172, descriptorIndex := 173, attributes := #[] }, { accessFlags := 26, nameIndex := 176, descriptorIndex := 173, attributes := #[] }, { accessFlags := 8, nameIndex := 344, descriptorIndex := 339, attributes := #[] }, { accessFlags := 8, nameIndex := 338, descriptorIndex := 339, attributes := #[] }, { accessFlags := 4120, nameIndex := 245, descriptorIndex := 246, attributes := #[] }])
  fields := #[{ name := "E", type := .double, accessFlags := 25, slot := 0, constantValue := 0 }, { name := "PI", type := .double, accessFlags := 25, slot := 1, constantValue := 0 }, { name := "TAU", type := .double, accessFlags := 25, slot := 2, constantValue := 0 }, { name := "DEGREES_TO_RADIANS", type := .double, accessFlags := 26, slot := 3, constantValue := 0 }, { name := "RADIANS_TO_DEGREES", type := .double, accessFlags := 26, slot := 4, constantValue := 0 }, { name := "negativeZeroFloatBits", type := .long, accessFlags := 26, slot := 5, constantValue := 0 }, { name := "negativeZeroDoubleBits", type := .long, accessFlags := 26, slot := 6, constantValue := 0 }, { name := "twoToTheDoubleScaleUp", type := .double, accessFlags := 8, slot := 7, constantValue := 0 }, { name := "twoToTheDoubleScaleDown", type := .double, accessFlags := 8, slot := 8, constantValue := 0 }, { name := "$assertionsDisabled", type := .boolean, accessFlags := 4120, slot := 9, constantValue := 0 }]
  methods := #[k18m0, k18m1]
  instanceTypes := #[]
  staticTypes := #[.double, .double, .double, .double, .double, .long, .long, .double, .double, .boolean]
  resolved := Array.replicate 460 none
  statics := none }

def pool19 : Array CpInfo := pool [(1, .class_ 2), (0, u "java/lang/Character"), (18, u "value"), (0, u "C"), (19, .class_ 44), (1, u "java/lang/Object"), (3, .class_ 50), (1, u "java/lang/Character$CharacterCache"), (24, .integer 55296), (4, u "isHighSurrogate"), (0, u "(C)Z"), (202, u "$assertionsDisabled"), (0, u "Z"), (21, .class_ 309), (1, u "java/lang/Character$UnicodeBlock"), (73, u "TYPE"), (0, u "Ljava/lang/Class;"), (0, .class_ 386), (0, u "java/io/Serializable"), (0, .class_ 388), (0, u "java/lang/Comparable"), (0, .class_ 390), (0, u "java/lang/constant/Constable"), (0, u "MIN_RADIX"), (0, u "I"), (2, u "MAX_RADIX"), (1, u "MIN_VALUE"), (1, u "MAX_VALUE"), (3, u "UNASSIGNED"), (0, u "B"), (0, u "UPPERCASE_LETTER"), (1, u "LOWERCASE_LETTER"), (0, u "TITLECASE_LETTER"), (1, u "MODIFIER_LETTER"), (1, u "OTHER_LETTER"), (1, u "NON_SPACING_MARK"), (1, u "ENCLOSING_MARK"), (1, u "COMBINING_SPACING_MARK"), (1, u "DECIMAL_DIGIT_NUMBER"), (1, u "LETTER_NUMBER"), (1, u "OTHER_NUMBER"), (1, u "SPACE_SEPARATOR"), (1, u "LINE_SEPARATOR"), (1, u "PARAGRAPH_SEPARATOR"), (1, u "CONTROL"), (1, u "FORMAT"), (1, u "PRIVATE_USE"), (1, u "SURROGATE"), (1, u "DASH_PUNCTUATION"), (1, u "START_PUNCTUATION"), (1, u "END_PUNCTUATION"), (1, u "CONNECTOR_PUNCTUATION"), (1, u "OTHER_PUNCTUATION"), (1, u "MATH_SYMBOL"), (1, u "CURRENCY_SYMBOL"), (1, u "MODIFIER_SYMBOL"), (1, u "OTHER_SYMBOL"), (1, u "INITIAL_QUOTE_PUNCTUATION"), (1, u "FINAL_QUOTE_PUNCTUATION"), (1, u "ERROR"), (1, u "DIRECTIONALITY_UNDEFINED"), (0, u "DIRECTIONALITY_LEFT_TO_RIGHT"), (0, u "DIRECTIONALITY_RIGHT_TO_LEFT"), (0, u "DIRECTIONALITY_RIGHT_TO_LEFT_ARABIC"), (0, u "DIRECTIONALITY_EUROPEAN_NUMBER"), (0, u "DIRECTIONALITY_EUROPEAN_NUMBER_SEPARATOR"), (0, u "DIRECTIONALITY_EUROPEAN_NUMBER_TERMINATOR"), (0, u "DIRECTIONALITY_ARABIC_NUMBER"), (0, u "DIRECTIONALITY_COMMON_NUMBER_SEPARATOR"), (0, u "DIRECTIONALITY_NONSPACING_MARK"), (0, u "DIRECTIONALITY_BOUNDARY_NEUTRAL"), (0, u "DIRECTIONALITY_PARAGRAPH_SEPARATOR"), (0, u "DIRECTIONALITY_SEGMENT_SEPARATOR"), (0, u "DIRECTIONALITY_WHITESPACE"), (0, u "DIRECTIONALITY_OTHER_NEUTRALS"), (0, u "DIRECTIONALITY_LEFT_TO_RIGHT_EMBEDDING"), (0, u "DIRECTIONALITY_LEFT_TO_RIGHT_OVERRIDE"), (0, u "DIRECTIONALITY_RIGHT_TO_LEFT_EMBEDDING"), (0, u "DIRECTIONALITY_RIGHT_TO_LEFT_OVERRIDE"), (1, u "DIRECTIONALITY_POP_DIRECTIONAL_FORMAT"), (0, u "DIRECTIONALITY_LEFT_TO_RIGHT_ISOLATE"), (0, u "DIRECTIONALITY_RIGHT_TO_LEFT_ISOLATE"), (0, u "DIRECTIONALITY_FIRST_STRONG_ISOLATE"), (0, u "DIRECTIONALITY_POP_DIRECTIONAL_ISOLATE"), (0, u "MIN_HIGH_SURROGATE"), (0, u "MAX_HIGH_SURROGATE"), (1, u "MIN_LOW_SURROGATE"), (0, u "MAX_LOW_SURROGATE"), (1, u "MIN_SURROGATE"), (0, u "MAX_SURROGATE"), (0, u "MIN_SUPPLEMENTARY_CODE_POINT"), (0, u "MIN_CODE_POINT"), (0, u "MAX_CODE_POINT"), (1, u "serialVersionUID"), (0, u "J"), (2, u "SIZE"), (0, u "BYTES"), (24, u "isSurrogate"), (63, .class_ 596), (0, u "java/lang/Character$UnicodeScript"), (0, .class_ 598), (0, u "java/lang/Character$Subset")] 5

def k19c0 : Code := { maxStack := 2, maxLocals := 1, code := jdk_89_method_14_code, exceptionTable := #[], attributes := #[] }
def k19m0 : Method := { name := "isHighSurrogate", desc := "(C)Z", sig := { parameters := [.char], returnType := some .boolean }, accessFlags := 9, code := some k19c0 }
def k19c1 : Code := { maxStack := 2, maxLocals := 1, code := jdk_89_method_16_code, exceptionTable := #[], attributes := #[] }
def k19m1 : Method := { name := "isSurrogate", desc := "(C)Z", sig := { parameters := [.char], returnType := some .boolean }, accessFlags := 9, code := some k19c1 }
/-- java/lang/Character -/
def k19 : Class := { plain "java/lang/Character" (some 0) with
  accessFlags := 49
  interfaces := #[10, 11, 13]
  cf := some (fileOf pool19 1 #[.nestMembers #[48, 595, 307, 597]] #[{ accessFlags := 9, nameIndex := 80, descriptorIndex := 81, attributes := #[] }, { accessFlags := 9, nameIndex := 531, descriptorIndex := 81, attributes := #[] }] 49 42 #[385, 387, 389] #[{ accessFlags := 25, nameIndex := 391, descriptorIndex := 392, attributes := #[] }, { accessFlags := 25, nameIndex := 395, descriptorIndex := 392, attributes := #[] }, { accessFlags := 25, nameIndex := 397, descriptorIndex := 22, attributes := #[] }, { accessFlags := 25, nameIndex := 399, descriptorIndex := 22, attributes := #[] }, { accessFlags := 25, nameIndex := 383, descriptorIndex := 384, attributes := #[] }, { accessFlags := 25, nameIndex := 403, descriptorIndex := 404, attributes := #[] }, { accessFlags := 25, nameIndex := 405, descriptorIndex := 404, attributes := #[] }, { accessFlags := 25, nameIndex := 407, descriptorIndex := 404, attributes := #[] }, { accessFlags := 25, nameIndex := 408, descriptorIndex := 404, attributes := #[] }, { accessFlags := 25, nameIndex := 410, descriptorIndex := 404, attributes := #[] }, { accessFlags := 25, nameIndex := 412, descriptorIndex := 404, attributes := #[] }, { accessFlags := 25, nameIndex := 414, descriptorIndex := 404, attributes := #[] }, { accessFlags := 25, nameIndex := 416, descriptorIndex := 404, attributes := #[] }, { accessFlags := 25, nameIndex := 418, descriptorIndex := 404, attributes := #[] }, { accessFlags := 25, nameIndex := 420, descriptorIndex := 404, attributes := #[] }, { accessFlags := 25, nameIndex := 422, descriptorIndex := 404, attributes := #[] }, { accessFlags := 25, nameIndex := 424, descriptorIndex := 404, attributes := #[] }, { accessFlags := 25, nameIndex := 426, descriptorIndex := 404, attributes := #[] }, { accessFlags := 25, nameIndex := 428, descriptorIndex := 404, attributes := #[] }, { accessFlags := 25, nameIndex := 430, descriptorIndex := 404, attributes := #[] }, { accessFlags := 25, nameIndex := 432, descriptorIndex := 404, attributes := #[] }, { accessFlags := 25, nameIndex := 434, descriptorIndex := 404, attributes := #[] }, { accessFlags := 25, nameIndex := 436, descriptorIndex := 404, attributes := #[] }, { accessFlags := 25, nameIndex := 438, descriptorIndex := 404, attributes := #[] }, { accessFlags := 25, nameIndex := 440, descriptorIndex := 404, attributes := #[] }, { accessFlags := 25, nameIndex := 442, descriptorIndex := 404, attributes := #[] }, { accessFlags := 25, nameIndex := 444, descriptorIndex := 404, attributes := #[] }, { accessFlags := 25, nameIndex := 446, descriptorIndex := 404, attributes := #[] }, { accessFlags := 25, nameIndex := 448, descriptorIndex := 404, attributes := #[] }, { accessFlags := 25, nameIndex := 450, descriptorIndex := 404, attributes := #[] }, { accessFlags := 25, nameIndex := 452, descriptorIndex := 404, attributes := #[] }, { accessFlags := 25, nameIndex := 454, descriptorIndex := 404, attributes := #[] }, { accessFlags := 25, nameIndex := 456, descriptorIndex := 404, attributes := #[] }, { accessFlags := 25, nameIndex := 458, descriptorIndex := 404, attributes := #[] }, { accessFlags := 25, nameIndex := 460, descriptorIndex := 404, attributes := #[] }, { accessFlags := 24, nameIndex := 462, descriptorIndex := 392, attributes := #[] }, { accessFlags := 25, nameIndex := 464, descriptorIndex := 404, attributes := #[] }, { accessFlags := 25, nameIndex := 465, descriptorIndex := 404, attributes := #[] }, { accessFlags := 25, nameIndex := 466, descriptorIndex := 404, attributes := #[] }, { accessFlags := 25, nameIndex := 467, descriptorIndex := 404, attributes := #[] }, { accessFlags := 25, nameIndex := 468, descriptorIndex := 404, attributes := #[] }, { accessFlags := 25, nameIndex := 469, descriptorIndex := 404, attributes := #[] }, { accessFlags := 25, nameIndex := 470, descriptorIndex := 404, attributes := #[] }, { accessFlags := 25, nameIndex := 471, descriptorIndex := 404, attributes := #[] }, { accessFlags := 25, nameIndex := 472, descriptorIndex := 404, attributes := #[] }, { accessFlags := 25, nameIndex := 473, descriptorIndex := 404, attributes := #[] }, { accessFlags := 25, nameIndex := 474, descriptorIndex := 404, attributes := #[] }, { accessFlags := 25, nameIndex := 475, descriptorIndex := 404, attributes := #[] }, { accessFlags := 25, nameIndex := 476, descriptorIndex := 404, attributes := #[] }, { accessFlags := 25, nameIndex := 477, descriptorIndex := 404, attributes := #[] }, { accessFlags := 25, nameIndex := 478, descriptorIndex := 404, attributes := #[] }, { accessFlags := 25, nameIndex := 479, descriptorIndex := 404, attributes := #[] }, { accessFlags := 25, nameIndex := 480, descriptorIndex := 404, attributes := #[] }, { accessFlags := 25, nameIndex := 481, descriptorIndex := 404, attributes := #[] }, { accessFlags := 25, nameIndex := 482, descriptorIndex := 404, attributes := #[] }, { accessFlags := 25, nameIndex := 484, descriptorIndex := 404, attributes := #[] }, { accessFlags := 25, nameIndex := 485, descriptorIndex := 404, attributes := #[] }, { accessFlags := 25, nameIndex := 486, descriptorIndex := 404, attributes := #[] }, { accessFlags := 25, nameIndex := 487, descriptorIndex := 404, attributes := #[] }, { accessFlags := 25, nameIndex := 488, descriptorIndex := 404, attributes := #[] }, { accessFlags := 25, nameIndex := 489, descriptorIndex := 22, attributes := #[] }, { accessFlags := 25, nameIndex := 490, descriptorIndex := 22, attributes := #[] }, { accessFlags := 25, nameIndex := 492, descriptorIndex := 22, attributes := #[] }, { accessFlags := 25, nameIndex := 493, descriptorIndex := 22, attributes := #[] }, { accessFlags := 25, nameIndex := 495, descriptorIndex := 22, attributes := #[] }, { accessFlags := 25, nameIndex := 496, descriptorIndex := 22, attributes := #[] }, { accessFlags := 25, nameIndex := 497, descriptorIndex := 392, attributes := #[] }, { accessFlags := 25, nameIndex := 498, descriptorIndex := 392, attributes := #[] }, { accessFlags := 25, nameIndex := 499, descriptorIndex := 392, attributes := #[] }, { accessFlags := 18, nameIndex := 21, descriptorIndex := 22, attributes := #[] }, { accessFlags := 26, nameIndex := 501, descriptorIndex := 502, attributes := #[] }, { accessFlags := 25, nameIndex := 505, descriptorIndex := 392, attributes := #[] }, { accessFlags := 25, nameIndex := 506, descriptorIndex := 392, attributes := #[] }, { accessFlags := 4120, nameIndex := 284, descriptorIndex := 285, attributes := #[] }])
  fields := #[{ name := "MIN_RADIX", type := .int, accessFlags := 25, slot := 0, constantValue := 0 }, { name := "MAX_RADIX", type := .int, accessFlags := 25, slot := 1, constantValue := 0 }, { name := "MIN_VALUE", type := .char, accessFlags := 25, slot := 2, constantValue := 0 }, { name := "MAX_VALUE", type := .char, accessFlags := 25, slot := 3, constantValue := 0 }, { name := "TYPE", type := (.object "java/lang/Class"), accessFlags := 25, slot := 4, constantValue := 0 }, { name := "UNASSIGNED", type := .byte, accessFlags := 25, slot := 5, constantValue := 0 }, { name := "UPPERCASE_LETTER", type := .byte, accessFlags := 25, slot := 6, constantValue := 0 }, { name := "LOWERCASE_LETTER", type := .byte, accessFlags := 25, slot := 7, constantValue := 0 }, { name := "TITLECASE_LETTER", type := .byte, accessFlags := 25, slot := 8, constantValue := 0 }, { name := "MODIFIER_LETTER", type := .byte, accessFlags := 25, slot := 9, constantValue := 0 }, { name := "OTHER_LETTER", type := .byte, accessFlags := 25, slot := 10, constantValue := 0 }, { name := "NON_SPACING_MARK", type := .byte, accessFlags := 25, slot := 11, constantValue := 0 }, { name := "ENCLOSING_MARK", type := .byte, accessFlags := 25, slot := 12, constantValue := 0 }, { name := "COMBINING_SPACING_MARK", type := .byte, accessFlags := 25, slot := 13, constantValue := 0 }, { name := "DECIMAL_DIGIT_NUMBER", type := .byte, accessFlags := 25, slot := 14, constantValue := 0 }, { name := "LETTER_NUMBER", type := .byte, accessFlags := 25, slot := 15, constantValue := 0 }, { name := "OTHER_NUMBER", type := .byte, accessFlags := 25, slot := 16, constantValue := 0 }, { name := "SPACE_SEPARATOR", type := .byte, accessFlags := 25, slot := 17, constantValue := 0 }, { name := "LINE_SEPARATOR", type := .byte, accessFlags := 25, slot := 18, constantValue := 0 }, { name := "PARAGRAPH_SEPARATOR", type := .byte, accessFlags := 25, slot := 19, constantValue := 0 }, { name := "CONTROL", type := .byte, accessFlags := 25, slot := 20, constantValue := 0 }, { name := "FORMAT", type := .byte, accessFlags := 25, slot := 21, constantValue := 0 }, { name := "PRIVATE_USE", type := .byte, accessFlags := 25, slot := 22, constantValue := 0 }, { name := "SURROGATE", type := .byte, accessFlags := 25, slot := 23, constantValue := 0 }, { name := "DASH_PUNCTUATION", type := .byte, accessFlags := 25, slot := 24, constantValue := 0 }, { name := "START_PUNCTUATION", type := .byte, accessFlags := 25, slot := 25, constantValue := 0 }, { name := "END_PUNCTUATION", type := .byte, accessFlags := 25, slot := 26, constantValue := 0 }, { name := "CONNECTOR_PUNCTUATION", type := .byte, accessFlags := 25, slot := 27, constantValue := 0 }, { name := "OTHER_PUNCTUATION", type := .byte, accessFlags := 25, slot := 28, constantValue := 0 }, { name := "MATH_SYMBOL", type := .byte, accessFlags := 25, slot := 29, constantValue := 0 }, { name := "CURRENCY_SYMBOL", type := .byte, accessFlags := 25, slot := 30, constantValue := 0 }, { name := "MODIFIER_SYMBOL", type := .byte, accessFlags := 25, slot := 31, constantValue := 0 }, { name := "OTHER_SYMBOL", type := .byte, accessFlags := 25, slot := 32, constantValue := 0 }, { name := "INITIAL_QUOTE_PUNCTUATION", type := .byte, accessFlags := 25, slot := 33, constantValue := 0 }, { name := "FINAL_QUOTE_PUNCTUATION", type := .byte, accessFlags := 25, slot := 34, constantValue := 0 }, { name := "ERROR", type := .int, accessFlags := 24, slot := 35, constantValue := 0 }, { name := "DIRECTIONALITY_UNDEFINED", type := .byte, accessFlags := 25, slot := 36, constantValue := 0 }, { name := "DIRECTIONALITY_LEFT_TO_RIGHT", type := .byte, accessFlags := 25, slot := 37, constantValue := 0 }, { name := "DIRECTIONALITY_RIGHT_TO_LEFT", type := .byte, accessFlags := 25, slot := 38, constantValue := 0 }, { name := "DIRECTIONALITY_RIGHT_TO_LEFT_ARABIC", type := .byte, accessFlags := 25, slot := 39, constantValue := 0 }, { name := "DIRECTIONALITY_EUROPEAN_NUMBER", type := .byte, accessFlags := 25, slot := 40, constantValue := 0 }, { name := "DIRECTIONALITY_EUROPEAN_NUMBER_SEPARATOR", type := .byte, accessFlags := 25, slot := 41, constantValue := 0 }, { name := "DIRECTIONALITY_EUROPEAN_NUMBER_TERMINATOR", type := .byte, accessFlags := 25, slot := 42, constantValue := 0 }, { name := "DIRECTIONALITY_ARABIC_NUMBER", type := .byte, accessFlags := 25, slot := 43, constantValue := 0 }, { name := "DIRECTIONALITY_COMMON_NUMBER_SEPARATOR", type := .byte, accessFlags := 25, slot := 44, constantValue := 0 }, { name := "DIRECTIONALITY_NONSPACING_MARK", type := .byte, accessFlags := 25, slot := 45, constantValue := 0 }, { name := "DIRECTIONALITY_BOUNDARY_NEUTRAL", type := .byte, accessFlags := 25, slot := 46, constantValue := 0 }, { name := "DIRECTIONALITY_PARAGRAPH_SEPARATOR", type := .byte, accessFlags := 25, slot := 47, constantValue := 0 }, { name := "DIRECTIONALITY_SEGMENT_SEPARATOR", type := .byte, accessFlags := 25, slot := 48, constantValue := 0 }, { name := "DIRECTIONALITY_WHITESPACE", type := .byte, accessFlags := 25, slot := 49, constantValue := 0 }, { name := "DIRECTIONALITY_OTHER_NEUTRALS", type := .byte, accessFlags := 25, slot := 50, constantValue := 0 }, { name := "DIRECTIONALITY_LEFT_TO_RIGHT_EMBEDDING", type := .byte, accessFlags := 25, slot := 51, constantValue := 0 }, { name := "DIRECTIONALITY_LEFT_TO_RIGHT_OVERRIDE", type := .byte, accessFlags := 25, slot := 52, constantValue := 0 }, { name := "DIRECTIONALITY_RIGHT_TO_LEFT_EMBEDDING", type := .byte, accessFlags := 25, slot := 53, constantValue := 0 }, { name := "DIRECTIONALITY_RIGHT_TO_LEFT_OVERRIDE", type := .byte, accessFlags := 25, slot := 54, constantValue := 0 }, { name := "DIRECTIONALITY_POP_DIRECTIONAL_FORMAT", type := .byte, accessFlags := 25, slot := 55, constantValue := 0 }, { name := "DIRECTIONALITY_LEFT_TO_RIGHT_ISOLATE", type := .byte, accessFlags := 25, slot := 56, constantValue := 0 }, { name := "DIRECTIONALITY_RIGHT_TO_LEFT_ISOLATE", type := .byte, accessFlags := 25, slot := 57, constantValue := 0 }, { name := "DIRECTIONALITY_FIRST_STRONG_ISOLATE", type := .byte, accessFlags := 25, slot := 58, constantValue := 0 }, { name := "DIRECTIONALITY_POP_DIRECTIONAL_ISOLATE", type := .byte, accessFlags := 25, slot := 59, constantValue := 0 }, { name := "MIN_HIGH_SURROGATE", type := .char, accessFlags := 25, slot := 60, constantValue := 0 }, { name := "MAX_HIGH_SURROGATE", type := .char, accessFlags := 25, slot := 61, constantValue := 0 }, { name := "MIN_LOW_SURROGATE", type := .char, accessFlags := 25, slot := 62, constantValue := 0 }, { name := "MAX_LOW_SURROGATE", type := .char, accessFlags := 25, slot := 63, constantValue := 0 }, { name := "MIN_SURROGATE", type := .char, accessFlags := 25, slot := 64, constantValue := 0 }, { name := "MAX_SURROGATE", type := .char, accessFlags := 25, slot := 65, constantValue := 0 }, { name := "MIN_SUPPLEMENTARY_CODE_POINT", type := .int, accessFlags := 25, slot := 66, constantValue := 0 }, { name := "MIN_CODE_POINT", type := .int, accessFlags := 25, slot := 67, constantValue := 0 }, { name := "MAX_CODE_POINT", type := .int, accessFlags := 25, slot := 68, constantValue := 0 }, { name := "value", type := .char, accessFlags := 18, slot := 0, constantValue := 0 }, { name := "serialVersionUID", type := .long, accessFlags := 26, slot := 69, constantValue := 0 }, { name := "SIZE", type := .int, accessFlags := 25, slot := 70, constantValue := 0 }, { name := "BYTES", type := .int, accessFlags := 25, slot := 71, constantValue := 0 }, { name := "$assertionsDisabled", type := .boolean, accessFlags := 4120, slot := 72, constantValue := 0 }]
  methods := #[k19m0, k19m1]
  instanceTypes := #[.char]
  staticTypes := #[.int, .int, .char, .char, (.object "java/lang/Class"), .byte, .byte, .byte, .byte, .byte, .byte, .byte, .byte, .byte, .byte, .byte, .byte, .byte, .byte, .byte, .byte, .byte, .byte, .byte, .byte, .byte, .byte, .byte, .byte, .byte, .byte, .byte, .byte, .byte, .byte, .int, .byte, .byte, .byte, .byte, .byte, .byte, .byte, .byte, .byte, .byte, .byte, .byte, .byte, .byte, .byte, .byte, .byte, .byte, .byte, .byte, .byte, .byte, .byte, .byte, .char, .char, .char, .char, .char, .char, .int, .int, .int, .long, .int, .int, .boolean]
  resolved := Array.replicate 604 none
  statics := none }

def pool20 : Array CpInfo := pool [(2, .class_ 4), (1, u "java/lang/Object"), (0, u "<init>"), (0, u "()V"), (7, .class_ 16), (1, u "java/util/Arrays"), (57, .class_ 76), (1, u "java/util/Arrays$NaturalOrder"), (36, .class_ 115), (1, u "java/util/Arrays$LegacyMergeSort"), (1, u "Z"), (21, u "copyOfRange"), (10, .methodref 151 152), (0, .class_ 153), (0, .nameAndType 154 155), (0, u "java/lang/System"), (0, u "arraycopy"), (0, u "(Ljava/lang/Object;ILjava/lang/Object;II)V"), (148, .methodref 305 306), (0, .class_ 307), (0, .nameAndType 308 309), (0, u "java/lang/Math"), (0, u "min"), (0, u "(II)I"), (29, .methodref 14 340), (0, .nameAndType 341 342), (0, u "copyOfRangeByte"), (0, u "([BII)[B"), (0, .methodref 14 344), (0, .nameAndType 345 346), (0, u "checkLength"), (0, u "(II)V"), (28, .class_ 376), (0, u "java/util/Arrays$ArrayList"), (68, u "$assertionsDisabled"), (269, u "MIN_ARRAY_SORT_GRAN"), (0, u "I"), (2, u "INSERTIONSORT_THRESHOLD"), (255, .class_ 976), (0, u "java/util/Arrays$ArrayItr")] 52

def k20m0 : Method := { name := "<init>", desc := "()V", sig := { parameters := [], returnType := none }, accessFlags := 2, code := none }
def k20c1 : Code := { maxStack := 4, maxLocals := 2, code := jdk_65_method_131_code, exceptionTable := #[], attributes := #[] }
def k20m1 : Method := { name := "checkLength", desc := "(II)V", sig := { parameters := [.int, .int], returnType := none }, accessFlags := 10, code := some k20c1 }
def k20c2 : Code := { maxStack := 3, maxLocals := 3, code := jdk_65_method_132_code, exceptionTable := #[], attributes := #[] }
def k20m2 : Method := { name := "copyOfRange", desc := "([BII)[B", sig := { parameters := [(.array .byte), .int, .int], returnType := some (.array .byte) }, accessFlags := 9, code := some k20c2 }
def k20c3 : Code := { maxStack := 6, maxLocals := 5, code := jdk_65_method_133_code, exceptionTable := #[], attributes := #[] }
def k20m3 : Method := { name := "copyOfRangeByte", desc := "([BII)[B", sig := { parameters := [(.array .byte), .int, .int], returnType := some (.array .byte) }, accessFlags := 10, code := some k20c3 }
/-- java/util/Arrays -/
def k20 : Class := { plain "java/util/Arrays" (some 0) with
  accessFlags := 49
  interfaces := #[]
  cf := some (fileOf pool20 14 #[.nestMembers #[975, 375, 113, 74]] #[{ accessFlags := 2, nameIndex := 5, descriptorIndex := 6, attributes := #[] }, { accessFlags := 10, nameIndex := 345, descriptorIndex := 346, attributes := #[] }, { accessFlags := 9, nameIndex := 139, descriptorIndex := 342, attributes := #[] }, { accessFlags := 10, nameIndex := 341, descriptorIndex := 342, attributes := #[] }] 49 2 #[] #[{ accessFlags := 26, nameIndex := 715, descriptorIndex := 716, attributes := #[] }, { accessFlags := 26, nameIndex := 719, descriptorIndex := 716, attributes := #[] }, { accessFlags := 4120, nameIndex := 445, descriptorIndex := 117, attributes := #[] }])
  fields := #[{ name := "MIN_ARRAY_SORT_GRAN", type := .int, accessFlags := 26, slot := 0, constantValue := 0 }, { name := "INSERTIONSORT_THRESHOLD", type := .int, accessFlags := 26, slot := 1, constantValue := 0 }, { name := "$assertionsDisabled", type := .boolean, accessFlags := 4120, slot := 2, constantValue := 0 }]
  methods := #[k20m0, k20m1, k20m2, k20m3]
  instanceTypes := #[]
  staticTypes := #[.int, .int, .boolean]
  resolved := Array.replicate 1029 none
  statics := none }

def pool21 : Array CpInfo := pool [(2, .class_ 4), (1, u "java/lang/Object"), (0, u "<init>"), (0, u "()V"), (1, .class_ 10), (1, u "java/lang/System"), (0, u "allowSecurityManager"), (0, u "I"), (16, u "cons"), (0, u "Ljava/io/Console;"), (77, .class_ 110), (1, u "java/lang/System$CallersHolder"), (43, u "initialErrStream"), (0, u "Ljava/io/PrintStream;"), (19, u "security"), (0, u "Ljava/lang/SecurityManager;"), (31, .class_ 209), (0, u "java/lang/System$1"), (7, u "props"), (0, u "Ljava/util/Properties;"), (2, u "lineSeparator"), (0, u "Ljava/lang/String;"), (96, .class_ 321), (1, u "java/lang/System$LoggerFinder"), (5, .class_ 328), (0, u "java/lang/System$Logger"), (67, u "err"), (2, u "out"), (91, u "notSupportedJnuEncoding"), (15, u "in"), (17, u "initialIn"), (0, u "Ljava/io/InputStream;"), (35, u "bootLayer"), (0, u "Ljava/lang/ModuleLayer;"), (99, .class_ 664), (0, u "java/lang/System$2"), (9, u "NEVER"), (2, u "MAYBE"), (49, u "arraycopy"), (0, u "(Ljava/lang/Object;ILjava/lang/Object;II)V"), (72, .class_ 802), (0, u "java/lang/System$Logger$Level")] 31

def k21m0 : Method := { name := "<init>", desc := "()V", sig := { parameters := [], returnType := none }, accessFlags := 2, code := none }
def k21m1 : Method := { name := "arraycopy", desc := "(Ljava/lang/Object;ILjava/lang/Object;II)V", sig := { parameters := [(.object "java/lang/Object"), .int, (.object "java/lang/Object"), .int, .int], returnType := none }, accessFlags := 265, code := none }
/-- java/lang/System -/
def k21 : Class := { plain "java/lang/System" (some 0) with
  accessFlags := 49
  interfaces := #[]
  cf := some (fileOf pool21 8 #[.nestMembers #[319, 327, 801, 108, 663, 208]] #[{ accessFlags := 2, nameIndex := 5, descriptorIndex := 6, attributes := #[] }, { accessFlags := 265, nameIndex := 727, descriptorIndex := 728, attributes := #[] }] 49 2 #[] #[{ accessFlags := 25, nameIndex := 507, descriptorIndex := 526, attributes := #[] }, { accessFlags := 25, nameIndex := 399, descriptorIndex := 155, attributes := #[] }, { accessFlags := 25, nameIndex := 396, descriptorIndex := 155, attributes := #[] }, { accessFlags := 10, nameIndex := 525, descriptorIndex := 526, attributes := #[] }, { accessFlags := 26, nameIndex := 674, descriptorIndex := 12, attributes := #[] }, { accessFlags := 26, nameIndex := 677, descriptorIndex := 12, attributes := #[] }, { accessFlags := 10, nameIndex := 11, descriptorIndex := 12, attributes := #[] }, { accessFlags := 74, nameIndex := 175, descriptorIndex := 176, attributes := #[] }, { accessFlags := 10, nameIndex := 491, descriptorIndex := 222, attributes := #[] }, { accessFlags := 74, nameIndex := 29, descriptorIndex := 30, attributes := #[] }, { accessFlags := 74, nameIndex := 154, descriptorIndex := 155, attributes := #[] }, { accessFlags := 10, nameIndex := 217, descriptorIndex := 218, attributes := #[] }, { accessFlags := 10, nameIndex := 221, descriptorIndex := 222, attributes := #[] }, { accessFlags := 8, nameIndex := 562, descriptorIndex := 563, attributes := #[] }])
  fields := #[{ name := "in", type := (.object "java/io/InputStream"), accessFlags := 25, slot := 0, constantValue := 0 }, { name := "out", type := (.object "java/io/PrintStream"), accessFlags := 25, slot := 1, constantValue := 0 }, { name := "err", type := (.object "java/io/PrintStream"), accessFlags := 25, slot := 2, constantValue := 0 }, { name := "initialIn", type := (.object "java/io/InputStream"), accessFlags := 10, slot := 3, constantValue := 0 }, { name := "NEVER", type := .int, accessFlags := 26, slot := 4, constantValue := 0 }, { name := "MAYBE", type := .int, accessFlags := 26, slot := 5, constantValue := 0 }, { name := "allowSecurityManager", type := .int, accessFlags := 10, slot := 6, constantValue := 0 }, { name := "security", type := (.object "java/lang/SecurityManager"), accessFlags := 74, slot := 7, constantValue := 0 }, { name := "notSupportedJnuEncoding", type := (.object "java/lang/String"), accessFlags := 10, slot := 8, constantValue := 0 }, { name := "cons", type := (.object "java/io/Console"), accessFlags := 74, slot := 9, constantValue := 0 }, { name := "initialErrStream", type := (.object "java/io/PrintStream"), accessFlags := 74, slot := 10, constantValue := 0 }, { name := "props", type := (.object "java/util/Properties"), accessFlags := 10, slot := 11, constantValue := 0 }, { name := "lineSeparator", type := (.object "java/lang/String"), accessFlags := 10, slot := 12, constantValue := 0 }, { name := "bootLayer", type := (.object "java/lang/ModuleLayer"), accessFlags := 8, slot := 13, constantValue := 0 }]
  methods := #[k21m0, k21m1]
  instanceTypes := #[]
  staticTypes := #[(.object "java/io/InputStream"), (.object "java/io/PrintStream"), (.object "java/io/PrintStream"), (.object "java/io/InputStream"), .int, .int, .int, (.object "java/lang/SecurityManager"), (.object "java/lang/String"), (.object "java/io/Console"), (.object "java/io/PrintStream"), (.object "java/util/Properties"), (.object "java/lang/String"), (.object "java/lang/ModuleLayer")]
  resolved := Array.replicate 834 none
  statics := none }

def pool22 : Array CpInfo := pool [(2, .class_ 4), (1, u "java/lang/Object"), (0, u "<init>"), (0, u "()V"), (14, .class_ 23), (1, u "java/nio/charset/StandardCharsets"), (0, u "US_ASCII"), (0, u "Ljava/nio/charset/Charset;"), (7, u "ISO_8859_1"), (7, u "UTF_8"), (5, u "UTF_16BE"), (5, u "UTF_16LE"), (5, u "UTF_16")] 8

def k22m0 : Method := { name := "<init>", desc := "()V", sig := { parameters := [], returnType := none }, accessFlags := 2, code := none }
/-- java/nio/charset/StandardCharsets -/
def k22 : Class := { plain "java/nio/charset/StandardCharsets" (some 0) with
  accessFlags := 49
  interfaces := #[]
  cf := some (fileOf pool22 21 #[] #[{ accessFlags := 2, nameIndex := 5, descriptorIndex := 6, attributes := #[] }] 49 2 #[] #[{ accessFlags := 25, nameIndex := 24, descriptorIndex := 25, attributes := #[] }, { accessFlags := 25, nameIndex := 33, descriptorIndex := 25, attributes := #[] }, { accessFlags := 25, nameIndex := 41, descriptorIndex := 25, attributes := #[] }, { accessFlags := 25, nameIndex := 47, descriptorIndex := 25, attributes := #[] }, { accessFlags := 25, nameIndex := 53, descriptorIndex := 25, attributes := #[] }, { accessFlags := 25, nameIndex := 59, descriptorIndex := 25, attributes := #[] }])
  fields := #[{ name := "US_ASCII", type := (.object "java/nio/charset/Charset"), accessFlags := 25, slot := 0, constantValue := 0 }, { name := "ISO_8859_1", type := (.object "java/nio/charset/Charset"), accessFlags := 25, slot := 1, constantValue := 0 }, { name := "UTF_8", type := (.object "java/nio/charset/Charset"), accessFlags := 25, slot := 2, constantValue := 0 }, { name := "UTF_16BE", type := (.object "java/nio/charset/Charset"), accessFlags := 25, slot := 3, constantValue := 0 }, { name := "UTF_16LE", type := (.object "java/nio/charset/Charset"), accessFlags := 25, slot := 4, constantValue := 0 }, { name := "UTF_16", type := (.object "java/nio/charset/Charset"), accessFlags := 25, slot := 5, constantValue := 0 }]
  methods := #[k22m0]
  instanceTypes := #[]
  staticTypes := #[(.object "java/nio/charset/Charset"), (.object "java/nio/charset/Charset"), (.object "java/nio/charset/Charset"), (.object "java/nio/charset/Charset"), (.object "java/nio/charset/Charset"), (.object "java/nio/charset/Charset")]
  resolved := Array.replicate 68 none
  statics := some 2 }

def pool23 : Array CpInfo := pool [(18, .class_ 20), (1, u "java/nio/charset/Charset"), (0, u "cache1"), (0, u "[Ljava/lang/Object;"), (2, u "cache2"), (0, .class_ 27), (0, u "java/lang/Object"), (0, .class_ 29), (0, u "java/nio/charset/Charset$1"), (4, .class_ 36), (1, u "java/nio/charset/Charset$ThreadTrackHolder"), (21, .class_ 59), (0, u "java/nio/charset/Charset$2"), (11, .class_ 73), (1, u "java/nio/charset/Charset$ExtendedProviderHolder"), (22, u "standardProvider"), (0, u "Ljava/nio/charset/spi/CharsetProvider;"), (29, u "name"), (7, .class_ 136), (0, u "java/nio/charset/Charset$3"), (5, u "defaultCharset"), (0, u "Ljava/nio/charset/Charset;"), (14, u "zeroAliases"), (0, u "[Ljava/lang/String;"), (29, u "Ljava/lang/String;"), (2, u "aliases"), (2, u "aliasSet"), (0, u "Ljava/util/Set;"), (82, .class_ 280), (0, u "java/lang/Comparable"), (84, .class_ 366), (0, u "java/nio/charset/Charset$ExtendedProviderHolder$1")] 3

/-- java/nio/charset/Charset -/
def k23 : Class := { plain "java/nio/charset/Charset" (some 0) with
  accessFlags := 1057
  interfaces := #[11]
  cf := some (fileOf pool23 18 #[.nestMembers #[71, 365, 34, 135, 58, 28]] #[] 1057 26 #[279] #[{ accessFlags := 26, nameIndex := 96, descriptorIndex := 97, attributes := #[] }, { accessFlags := 26, nameIndex := 158, descriptorIndex := 159, attributes := #[] }, { accessFlags := 74, nameIndex := 21, descriptorIndex := 22, attributes := #[] }, { accessFlags := 74, nameIndex := 25, descriptorIndex := 22, attributes := #[] }, { accessFlags := 10, nameIndex := 142, descriptorIndex := 143, attributes := #[] }, { accessFlags := 18, nameIndex := 127, descriptorIndex := 189, attributes := #[] }, { accessFlags := 18, nameIndex := 192, descriptorIndex := 159, attributes := #[] }, { accessFlags := 2, nameIndex := 195, descriptorIndex := 196, attributes := #[] }])
  fields := #[{ name := "standardProvider", type := (.object "java/nio/charset/spi/CharsetProvider"), accessFlags := 26, slot := 0, constantValue := 0 }, { name := "zeroAliases", type := (.array (.object "java/lang/String")), accessFlags := 26, slot := 1, constantValue := 0 }, { name := "cache1", type := (.array (.object "java/lang/Object")), accessFlags := 74, slot := 2, constantValue := 0 }, { name := "cache2", type := (.array (.object "java/lang/Object")), accessFlags := 74, slot := 3, constantValue := 0 }, { name := "defaultCharset", type := (.object "java/nio/charset/Charset"), accessFlags := 10, slot := 4, constantValue := 0 }, { name := "name", type := (.object "java/lang/String"), accessFlags := 18, slot := 0, constantValue := 0 }, { name := "aliases", type := (.array (.object "java/lang/String")), accessFlags := 18, slot := 1, constantValue := 0 }, { name := "aliasSet", type := (.object "java/util/Set"), accessFlags := 2, slot := 2, constantValue := 0 }]
  methods := #[]
  instanceTypes := #[(.object "java/lang/String"), (.array (.object "java/lang/String")), (.object "java/util/Set")]
  staticTypes := #[(.object "java/nio/charset/spi/CharsetProvider"), (.array (.object "java/lang/String")), (.array (.object "java/lang/Object")), (.array (.object "java/lang/Object")), (.object "java/nio/charset/Charset")]
  resolved := Array.replicate 370 none
  statics := none }

def pool24 : Array CpInfo := pool [(1, .class_ 2), (0, u "sun/nio/cs/HistoricallyNamedCharset"), (0, .class_ 4), (0, u "java/lang/Object")] 4

/-- sun/nio/cs/HistoricallyNamedCharset -/
def k24 : Class := { plain "sun/nio/cs/HistoricallyNamedCharset" (some 0) with
  accessFlags := 1537
  interfaces := #[]
  cf := some (fileOf pool24 1 #[] #[] 1537 3 #[] #[])
  fields := #[]
  methods := #[]
  instanceTypes := #[]
  staticTypes := #[]
  resolved := Array.replicate 9 none
  statics := none }

def pool25 : Array CpInfo := pool [(2, .class_ 4), (1, u "java/nio/charset/Charset"), (130, .class_ 136), (0, u "sun/nio/cs/Unicode"), (0, .class_ 138), (0, u "sun/nio/cs/HistoricallyNamedCharset")] 15

/-- sun/nio/cs/Unicode -/
def k25 : Class := { plain "sun/nio/cs/Unicode" (some 23) with
  accessFlags := 1056
  interfaces := #[24]
  cf := some (fileOf pool25 135 #[] #[] 1056 2 #[137] #[])
  fields := #[]
  methods := #[]
  instanceTypes := #[(.object "java/lang/String"), (.array (.object "java/lang/String")), (.object "java/util/Set")]
  staticTypes := #[]
  resolved := Array.replicate 154 none
  statics := none }

def pool26 : Array CpInfo := pool [(10, .class_ 12), (1, u "sun/nio/cs/Unicode"), (0, u "<init>"), (3, .class_ 18), (0, u "sun/nio/cs/UTF_8$Decoder"), (3, .class_ 23), (0, u "sun/nio/cs/UTF_8$Encoder"), (15, .class_ 40), (0, u "sun/nio/cs/UTF_8"), (2, u "()V"), (2, u "INSTANCE"), (0, u "Lsun/nio/cs/UTF_8;"), (8, u "JLA"), (0, u "Ljdk/internal/access/JavaLangAccess;")] 26

def k26m0 : Method := { name := "<init>", desc := "()V", sig := { parameters := [], returnType := none }, accessFlags := 1, code := none }
/-- sun/nio/cs/UTF_8 -/
def k26 : Class := { plain "sun/nio/cs/UTF_8" (some 25) with
  accessFlags := 49
  interfaces := #[]
  cf := some (fileOf pool26 39 #[.nestMembers #[22, 17]] #[{ accessFlags := 1, nameIndex := 13, descriptorIndex := 43, attributes := #[] }] 49 10 #[] #[{ accessFlags := 25, nameIndex := 46, descriptorIndex := 47, attributes := #[] }, { accessFlags := 26, nameIndex := 56, descriptorIndex := 57, attributes := #[] }])
  fields := #[{ name := "INSTANCE", type := (.object "sun/nio/cs/UTF_8"), accessFlags := 25, slot := 0, constantValue := 0 }, { name := "JLA", type := (.object "jdk/internal/access/JavaLangAccess"), accessFlags := 26, slot := 1, constantValue := 0 }]
  methods := #[k26m0]
  instanceTypes := #[(.object "java/lang/String"), (.array (.object "java/lang/String")), (.object "java/util/Set")]
  staticTypes := #[(.object "sun/nio/cs/UTF_8"), (.object "jdk/internal/access/JavaLangAccess")]
  resolved := Array.replicate 84 none
  statics := some 3 }

def pool27 : Array CpInfo := pool [(2, .class_ 4), (1, u "java/lang/Object"), (0, u "<init>"), (0, u "()V"), (0, .methodref 8 9), (0, .class_ 10), (0, .nameAndType 11 12), (0, u "java/lang/StringCoding"), (0, u "countPositives"), (0, u "([BII)I"), (11, u "hasNegatives"), (0, u "([BII)Z")] 23

def k27m0 : Method := { name := "<init>", desc := "()V", sig := { parameters := [], returnType := none }, accessFlags := 2, code := none }
def k27c1 : Code := { maxStack := 3, maxLocals := 3, code := jdk_123_method_2_code, exceptionTable := #[], attributes := #[] }
def k27m1 : Method := { name := "hasNegatives", desc := "([BII)Z", sig := { parameters := [(.array .byte), .int, .int], returnType := some .boolean }, accessFlags := 9, code := some k27c1 }
def k27c2 : Code := { maxStack := 2, maxLocals := 5, code := jdk_123_method_3_code, exceptionTable := #[], attributes := #[] }
def k27m2 : Method := { name := "countPositives", desc := "([BII)I", sig := { parameters := [(.array .byte), .int, .int], returnType := some .int }, accessFlags := 9, code := some k27c2 }
/-- java/lang/StringCoding -/
def k27 : Class := { plain "java/lang/StringCoding" (some 0) with
  accessFlags := 32
  interfaces := #[]
  cf := some (fileOf pool27 8 #[] #[{ accessFlags := 2, nameIndex := 5, descriptorIndex := 6, attributes := #[] }, { accessFlags := 9, nameIndex := 24, descriptorIndex := 25, attributes := #[] }, { accessFlags := 9, nameIndex := 11, descriptorIndex := 12, attributes := #[] }] 32 2 #[] #[])
  fields := #[]
  methods := #[k27m0, k27m1, k27m2]
  instanceTypes := #[]
  staticTypes := #[]
  resolved := Array.replicate 49 none
  statics := none }

def pool28 : Array CpInfo := pool [(1, .class_ 2), (0, u "java/lang/Cloneable"), (0, .class_ 4), (0, u "java/lang/Object")] 2

/-- java/lang/Cloneable -/
def k28 : Class := { plain "java/lang/Cloneable" (some 0) with
  accessFlags := 1537
  interfaces := #[]
  cf := some (fileOf pool28 1 #[] #[] 1537 3 #[] #[])
  fields := #[]
  methods := #[]
  instanceTypes := #[]
  staticTypes := #[]
  resolved := Array.replicate 7 none
  statics := none }

def pool29 : Array CpInfo := pool [(9, u "<init>"), (6, .class_ 18), (1, u "java/lang/Object"), (0, u "()V"), (1, .class_ 23), (1, u "jdk/internal/util/ArraysSupport"), (0, u "LOG2_ARRAY_LONG_INDEX_SCALE"), (0, u "I"), (2, u "U"), (0, u "Ljdk/internal/misc/Unsafe;"), (8, u "BIG_ENDIAN"), (0, u "Z"), (8, u "LOG2_BYTE_BIT_SIZE"), (4, u "LOG2_ARRAY_INT_INDEX_SCALE"), (54, u "JLA"), (0, u "Ljdk/internal/access/JavaLangAccess;"), (11, u "LOG2_ARRAY_BOOLEAN_INDEX_SCALE"), (9, u "LOG2_ARRAY_BYTE_INDEX_SCALE"), (5, u "LOG2_ARRAY_CHAR_INDEX_SCALE"), (5, u "LOG2_ARRAY_SHORT_INDEX_SCALE"), (18, u "LOG2_ARRAY_FLOAT_INDEX_SCALE"), (24, u "LOG2_ARRAY_DOUBLE_INDEX_SCALE"), (89, u "T_BOOLEAN"), (2, u "T_CHAR"), (1, u "T_FLOAT"), (1, u "T_DOUBLE"), (1, u "T_BYTE"), (1, u "T_SHORT"), (1, u "T_INT"), (1, u "T_LONG"), (1, u "SOFT_MAX_ARRAY_LENGTH")] 83

def k29m0 : Method := { name := "<init>", desc := "()V", sig := { parameters := [], returnType := none }, accessFlags := 2, code := none }
/-- jdk/internal/util/ArraysSupport -/
def k29 : Class := { plain "jdk/internal/util/ArraysSupport" (some 0) with
  accessFlags := 33
  interfaces := #[]
  cf := some (fileOf pool29 21 #[] #[{ accessFlags := 2, nameIndex := 9, descriptorIndex := 19, attributes := #[] }] 33 16 #[] #[{ accessFlags := 24, nameIndex := 28, descriptorIndex := 29, attributes := #[] }, { accessFlags := 26, nameIndex := 38, descriptorIndex := 39, attributes := #[] }, { accessFlags := 25, nameIndex := 121, descriptorIndex := 25, attributes := #[] }, { accessFlags := 25, nameIndex := 131, descriptorIndex := 25, attributes := #[] }, { accessFlags := 25, nameIndex := 137, descriptorIndex := 25, attributes := #[] }, { accessFlags := 25, nameIndex := 143, descriptorIndex := 25, attributes := #[] }, { accessFlags := 25, nameIndex := 53, descriptorIndex := 25, attributes := #[] }, { accessFlags := 25, nameIndex := 24, descriptorIndex := 25, attributes := #[] }, { accessFlags := 25, nameIndex := 162, descriptorIndex := 25, attributes := #[] }, { accessFlags := 25, nameIndex := 187, descriptorIndex := 25, attributes := #[] }, { accessFlags := 26, nameIndex := 48, descriptorIndex := 25, attributes := #[] }, { accessFlags := 25, nameIndex := 277, descriptorIndex := 25, attributes := #[] }, { accessFlags := 25, nameIndex := 280, descriptorIndex := 25, attributes := #[] }, { accessFlags := 25, nameIndex := 282, descriptorIndex := 25, attributes := #[] }, { accessFlags := 25, nameIndex := 284, descriptorIndex := 25, attributes := #[] }, { accessFlags := 25, nameIndex := 286, descriptorIndex := 25, attributes := #[] }, { accessFlags := 25, nameIndex := 288, descriptorIndex := 25, attributes := #[] }, { accessFlags := 25, nameIndex := 290, descriptorIndex := 25, attributes := #[] }, { accessFlags := 25, nameIndex := 292, descriptorIndex := 25, attributes := #[] }, { accessFlags := 26, nameIndex := 108, descriptorIndex := 109, attributes := #[] }, { accessFlags := 25, nameIndex := 294, descriptorIndex := 25, attributes := #[] }])
  fields := #[{ name := "U", type := (.object "jdk/internal/misc/Unsafe"), accessFlags := 24, slot := 0, constantValue := 0 }, { name := "BIG_ENDIAN", type := .boolean, accessFlags := 26, slot := 1, constantValue := 0 }, { name := "LOG2_ARRAY_BOOLEAN_INDEX_SCALE", type := .int, accessFlags := 25, slot := 2, constantValue := 0 }, { name := "LOG2_ARRAY_BYTE_INDEX_SCALE", type := .int, accessFlags := 25, slot := 3, constantValue := 0 }, { name := "LOG2_ARRAY_CHAR_INDEX_SCALE", type := .int, accessFlags := 25, slot := 4, constantValue := 0 }, { name := "LOG2_ARRAY_SHORT_INDEX_SCALE", type := .int, accessFlags := 25, slot := 5, constantValue := 0 }, { name := "LOG2_ARRAY_INT_INDEX_SCALE", type := .int, accessFlags := 25, slot := 6, constantValue := 0 }, { name := "LOG2_ARRAY_LONG_INDEX_SCALE", type := .int, accessFlags := 25, slot := 7, constantValue := 0 }, { name := "LOG2_ARRAY_FLOAT_INDEX_SCALE", type := .int, accessFlags := 25, slot := 8, constantValue := 0 }, { name := "LOG2_ARRAY_DOUBLE_INDEX_SCALE", type := .int, accessFlags := 25, slot := 9, constantValue := 0 }, { name := "LOG2_BYTE_BIT_SIZE", type := .int, accessFlags := 26, slot := 10, constantValue := 0 }, { name := "T_BOOLEAN", type := .int, accessFlags := 25, slot := 11, constantValue := 0 }, { name := "T_CHAR", type := .int, accessFlags := 25, slot := 12, constantValue := 0 }, { name := "T_FLOAT", type := .int, accessFlags := 25, slot := 13, constantValue := 0 }, { name := "T_DOUBLE", type := .int, accessFlags := 25, slot := 14, constantValue := 0 }, { name := "T_BYTE", type := .int, accessFlags := 25, slot := 15, constantValue := 0 }, { name := "T_SHORT", type := .int, accessFlags := 25, slot := 16, constantValue := 0 }, { name := "T_INT", type := .int, accessFlags := 25, slot := 17, constantValue := 0 }, { name := "T_LONG", type := .int, accessFlags := 25, slot := 18, constantValue := 0 }, { name := "JLA", type := (.object "jdk/internal/access/JavaLangAccess"), accessFlags := 26, slot := 19, constantValue := 0 }, { name := "SOFT_MAX_ARRAY_LENGTH", type := .int, accessFlags := 25, slot := 20, constantValue := 0 }]
  methods := #[k29m0]
  instanceTypes := #[]
  staticTypes := #[(.object "jdk/internal/misc/Unsafe"), .boolean, .int, .int, .int, .int, .int, .int, .int, .int, .int, .int, .int, .int, .int, .int, .int, .int, .int, (.object "jdk/internal/access/JavaLangAccess"), .int]
  resolved := Array.replicate 378 none
  statics := none }

/-- the primitive byte -/
def k30 : Class := { plain "byte" none with kind := .primitive 'B', accessFlags := 0x411 }
/-- [B -/
def k31 : Class := { plain "[B" (some 0) with kind := .array 30 .byte, interfaces := #[28, 10], accessFlags := 1041 }

/-- the primitive char -/
def k32 : Class := { plain "char" none with kind := .primitive 'C', accessFlags := 0x411 }
/-- [C -/
def k33 : Class := { plain "[C" (some 0) with kind := .array 32 .char, interfaces := #[28, 10], accessFlags := 1041 }

/-- the primitive int -/
def k34 : Class := { plain "int" none with kind := .primitive 'I', accessFlags := 0x411 }
/-- [I -/
def k35 : Class := { plain "[I" (some 0) with kind := .array 34 .int, interfaces := #[28, 10], accessFlags := 1041 }

def heap : Heap := #[{ cls := 15, slots := #[.long 0, .int 1, .null, .int 0, .null, .int 0, .int 0], vm := .statics 15 },
  { cls := 17, slots := #[.null, .null, .null], vm := .statics 17 },
  { cls := 22, slots := #[.null, .null, .ref 4, .null, .null, .null], vm := .statics 22 },
  { cls := 26, slots := #[.ref 4, .null], vm := .statics 26 },
  { cls := 26, slots := #[.null, .null, .null], vm := .none }]
def classes : Array Class := #[k0, k1, k2, k3, k4, k5, k6, k7, k8, k9, k10, k11, k12, k13, k14, k15, k16, k17, k18, k19, k20, k21, k22, k23, k24, k25, k26, k27, k28, k29, k30, k31, k32, k33, k34, k35]
def interned : List (Array UInt16 × Addr) := []
def slotsUsed : Nat := 21
def theMethod : MethodId := ⟨1, 3⟩
def args0 : Array Value := #[.int 5, .int 7, .int 1, .int 2]
def aboutOver (below : List Frame) : State where
  vm := { classes := classes, interned := interned.toArray }
  heap := heap
  slotsUsed := slotsUsed
  threads := #[{ frames := .invoking theMethod args0 :: below }]
def below0 : List Frame := [.native { method := ⟨0, 0⟩, args := #[] }]
def about1 : State := aboutOver below0
def p0 : Program := .bare "" "" ""
def e0 : Env := launch0.env 0 0 0
theorem w_frames : about1.frames = Frame.invoking theMethod args0 :: below0 := rfl
set_option maxRecDepth 65536 in
theorem w_args : argsFit about1.vm theMethod args0 = true := by decide +kernel
set_option maxRecDepth 65536 in
theorem w_heap : heapFits about1 = true := by decide +kernel
set_option maxRecDepth 65536 in
theorem w_runnable : about1.curStatus? = some .runnable := by decide +kernel
set_option maxRecDepth 65536 in
theorem w_alone : about1.alone = true := by decide +kernel
set_option maxRecDepth 65536 in
theorem w_named : about1.methodNamed? x = some theMethod := by decide +kernel
set_option maxRecDepth 65536 in
theorem w_hears : about1.hears theMethod below0 = true := by decide +kernel
set_option maxRecDepth 65536 in
theorem w_ripe : about1.ripe theMethod args0 below0 = true := by decide +kernel
theorem w_running : about1.status = .running := rfl
set_option maxRecDepth 65536 in
theorem w_room : about1.hasRoom e0.platform room_1 = true :=
  launch0.hasRoom_least _ room_1 (by decide +kernel) (by decide +kernel) (by decide +kernel) (by decide +kernel) (by decide +kernel) (by decide +kernel)
theorem allAtoms_all (ts : List Jvm.Cond) (a : Array Jvm.Value) (st : Jvm.State) : (allAtoms ts).before a st = ts.all (fun c => c.before a st) := by
  induction ts with
  | nil => rfl
  | cons c t ih =>
    show (Jvm.Cond.and c (allAtoms t)).before a st = _
    rw [Jvm.Cond.before_and, ih, List.all_cons]
def words1 : List Jvm.Cond := Jvm.Cond.code x code maxLocals ret :: tables_1
/-- a 'code' word, met by the world's own term for the bytes: nothing is compared byte by byte -/
theorem code_word {y : MethodName} {bytes : ByteArray} {mx : Nat} {rt : Option FieldType} {a : Array Value} {s : State} {m : MethodId} {meth : Method} {c : Code} (h1 : s.methodNamed? y = some m) (h2 : s.vm.method? m = some meth) (h3 : meth.code = some c) (h4 : c.code = bytes)
    (h5 : (c.maxLocals == mx && c.exceptionTable.isEmpty && decide (c.maxStack ≤ mostOperands) && decide (meth.sig.returnType = rt) && !meth.locks && decide (parseMethodDescriptor y.desc = some meth.sig)) = true) : (Jvm.Cond.code y bytes mx rt).before a s = true := by
  simp only [Bool.and_eq_true, beq_iff_eq, Bool.not_eq_true', decide_eq_true_eq] at h5
  obtain ⟨⟨⟨⟨⟨g1, g2⟩, g3⟩, g4⟩, g5⟩, g6⟩ := h5
  simp [Cond.before, Cond.holds, Cond.value, h1, h2, h3, h4, g1, g2, g3, g4, g5, g6]
def isCode : Jvm.Cond → Bool
  | .code _ _ _ _ => true
  | _ => false
theorem all_split {L : List Jvm.Cond} {P : Jvm.Cond → Bool} (h1 : L.all (fun c => isCode c || P c) = true) (h2 : ∀ c ∈ L.filter isCode, P c = true) : L.all P = true := by
  refine List.all_eq_true.mpr fun c hc => ?_
  have h := List.all_eq_true.mp h1 c hc
  rcases Bool.eq_false_or_eq_true (isCode c) with hi | hi
  · exact h2 c (List.mem_filter.mpr ⟨hc, hi⟩)
  · simpa [hi] using h
set_option maxRecDepth 65536 in
theorem w_c0 : (Jvm.Cond.code x code maxLocals ret).before args0 about1 = true := code_word (m := ⟨1, 3⟩) (meth := k1m3) (c := k1c3) (by decide +kernel) rfl rfl rfl (by decide +kernel)
set_option maxRecDepth 65536 in
theorem w_c1 : (Jvm.Cond.code ({ cls := "com/example/medeweten/medeweten/core/XmlTextWritePinLaw", name := "drawn", desc := "(I)C" } : Jvm.MethodName) method_2_code (1 : Nat) (Option.some Jvm.ClassFile.FieldType.char)).before args0 about1 = true := code_word (m := ⟨1, 1⟩) (meth := k1m1) (c := k1c1) (by decide +kernel) rfl rfl rfl (by decide +kernel)
set_option maxRecDepth 65536 in
theorem w_c2 : (Jvm.Cond.code ({ cls := "com/example/medeweten/medeweten/core/XmlText", name := "<init>", desc := "()V" } : Jvm.MethodName) prog_46_method_1_code (1 : Nat) (Option.none : Option Jvm.ClassFile.FieldType)).before args0 about1 = true := code_word (m := ⟨7, 0⟩) (meth := k7m0) (c := k7c0) (by decide +kernel) rfl rfl rfl (by decide +kernel)
set_option maxRecDepth 65536 in
theorem w_c3 : (Jvm.Cond.code ({ cls := "java/io/Writer", name := "<init>", desc := "()V" } : Jvm.MethodName) jdk_2052_method_2_code (1 : Nat) (Option.none : Option Jvm.ClassFile.FieldType)).before args0 about1 = true := code_word (m := ⟨6, 0⟩) (meth := k6m0) (c := k6c0) (by decide +kernel) rfl rfl rfl (by decide +kernel)
set_option maxRecDepth 65536 in
theorem w_c4 : (Jvm.Cond.code ({ cls := "java/lang/Object", name := "<init>", desc := "()V" } : Jvm.MethodName) object_method_1_code (1 : Nat) (Option.none : Option Jvm.ClassFile.FieldType)).before args0 about1 = true := code_word (m := ⟨0, 0⟩) (meth := k0m0) (c := k0c0) (by decide +kernel) rfl rfl rfl (by decide +kernel)
set_option maxRecDepth 65536 in
theorem w_c5 : (Jvm.Cond.code ({ cls := "java/lang/StringBuilder", name := "<init>", desc := "(I)V" } : Jvm.MethodName) jdk_67_method_2_code (2 : Nat) (Option.none : Option Jvm.ClassFile.FieldType)).before args0 about1 = true := code_word (m := ⟨12, 1⟩) (meth := k12m1) (c := k12c1) (by decide +kernel) rfl rfl rfl (by decide +kernel)
set_option maxRecDepth 65536 in
theorem w_c6 : (Jvm.Cond.code ({ cls := "java/lang/AbstractStringBuilder", name := "<init>", desc := "(I)V" } : Jvm.MethodName) jdk_68_method_2_code (2 : Nat) (Option.none : Option Jvm.ClassFile.FieldType)).before args0 about1 = true := code_word (m := ⟨9, 1⟩) (meth := k9m1) (c := k9c1) (by decide +kernel) rfl rfl rfl (by decide +kernel)
set_option maxRecDepth 65536 in
theorem w_c7 : (Jvm.Cond.code ({ cls := "com/example/medeweten/medeweten/core/XmlText", name := "write", desc := "(I)V" } : Jvm.MethodName) prog_46_method_5_code (2 : Nat) (Option.none : Option Jvm.ClassFile.FieldType)).before args0 about1 = true := code_word (m := ⟨7, 2⟩) (meth := k7m2) (c := k7c2) (by decide +kernel) rfl rfl rfl (by decide +kernel)
set_option maxRecDepth 65536 in
theorem w_c8 : (Jvm.Cond.code ({ cls := "java/lang/StringBuilder", name := "append", desc := "(C)Ljava/lang/StringBuilder;" } : Jvm.MethodName) jdk_67_method_14_code (2 : Nat) (Option.some (Jvm.ClassFile.FieldType.object "java/lang/StringBuilder"))).before args0 about1 = true := code_word (m := ⟨12, 3⟩) (meth := k12m3) (c := k12c3) (by decide +kernel) rfl rfl rfl (by decide +kernel)
set_option maxRecDepth 65536 in
theorem w_c9 : (Jvm.Cond.code ({ cls := "java/lang/AbstractStringBuilder", name := "append", desc := "(C)Ljava/lang/AbstractStringBuilder;" } : Jvm.MethodName) jdk_68_method_31_code (2 : Nat) (Option.some (Jvm.ClassFile.FieldType.object "java/lang/AbstractStringBuilder"))).before args0 about1 = true := code_word (m := ⟨9, 6⟩) (meth := k9m6) (c := k9c6) (by decide +kernel) rfl rfl rfl (by decide +kernel)
set_option maxRecDepth 65536 in
theorem w_c10 : (Jvm.Cond.code ({ cls := "java/lang/AbstractStringBuilder", name := "ensureCapacityInternal", desc := "(I)V" } : Jvm.MethodName) jdk_68_method_9_code (3 : Nat) (Option.none : Option Jvm.ClassFile.FieldType)).before args0 about1 = true := code_word (m := ⟨9, 3⟩) (meth := k9m3) (c := k9c3) (by decide +kernel) rfl rfl rfl (by decide +kernel)
set_option maxRecDepth 65536 in
theorem w_c11 : (Jvm.Cond.code ({ cls := "java/lang/AbstractStringBuilder", name := "isLatin1", desc := "()Z" } : Jvm.MethodName) jdk_68_method_68_code (1 : Nat) (Option.some Jvm.ClassFile.FieldType.boolean)).before args0 about1 = true := code_word (m := ⟨9, 8⟩) (meth := k9m8) (c := k9c8) (by decide +kernel) rfl rfl rfl (by decide +kernel)
set_option maxRecDepth 65536 in
theorem w_c12 : (Jvm.Cond.code ({ cls := "java/lang/StringLatin1", name := "canEncode", desc := "(C)Z" } : Jvm.MethodName) jdk_43_method_3_code (1 : Nat) (Option.some Jvm.ClassFile.FieldType.boolean)).before args0 about1 = true := code_word (m := ⟨16, 1⟩) (meth := k16m1) (c := k16c1) (by decide +kernel) rfl rfl rfl (by decide +kernel)
set_option maxRecDepth 65536 in
theorem w_c13 : (Jvm.Cond.code ({ cls := "com/example/medeweten/medeweten/core/XmlText", name := "write", desc := "([CII)V" } : Jvm.MethodName) prog_46_method_3_code (4 : Nat) (Option.none : Option Jvm.ClassFile.FieldType)).before args0 about1 = true := code_word (m := ⟨7, 1⟩) (meth := k7m1) (c := k7c1) (by decide +kernel) rfl rfl rfl (by decide +kernel)
set_option maxRecDepth 65536 in
theorem w_c14 : (Jvm.Cond.code ({ cls := "java/lang/StringBuilder", name := "append", desc := "([CII)Ljava/lang/StringBuilder;" } : Jvm.MethodName) jdk_67_method_12_code (4 : Nat) (Option.some (Jvm.ClassFile.FieldType.object "java/lang/StringBuilder"))).before args0 about1 = true := code_word (m := ⟨12, 2⟩) (meth := k12m2) (c := k12c2) (by decide +kernel) rfl rfl rfl (by decide +kernel)
set_option maxRecDepth 65536 in
theorem w_c15 : (Jvm.Cond.code ({ cls := "java/lang/AbstractStringBuilder", name := "append", desc := "([CII)Ljava/lang/AbstractStringBuilder;" } : Jvm.MethodName) jdk_68_method_29_code (5 : Nat) (Option.some (Jvm.ClassFile.FieldType.object "java/lang/AbstractStringBuilder"))).before args0 about1 = true := code_word (m := ⟨9, 5⟩) (meth := k9m5) (c := k9c5) (by decide +kernel) rfl rfl rfl (by decide +kernel)
set_option maxRecDepth 65536 in
theorem w_c16 : (Jvm.Cond.code ({ cls := "jdk/internal/util/Preconditions", name := "checkFromToIndex", desc := "(IIILjava/util/function/BiFunction;)I" } : Jvm.MethodName) jdk_41_method_12_code (4 : Nat) (Option.some Jvm.ClassFile.FieldType.int)).before args0 about1 = true := code_word (m := ⟨17, 2⟩) (meth := k17m2) (c := k17c2) (by decide +kernel) rfl rfl rfl (by decide +kernel)
set_option maxRecDepth 65536 in
theorem w_c17 : (Jvm.Cond.code ({ cls := "java/lang/AbstractStringBuilder", name := "appendChars", desc := "([CII)V" } : Jvm.MethodName) jdk_68_method_74_code (9 : Nat) (Option.none : Option Jvm.ClassFile.FieldType)).before args0 about1 = true := code_word (m := ⟨9, 9⟩) (meth := k9m9) (c := k9c9) (by decide +kernel) rfl rfl rfl (by decide +kernel)
set_option maxRecDepth 65536 in
theorem w_c18 : (Jvm.Cond.code ({ cls := "com/example/medeweten/medeweten/core/XmlText", name := "toUtf8", desc := "()[B" } : Jvm.MethodName) prog_46_method_8_code (1 : Nat) (Option.some (Jvm.ClassFile.FieldType.array Jvm.ClassFile.FieldType.byte))).before args0 about1 = true := code_word (m := ⟨7, 3⟩) (meth := k7m3) (c := k7c3) (by decide +kernel) rfl rfl rfl (by decide +kernel)
set_option maxRecDepth 65536 in
theorem w_c19 : (Jvm.Cond.code ({ cls := "com/example/medeweten/medeweten/core/XmlText", name := "replaceDisallowed", desc := "(Ljava/lang/StringBuilder;)V" } : Jvm.MethodName) prog_46_method_9_code (4 : Nat) (Option.none : Option Jvm.ClassFile.FieldType)).before args0 about1 = true := code_word (m := ⟨7, 4⟩) (meth := k7m4) (c := k7c4) (by decide +kernel) rfl rfl rfl (by decide +kernel)
set_option maxRecDepth 65536 in
theorem w_c20 : (Jvm.Cond.code ({ cls := "java/lang/StringBuilder", name := "length", desc := "()I" } : Jvm.MethodName) jdk_67_method_93_code (1 : Nat) (Option.some Jvm.ClassFile.FieldType.int)).before args0 about1 = true := code_word (m := ⟨12, 6⟩) (meth := k12m6) (c := k12c6) (by decide +kernel) rfl rfl rfl (by decide +kernel)
set_option maxRecDepth 65536 in
theorem w_c21 : (Jvm.Cond.code ({ cls := "java/lang/AbstractStringBuilder", name := "length", desc := "()I" } : Jvm.MethodName) jdk_68_method_6_code (1 : Nat) (Option.some Jvm.ClassFile.FieldType.int)).before args0 about1 = true := code_word (m := ⟨9, 2⟩) (meth := k9m2) (c := k9c2) (by decide +kernel) rfl rfl rfl (by decide +kernel)
set_option maxRecDepth 65536 in
theorem w_c22 : (Jvm.Cond.code ({ cls := "java/lang/StringBuilder", name := "charAt", desc := "(I)C" } : Jvm.MethodName) jdk_67_method_88_code (2 : Nat) (Option.some Jvm.ClassFile.FieldType.char)).before args0 about1 = true := code_word (m := ⟨12, 5⟩) (meth := k12m5) (c := k12c5) (by decide +kernel) rfl rfl rfl (by decide +kernel)
set_option maxRecDepth 65536 in
theorem w_c23 : (Jvm.Cond.code ({ cls := "java/lang/AbstractStringBuilder", name := "charAt", desc := "(I)C" } : Jvm.MethodName) jdk_68_method_14_code (5 : Nat) (Option.some Jvm.ClassFile.FieldType.char)).before args0 about1 = true := code_word (m := ⟨9, 4⟩) (meth := k9m4) (c := k9c4) (by decide +kernel) rfl rfl rfl (by decide +kernel)
set_option maxRecDepth 65536 in
theorem w_c24 : (Jvm.Cond.code ({ cls := "java/lang/Math", name := "min", desc := "(II)I" } : Jvm.MethodName) jdk_29_method_69_code (2 : Nat) (Option.some Jvm.ClassFile.FieldType.int)).before args0 about1 = true := code_word (m := ⟨18, 1⟩) (meth := k18m1) (c := k18c1) (by decide +kernel) rfl rfl rfl (by decide +kernel)
set_option maxRecDepth 65536 in
theorem w_c25 : (Jvm.Cond.code ({ cls := "java/lang/String", name := "checkIndex", desc := "(II)V" } : Jvm.MethodName) jdk_42_method_155_code (2 : Nat) (Option.none : Option Jvm.ClassFile.FieldType)).before args0 about1 = true := code_word (m := ⟨15, 7⟩) (meth := k15m7) (c := k15c7) (by decide +kernel) rfl rfl rfl (by decide +kernel)
set_option maxRecDepth 65536 in
theorem w_c26 : (Jvm.Cond.code ({ cls := "jdk/internal/util/Preconditions", name := "checkIndex", desc := "(IILjava/util/function/BiFunction;)I" } : Jvm.MethodName) jdk_41_method_11_code (3 : Nat) (Option.some Jvm.ClassFile.FieldType.int)).before args0 about1 = true := code_word (m := ⟨17, 1⟩) (meth := k17m1) (c := k17c1) (by decide +kernel) rfl rfl rfl (by decide +kernel)
set_option maxRecDepth 65536 in
theorem w_c27 : (Jvm.Cond.code ({ cls := "java/lang/Character", name := "isHighSurrogate", desc := "(C)Z" } : Jvm.MethodName) jdk_89_method_14_code (1 : Nat) (Option.some Jvm.ClassFile.FieldType.boolean)).before args0 about1 = true := code_word (m := ⟨19, 0⟩) (meth := k19m0) (c := k19c0) (by decide +kernel) rfl rfl rfl (by decide +kernel)
set_option maxRecDepth 65536 in
theorem w_c28 : (Jvm.Cond.code ({ cls := "com/example/medeweten/medeweten/core/XmlText", name := "isAllowed", desc := "(C)Z" } : Jvm.MethodName) prog_46_method_10_code (2 : Nat) (Option.some Jvm.ClassFile.FieldType.boolean)).before args0 about1 = true := code_word (m := ⟨7, 5⟩) (meth := k7m5) (c := k7c5) (by decide +kernel) rfl rfl rfl (by decide +kernel)
set_option maxRecDepth 65536 in
theorem w_c29 : (Jvm.Cond.code ({ cls := "java/lang/Character", name := "isSurrogate", desc := "(C)Z" } : Jvm.MethodName) jdk_89_method_16_code (1 : Nat) (Option.some Jvm.ClassFile.FieldType.boolean)).before args0 about1 = true := code_word (m := ⟨19, 1⟩) (meth := k19m1) (c := k19c1) (by decide +kernel) rfl rfl rfl (by decide +kernel)
set_option maxRecDepth 65536 in
theorem w_c30 : (Jvm.Cond.code ({ cls := "java/lang/StringBuilder", name := "toString", desc := "()Ljava/lang/String;" } : Jvm.MethodName) jdk_67_method_42_code (1 : Nat) (Option.some (Jvm.ClassFile.FieldType.object "java/lang/String"))).before args0 about1 = true := code_word (m := ⟨12, 4⟩) (meth := k12m4) (c := k12c4) (by decide +kernel) rfl rfl rfl (by decide +kernel)
set_option maxRecDepth 65536 in
theorem w_c31 : (Jvm.Cond.code ({ cls := "java/lang/String", name := "<init>", desc := "(Ljava/lang/StringBuilder;)V" } : Jvm.MethodName) jdk_42_method_53_code (2 : Nat) (Option.none : Option Jvm.ClassFile.FieldType)).before args0 about1 = true := code_word (m := ⟨15, 3⟩) (meth := k15m3) (c := k15c3) (by decide +kernel) rfl rfl rfl (by decide +kernel)
set_option maxRecDepth 65536 in
theorem w_c32 : (Jvm.Cond.code ({ cls := "java/lang/String", name := "<init>", desc := "(Ljava/lang/AbstractStringBuilder;Ljava/lang/Void;)V" } : Jvm.MethodName) jdk_42_method_150_code (5 : Nat) (Option.none : Option Jvm.ClassFile.FieldType)).before args0 about1 = true := code_word (m := ⟨15, 5⟩) (meth := k15m5) (c := k15c5) (by decide +kernel) rfl rfl rfl (by decide +kernel)
set_option maxRecDepth 65536 in
theorem w_c33 : (Jvm.Cond.code ({ cls := "java/lang/AbstractStringBuilder", name := "getValue", desc := "()[B" } : Jvm.MethodName) jdk_68_method_64_code (1 : Nat) (Option.some (Jvm.ClassFile.FieldType.array Jvm.ClassFile.FieldType.byte))).before args0 about1 = true := code_word (m := ⟨9, 7⟩) (meth := k9m7) (c := k9c7) (by decide +kernel) rfl rfl rfl (by decide +kernel)
set_option maxRecDepth 65536 in
theorem w_c34 : (Jvm.Cond.code ({ cls := "java/util/Arrays", name := "copyOfRange", desc := "([BII)[B" } : Jvm.MethodName) jdk_65_method_132_code (3 : Nat) (Option.some (Jvm.ClassFile.FieldType.array Jvm.ClassFile.FieldType.byte))).before args0 about1 = true := code_word (m := ⟨20, 2⟩) (meth := k20m2) (c := k20c2) (by decide +kernel) rfl rfl rfl (by decide +kernel)
set_option maxRecDepth 65536 in
theorem w_c35 : (Jvm.Cond.code ({ cls := "java/util/Arrays", name := "copyOfRangeByte", desc := "([BII)[B" } : Jvm.MethodName) jdk_65_method_133_code (5 : Nat) (Option.some (Jvm.ClassFile.FieldType.array Jvm.ClassFile.FieldType.byte))).before args0 about1 = true := code_word (m := ⟨20, 3⟩) (meth := k20m3) (c := k20c3) (by decide +kernel) rfl rfl rfl (by decide +kernel)
set_option maxRecDepth 65536 in
theorem w_c36 : (Jvm.Cond.code ({ cls := "java/util/Arrays", name := "checkLength", desc := "(II)V" } : Jvm.MethodName) jdk_65_method_131_code (2 : Nat) (Option.none : Option Jvm.ClassFile.FieldType)).before args0 about1 = true := code_word (m := ⟨20, 1⟩) (meth := k20m1) (c := k20c1) (by decide +kernel) rfl rfl rfl (by decide +kernel)
set_option maxRecDepth 65536 in
theorem w_c37 : (Jvm.Cond.code ({ cls := "java/lang/String", name := "getBytes", desc := "(Ljava/nio/charset/Charset;)[B" } : Jvm.MethodName) jdk_42_method_64_code (2 : Nat) (Option.some (Jvm.ClassFile.FieldType.array Jvm.ClassFile.FieldType.byte))).before args0 about1 = true := code_word (m := ⟨15, 4⟩) (meth := k15m4) (c := k15c4) (by decide +kernel) rfl rfl rfl (by decide +kernel)
set_option maxRecDepth 65536 in
theorem w_c38 : (Jvm.Cond.code ({ cls := "java/lang/String", name := "coder", desc := "()B" } : Jvm.MethodName) jdk_42_method_152_code (1 : Nat) (Option.some Jvm.ClassFile.FieldType.byte)).before args0 about1 = true := code_word (m := ⟨15, 6⟩) (meth := k15m6) (c := k15c6) (by decide +kernel) rfl rfl rfl (by decide +kernel)
set_option maxRecDepth 65536 in
theorem w_c39 : (Jvm.Cond.code ({ cls := "java/lang/String", name := "encode", desc := "(Ljava/nio/charset/Charset;B[B)[B" } : Jvm.MethodName) jdk_42_method_18_code (3 : Nat) (Option.some (Jvm.ClassFile.FieldType.array Jvm.ClassFile.FieldType.byte))).before args0 about1 = true := code_word (m := ⟨15, 1⟩) (meth := k15m1) (c := k15c1) (by decide +kernel) rfl rfl rfl (by decide +kernel)
set_option maxRecDepth 65536 in
theorem w_c40 : (Jvm.Cond.code ({ cls := "java/lang/String", name := "encodeUTF8", desc := "(B[BZ)[B" } : Jvm.MethodName) jdk_42_method_46_code (9 : Nat) (Option.some (Jvm.ClassFile.FieldType.array Jvm.ClassFile.FieldType.byte))).before args0 about1 = true := code_word (m := ⟨15, 2⟩) (meth := k15m2) (c := k15c2) (by decide +kernel) rfl rfl rfl (by decide +kernel)
set_option maxRecDepth 65536 in
theorem w_c41 : (Jvm.Cond.code ({ cls := "java/lang/StringCoding", name := "hasNegatives", desc := "([BII)Z" } : Jvm.MethodName) jdk_123_method_2_code (3 : Nat) (Option.some Jvm.ClassFile.FieldType.boolean)).before args0 about1 = true := code_word (m := ⟨27, 1⟩) (meth := k27m1) (c := k27c1) (by decide +kernel) rfl rfl rfl (by decide +kernel)
set_option maxRecDepth 65536 in
theorem w_c42 : (Jvm.Cond.code ({ cls := "java/lang/StringCoding", name := "countPositives", desc := "([BII)I" } : Jvm.MethodName) jdk_123_method_3_code (5 : Nat) (Option.some Jvm.ClassFile.FieldType.int)).before args0 about1 = true := code_word (m := ⟨27, 2⟩) (meth := k27m2) (c := k27c2) (by decide +kernel) rfl rfl rfl (by decide +kernel)
set_option maxRecDepth 65536 in
theorem w_c43 : (Jvm.Cond.code ({ cls := "com/example/medeweten/medeweten/core/XmlTextWritePinLaw", name := "at", desc := "([B[CIII)Z" } : Jvm.MethodName) method_3_code (5 : Nat) (Option.some Jvm.ClassFile.FieldType.boolean)).before args0 about1 = true := code_word (m := ⟨1, 2⟩) (meth := k1m2) (c := k1c2) (by decide +kernel) rfl rfl rfl (by decide +kernel)
def codes1 : List Jvm.Cond := [Jvm.Cond.code x code maxLocals ret, Jvm.Cond.code ({ cls := "com/example/medeweten/medeweten/core/XmlTextWritePinLaw", name := "drawn", desc := "(I)C" } : Jvm.MethodName) method_2_code (1 : Nat) (Option.some Jvm.ClassFile.FieldType.char), Jvm.Cond.code ({ cls := "com/example/medeweten/medeweten/core/XmlText", name := "<init>", desc := "()V" } : Jvm.MethodName) prog_46_method_1_code (1 : Nat) (Option.none : Option Jvm.ClassFile.FieldType), Jvm.Cond.code ({ cls := "java/io/Writer", name := "<init>", desc := "()V" } : Jvm.MethodName) jdk_2052_method_2_code (1 : Nat) (Option.none : Option Jvm.ClassFile.FieldType), Jvm.Cond.code ({ cls := "java/lang/Object", name := "<init>", desc := "()V" } : Jvm.MethodName) object_method_1_code (1 : Nat) (Option.none : Option Jvm.ClassFile.FieldType), Jvm.Cond.code ({ cls := "java/lang/StringBuilder", name := "<init>", desc := "(I)V" } : Jvm.MethodName) jdk_67_method_2_code (2 : Nat) (Option.none : Option Jvm.ClassFile.FieldType), Jvm.Cond.code ({ cls := "java/lang/AbstractStringBuilder", name := "<init>", desc := "(I)V" } : Jvm.MethodName) jdk_68_method_2_code (2 : Nat) (Option.none : Option Jvm.ClassFile.FieldType), Jvm.Cond.code ({ cls := "com/example/medeweten/medeweten/core/XmlText", name := "write", desc := "(I)V" } : Jvm.MethodName) prog_46_method_5_code (2 : Nat) (Option.none : Option Jvm.ClassFile.FieldType), Jvm.Cond.code ({ cls := "java/lang/StringBuilder", name := "append", desc := "(C)Ljava/lang/StringBuilder;" } : Jvm.MethodName) jdk_67_method_14_code (2 : Nat) (Option.some (Jvm.ClassFile.FieldType.object "java/lang/StringBuilder")), Jvm.Cond.code ({ cls := "java/lang/AbstractStringBuilder", name := "append", desc := "(C)Ljava/lang/AbstractStringBuilder;" } : Jvm.MethodName) jdk_68_method_31_code (2 : Nat) (Option.some (Jvm.ClassFile.FieldType.object "java/lang/AbstractStringBuilder")), Jvm.Cond.code ({ cls := "java/lang/AbstractStringBuilder", name := "ensureCapacityInternal", desc := "(I)V" } : Jvm.MethodName) jdk_68_method_9_code (3 : Nat) (Option.none : Option Jvm.ClassFile.FieldType), Jvm.Cond.code ({ cls := "java/lang/AbstractStringBuilder", name := "isLatin1", desc := "()Z" } : Jvm.MethodName) jdk_68_method_68_code (1 : Nat) (Option.some Jvm.ClassFile.FieldType.boolean), Jvm.Cond.code ({ cls := "java/lang/StringLatin1", name := "canEncode", desc := "(C)Z" } : Jvm.MethodName) jdk_43_method_3_code (1 : Nat) (Option.some Jvm.ClassFile.FieldType.boolean), Jvm.Cond.code ({ cls := "com/example/medeweten/medeweten/core/XmlText", name := "write", desc := "([CII)V" } : Jvm.MethodName) prog_46_method_3_code (4 : Nat) (Option.none : Option Jvm.ClassFile.FieldType), Jvm.Cond.code ({ cls := "java/lang/StringBuilder", name := "append", desc := "([CII)Ljava/lang/StringBuilder;" } : Jvm.MethodName) jdk_67_method_12_code (4 : Nat) (Option.some (Jvm.ClassFile.FieldType.object "java/lang/StringBuilder")), Jvm.Cond.code ({ cls := "java/lang/AbstractStringBuilder", name := "append", desc := "([CII)Ljava/lang/AbstractStringBuilder;" } : Jvm.MethodName) jdk_68_method_29_code (5 : Nat) (Option.some (Jvm.ClassFile.FieldType.object "java/lang/AbstractStringBuilder")), Jvm.Cond.code ({ cls := "jdk/internal/util/Preconditions", name := "checkFromToIndex", desc := "(IIILjava/util/function/BiFunction;)I" } : Jvm.MethodName) jdk_41_method_12_code (4 : Nat) (Option.some Jvm.ClassFile.FieldType.int), Jvm.Cond.code ({ cls := "java/lang/AbstractStringBuilder", name := "appendChars", desc := "([CII)V" } : Jvm.MethodName) jdk_68_method_74_code (9 : Nat) (Option.none : Option Jvm.ClassFile.FieldType), Jvm.Cond.code ({ cls := "com/example/medeweten/medeweten/core/XmlText", name := "toUtf8", desc := "()[B" } : Jvm.MethodName) prog_46_method_8_code (1 : Nat) (Option.some (Jvm.ClassFile.FieldType.array Jvm.ClassFile.FieldType.byte)), Jvm.Cond.code ({ cls := "com/example/medeweten/medeweten/core/XmlText", name := "replaceDisallowed", desc := "(Ljava/lang/StringBuilder;)V" } : Jvm.MethodName) prog_46_method_9_code (4 : Nat) (Option.none : Option Jvm.ClassFile.FieldType), Jvm.Cond.code ({ cls := "java/lang/StringBuilder", name := "length", desc := "()I" } : Jvm.MethodName) jdk_67_method_93_code (1 : Nat) (Option.some Jvm.ClassFile.FieldType.int), Jvm.Cond.code ({ cls := "java/lang/AbstractStringBuilder", name := "length", desc := "()I" } : Jvm.MethodName) jdk_68_method_6_code (1 : Nat) (Option.some Jvm.ClassFile.FieldType.int), Jvm.Cond.code ({ cls := "java/lang/StringBuilder", name := "charAt", desc := "(I)C" } : Jvm.MethodName) jdk_67_method_88_code (2 : Nat) (Option.some Jvm.ClassFile.FieldType.char), Jvm.Cond.code ({ cls := "java/lang/AbstractStringBuilder", name := "charAt", desc := "(I)C" } : Jvm.MethodName) jdk_68_method_14_code (5 : Nat) (Option.some Jvm.ClassFile.FieldType.char), Jvm.Cond.code ({ cls := "java/lang/Math", name := "min", desc := "(II)I" } : Jvm.MethodName) jdk_29_method_69_code (2 : Nat) (Option.some Jvm.ClassFile.FieldType.int), Jvm.Cond.code ({ cls := "java/lang/String", name := "checkIndex", desc := "(II)V" } : Jvm.MethodName) jdk_42_method_155_code (2 : Nat) (Option.none : Option Jvm.ClassFile.FieldType), Jvm.Cond.code ({ cls := "jdk/internal/util/Preconditions", name := "checkIndex", desc := "(IILjava/util/function/BiFunction;)I" } : Jvm.MethodName) jdk_41_method_11_code (3 : Nat) (Option.some Jvm.ClassFile.FieldType.int), Jvm.Cond.code ({ cls := "java/lang/Character", name := "isHighSurrogate", desc := "(C)Z" } : Jvm.MethodName) jdk_89_method_14_code (1 : Nat) (Option.some Jvm.ClassFile.FieldType.boolean), Jvm.Cond.code ({ cls := "com/example/medeweten/medeweten/core/XmlText", name := "isAllowed", desc := "(C)Z" } : Jvm.MethodName) prog_46_method_10_code (2 : Nat) (Option.some Jvm.ClassFile.FieldType.boolean), Jvm.Cond.code ({ cls := "java/lang/Character", name := "isSurrogate", desc := "(C)Z" } : Jvm.MethodName) jdk_89_method_16_code (1 : Nat) (Option.some Jvm.ClassFile.FieldType.boolean), Jvm.Cond.code ({ cls := "java/lang/StringBuilder", name := "toString", desc := "()Ljava/lang/String;" } : Jvm.MethodName) jdk_67_method_42_code (1 : Nat) (Option.some (Jvm.ClassFile.FieldType.object "java/lang/String")), Jvm.Cond.code ({ cls := "java/lang/String", name := "<init>", desc := "(Ljava/lang/StringBuilder;)V" } : Jvm.MethodName) jdk_42_method_53_code (2 : Nat) (Option.none : Option Jvm.ClassFile.FieldType), Jvm.Cond.code ({ cls := "java/lang/String", name := "<init>", desc := "(Ljava/lang/AbstractStringBuilder;Ljava/lang/Void;)V" } : Jvm.MethodName) jdk_42_method_150_code (5 : Nat) (Option.none : Option Jvm.ClassFile.FieldType), Jvm.Cond.code ({ cls := "java/lang/AbstractStringBuilder", name := "getValue", desc := "()[B" } : Jvm.MethodName) jdk_68_method_64_code (1 : Nat) (Option.some (Jvm.ClassFile.FieldType.array Jvm.ClassFile.FieldType.byte)), Jvm.Cond.code ({ cls := "java/util/Arrays", name := "copyOfRange", desc := "([BII)[B" } : Jvm.MethodName) jdk_65_method_132_code (3 : Nat) (Option.some (Jvm.ClassFile.FieldType.array Jvm.ClassFile.FieldType.byte)), Jvm.Cond.code ({ cls := "java/util/Arrays", name := "copyOfRangeByte", desc := "([BII)[B" } : Jvm.MethodName) jdk_65_method_133_code (5 : Nat) (Option.some (Jvm.ClassFile.FieldType.array Jvm.ClassFile.FieldType.byte)), Jvm.Cond.code ({ cls := "java/util/Arrays", name := "checkLength", desc := "(II)V" } : Jvm.MethodName) jdk_65_method_131_code (2 : Nat) (Option.none : Option Jvm.ClassFile.FieldType), Jvm.Cond.code ({ cls := "java/lang/String", name := "getBytes", desc := "(Ljava/nio/charset/Charset;)[B" } : Jvm.MethodName) jdk_42_method_64_code (2 : Nat) (Option.some (Jvm.ClassFile.FieldType.array Jvm.ClassFile.FieldType.byte)), Jvm.Cond.code ({ cls := "java/lang/String", name := "coder", desc := "()B" } : Jvm.MethodName) jdk_42_method_152_code (1 : Nat) (Option.some Jvm.ClassFile.FieldType.byte), Jvm.Cond.code ({ cls := "java/lang/String", name := "encode", desc := "(Ljava/nio/charset/Charset;B[B)[B" } : Jvm.MethodName) jdk_42_method_18_code (3 : Nat) (Option.some (Jvm.ClassFile.FieldType.array Jvm.ClassFile.FieldType.byte)), Jvm.Cond.code ({ cls := "java/lang/String", name := "encodeUTF8", desc := "(B[BZ)[B" } : Jvm.MethodName) jdk_42_method_46_code (9 : Nat) (Option.some (Jvm.ClassFile.FieldType.array Jvm.ClassFile.FieldType.byte)), Jvm.Cond.code ({ cls := "java/lang/StringCoding", name := "hasNegatives", desc := "([BII)Z" } : Jvm.MethodName) jdk_123_method_2_code (3 : Nat) (Option.some Jvm.ClassFile.FieldType.boolean), Jvm.Cond.code ({ cls := "java/lang/StringCoding", name := "countPositives", desc := "([BII)I" } : Jvm.MethodName) jdk_123_method_3_code (5 : Nat) (Option.some Jvm.ClassFile.FieldType.int), Jvm.Cond.code ({ cls := "com/example/medeweten/medeweten/core/XmlTextWritePinLaw", name := "at", desc := "([B[CIII)Z" } : Jvm.MethodName) method_3_code (5 : Nat) (Option.some Jvm.ClassFile.FieldType.boolean)]
set_option maxRecDepth 65536 in
theorem codes_eq : words1.filter isCode = codes1 := rfl
theorem w_codes : ∀ c ∈ words1.filter isCode, c.before args0 about1 = true := by
  rw [codes_eq]
  intro c hc
  simp only [codes1, List.mem_cons, List.not_mem_nil, or_false] at hc
  rcases hc with rfl | rfl | rfl | rfl | rfl | rfl | rfl | rfl | rfl | rfl | rfl | rfl | rfl | rfl | rfl | rfl | rfl | rfl | rfl | rfl | rfl | rfl | rfl | rfl | rfl | rfl | rfl | rfl | rfl | rfl | rfl | rfl | rfl | rfl | rfl | rfl | rfl | rfl | rfl | rfl | rfl | rfl | rfl | rfl
  · exact w_c0
  · exact w_c1
  · exact w_c2
  · exact w_c3
  · exact w_c4
  · exact w_c5
  · exact w_c6
  · exact w_c7
  · exact w_c8
  · exact w_c9
  · exact w_c10
  · exact w_c11
  · exact w_c12
  · exact w_c13
  · exact w_c14
  · exact w_c15
  · exact w_c16
  · exact w_c17
  · exact w_c18
  · exact w_c19
  · exact w_c20
  · exact w_c21
  · exact w_c22
  · exact w_c23
  · exact w_c24
  · exact w_c25
  · exact w_c26
  · exact w_c27
  · exact w_c28
  · exact w_c29
  · exact w_c30
  · exact w_c31
  · exact w_c32
  · exact w_c33
  · exact w_c34
  · exact w_c35
  · exact w_c36
  · exact w_c37
  · exact w_c38
  · exact w_c39
  · exact w_c40
  · exact w_c41
  · exact w_c42
  · exact w_c43
set_option maxRecDepth 65536 in
theorem w_t1 : (words1.take 24).all (fun c => isCode c || c.before args0 about1) = true := by decide +kernel
set_option maxRecDepth 65536 in
theorem w_t2 : ((words1.drop 24).take 24).all (fun c => isCode c || c.before args0 about1) = true := by decide +kernel
set_option maxRecDepth 65536 in
theorem w_t3 : (((words1.drop 24).drop 24).take 24).all (fun c => isCode c || c.before args0 about1) = true := by decide +kernel
set_option maxRecDepth 65536 in
theorem w_t4 : ((((words1.drop 24).drop 24).drop 24).take 24).all (fun c => isCode c || c.before args0 about1) = true := by decide +kernel
set_option maxRecDepth 65536 in
theorem w_t5 : (((((words1.drop 24).drop 24).drop 24).drop 24).take 24).all (fun c => isCode c || c.before args0 about1) = true := by decide +kernel
set_option maxRecDepth 65536 in
theorem w_t6 : ((((((words1.drop 24).drop 24).drop 24).drop 24).drop 24).take 24).all (fun c => isCode c || c.before args0 about1) = true := by decide +kernel
set_option maxRecDepth 65536 in
theorem w_t7 : (((((((words1.drop 24).drop 24).drop 24).drop 24).drop 24).drop 24).take 24).all (fun c => isCode c || c.before args0 about1) = true := by decide +kernel
set_option maxRecDepth 65536 in
theorem w_t8 : ((((((((words1.drop 24).drop 24).drop 24).drop 24).drop 24).drop 24).drop 24).take 24).all (fun c => isCode c || c.before args0 about1) = true := by decide +kernel
set_option maxRecDepth 65536 in
theorem w_t9 : (((((((((words1.drop 24).drop 24).drop 24).drop 24).drop 24).drop 24).drop 24).drop 24).take 24).all (fun c => isCode c || c.before args0 about1) = true := by decide +kernel
set_option maxRecDepth 65536 in
theorem w_t10 : (((((((((words1.drop 24).drop 24).drop 24).drop 24).drop 24).drop 24).drop 24).drop 24).drop 24).all (fun c => isCode c || c.before args0 about1) = true := by decide +kernel
theorem w_tables : (allAtoms (Jvm.Cond.code x code maxLocals ret :: tables_1)).before args0 about1 = true := by
  rw [allAtoms_all]
  show words1.all (fun c => c.before args0 about1) = true
  refine all_split ?_ w_codes
  rw [← List.take_append_drop 24 words1, List.all_append, w_t1, ← List.take_append_drop 24 (words1.drop 24), List.all_append, w_t2, ← List.take_append_drop 24 ((words1.drop 24).drop 24), List.all_append, w_t3, ← List.take_append_drop 24 (((words1.drop 24).drop 24).drop 24), List.all_append, w_t4, ← List.take_append_drop 24 ((((words1.drop 24).drop 24).drop 24).drop 24), List.all_append, w_t5, ← List.take_append_drop 24 (((((words1.drop 24).drop 24).drop 24).drop 24).drop 24), List.all_append, w_t6, ← List.take_append_drop 24 ((((((words1.drop 24).drop 24).drop 24).drop 24).drop 24).drop 24), List.all_append, w_t7, ← List.take_append_drop 24 (((((((words1.drop 24).drop 24).drop 24).drop 24).drop 24).drop 24).drop 24), List.all_append, w_t8, ← List.take_append_drop 24 ((((((((words1.drop 24).drop 24).drop 24).drop 24).drop 24).drop 24).drop 24).drop 24), List.all_append, w_t9, w_t10]
  rfl
set_option maxRecDepth 65536 in
theorem w_rest : rest_1_c.before args0 about1 = true := by decide +kernel
set_option maxRecDepth 65536 in
theorem w_case : (Jvm.Cond.and given_1 narrow_1).before args0 about1 = true := by decide +kernel
theorem w_applies : (headSpec (Jvm.Cond.code x code maxLocals ret :: tables_1) room_1).applies x e0.platform about1 = true :=
  (Spec.applies_iff w_frames).mpr ⟨w_running, w_runnable, w_alone, w_named, w_hears, w_ripe, w_room, w_tables⟩
theorem atStart : AtStart classFile x code maxLocals ret World_1 tables_1 room_1 Calls_1 rest_1 Pre_1 launch0 p0 e0 about1 theMethod args0 below0 :=
  ⟨lists_1, trivial, launch0.admits_env _ _ _, launch0.least_env, fairChoices_fair.cas, fairChoices_fair.clock, w_frames, w_args, w_heap, w_applies, trivial, w_rest, w_case⟩
end start1
theorem witness_1 : WitnessClaimed_1 := ⟨start1.p0, start1.e0, start1.about1, start1.theMethod, start1.args0, start1.below0, start1.atStart⟩
end Jvm.Pilot.@@N@@
