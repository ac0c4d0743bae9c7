import JvmDerived
import JvmDerived.Pilot.@@N@@Statement
import JvmDerived.Pilot.@@N@@Code
set_option linter.unusedVariables false
set_option linter.unusedSimpArgs false
namespace Jvm.RoadKit
open Sem ClassFile Op Lib Jvm.Stand Jvm.Free Jvm.LawKit
section New
variable {p : Program} {l : Launch} {e : Env} {R : Room} {s : State} {m : MethodId} {args : Array Value} {below : List Frame} {meth : Method} {c : Code} {T : State} {locs : List Loc} {cells slots : Nat}
theorem retI (X : Stand p l e R s m args below meth c T locs cells slots) (hx : p.tables.exec = Jvm.exec) {pc : Nat} {Ls : Array Slot} {z : Int32} {rest : List Value} (hret : meth.sig.returnType = some .int) (hd : decode c.code pc = .ok (.ireturn, 1)) {fs : List Frame}
    (hl : ∀ (f : JFrame) (acts : List Action), f.method = m → f.locked = none → f.entered = [] → (doReturn e (T.setTop f) acts (some (.int z))).1 = T.setFrames fs) : Steps p.tables e below (T.setTop (mkF m pc Ls (.int z :: rest))) (T.setFrames fs) := by
  have hm' : T.vm.method? m = some meth := X.method'
  have hn : narrow .int (.int z) = .int z := rfl
  show Steps p.tables e below (T.setTop { method := m, pc := pc, locals := Ls, stack := _ :: rest, locked := none }) _
  jvm_step X.here [X.here.top, hx, hd, hm', hret, hn]
  first | (intro acts; rw [hl _ acts rfl rfl rfl]) | rw [hl _ _ rfl rfl rfl]
  exact Steps.refl _
end New
end Jvm.RoadKit
namespace Jvm.RoadKit
open Sem ClassFile Op Lib Jvm.Stand Jvm.Free Jvm.LawKit
section Own
variable {p : Program} {l : Launch} {e : Env} {R : Room} {s : State} {m : MethodId} {args : Array Value} {below : List Frame} {meth : Method} {c : Code} {T T' : State} {locs : List Loc} {cells slots : Nat} {Q : Option Value → Heap → List Loc → Prop} {F : Option Value → State → Prop} {kc ks : Nat} {g g' : JFrame} {Z : State} {a0 : Array Value} {h : Heap}
/-- the body that stands at T with the frame g comes to its end, and leaves what F says -/
def Goes (p : Program) (e : Env) (below : List Frame) (F : Option Value → State → Prop) (T : State) (g : JFrame) : Prop :=
  ∃ s₂ o, Steps p.tables e below (T.setTop g) s₂ ∧ s₂.status = .running ∧ Ended s₂ below o ∧ ∃ v, o = .returned v ∧ F v s₂
def EndQ (s : State) (Q : Option Value → Heap → List Loc → Prop) (kc ks : Nat) (v : Option Value) (t : State) : Prop := ∃ L, Q v t.heap L ∧ FrameEnd s (.returned v) t L kc ks
theorem Goes.give (h : Goes p e below (EndQ s Q kc ks) T g) : ∃ s₂ o, Steps p.tables e below (T.setTop g) s₂ ∧ s₂.status = .running ∧ Ended s₂ below o ∧ ∃ v L, o = .returned v ∧ Q v s₂.heap L ∧ FrameEnd s o s₂ L kc ks := by
  obtain ⟨s2, o, h1, h2, h3, v, rfl, L, h4, h5⟩ := h
  exact ⟨s2, _, h1, h2, h3, v, L, rfl, h4, h5⟩
theorem Goes.step (k : ∀ t, Steps p.tables e below (T'.setTop g') t → Steps p.tables e below (T.setTop g) t) (h : Goes p e below F T' g') : Goes p e below F T g := by
  obtain ⟨s2, o, h1, r⟩ := h
  exact ⟨s2, o, k _ h1, r⟩
theorem Goes.out {v : Option Value} (X : Stand p l e R s m args below meth c T locs cells slots) (hlk : meth.locks = false) (hv : meth.sig.returnType = none → v = none) (hq : Q v T.heap locs) (hc : cells ≤ kc) (hs : slots ≤ ks)
    (k : ∀ fs, (∀ (f : JFrame) (acts : List Action), f.method = m → f.locked = none → f.entered = [] → (doReturn e (T.setTop f) acts v).1 = T.setFrames fs) → Steps p.tables e below (T.setTop g) (T.setFrames fs)) : Goes p e below (EndQ s Q kc ks) T g := by
  obtain ⟨fs, hr, hrun, hended, hW, hsame⟩ := X.leave (v := v) hv hlk
  exact ⟨_, _, k fs hr, hrun, hended, _, rfl, _, hq, ⟨_, rfl⟩, hW, hsame.mono hc hs⟩
theorem Goes.retI (X : Stand p l e R s m args below meth c T locs cells slots) (hx : p.tables.exec = Jvm.exec) (hlk : meth.locks = false) {pc : Nat} {Ls : Array Slot} {z : Int32} {rest : List Value} (hret : meth.sig.returnType = some .int) (hd : decode c.code pc = .ok (.ireturn, 1))
    (hc : cells ≤ kc) (hs : slots ≤ ks) (hq : Q (some (.int z)) T.heap locs) : Goes p e below (EndQ s Q kc ks) T (mkF m pc Ls (.int z :: rest)) :=
  Goes.out X hlk (fun h => by rw [hret] at h; cases h) hq hc hs fun fs hr => RoadKit.retI X hx hret hd hr
theorem Goes.retN (X : Stand p l e R s m args below meth c T locs cells slots) (hx : p.tables.exec = Jvm.exec) (hlk : meth.locks = false) {pc : Nat} {Ls : Array Slot} {z : Int32} {t : FieldType} {rest : List Value} (hret : meth.sig.returnType = some t) (ht : t = .boolean ∨ t = .byte ∨ t = .char ∨ t = .short) (hd : decode c.code pc = .ok (.ireturn, 1))
    (hc : cells ≤ kc) (hs : slots ≤ ks) (hq : Q (some (.int (nar t z))) T.heap locs) : Goes p e below (EndQ s Q kc ks) T (mkF m pc Ls (.int z :: rest)) :=
  Goes.out X hlk (fun h => by rw [hret] at h; cases h) hq hc hs fun fs hr => RoadKit.retN X hx hret ht hd hr
theorem Goes.retA (X : Stand p l e R s m args below meth c T locs cells slots) (hx : p.tables.exec = Jvm.exec) (hlk : meth.locks = false) {pc : Nat} {Ls : Array Slot} {w : Value} {t : FieldType} {rest : List Value} (hret : meth.sig.returnType = some t) (ht : t.isReference = true) (hw : w.isRef = true) (hd : decode c.code pc = .ok (.areturn, 1))
    (hc : cells ≤ kc) (hs : slots ≤ ks) (hq : Q (some w) T.heap locs) : Goes p e below (EndQ s Q kc ks) T (mkF m pc Ls (w :: rest)) :=
  Goes.out X hlk (fun h => by rw [hret] at h; cases h) hq hc hs fun fs hr => RoadKit.retOut X hx hret (by cases w <;> cases t <;> first | rfl | (simp [FieldType.isReference] at ht) | (simp [Value.isRef] at hw)) (Or.inr (Or.inr (Or.inr (Or.inr ⟨rfl, ht, hw⟩)))) hd hr
theorem Goes.retJ (X : Stand p l e R s m args below meth c T locs cells slots) (hx : p.tables.exec = Jvm.exec) (hlk : meth.locks = false) {pc : Nat} {Ls : Array Slot} {z : Int64} {rest : List Value} (hret : meth.sig.returnType = some .long) (hd : decode c.code pc = .ok (.lreturn, 1))
    (hc : cells ≤ kc) (hs : slots ≤ ks) (hq : Q (some (.long z)) T.heap locs) : Goes p e below (EndQ s Q kc ks) T (mkF m pc Ls (.long z :: rest)) :=
  Goes.out X hlk (fun h => by rw [hret] at h; cases h) hq hc hs fun fs hr => RoadKit.retOut X hx hret rfl (Or.inr (Or.inl ⟨rfl, rfl, _, rfl⟩)) hd hr
theorem Goes.retV (X : Stand p l e R s m args below meth c T locs cells slots) (hx : p.tables.exec = Jvm.exec) (hlk : meth.locks = false) {pc : Nat} {Ls : Array Slot} (hret : meth.sig.returnType = none) (hd : decode c.code pc = .ok (.return_, 1))
    (hc : cells ≤ kc) (hs : slots ≤ ks) (hq : Q none T.heap locs) : Goes p e below (EndQ s Q kc ks) T (mkF m pc Ls []) :=
  Goes.out X hlk (fun _ => rfl) hq hc hs fun fs hr => X.returnOut hx hret hd hr
/-- a static call, by its callee's contract -/
theorem Goes.callS (X : Stand p l e R s m args below meth c T locs cells slots) (hx : p.tables.exec = Jvm.exec) {own : String} {index : Nat} {y : MethodName} {bytes : ByteArray} {maxL : Nat} {ret : Option FieldType}
    (hown : s.vm.findClass own = some m.cls) (hlink : (Cond.methodLink own index y).before args s = true) (hstat : (Cond.static y).before args s = true) (hinit : (Cond.initialized y.cls).before args s = true)
    (hcode : (Cond.code y bytes maxL ret).before args s = true) (hy : y.cls ≠ "java/lang/invoke/MethodHandle" ∧ y.cls ≠ "java/lang/invoke/VarHandle")
    {W : Nat} {as' : Array Value} {Qc : Option Value → Heap → List Loc → Prop} {kc' ks' : Nat}
    (hK : Back l R p e below s args y 3 W (fun A a => a = as' ∧ A.U.heap = h ∧ A.cells + kc' ≤ R.cells ∧ A.slots + ks' ≤ R.slots) (fun A _ v B => ∃ L, Qc v B.U.heap L ∧ B.locs = A.locs ++ L ∧ B.cells = A.cells + kc' ∧ B.slots = A.slots + ks'))
    (hg : g.method = m) (hsize : g.locals.size = c.maxLocals) {argsL rest : List Value} (hlen : ∀ sig, parseMethodDescriptor y.desc = some sig → argsL.length = sig.parameters.length)
    (hstack : g.stack = argsL.reverse ++ rest) (hW : 2 * g.monitorRoom + (rest.map fun v => v.category).sum ≤ W) (hdg : decode c.code g.pc = .ok (.invokestatic index, 3)) (ha : argsL.toArray = as') (eT : T.heap = h) (hc : cells + kc' ≤ R.cells) (hs : slots + ks' ≤ R.slots)
    (k : ∀ (v : Option Value) (T' : State) (L : List Loc), Qc v T'.heap L → Stand p l e R s m args below meth c T' (locs ++ L) (cells + kc') (slots + ks') → Goes p e below F T' { g with pc := g.pc + 3, stack := v.toList ++ rest }) : Goes p e below F T g := by
  obtain ⟨v, vm₁, ⟨T', L', k', n'⟩, -, X', ⟨L, hQ, h1, h2, h3⟩, st⟩ := Jvm.LawKit.callS X hx hown hlink hstat hinit hcode hy hK hg hsize hlen hstack hW hdg (fun _ _ => ⟨ha, eT, hc, hs⟩)
  dsimp only [Pt.U, Pt.locs, Pt.cells, Pt.slots] at X' h1 h2 h3 st hQ
  subst h1 h2 h3
  exact Goes.step st (k v T' L hQ X')
/-- a constructor, by its contract -/
theorem Goes.callC (X : Stand p l e R s m args below meth c T locs cells slots) (hx : p.tables.exec = Jvm.exec) {own : String} {index : Nat} {y : MethodName} {bytes : ByteArray} {maxL : Nat} (hy1 : y.name = "<init>")
    (hown : s.vm.findClass own = some m.cls) (hlink : (Cond.methodLink own index y).before args s = true) (hinst : (Cond.instanceMethod y).before args s = true) (hcode : (Cond.code y bytes maxL none).before args s = true)
    (hy : y.cls ≠ "java/lang/invoke/MethodHandle" ∧ y.cls ≠ "java/lang/invoke/VarHandle")
    {W : Nat} {as' : Array Value} {Qc : Option Value → Heap → List Loc → Prop} {kc' ks' : Nat}
    (hK : Back l R p e below s args y 3 W (fun A a => a = as' ∧ A.U.heap = h ∧ A.cells + kc' ≤ R.cells ∧ A.slots + ks' ≤ R.slots) (fun A _ v B => ∃ L, Qc v B.U.heap L ∧ B.locs = A.locs ++ L ∧ B.cells = A.cells + kc' ∧ B.slots = A.slots + ks'))
    (hg : g.method = m) (hsize : g.locals.size = c.maxLocals) {a : Addr} {argsL rest : List Value} (hlen : ∀ sig, parseMethodDescriptor y.desc = some sig → argsL.length = sig.parameters.length)
    (hstack : g.stack = argsL.reverse ++ .ref a :: rest) (hW : 2 * g.monitorRoom + (rest.map fun v => v.category).sum ≤ W) (hdg : decode c.code g.pc = .ok (.invokespecial index, 3)) (ha : (.ref a :: argsL).toArray = as') (eT : T.heap = h) (hc : cells + kc' ≤ R.cells) (hs : slots + ks' ≤ R.slots)
    (k : ∀ (v : Option Value) (T' : State) (L : List Loc), Qc v T'.heap L → Stand p l e R s m args below meth c T' (locs ++ L) (cells + kc') (slots + ks') → Goes p e below F T' { g with pc := g.pc + 3, stack := v.toList ++ rest }) : Goes p e below F T g := by
  obtain ⟨v, vm₁, ⟨T', L', k', n'⟩, -, X', ⟨L, hQ, h1, h2, h3⟩, st⟩ := X.specialBack hx hy1 hown hlink hinst hcode hy hK hg hsize (Steps.refl _) hlen hstack hW hdg (fun _ _ => ⟨ha, eT, hc, hs⟩)
  dsimp only [Pt.U, Pt.locs, Pt.cells, Pt.slots] at X' h1 h2 h3 st hQ
  subst h1 h2 h3
  exact Goes.step (fun t q => st.trans q) (k v T' L hQ X')
/-- an instance method, by the contract of the body that is selected -/
theorem Goes.callV (X : Stand p l e R s m args below meth c T locs cells slots) (hx : p.tables.exec = Jvm.exec) (hZ : Z.Warmed39 s.vm) {own C : String} {index : Nat} {y z : MethodName}
    (hown : s.vm.findClass own = some m.cls) (hlink : (Cond.methodLink own index y).before args s = true) (hdecl : (Cond.declares y).before args s = true) (hnf : NotFace s y)
    (hsel : (Cond.selects C y z).before args s = true) (hinst : (Cond.instanceMethod z).before args s = true)
    (hy : y.cls ≠ "java/lang/invoke/MethodHandle" ∧ y.cls ≠ "java/lang/invoke/VarHandle")
    {W : Nat} {as' : Array Value} {Qc : Option Value → Heap → List Loc → Prop} {kc' ks' : Nat}
    (hK : Back l R p e below s args z 3 W (fun A a => a = as' ∧ A.U.heap = h ∧ A.cells + kc' ≤ R.cells ∧ A.slots + ks' ≤ R.slots) (fun A _ v B => ∃ L, Qc v B.U.heap L ∧ B.locs = A.locs ++ L ∧ B.cells = A.cells + kc' ∧ B.slots = A.slots + ks'))
    {b : Addr} (eT : T.heap = h) (E : Exa Z h b C)
    (hg : g.method = m) (hsize : g.locals.size = c.maxLocals) {argsL rest : List Value} (hlen : ∀ sig, parseMethodDescriptor y.desc = some sig → argsL.length = sig.parameters.length)
    (hstack : g.stack = argsL.reverse ++ .ref b :: rest) (hW : 2 * g.monitorRoom + (rest.map fun v => v.category).sum ≤ W) (hdg : decode c.code g.pc = .ok (.invokevirtual index, 3)) (ha : (.ref b :: argsL).toArray = as') (hc : cells + kc' ≤ R.cells) (hs : slots + ks' ≤ R.slots)
    (k : ∀ (v : Option Value) (T' : State) (L : List Loc), Qc v T'.heap L → Stand p l e R s m args below meth c T' (locs ++ L) (cells + kc') (slots + ks') → Goes p e below F T' { g with pc := g.pc + 3, stack := v.toList ++ rest }) : Goes p e below F T g := by
  obtain ⟨cq, kq, qa, qb, qc⟩ := isOf hZ eT E
  obtain ⟨v, vm₁, ⟨T', L', k', n'⟩, -, X', ⟨L, hQ, h1, h2, h3⟩, st⟩ := X.virtualBack hx hown hlink hdecl hnf hsel hinst hy hK qa qc hg hsize (Steps.refl _) hlen hstack hW hdg (fun _ _ => ⟨ha, eT, hc, hs⟩)
  dsimp only [Pt.U, Pt.locs, Pt.cells, Pt.slots] at X' h1 h2 h3 st hQ
  subst h1 h2 h3
  exact Goes.step (fun t q => st.trans q) (k v T' L hQ X')
/-- a private method called by invokevirtual -/
theorem Goes.callP (X : Stand p l e R s m args below meth c T locs cells slots) (hx : p.tables.exec = Jvm.exec) {own C : String} {index : Nat} {y : MethodName} {bytes : ByteArray} {maxL : Nat} {ret : Option FieldType}
    (hown : s.vm.findClass own = some m.cls) (hlink : (Cond.methodLink own index y).before args s = true) (hinst : (Cond.instanceMethod y).before args s = true) (hsel : (Cond.selects y.cls y y).before args s = true)
    (hpriv : s.PrivateAt y) (hcode : (Cond.code y bytes maxL ret).before args s = true)
    (hy : y.cls ≠ "java/lang/invoke/MethodHandle" ∧ y.cls ≠ "java/lang/invoke/VarHandle")
    {W : Nat} {as' : Array Value} {Qc : Option Value → Heap → List Loc → Prop} {kc' ks' : Nat}
    (hK : Back l R p e below s args y 3 W (fun A a => a = as' ∧ A.U.heap = h ∧ A.cells + kc' ≤ R.cells ∧ A.slots + ks' ≤ R.slots) (fun A _ v B => ∃ L, Qc v B.U.heap L ∧ B.locs = A.locs ++ L ∧ B.cells = A.cells + kc' ∧ B.slots = A.slots + ks'))
    {b : Addr} (eT : T.heap = h) (E : Exa Z h b C)
    (hg : g.method = m) (hsize : g.locals.size = c.maxLocals) {argsL rest : List Value} (hlen : ∀ sig, parseMethodDescriptor y.desc = some sig → argsL.length = sig.parameters.length)
    (hstack : g.stack = argsL.reverse ++ .ref b :: rest) (hW : 2 * g.monitorRoom + (rest.map fun v => v.category).sum ≤ W) (hdg : decode c.code g.pc = .ok (.invokevirtual index, 3)) (ha : (.ref b :: argsL).toArray = as') (hc : cells + kc' ≤ R.cells) (hs : slots + ks' ≤ R.slots)
    (k : ∀ (v : Option Value) (T' : State) (L : List Loc), Qc v T'.heap L → Stand p l e R s m args below meth c T' (locs ++ L) (cells + kc') (slots + ks') → Goes p e below F T' { g with pc := g.pc + 3, stack := v.toList ++ rest }) : Goes p e below F T g := by
  obtain ⟨cq, q1, q2⟩ := E.cell
  obtain ⟨v, vm₁, ⟨T', L', k', n'⟩, -, X', ⟨L, hQ, h1, h2, h3⟩, st⟩ := X.privateBack hx hown hlink hinst hsel hpriv hcode hy hK hg hsize (Steps.refl _) (by rw [eT]; exact q1) q2 hlen hstack hW hdg (fun _ _ => ⟨ha, eT, hc, hs⟩)
  dsimp only [Pt.U, Pt.locs, Pt.cells, Pt.slots] at X' h1 h2 h3 st hQ
  subst h1 h2 h3
  exact Goes.step (fun t q => st.trans q) (k v T' L hQ X')
/-- clone() of an array whose elements are known -/
theorem cloneV {a : Addr} {ty : FieldType} (X : Stand p l e R s m args below meth c T locs cells slots) (hx : p.tables.exec = Jvm.exec) (hZ : Z.Warmed39 s.vm) {own ad : String} {index : Nat} (hown : s.vm.findClass own = some m.cls)
    (w1 : (Cond.methodLink own index ⟨ad, "clone", "()Ljava/lang/Object;"⟩).before a0 Z = true) (w2 : (Cond.sameMethod ad "java/lang/Object" "clone" "()Ljava/lang/Object;").before a0 Z = true) (w3 : (Cond.native ⟨"java/lang/Object", "clone", "()Ljava/lang/Object;"⟩).before a0 Z = true)
    (w4 : (Cond.instanceMethod ⟨"java/lang/Object", "clone", "()Ljava/lang/Object;"⟩).before a0 Z = true) (w5 : (Cond.selects ad ⟨ad, "clone", "()Ljava/lang/Object;"⟩ ⟨"java/lang/Object", "clone", "()Ljava/lang/Object;"⟩).before a0 Z = true) (w6 : (Cond.castable ad "java/lang/Cloneable").before a0 Z = true)
    (eT : T.heap = h) {k : ClassId} {z : Int32} {vs : List Value} {dv : Value} (FA : Arv Z h a k ty z vs dv) (E : Exa Z h a ad) {g : JFrame} (hg : g.method = m) (hsize : g.locals.size = c.maxLocals) {rest : List Value} (hst : g.stack = .ref a :: rest) (hd : decode c.code g.pc = .ok (.invokevirtual index, 3))
    (hf : 1 ≤ R.frames) {W cap : Nat} (hW : 2 * g.monitorRoom + (rest.map fun v => v.category).sum ≤ W) (hl : W + 14 ≤ R.locals) (hcap : z.toNatClampNeg ≤ cap) (hc : cells + 1 ≤ R.cells) (hsl : slots + cap ≤ R.slots) :
    ∃ T' h', Stand p l e R s m args below meth c T' locs (cells + 1) (slots + cap) ∧ T'.heap = h' ∧ Ext h h' ∧ Arv Z h' h.size k ty z vs dv ∧ Exa Z h' h.size ad ∧
      ∀ target, Steps p.tables e below (T'.setTop { g with pc := g.pc + 3, stack := .ref h.size :: rest }) target → Steps p.tables e below (T.setTop g) target := by
  obtain ⟨cl, A, q1, S, q3, H, G⟩ := FA
  have FC : FitC Z cl := fitC_of A fun i hi v hv => by rw [H i hi] at hv; cases hv; exact G i hi
  obtain ⟨T', h', X', e', ex, A', E', st⟩ := cloneA X hx hZ hown w1 w2 w3 w4 w5 w6 eT A E FC hg hsize hst hd hf hW hl (by rw [S]; exact hcap) hc hsl
  exact ⟨T', h', X', e', ex, ⟨cloneOf cl, A', q1, S, q3, H, G⟩, E', st⟩
end Own
end Jvm.RoadKit
namespace Jvm.RoadKit
open Sem ClassFile Op Lib Jvm.Stand Jvm.Free Jvm.LawKit
namespace P1
section P1
variable {p : Program} {e : Env} {below : List Frame} {F : Option Value → State → Prop} {T : State} {m : MethodId} {c : Code} {pc : Nat} {Ls : Array Slot} {S : List Value}
theorem aloadN (h : At T m c below) (hx : p.tables.exec = Jvm.exec) {k : Fin 4} {v : Value} (hd : decode c.code pc = .ok (.aload_n k, 1)) (hl : Ls[k.val]? = some (.val v)) (hv : v.isRef = true) (hr : Goes p e below F T (mkF m (pc + 1) Ls (v :: S))) : Goes p e below F T (mkF m pc Ls (S)) := Goes.step (fun t k => XS.aloadN h hx rfl hd hl hv k) hr
theorem aload (h : At T m c below) (hx : p.tables.exec = Jvm.exec) {k : Nat} {v : Value} (hd : decode c.code pc = .ok (.aload k, 2)) (hl : Ls[k]? = some (.val v)) (hv : v.isRef = true) (hr : Goes p e below F T (mkF m (pc + 2) Ls (v :: S))) : Goes p e below F T (mkF m pc Ls (S)) := Goes.step (fun t k => XS.aload h hx rfl hd hl hv k) hr
theorem iloadN (h : At T m c below) (hx : p.tables.exec = Jvm.exec) {k : Fin 4} {v : Int32} (hd : decode c.code pc = .ok (.iload_n k, 1)) (hl : Ls[k.val]? = some (.val (.int v))) (hr : Goes p e below F T (mkF m (pc + 1) Ls ((.int v) :: S))) : Goes p e below F T (mkF m pc Ls (S)) := Goes.step (fun t k => XS.iloadN h hx rfl hd hl k) hr
theorem iload (h : At T m c below) (hx : p.tables.exec = Jvm.exec) {k : Nat} {v : Int32} (hd : decode c.code pc = .ok (.iload k, 2)) (hl : Ls[k]? = some (.val (.int v))) (hr : Goes p e below F T (mkF m (pc + 2) Ls ((.int v) :: S))) : Goes p e below F T (mkF m pc Ls (S)) := Goes.step (fun t k => XS.iload h hx rfl hd hl k) hr
theorem lloadN (h : At T m c below) (hx : p.tables.exec = Jvm.exec) {k : Fin 4} {v : Int64} (hd : decode c.code pc = .ok (.lload_n k, 1)) (hl : Ls[k.val]? = some (.val (.long v))) (hr : Goes p e below F T (mkF m (pc + 1) Ls ((.long v) :: S))) : Goes p e below F T (mkF m pc Ls (S)) := Goes.step (fun t k => XS.lloadN h hx rfl hd hl k) hr
theorem lload (h : At T m c below) (hx : p.tables.exec = Jvm.exec) {k : Nat} {v : Int64} (hd : decode c.code pc = .ok (.lload k, 2)) (hl : Ls[k]? = some (.val (.long v))) (hr : Goes p e below F T (mkF m (pc + 2) Ls ((.long v) :: S))) : Goes p e below F T (mkF m pc Ls (S)) := Goes.step (fun t k => XS.lload h hx rfl hd hl k) hr
theorem astoreN (h : At T m c below) (hx : p.tables.exec = Jvm.exec) {k : Fin 4} {x : Value} (l' : Array Slot) (hd : decode c.code pc = .ok (.astore_n k, 1)) (hv : x.isRef = true) (hl : storeLocals Ls k.val x = some l') (hr : Goes p e below F T (mkF m (pc + 1) l' (S))) : Goes p e below F T (mkF m pc Ls (x :: S)) := Goes.step (fun t k => XS.astoreN h hx rfl hd rfl hv hl k) hr
theorem astore (h : At T m c below) (hx : p.tables.exec = Jvm.exec) {k : Nat} {x : Value} (l' : Array Slot) (hd : decode c.code pc = .ok (.astore k, 2)) (hv : x.isRef = true) (hl : storeLocals Ls k x = some l') (hr : Goes p e below F T (mkF m (pc + 2) l' (S))) : Goes p e below F T (mkF m pc Ls (x :: S)) := Goes.step (fun t k => XS.astore h hx rfl hd rfl hv hl k) hr
theorem istoreN (h : At T m c below) (hx : p.tables.exec = Jvm.exec) {k : Fin 4} {x : Int32} (l' : Array Slot) (hd : decode c.code pc = .ok (.istore_n k, 1)) (hl : storeLocals Ls k.val (.int x) = some l') (hr : Goes p e below F T (mkF m (pc + 1) l' (S))) : Goes p e below F T (mkF m pc Ls ((.int x) :: S)) := Goes.step (fun t k => XS.istoreN h hx rfl hd rfl hl k) hr
theorem istore (h : At T m c below) (hx : p.tables.exec = Jvm.exec) {k : Nat} {x : Int32} (l' : Array Slot) (hd : decode c.code pc = .ok (.istore k, 2)) (hl : storeLocals Ls k (.int x) = some l') (hr : Goes p e below F T (mkF m (pc + 2) l' (S))) : Goes p e below F T (mkF m pc Ls ((.int x) :: S)) := Goes.step (fun t k => XS.istore h hx rfl hd rfl hl k) hr
theorem lstoreN (h : At T m c below) (hx : p.tables.exec = Jvm.exec) {k : Fin 4} {x : Int64} (l' : Array Slot) (hd : decode c.code pc = .ok (.lstore_n k, 1)) (hl : storeLocals Ls k.val (.long x) = some l') (hr : Goes p e below F T (mkF m (pc + 1) l' (S))) : Goes p e below F T (mkF m pc Ls ((.long x) :: S)) := Goes.step (fun t k => XS.lstoreN h hx rfl hd rfl hl k) hr
theorem lstore (h : At T m c below) (hx : p.tables.exec = Jvm.exec) {k : Nat} {x : Int64} (l' : Array Slot) (hd : decode c.code pc = .ok (.lstore k, 2)) (hl : storeLocals Ls k (.long x) = some l') (hr : Goes p e below F T (mkF m (pc + 2) l' (S))) : Goes p e below F T (mkF m pc Ls ((.long x) :: S)) := Goes.step (fun t k => XS.lstore h hx rfl hd rfl hl k) hr
theorem iconst (h : At T m c below) (hx : p.tables.exec = Jvm.exec) (z : Int32) {i : Int} (hd : decode c.code pc = .ok (.iconst i, 1)) (hz : Int32.ofInt i = z) (hr : Goes p e below F T (mkF m (pc + 1) Ls (.int z :: S))) : Goes p e below F T (mkF m pc Ls S) := by subst hz; exact Goes.step (fun t k => XS.iconst h hx rfl hd k) hr
theorem bipush (h : At T m c below) (hx : p.tables.exec = Jvm.exec) (z : Int32) {i : Int} (hd : decode c.code pc = .ok (.bipush i, 2)) (hz : (Int8.ofInt i).toInt32 = z) (hr : Goes p e below F T (mkF m (pc + 2) Ls (.int z :: S))) : Goes p e below F T (mkF m pc Ls S) := by subst hz; exact Goes.step (fun t k => XS.bipush h hx rfl hd k) hr
theorem sipush (h : At T m c below) (hx : p.tables.exec = Jvm.exec) (z : Int32) {i : Int} (hd : decode c.code pc = .ok (.sipush i, 3)) (hz : (Int16.ofInt i).toInt32 = z) (hr : Goes p e below F T (mkF m (pc + 3) Ls (.int z :: S))) : Goes p e below F T (mkF m pc Ls S) := by subst hz; exact Goes.step (fun t k => XS.sipush h hx rfl hd k) hr
theorem aconstNull (h : At T m c below) (hx : p.tables.exec = Jvm.exec)  (hd : decode c.code pc = .ok (.aconst_null, 1)) (hr : Goes p e below F T (mkF m (pc + 1) Ls (.null :: S))) : Goes p e below F T (mkF m pc Ls (S)) := Goes.step (fun t k => XS.aconstNull h hx rfl hd k) hr
theorem dup (h : At T m c below) (hx : p.tables.exec = Jvm.exec) {x : Value} (hd : decode c.code pc = .ok (.dup, 1)) (hc : x.category = 1) (hr : Goes p e below F T (mkF m (pc + 1) Ls (x :: x :: S))) : Goes p e below F T (mkF m pc Ls (x :: S)) := Goes.step (fun t k => XS.dup h hx rfl hd rfl hc k) hr
theorem pop (h : At T m c below) (hx : p.tables.exec = Jvm.exec) {x : Value} (hd : decode c.code pc = .ok (.pop, 1)) (hc : x.category = 1) (hr : Goes p e below F T (mkF m (pc + 1) Ls (S))) : Goes p e below F T (mkF m pc Ls (x :: S)) := Goes.step (fun t k => XS.pop h hx rfl hd rfl hc k) hr
theorem goto (h : At T m c below) (hx : p.tables.exec = Jvm.exec) {o : Int} (pc' : Nat) (hd : decode c.code pc = .ok (.goto o, 3)) (ho : 0 ≤ (pc : Int) + o) (hp : ((pc : Int) + o).toNat = pc') (hr : Goes p e below F T (mkF m pc' Ls (S))) : Goes p e below F T (mkF m pc Ls (S)) := Goes.step (fun t k => XS.goto h hx rfl (pc0 := pc) rfl hd ho hp k) hr
theorem iadd (h : At T m c below) (hx : p.tables.exec = Jvm.exec) {x y : Int32} (hd : decode c.code pc = .ok (.iadd, 1)) (hr : Goes p e below F T (mkF m (pc + 1) Ls (.int (x + y) :: S))) : Goes p e below F T (mkF m pc Ls (.int y :: .int x :: S)) := Goes.step (fun t k => XS.iadd h hx rfl hd rfl k) hr
theorem isub (h : At T m c below) (hx : p.tables.exec = Jvm.exec) {x y : Int32} (hd : decode c.code pc = .ok (.isub, 1)) (hr : Goes p e below F T (mkF m (pc + 1) Ls (.int (x - y) :: S))) : Goes p e below F T (mkF m pc Ls (.int y :: .int x :: S)) := Goes.step (fun t k => XS.isub h hx rfl hd rfl k) hr
theorem imul (h : At T m c below) (hx : p.tables.exec = Jvm.exec) {x y : Int32} (hd : decode c.code pc = .ok (.imul, 1)) (hr : Goes p e below F T (mkF m (pc + 1) Ls (.int (x * y) :: S))) : Goes p e below F T (mkF m pc Ls (.int y :: .int x :: S)) := Goes.step (fun t k => XS.imul h hx rfl hd rfl k) hr
theorem iand (h : At T m c below) (hx : p.tables.exec = Jvm.exec) {x y : Int32} (hd : decode c.code pc = .ok (.iand, 1)) (hr : Goes p e below F T (mkF m (pc + 1) Ls (.int (x &&& y) :: S))) : Goes p e below F T (mkF m pc Ls (.int y :: .int x :: S)) := Goes.step (fun t k => XS.iand h hx rfl hd rfl k) hr
theorem ior (h : At T m c below) (hx : p.tables.exec = Jvm.exec) {x y : Int32} (hd : decode c.code pc = .ok (.ior, 1)) (hr : Goes p e below F T (mkF m (pc + 1) Ls (.int (x ||| y) :: S))) : Goes p e below F T (mkF m pc Ls (.int y :: .int x :: S)) := Goes.step (fun t k => XS.ior h hx rfl hd rfl k) hr
theorem ixor (h : At T m c below) (hx : p.tables.exec = Jvm.exec) {x y : Int32} (hd : decode c.code pc = .ok (.ixor, 1)) (hr : Goes p e below F T (mkF m (pc + 1) Ls (.int (x ^^^ y) :: S))) : Goes p e below F T (mkF m pc Ls (.int y :: .int x :: S)) := Goes.step (fun t k => XS.ixor h hx rfl hd rfl k) hr
end P1
end P1
end Jvm.RoadKit
namespace Jvm.RoadKit
open Sem ClassFile Op Lib Jvm.Stand Jvm.Free Jvm.LawKit
section OwnStart
variable {Z : State} {args : Array Value} {t u : Term} {a : Addr} {cl : Cell} {ty : FieldType} {v : Value}
theorem own_eqV (h : (Cond.eq t u).value args Z none Z [] = some true) (hu : u.eval args Z none [] Z = some v) (hv : (∃ z, v = .int z) ∨ v.isRef = true) : t.eval args Z none [] Z = some v := by
  cases ht : t.eval args Z none [] Z with
  | none => simp [Cond.value, ht] at h
  | some x =>
    rcases hv with ⟨z, rfl⟩ | hv
    · cases x <;> simp_all [Cond.value, Value.isRef]
    · cases x <;> cases v <;> simp_all [Cond.value, Value.isRef]
theorem own_len {n : Int32} (A : Arr Z Z.heap a cl ty) (ev : t.eval args Z none [] Z = some (.ref a)) (h : (Cond.eq (.length t) (.int n)).value args Z none Z [] = some true) : cl.slots.size < 2 ^ 31 ∧ cl.slots.size.toInt32 = n := by
  have q := own_eqV h (Term.int_eval n) (Or.inl ⟨_, rfl⟩)
  have harr := Arr.fin (U := Z) (Vm.Alike.refl _) A
  by_cases hl : cl.slots.size < 2 ^ 31
  · rw [len_f ev harr hl] at q
    exact ⟨hl, Value.int.inj (Option.some.inj q)⟩
  · simp [Term.eval, ev, harr, hl] at q
theorem own_elem {j : Int32} (A : Arr Z Z.heap a cl ty) (ev : t.eval args Z none [] Z = some (.ref a)) (h : (Term.elem t (.int j)).eval args Z none [] Z = some v) : cl.slots[j.toNatClampNeg]? = some v := (elem_in h ev (Term.int_eval j) A.1).2
theorem own_fld {C n d : String} (ev : t.eval args Z none [] Z = some (.ref a)) (h : (Term.field t C n d).eval args Z none [] Z = some v) : Fld Z Z.heap a C n d v := Fld.start ((fld_at ev).symm.trans h)
end OwnStart
end Jvm.RoadKit
namespace Jvm.RoadKit
open Sem ClassFile Op Lib Jvm.Stand Jvm.Free Jvm.LawKit
section OwnW
variable {p : Program} {l : Launch} {e : Env} {R : Room} {s : State} {m : MethodId} {args : Array Value} {below : List Frame} {meth : Method} {c : Code} {T T' : State} {locs : List Loc} {cells slots : Nat} {Q : Option Value → Heap → List Loc → Prop} {F : Option Value → State → Prop} {kc ks : Nat} {g g' : JFrame} {Z : State} {a0 : Array Value} {h : Heap} {EL : List (String × Nat)} {vm0 : Vm} {k0 : Nat}
/-- the end of a body that may have interned constants of EL -/
def EndW (s Z : State) (EL : List (String × Nat)) (Q : Option Value → Heap → List Loc → Prop) (kc ks : Nat) (v : Option Value) (t : State) : Prop := ∃ L, Q v t.heap L ∧ CHr Z EL s.vm s.heap t.vm t.heap ∧ ReturnedEndW s (.returned v) t L kc ks
theorem Goes.giveW (h : Goes p e below (EndW s Z EL Q kc ks) T g) : ∃ s₂ o, Steps p.tables e below (T.setTop g) s₂ ∧ s₂.status = .running ∧ Ended s₂ below o ∧ ∃ v L, o = .returned v ∧ Q v s₂.heap L ∧ CHr Z EL s.vm s.heap s₂.vm s₂.heap ∧ ReturnedEndW s o s₂ L kc ks := by
  obtain ⟨s2, o, h1, h2, h3, v, rfl, L, h4, h5, h6⟩ := h
  exact ⟨s2, _, h1, h2, h3, v, L, rfl, h4, h5, h6⟩
theorem Goes.outW {v : Option Value} (X : Stand p l e R (s.setVm vm0) m args below meth c T locs cells slots) (hS : s.Since vm0 k0) (hk : k0 ≤ h.size) (hZ : Z.Warmed39 vm0) (hEL : EW Z a0 EL) (hC : CHr Z EL s.vm s.heap vm0 h) (eT : T.heap = h) (hlk : meth.locks = false) (hv : meth.sig.returnType = none → v = none) (hc : cells ≤ kc) (hs : slots ≤ ks) (hq : Q v h locs)
    (k : ∀ fs, (∀ (f : JFrame) (acts : List Action), f.method = m → f.locked = none → f.entered = [] → (doReturn e (T.setTop f) acts v).1 = T.setFrames fs) → Steps p.tables e below (T.setTop g) (T.setFrames fs)) : Goes p e below (EndW s Z EL Q kc ks) T g := by
  subst eT
  obtain ⟨fs, hr, hrun, hended, hE⟩ := X.leaveW hS hk (v := v) hv hlk
  have hC2 : CHr Z EL s.vm s.heap (T.setFrames fs).vm (T.setFrames fs).heap := hC.trans (show CHr Z EL vm0 T.heap T.vm T.heap from CHv.at X hZ hEL hC.1)
  exact ⟨_, _, k fs hr, hrun, hended, _, rfl, _, hq, hC2, ⟨hE.1, hE.2.1, hE.2.2.1, hE.2.2.2.mono hc hs⟩⟩
theorem Goes.retIW (X : Stand p l e R (s.setVm vm0) m args below meth c T locs cells slots) (hx : p.tables.exec = Jvm.exec) (hlk : meth.locks = false) (hS : s.Since vm0 k0) (hk : k0 ≤ h.size) (hZ : Z.Warmed39 vm0) (hEL : EW Z a0 EL) (hC : CHr Z EL s.vm s.heap vm0 h) (eT : T.heap = h) {pc : Nat} {Ls : Array Slot} {z : Int32} {rest : List Value} (hret : meth.sig.returnType = some .int) (hd : decode c.code pc = .ok (.ireturn, 1))
    (hc : cells ≤ kc) (hs : slots ≤ ks) (hq : Q (some (.int z)) h locs) : Goes p e below (EndW s Z EL Q kc ks) T (mkF m pc Ls (.int z :: rest)) :=
  Goes.outW X hS hk hZ hEL hC eT hlk (fun h => by rw [hret] at h; cases h) hc hs hq fun fs hr => RoadKit.retI X hx hret hd hr
theorem Goes.retNW (X : Stand p l e R (s.setVm vm0) m args below meth c T locs cells slots) (hx : p.tables.exec = Jvm.exec) (hlk : meth.locks = false) (hS : s.Since vm0 k0) (hk : k0 ≤ h.size) (hZ : Z.Warmed39 vm0) (hEL : EW Z a0 EL) (hC : CHr Z EL s.vm s.heap vm0 h) (eT : T.heap = h) {pc : Nat} {Ls : Array Slot} {z : Int32} {t : FieldType} {rest : List Value} (hret : meth.sig.returnType = some t) (ht : t = .boolean ∨ t = .byte ∨ t = .char ∨ t = .short) (hd : decode c.code pc = .ok (.ireturn, 1))
    (hc : cells ≤ kc) (hs : slots ≤ ks) (hq : Q (some (.int (nar t z))) h locs) : Goes p e below (EndW s Z EL Q kc ks) T (mkF m pc Ls (.int z :: rest)) :=
  Goes.outW X hS hk hZ hEL hC eT hlk (fun h => by rw [hret] at h; cases h) hc hs hq fun fs hr => RoadKit.retN X hx hret ht hd hr
theorem Goes.retAW (X : Stand p l e R (s.setVm vm0) m args below meth c T locs cells slots) (hx : p.tables.exec = Jvm.exec) (hlk : meth.locks = false) (hS : s.Since vm0 k0) (hk : k0 ≤ h.size) (hZ : Z.Warmed39 vm0) (hEL : EW Z a0 EL) (hC : CHr Z EL s.vm s.heap vm0 h) (eT : T.heap = h) {pc : Nat} {Ls : Array Slot} {w : Value} {t : FieldType} {rest : List Value} (hret : meth.sig.returnType = some t) (ht : t.isReference = true) (hw : w.isRef = true) (hd : decode c.code pc = .ok (.areturn, 1))
    (hc : cells ≤ kc) (hs : slots ≤ ks) (hq : Q (some w) h locs) : Goes p e below (EndW s Z EL Q kc ks) T (mkF m pc Ls (w :: rest)) :=
  Goes.outW X hS hk hZ hEL hC eT hlk (fun h => by rw [hret] at h; cases h) hc hs hq fun fs hr => RoadKit.retOut X hx hret (by cases w <;> cases t <;> first | rfl | (simp [FieldType.isReference] at ht) | (simp [Value.isRef] at hw)) (Or.inr (Or.inr (Or.inr (Or.inr ⟨rfl, ht, hw⟩)))) hd hr
theorem Goes.retVW (X : Stand p l e R (s.setVm vm0) m args below meth c T locs cells slots) (hx : p.tables.exec = Jvm.exec) (hlk : meth.locks = false) (hS : s.Since vm0 k0) (hk : k0 ≤ h.size) (hZ : Z.Warmed39 vm0) (hEL : EW Z a0 EL) (hC : CHr Z EL s.vm s.heap vm0 h) (eT : T.heap = h) {pc : Nat} {Ls : Array Slot} (hret : meth.sig.returnType = none) (hd : decode c.code pc = .ok (.return_, 1))
    (hc : cells ≤ kc) (hs : slots ≤ ks) (hq : Q none h locs) : Goes p e below (EndW s Z EL Q kc ks) T (mkF m pc Ls []) :=
  Goes.outW X hS hk hZ hEL hC eT hlk (fun _ => rfl) hc hs hq fun fs hr => X.returnOut hx hret hd hr
/-- what stands behind a call that may have interned -/
def AfterW (p : Program) (l : Launch) (e : Env) (R : Room) (s : State) (m : MethodId) (args : Array Value) (below : List Frame) (meth : Method) (c : Code) (Z : State) (EL : List (String × Nat)) (vm0 : Vm) (h : Heap) (own : String) (T' : State) (locs : List Loc) (cells slots : Nat) : Prop :=
  Stand p l e R (s.setVm T'.vm) m args below meth c T' locs cells slots ∧ s.Since T'.vm T'.heap.size ∧ Z.Warmed39 T'.vm ∧ T'.vm.findClass own = some m.cls ∧ CHr Z EL vm0 h T'.vm T'.heap
theorem AfterW.of {own : String} (hS : s.Since vm0 k0) (hk : k0 ≤ h.size) (eT : T.heap = h) (hZ : Z.Warmed39 vm0) (hown : vm0.findClass own = some m.cls) (X' : Stand p l e R ((s.setVm vm0).setVm T'.vm) m args below meth c T' locs cells slots) (hS' : (s.setVm vm0).Since T'.vm T'.heap.size) (hg : T.heap.size ≤ T'.heap.size) (hC : CHr Z EL vm0 h T'.vm T'.heap) : AfterW p l e R s m args below meth c Z EL vm0 h own T' locs cells slots := by
  subst eT
  exact ⟨X', hS.trans hS' (Nat.le_trans hk hg), State.Warmed39.trans (t := s.setVm vm0) hZ hS'.1, by rw [hS'.1.alike.findClass]; exact hown, hC⟩
/-- a static call of a callee that may intern -/
theorem Goes.callSW (X : Stand p l e R (s.setVm vm0) m args below meth c T locs cells slots) (hx : p.tables.exec = Jvm.exec) {own : String} {index : Nat} {y : MethodName} {bytes : ByteArray} {maxL : Nat} {ret : Option FieldType} (hS : s.Since vm0 k0) (hk : k0 ≤ h.size) (hZ : Z.Warmed39 vm0)
    (hown : vm0.findClass own = some m.cls) (hlink : (Cond.methodLink own index y).before args (s.setVm vm0) = true) (hstat : (Cond.static y).before args (s.setVm vm0) = true) (hinit : (Cond.initialized y.cls).before args (s.setVm vm0) = true)
    (hcode : (Cond.code y bytes maxL ret).before args (s.setVm vm0) = true) (hy : y.cls ≠ "java/lang/invoke/MethodHandle" ∧ y.cls ≠ "java/lang/invoke/VarHandle")
    {W : Nat} {as' : Array Value} {Qc : Option Value → Heap → List Loc → Prop} {kc' ks' : Nat}
    (hK : BackS l R p e below (s.setVm vm0) args y 3 W (fun A a => a = as' ∧ A.U.heap = h ∧ A.cells + kc' ≤ R.cells ∧ A.slots + ks' ≤ R.slots) (fun A _ v B => ∃ L, Qc v B.U.heap L ∧ B.locs = A.locs ++ L ∧ B.cells = A.cells + kc' ∧ B.slots = A.slots + ks' ∧ CHr Z EL vm0 h B.U.vm B.U.heap))
    (hg : g.method = m) (hsize : g.locals.size = c.maxLocals) {argsL rest : List Value} (hlen : ∀ sig, parseMethodDescriptor y.desc = some sig → argsL.length = sig.parameters.length)
    (hstack : g.stack = argsL.reverse ++ rest) (hW : 2 * g.monitorRoom + (rest.map fun v => v.category).sum ≤ W) (hdg : decode c.code g.pc = .ok (.invokestatic index, 3)) (ha : argsL.toArray = as') (eT : T.heap = h) (hc : cells + kc' ≤ R.cells) (hs : slots + ks' ≤ R.slots)
    (k : ∀ (v : Option Value) (T' : State) (L : List Loc), Qc v T'.heap L → AfterW p l e R s m args below meth c Z EL vm0 h own T' (locs ++ L) (cells + kc') (slots + ks') → Goes p e below F T' { g with pc := g.pc + 3, stack := v.toList ++ rest }) : Goes p e below F T g := by
  obtain ⟨v, vm₁, ⟨T', L', k', n'⟩, -, X', hS', hgr, ⟨L, hQ, h1, h2, h3, hC⟩, st⟩ := callSS X hx hown hlink hstat hinit hcode hy hK hg hsize hlen hstack hW hdg (fun _ _ => ⟨ha, eT, hc, hs⟩)
  dsimp only [Pt.U, Pt.locs, Pt.cells, Pt.slots] at X' h1 h2 h3 st hQ hS' hgr hC
  subst h1 h2 h3
  exact Goes.step (fun t q => st.trans q) (k v T' L hQ (AfterW.of hS hk eT hZ hown X' hS' hgr hC))
/-- a constructor that may intern -/
theorem Goes.callCW (X : Stand p l e R (s.setVm vm0) m args below meth c T locs cells slots) (hx : p.tables.exec = Jvm.exec) {own : String} {index : Nat} {y : MethodName} {bytes : ByteArray} {maxL : Nat} (hS : s.Since vm0 k0) (hk : k0 ≤ h.size) (hZ : Z.Warmed39 vm0) (hy1 : y.name = "<init>")
    (hown : vm0.findClass own = some m.cls) (hlink : (Cond.methodLink own index y).before args (s.setVm vm0) = true) (hinst : (Cond.instanceMethod y).before args (s.setVm vm0) = true) (hcode : (Cond.code y bytes maxL none).before args (s.setVm vm0) = true)
    (hy : y.cls ≠ "java/lang/invoke/MethodHandle" ∧ y.cls ≠ "java/lang/invoke/VarHandle")
    {W : Nat} {as' : Array Value} {Qc : Option Value → Heap → List Loc → Prop} {kc' ks' : Nat}
    (hK : BackS l R p e below (s.setVm vm0) args y 3 W (fun A a => a = as' ∧ A.U.heap = h ∧ A.cells + kc' ≤ R.cells ∧ A.slots + ks' ≤ R.slots) (fun A _ v B => ∃ L, Qc v B.U.heap L ∧ B.locs = A.locs ++ L ∧ B.cells = A.cells + kc' ∧ B.slots = A.slots + ks' ∧ CHr Z EL vm0 h B.U.vm B.U.heap))
    (hg : g.method = m) (hsize : g.locals.size = c.maxLocals) {a : Addr} {argsL rest : List Value} (hlen : ∀ sig, parseMethodDescriptor y.desc = some sig → argsL.length = sig.parameters.length)
    (hstack : g.stack = argsL.reverse ++ .ref a :: rest) (hW : 2 * g.monitorRoom + (rest.map fun v => v.category).sum ≤ W) (hdg : decode c.code g.pc = .ok (.invokespecial index, 3)) (ha : (.ref a :: argsL).toArray = as') (eT : T.heap = h) (hc : cells + kc' ≤ R.cells) (hs : slots + ks' ≤ R.slots)
    (k : ∀ (v : Option Value) (T' : State) (L : List Loc), Qc v T'.heap L → AfterW p l e R s m args below meth c Z EL vm0 h own T' (locs ++ L) (cells + kc') (slots + ks') → Goes p e below F T' { g with pc := g.pc + 3, stack := v.toList ++ rest }) : Goes p e below F T g := by
  obtain ⟨v, vm₁, ⟨T', L', k', n'⟩, -, X', hS', hgr, ⟨L, hQ, h1, h2, h3, hC⟩, st⟩ := X.specialBackS hx hy1 hown hlink hinst hcode hy hK hg hsize (Steps.refl _) hlen hstack hW hdg (fun _ _ => ⟨ha, eT, hc, hs⟩)
  dsimp only [Pt.U, Pt.locs, Pt.cells, Pt.slots] at X' h1 h2 h3 st hQ hS' hgr hC
  subst h1 h2 h3
  exact Goes.step (fun t q => st.trans q) (k v T' L hQ (AfterW.of hS hk eT hZ hown X' hS' hgr hC))
/-- an instance method that may intern -/
theorem Goes.callVW (X : Stand p l e R (s.setVm vm0) m args below meth c T locs cells slots) (hx : p.tables.exec = Jvm.exec) {own C : String} {index : Nat} {y z : MethodName} (hS : s.Since vm0 k0) (hk : k0 ≤ h.size) (hZ : Z.Warmed39 vm0)
    (hown : vm0.findClass own = some m.cls) (hlink : (Cond.methodLink own index y).before args (s.setVm vm0) = true) (hdecl : (Cond.declares y).before args (s.setVm vm0) = true) (hnf : NotFace (s.setVm vm0) y)
    (hsel : (Cond.selects C y z).before args (s.setVm vm0) = true) (hinst : (Cond.instanceMethod z).before args (s.setVm vm0) = true)
    (hy : y.cls ≠ "java/lang/invoke/MethodHandle" ∧ y.cls ≠ "java/lang/invoke/VarHandle")
    {W : Nat} {as' : Array Value} {Qc : Option Value → Heap → List Loc → Prop} {kc' ks' : Nat}
    (hK : BackS l R p e below (s.setVm vm0) args z 3 W (fun A a => a = as' ∧ A.U.heap = h ∧ A.cells + kc' ≤ R.cells ∧ A.slots + ks' ≤ R.slots) (fun A _ v B => ∃ L, Qc v B.U.heap L ∧ B.locs = A.locs ++ L ∧ B.cells = A.cells + kc' ∧ B.slots = A.slots + ks' ∧ CHr Z EL vm0 h B.U.vm B.U.heap))
    {b : Addr} (eT : T.heap = h) (E : Exa Z h b C)
    (hg : g.method = m) (hsize : g.locals.size = c.maxLocals) {argsL rest : List Value} (hlen : ∀ sig, parseMethodDescriptor y.desc = some sig → argsL.length = sig.parameters.length)
    (hstack : g.stack = argsL.reverse ++ .ref b :: rest) (hW : 2 * g.monitorRoom + (rest.map fun v => v.category).sum ≤ W) (hdg : decode c.code g.pc = .ok (.invokevirtual index, 3)) (ha : (.ref b :: argsL).toArray = as') (hc : cells + kc' ≤ R.cells) (hs : slots + ks' ≤ R.slots)
    (k : ∀ (v : Option Value) (T' : State) (L : List Loc), Qc v T'.heap L → AfterW p l e R s m args below meth c Z EL vm0 h own T' (locs ++ L) (cells + kc') (slots + ks') → Goes p e below F T' { g with pc := g.pc + 3, stack := v.toList ++ rest }) : Goes p e below F T g := by
  obtain ⟨cq, kq, qa, qb, qc⟩ := isOf (s := s.setVm vm0) hZ eT E
  obtain ⟨v, vm₁, ⟨T', L', k', n'⟩, -, X', hS', hgr, ⟨L, hQ, h1, h2, h3, hC⟩, st⟩ := X.virtualBackS hx hown hlink hdecl hnf hsel hinst hy hK qa qc hg hsize (Steps.refl _) hlen hstack hW hdg (fun _ _ => ⟨ha, eT, hc, hs⟩)
  dsimp only [Pt.U, Pt.locs, Pt.cells, Pt.slots] at X' h1 h2 h3 st hQ hS' hgr hC
  subst h1 h2 h3
  exact Goes.step (fun t q => st.trans q) (k v T' L hQ (AfterW.of hS hk eT hZ hown X' hS' hgr hC))
end OwnW
end Jvm.RoadKit
namespace Jvm.RoadKit
open Sem ClassFile Op Lib Bundle Jvm.Stand Jvm.Free Jvm.LawKit Jvm.Free.SB Jvm.Free.SBG
/-- a String whose 'value' is null is no booked constant -/
theorem own_safeNull {Z : State} {EL : List (String × Nat)} {vm : Vm} {h : Heap} {x : Addr} (hal : Z.vm.Alike vm) (E : Exa Z h x "java/lang/String") (V : Fld Z h x "java/lang/String" "value" "[B" .null) : Safe Z EL vm h x := fun B => by
  obtain ⟨cell, k, e1, e2, e3, -, -⟩ := E
  have nm : ∀ {n : String} {c : ClassId}, vm.findClass n = some c → c = cell.cls → n = "java/lang/String" := fun {n c} f e => by
    subst e
    rw [hal.findClass] at f
    obtain ⟨k1, q1, q2⟩ := Vm.findClass_spec f
    obtain ⟨k2, q3, q4⟩ := Vm.findClass_spec e2
    cases q1.symm.trans q3
    exact q2.symm.trans q4
  obtain ⟨p, -, u, a, -, q, -, F, rfl | rfl⟩ := B
  · cases (show h[q.sa]? = some q.sC from F.ha).symm.trans e1
    obtain ⟨cS, ⟨⟨s1, s2, s3, ⟨cv, kv, iv, s4, s4'⟩, ⟨cc, kc, ic, s5, s5'⟩, s6, s7, s8, -⟩, -, -⟩, -⟩ := F
    obtain ⟨kv', z4⟩ := ff_back (U := Wst Z vm h) hal s4
    obtain ⟨cell2, cf, kf, i2, f2, g1, g2, -, -, -, -, g7⟩ := V
    cases g1.symm.trans e1
    cases g2.symm.trans z4
    cases g7.symm.trans s8
  · cases (show h[q.sd]? = some q.SA from F.hd).symm.trans e1
    obtain ⟨cS, -, -, f, -⟩ := F
    have := nm f rfl
    revert this; decide
end Jvm.RoadKit
namespace Jvm.RoadKit
open Sem ClassFile Op Lib Jvm.Stand Jvm.Free Jvm.LawKit
theorem own_and255 (x : Int32) : ¬ (x &&& 255) < 0 ∧ ¬ (255 : Int32) < (x &&& 255) := by
  have t : ∀ k : Fin 256, ¬ (Int32.ofNat k.val) < 0 ∧ ¬ (255 : Int32) < (Int32.ofNat k.val) := by decide +kernel
  have h : (x &&& 255).toBitVec.toNat < 256 := by
    simp only [Int32.toBitVec_and, BitVec.toNat_and]
    exact Nat.lt_succ_of_le Nat.and_le_right
  have e : (x &&& 255) = Int32.ofNat (x &&& 255).toBitVec.toNat := by
    apply Int32.toBitVec_inj.mp
    show _ = BitVec.ofNat 32 _
    rw [BitVec.ofNat_toNat]; simp
  rw [e]
  exact t ⟨_, h⟩
theorem own_byteOf {c : Int32} (h : ¬ c < 0 ∧ ¬ (255 : Int32) < c) : ∃ k : Fin 256, c = Int32.ofNat k.val := by
  obtain ⟨h1, h2⟩ := h
  rw [Int32.lt_iff_toInt_lt] at h1 h2
  have e0 : (0 : Int32).toInt = 0 := rfl
  have e1 : (255 : Int32).toInt = 255 := rfl
  refine ⟨⟨c.toInt.toNat, by omega⟩, ?_⟩
  apply Int32.toInt_inj.mp
  show c.toInt = (Int32.ofNat c.toInt.toNat).toInt
  rw [Int32.toInt_ofNat_of_lt (by omega)]
  omega
theorem own_nar {c : Int32} (h : ¬ c < 0 ∧ ¬ (255 : Int32) < c) : nar .char c = c := by
  have t : ∀ k : Fin 256, nar .char (Int32.ofNat k.val) = Int32.ofNat k.val := by decide +kernel
  obtain ⟨k, rfl⟩ := own_byteOf h
  exact t k
theorem own_i2c {c : Int32} (h : ¬ c < 0 ∧ ¬ (255 : Int32) < c) : c.toUInt32.toUInt16.toUInt32.toInt32 = c := own_nar h
end Jvm.RoadKit
namespace Jvm.RoadKit
open Sem ClassFile Op Lib Jvm.Stand Jvm.Free Jvm.LawKit
theorem own_land255 (x : Int64) : ¬ ((x &&& (255 : Int64)).toInt32) < 0 ∧ ¬ (255 : Int32) < ((x &&& (255 : Int64)).toInt32) := by
  have t : ∀ k : Fin 256, ¬ (Int64.ofNat k.val).toInt32 < 0 ∧ ¬ (255 : Int32) < (Int64.ofNat k.val).toInt32 := by decide +kernel
  have h : (x &&& 255).toBitVec.toNat < 256 := by
    simp only [Int64.toBitVec_and, BitVec.toNat_and]
    exact Nat.lt_succ_of_le Nat.and_le_right
  have e : (x &&& 255) = Int64.ofNat (x &&& 255).toBitVec.toNat := by
    apply Int64.toBitVec_inj.mp
    show _ = BitVec.ofNat 64 _
    rw [BitVec.ofNat_toNat]; simp
  rw [e]
  exact t ⟨_, h⟩
theorem own_len3 {cs : List Int32} (le : cs.length ≤ 4) (h : (Int32.ofNat cs.length) = (3 : Int32)) : ∃ a b c, cs = [a, b, c] := by
  match cs, le, h with
  | [], _, h => exact absurd h (show ¬ (Int32.ofNat 0 = _) by decide)
  | [_], _, h => exact absurd h (show ¬ (Int32.ofNat 1 = _) by decide)
  | [_, _], _, h => exact absurd h (show ¬ (Int32.ofNat 2 = _) by decide)
  | [a, b, c], _, _ => exact ⟨a, b, c, rfl⟩
  | [_, _, _, _], _, h => exact absurd h (show ¬ (Int32.ofNat 4 = _) by decide)
  | _ :: _ :: _ :: _ :: _ :: _, le, _ => simp at le
theorem own_len4 {cs : List Int32} (le : cs.length ≤ 4) (h : (Int32.ofNat cs.length) = (4 : Int32)) : ∃ a b c d, cs = [a, b, c, d] := by
  match cs, le, h with
  | [], _, h => exact absurd h (show ¬ (Int32.ofNat 0 = _) by decide)
  | [_], _, h => exact absurd h (show ¬ (Int32.ofNat 1 = _) by decide)
  | [_, _], _, h => exact absurd h (show ¬ (Int32.ofNat 2 = _) by decide)
  | [_, _, _], _, h => exact absurd h (show ¬ (Int32.ofNat 3 = _) by decide)
  | [a, b, c, d], _, _ => exact ⟨a, b, c, d, rfl⟩
  | _ :: _ :: _ :: _ :: _ :: _, le, _ => simp at le
end Jvm.RoadKit
/- laws to paste: Road.backV, Road.eqW, Road.lenW, Road.chN, Road.codOf (cut by pick.py; bodies as the Statement names them) -/
namespace Jvm.Pilot.@@N@@
namespace StrChars
open Jvm Sem ClassFile Op Lib Jvm.Stand Jvm.Free.XT Jvm.Free.ALB Jvm.Free.JM Jvm.Free
open Jvm.Lib.Cold (StaticIs)
/-- a char array whose places are chars -/
def Ch (a : Addr) (A : Cell) (U : State) : Prop := Arr .char a A U ∧ Typed .char A
theorem Ch.mv {a : Addr} {A : Cell} {U U' : State} (h : Ch a A U) (hal : U.vm.Alike U'.vm) (hh : U'.heap = U.heap) : Ch a A U' := ⟨h.1.mv hal hh, h.2⟩
theorem Ch.keep {a : Addr} {A : Cell} {U U' : State} (h : Ch a A U) (hal : U.vm.Alike U'.vm) (hk : U'.heap[a]? = some A) : Ch a A U' := ⟨h.1.keep hal hk, h.2⟩
/-- what place i of a char[]'s cell holds -/
def cv (A : Cell) (i : Nat) : Int32 := match A.slots[i]? with | some (.int x) => x | _ => 0
theorem Ch.get {a : Addr} {A : Cell} {U : State} (h : Ch a A U) {i : Nat} (hi : i < A.slots.size) : A.slots[i]? = some (.int (cv A i)) := by
  have e := Array.getElem?_eq_getElem hi
  have f := h.2 i _ e
  unfold cv; rw [e]
  generalize A.slots[i] = v at f
  cases v <;> simp [fits] at f ⊢
/-- the byte that i2b leaves of a char -/
def lo8 (x : Int32) : Int32 := x.toInt8.toInt32
theorem fits_lo8 (y : Int32) : fits .byte (.int (lo8 y)) = true := by
  have h1 := y.toInt8.le_toInt
  have h2 := y.toInt8.toInt_lt
  simp only [lo8, fits, Bool.and_eq_true, decide_eq_true_eq, Int32.le_iff_toInt_le, Int8.toInt_toInt32, show (-128 : Int32).toInt = -128 from by decide, show (127 : Int32).toInt = 127 from by decide]
  omega
/-- A' is A but that each place j of lo .. hi - 1 holds f j -/
def Laid (A A' : Cell) (lo hi : Nat) (f : Nat → Value) : Prop := A'.cls = A.cls ∧ A'.vm = A.vm ∧ A'.slots.size = A.slots.size ∧ ∀ i, A'.slots[i]? = if lo ≤ i ∧ i < hi then some (f i) else A.slots[i]?
theorem Laid.zero (A : Cell) (lo : Nat) (f : Nat → Value) : Laid A A lo (lo + 0) f := ⟨rfl, rfl, rfl, fun i => by rw [if_neg (by omega)]⟩
theorem Laid.step {A Ak : Cell} {lo k : Nat} {f : Nat → Value} {v : Value} (h : Laid A Ak lo k f) (hlo : lo ≤ k) (hk : k < Ak.slots.size) (hv : v = f k) : Laid A (Ak.setSlot k v) lo (k + 1) f := by
  refine ⟨h.1, h.2.1, by simpa [Cell.setSlot] using h.2.2.1, fun i => ?_⟩
  by_cases e : k = i
  · subst e; rw [Cell.slots_setSlot_self v hk, if_pos (by omega), hv]
  · rw [Cell.slots_setSlot_ne v e, h.2.2.2 i]
    by_cases q : lo ≤ i ∧ i < k
    · rw [if_pos q, if_pos (by omega)]
    · rw [if_neg q, if_neg (by omega)]
def U16 : String := "java/lang/StringUTF16"
namespace Cmp5
def yN : MethodName := ⟨"java/lang/StringUTF16", "compress", "([CI[BII)I"⟩
abbrev yB : ByteArray := jdk_52_method_21_code
theorem d0 : decode yB 0 = .ok (.iconst 0, 1) := by decide +kernel
theorem d1 : decode yB 1 = .ok (.istore 5, 2) := by decide +kernel
theorem d3 : decode yB 3 = .ok (.iload 5, 2) := by decide +kernel
theorem d5 : decode yB 5 = .ok (.iload 4, 2) := by decide +kernel
theorem d7 : decode yB 7 = .ok (.if_icmp (.ge) 37, 3) := by decide +kernel
theorem d10 : decode yB 10 = .ok (.aload_n 0, 1) := by decide +kernel
theorem d11 : decode yB 11 = .ok (.iload_n 1, 1) := by decide +kernel
theorem d12 : decode yB 12 = .ok (.caload, 1) := by decide +kernel
theorem d13 : decode yB 13 = .ok (.istore 6, 2) := by decide +kernel
theorem d15 : decode yB 15 = .ok (.iload 6, 2) := by decide +kernel
theorem d17 : decode yB 17 = .ok (.sipush 255, 3) := by decide +kernel
theorem d20 : decode yB 20 = .ok (.if_icmp (.le) 6, 3) := by decide +kernel
theorem d26 : decode yB 26 = .ok (.aload_n 2, 1) := by decide +kernel
theorem d27 : decode yB 27 = .ok (.iload_n 3, 1) := by decide +kernel
theorem d28 : decode yB 28 = .ok (.iload 6, 2) := by decide +kernel
theorem d30 : decode yB 30 = .ok (.i2b, 1) := by decide +kernel
theorem d31 : decode yB 31 = .ok (.bastore, 1) := by decide +kernel
theorem d32 : decode yB 32 = .ok (.iinc 1 1, 3) := by decide +kernel
theorem d35 : decode yB 35 = .ok (.iinc 3 1, 3) := by decide +kernel
theorem d38 : decode yB 38 = .ok (.iinc 5 1, 3) := by decide +kernel
theorem d41 : decode yB 41 = .ok (.goto (-38), 3) := by decide +kernel
theorem d44 : decode yB 44 = .ok (.iload 4, 2) := by decide +kernel
theorem d46 : decode yB 46 = .ok (.ireturn, 1) := by decide +kernel
def site : List Cond := []
def tab : Cond := tabOf yN yB 7 (some .int) site
def P (b : Addr) (A : Cell) (d : Addr) (B : Cell) (o q len : Nat) (args : Array Value) (s : State) : Prop := args = #[.ref b, .int (Int32.ofNat o), .ref d, .int (Int32.ofNat q), .int (Int32.ofNat len)] ∧ Ch b A s ∧ Arr .byte d B s ∧ b ≠ d ∧ o + len ≤ A.slots.size ∧ q + len ≤ B.slots.size ∧ ∀ i, i < len → ¬ 255 < cv A (o + i)
def E (b : Addr) (A : Cell) (d : Addr) (B : Cell) (o q len : Nat) (r : Option Value) (s u : State) : Prop := r = some (.int (Int32.ofNat len)) ∧ ∃ B', Put d B' s u ∧ Laid B B' q (q + len) (fun j => Value.int (lo8 (cv A (o + (j - q)))))
/-- no char of the range above 255: len; the places written hold each char's low byte -/
theorem law (l : Launch) (b : Addr) (A : Cell) (d : Addr) (B : Cell) (o q len : Nat) : Law l yN 5 5 0 0 yB 7 (some .int) site (P b A d B o q len) (E b A d B o q len) (copyLocs d q len) 0 0 := by
  refine Law.of_walk (plainFor_of_name (by decide +kernel)) (by decide +kernel) (by decide +kernel) (by decide) (fun _ _ h => by rw [h.1]; rfl) (fun _ U U' hal hh h => ⟨h.1, h.2.1.mv hal hh, h.2.2.1.mv hal hh, h.2.2.2⟩) (fun r U U' V V' h1 hal h2 h => ⟨h.1, h.2.elim fun B' q => ⟨B', q.1.mv h1 h2, q.2⟩⟩) ?_
  intro p e s m args below meth c s₁ X0 hexec hbytes hml hret hlk hnm hown hh0 W hP
  obtain ⟨rfl, hA, hB, hne, l1, l2, hp⟩ := hP
  have c1 : Steps p.tables e below (s₁.setTop (entryFrame m #[.ref b, .int (Int32.ofNat o), .ref d, .int (Int32.ofNat q), .int (Int32.ofNat len)] 7)) (s₁.setTop (mkF m 0 #[.val (.ref b), .val (.int (Int32.ofNat o)), .val (.ref d), .val (.int (Int32.ofNat q)), .val (.int (Int32.ofNat len)), .unset, .unset] [])) := entry rfl
  have hA0 := hA.1.mv X0.warmed.alike hh0
  have hB0 := hB.mv X0.warmed.alike hh0
  have a31 := hA.1.2.2.2
  have c2 : Steps p.tables e below (s₁.setTop (entryFrame m #[.ref b, .int (Int32.ofNat o), .ref d, .int (Int32.ofNat q), .int (Int32.ofNat len)] 7)) (s₁.setTop (mkF m 3 #[.val (.ref b), .val (.int (Int32.ofNat o)), .val (.ref d), .val (.int (Int32.ofNat q)), .val (.int (Int32.ofNat len)), .val (.int 0), .unset] [])) := c1.trans (by
    refine iconstV X0.here hexec rfl 0 (hb hbytes d0) (by decide) ?_
    refine XS.istore X0.here hexec rfl (hb hbytes d1) rfl rfl ?_
    exact Steps.refl _)
  have loop : ∀ (r i : Nat), i + r = len → ∀ (z : Slot), (z = .unset ∨ ∃ w, z = .val w ∧ w.category = 1) → ∀ (Tl : State) (Bk : Cell), Stand p l e { frames := 0, locals := 0, cells := 0, slots := 0 } s m #[.ref b, .int (Int32.ofNat o), .ref d, .int (Int32.ofNat q), .int (Int32.ofNat len)] below meth c Tl ([] ++ copyLocs d q i) 0 0 → Put d Bk s₁ Tl → Laid B Bk q (q + i) (fun j => Value.int (lo8 (cv A (o + (j - q))))) →
      Steps p.tables e below (s₁.setTop (entryFrame m #[.ref b, .int (Int32.ofNat o), .ref d, .int (Int32.ofNat q), .int (Int32.ofNat len)] 7)) (Tl.setTop (mkF m 3 #[.val (.ref b), .val (.int (Int32.ofNat (o + i))), .val (.ref d), .val (.int (Int32.ofNat (q + i))), .val (.int (Int32.ofNat len)), .val (.int (Int32.ofNat i)), z] [])) → ∃ (T' : State) (B' : Cell) (z' : Slot), Stand p l e { frames := 0, locals := 0, cells := 0, slots := 0 } s m #[.ref b, .int (Int32.ofNat o), .ref d, .int (Int32.ofNat q), .int (Int32.ofNat len)] below meth c T' ([] ++ copyLocs d q len) 0 0 ∧ Put d B' s₁ T' ∧ Laid B B' q (q + len) (fun j => Value.int (lo8 (cv A (o + (j - q))))) ∧
      Steps p.tables e below (s₁.setTop (entryFrame m #[.ref b, .int (Int32.ofNat o), .ref d, .int (Int32.ofNat q), .int (Int32.ofNat len)] 7)) (T'.setTop (mkF m 3 #[.val (.ref b), .val (.int (Int32.ofNat (o + len))), .val (.ref d), .val (.int (Int32.ofNat (q + len))), .val (.int (Int32.ofNat len)), .val (.int (Int32.ofNat len)), z'] [])) := by
    intro r
    induction r with
    | zero =>
      intro i hi z hz Tl Bk Xl pl fl cl
      have hil : i = len := by omega
      rw [hil] at Xl fl cl
      exact ⟨Tl, Bk, z, Xl, pl, fl, cl⟩
    | succ r ih =>
      intro i hi z hz Tl Bk Xl pl fl cl
      have all := X0.warmed.alike.symm.trans Xl.warmed.alike
      have hAl := hA0.keep all (pl.other hne hA0.1)
      have hBk := hB0.like all pl.1 fl.1 fl.2.1 fl.2.2.1
      have hlt : q + i < Bk.slots.size := by rw [fl.2.2.1]; omega
      have c3 : Steps p.tables e below (s₁.setTop (entryFrame m #[.ref b, .int (Int32.ofNat o), .ref d, .int (Int32.ofNat q), .int (Int32.ofNat len)] 7)) (Tl.setTop (mkF m 12 #[.val (.ref b), .val (.int (Int32.ofNat (o + i))), .val (.ref d), .val (.int (Int32.ofNat (q + i))), .val (.int (Int32.ofNat len)), .val (.int (Int32.ofNat i)), z] [.int (Int32.ofNat (o + i)), .ref b])) := cl.trans (by
        refine XS.iload Xl.here hexec rfl (hb hbytes d3) rfl ?_
        refine XS.iload Xl.here hexec rfl (hb hbytes d5) rfl ?_
        refine XS.icmpNo Xl.here hexec rfl (hb hbytes d7) rfl (ii_ge_f (lt32 (by omega) (by omega))) ?_
        refine XS.aloadN Xl.here hexec rfl (hb hbytes d10) rfl rfl ?_
        refine XS.iloadN Xl.here hexec rfl (hb hbytes d11) rfl ?_
        exact Steps.refl _)
      have c4 : Steps p.tables e below (s₁.setTop (entryFrame m #[.ref b, .int (Int32.ofNat o), .ref d, .int (Int32.ofNat q), .int (Int32.ofNat len)] 7)) (Tl.setTop (mkF m 13 #[.val (.ref b), .val (.int (Int32.ofNat (o + i))), .val (.ref d), .val (.int (Int32.ofNat (q + i))), .val (.int (Int32.ofNat len)), .val (.int (Int32.ofNat i)), z] [.int (cv A (o + i))])) := c3.trans (by
        refine Xl.aget hexec hAl rfl (hA.get (i := o + i) (by omega)) rfl rfl (hb hbytes d12) ?_
        exact Steps.refl _)
      have c5 : Steps p.tables e below (s₁.setTop (entryFrame m #[.ref b, .int (Int32.ofNat o), .ref d, .int (Int32.ofNat q), .int (Int32.ofNat len)] 7)) (Tl.setTop (mkF m 15 #[.val (.ref b), .val (.int (Int32.ofNat (o + i))), .val (.ref d), .val (.int (Int32.ofNat (q + i))), .val (.int (Int32.ofNat len)), .val (.int (Int32.ofNat i)), .val (.int (cv A (o + i)))] [])) := c4.trans (by
        refine XS.istoreS Xl.here hexec rfl (hb hbytes d13) rfl rfl hz ?_
        exact Steps.refl _)
      have c6 : Steps p.tables e below (s₁.setTop (entryFrame m #[.ref b, .int (Int32.ofNat o), .ref d, .int (Int32.ofNat q), .int (Int32.ofNat len)] 7)) (Tl.setTop (mkF m 31 #[.val (.ref b), .val (.int (Int32.ofNat (o + i))), .val (.ref d), .val (.int (Int32.ofNat (q + i))), .val (.int (Int32.ofNat len)), .val (.int (Int32.ofNat i)), .val (.int (cv A (o + i)))] [.int (lo8 (cv A (o + i))), .int (Int32.ofNat (q + i)), .ref d])) := c5.trans (by
        refine XS.iload Xl.here hexec rfl (hb hbytes d15) rfl ?_
        refine sipushV Xl.here hexec rfl 255 (hb hbytes d17) (by decide) ?_
        refine XS.icmpYes Xl.here hexec rfl (pc0 := 20) rfl (hb hbytes d20) rfl (ii_le_t (hp i (by omega))) (by decide) rfl ?_
        refine XS.aloadN Xl.here hexec rfl (hb hbytes d26) rfl rfl ?_
        refine XS.iloadN Xl.here hexec rfl (hb hbytes d27) rfl ?_
        refine XS.iload Xl.here hexec rfl (hb hbytes d28) rfl ?_
        refine i2b Xl.here hexec rfl (hb hbytes d30) rfl ?_
        exact Steps.refl _)
      obtain ⟨T7, X7, p7, st7⟩ := Xl.aput hexec hBk rfl hlt rfl (fits_lo8 (cv A (o + i))) (g := (mkF m 31 #[.val (.ref b), .val (.int (Int32.ofNat (o + i))), .val (.ref d), .val (.int (Int32.ofNat (q + i))), .val (.int (Int32.ofNat len)), .val (.int (Int32.ofNat i)), .val (.int (cv A (o + i)))] [.int (lo8 (cv A (o + i))), .int (Int32.ofNat (q + i)), .ref d])) rfl (rest := []) rfl (hb hbytes d31)
      have c8 : Steps p.tables e below (s₁.setTop (entryFrame m #[.ref b, .int (Int32.ofNat o), .ref d, .int (Int32.ofNat q), .int (Int32.ofNat len)] 7)) (T7.setTop (mkF m 32 #[.val (.ref b), .val (.int (Int32.ofNat (o + i))), .val (.ref d), .val (.int (Int32.ofNat (q + i))), .val (.int (Int32.ofNat len)), .val (.int (Int32.ofNat i)), .val (.int (cv A (o + i)))] [])) := c6.trans (st7 _ (Steps.refl _))
      have c9 : Steps p.tables e below (s₁.setTop (entryFrame m #[.ref b, .int (Int32.ofNat o), .ref d, .int (Int32.ofNat q), .int (Int32.ofNat len)] 7)) (T7.setTop (mkF m 3 #[.val (.ref b), .val (.int (Int32.ofNat (o + i) + 1)), .val (.ref d), .val (.int (Int32.ofNat (q + i) + 1)), .val (.int (Int32.ofNat len)), .val (.int (Int32.ofNat i + 1)), .val (.int (cv A (o + i)))] [])) := c8.trans (by
        refine iincV X7.here hexec rfl 1 (hb hbytes d32) (by decide) rfl rfl ?_
        refine iincV X7.here hexec rfl 1 (hb hbytes d35) (by decide) rfl rfl ?_
        refine iincV X7.here hexec rfl 1 (hb hbytes d38) (by decide) rfl rfl ?_
        refine XS.goto X7.here hexec rfl (pc0 := 41) rfl (hb hbytes d41) (by decide) rfl ?_
        exact Steps.refl _)
      have c10 : Steps p.tables e below (s₁.setTop (entryFrame m #[.ref b, .int (Int32.ofNat o), .ref d, .int (Int32.ofNat q), .int (Int32.ofNat len)] 7)) (T7.setTop (mkF m 3 #[.val (.ref b), .val (.int (Int32.ofNat (o + (i + 1)))), .val (.ref d), .val (.int (Int32.ofNat (q + (i + 1)))), .val (.int (Int32.ofNat len)), .val (.int (Int32.ofNat (i + 1))), .val (.int (cv A (o + i)))] [])) := by
        have := c9
        rw [succ32, succ32, succ32] at this
        exact this
      exact ih (i + 1) (by omega) _ (Or.inr ⟨_, rfl, rfl⟩) T7 _ (by rw [copyLocs_step, ← List.append_assoc]; exact X7) (pl.trans p7) (fl.step (by omega) hlt (by simp)) c10
  obtain ⟨T9, B9, z9, X9, p9, f9, g9⟩ := loop len 0 (by omega) .unset (Or.inl rfl) s₁ B (by simpa [copyLocs] using X0) ⟨hB0.1, fun _ _ => rfl, rfl⟩ (Laid.zero _ _ _) c2
  have c11 : Steps p.tables e below (s₁.setTop (entryFrame m #[.ref b, .int (Int32.ofNat o), .ref d, .int (Int32.ofNat q), .int (Int32.ofNat len)] 7)) (T9.setTop (mkF m 46 #[.val (.ref b), .val (.int (Int32.ofNat (o + len))), .val (.ref d), .val (.int (Int32.ofNat (q + len))), .val (.int (Int32.ofNat len)), .val (.int (Int32.ofNat len)), z9] [.int (Int32.ofNat len)])) := g9.trans (by
    refine XS.iload X9.here hexec rfl (hb hbytes d3) rfl ?_
    refine XS.iload X9.here hexec rfl (hb hbytes d5) rfl ?_
    refine XS.icmpYes X9.here hexec rfl (pc0 := 7) rfl (hb hbytes d7) rfl (ii_ge_t (nlt32 (by omega) (Nat.le_refl _))) (by decide) rfl ?_
    refine XS.iload X9.here hexec rfl (hb hbytes d44) rfl ?_
    exact Steps.refl _)
  exact ⟨T9, some (.int (Int32.ofNat len)), _, _, _, X9, by simp, rfl, rfl, (fun h => by cases h), ⟨rfl, B9, p9.from hh0, f9⟩, fun fs hl => c11.trans (X9.ireturnOut hexec hret rfl (Or.inl rfl) (hb hbytes d46) hl)⟩
end Cmp5
namespace Cmp3
def yN : MethodName := ⟨"java/lang/StringUTF16", "compress", "([CII)[B"⟩
abbrev yB : ByteArray := jdk_52_method_16_code
theorem d0 : decode yB 0 = .ok (.iload_n 2, 1) := by decide +kernel
theorem d1 : decode yB 1 = .ok (.newarray .byte, 2) := by decide +kernel
theorem d3 : decode yB 3 = .ok (.astore_n 3, 1) := by decide +kernel
theorem d4 : decode yB 4 = .ok (.aload_n 0, 1) := by decide +kernel
theorem d5 : decode yB 5 = .ok (.iload_n 1, 1) := by decide +kernel
theorem d6 : decode yB 6 = .ok (.aload_n 3, 1) := by decide +kernel
theorem d7 : decode yB 7 = .ok (.iconst 0, 1) := by decide +kernel
theorem d8 : decode yB 8 = .ok (.iload_n 2, 1) := by decide +kernel
theorem d9 : decode yB 9 = .ok (.invokestatic 115, 3) := by decide +kernel
theorem d12 : decode yB 12 = .ok (.istore 4, 2) := by decide +kernel
theorem d14 : decode yB 14 = .ok (.iload 4, 2) := by decide +kernel
theorem d16 : decode yB 16 = .ok (.iload_n 2, 1) := by decide +kernel
theorem d17 : decode yB 17 = .ok (.if_icmp (.eq) 40, 3) := by decide +kernel
theorem d57 : decode yB 57 = .ok (.aload_n 3, 1) := by decide +kernel
theorem d58 : decode yB 58 = .ok (.areturn, 1) := by decide +kernel
def site : List Cond := [.arrayClass .byte, Cmp5.tab] ++ staticW U16 115 Cmp5.yN
def tab : Cond := tabOf yN yB 6 (some (.array .byte)) site
def P (b : Addr) (A : Cell) (o len : Nat) (args : Array Value) (s : State) : Prop := args = #[.ref b, .int (Int32.ofNat o), .int (Int32.ofNat len)] ∧ Ch b A s ∧ o + len ≤ A.slots.size ∧ len ≤ 536870912 ∧ ∀ i, i < len → ¬ 255 < cv A (o + i)
def E (b : Addr) (A : Cell) (o len : Nat) (r : Option Value) (s u : State) : Prop := NewArr .byte "[B" len (fun j => .int (lo8 (cv A (o + j)))) r s u ∧ u.heap.size = s.heap.size + 1
/-- no char of the range above 255: a new byte[] of their low bytes -/
theorem law (l : Launch) (b : Addr) (A : Cell) (o len : Nat) : Law l yN 3 3 1 18 yB 6 (some (.array .byte)) site (P b A o len) (E b A o len) [] 1 len := by
  refine Law.of_walk (plainFor_of_name (by decide +kernel)) (by decide +kernel) (by decide +kernel) (by decide) (fun _ _ h => by rw [h.1]; rfl) (fun _ U U' hal hh h => ⟨h.1, h.2.1.mv hal hh, h.2.2⟩) (fun r U U' V V' h1 hal h2 h => ⟨NewArr.mv r U U' V V' h1 hal h2 h.1, by rw [h1, h2]; exact h.2⟩) ?_
  intro p e s m args below meth c s₁ X0 hexec hbytes hml hret hlk hnm hown hh0 W hP
  obtain ⟨rfl, hA, l1, l2, hp⟩ := hP
  have a31 := hA.1.2.2.2
  have c1 : Steps p.tables e below (s₁.setTop (entryFrame m #[.ref b, .int (Int32.ofNat o), .int (Int32.ofNat len)] 6)) (s₁.setTop (mkF m 0 #[.val (.ref b), .val (.int (Int32.ofNat o)), .val (.int (Int32.ofNat len)), .unset, .unset, .unset] [])) := entry rfl
  have c2 : Steps p.tables e below (s₁.setTop (entryFrame m #[.ref b, .int (Int32.ofNat o), .int (Int32.ofNat len)] 6)) (s₁.setTop (mkF m 1 #[.val (.ref b), .val (.int (Int32.ofNat o)), .val (.int (Int32.ofNat len)), .unset, .unset, .unset] [.int (Int32.ofNat len)])) := c1.trans (by
    refine XS.iloadN X0.here hexec rfl (hb hbytes d0) rfl ?_
    exact Steps.refl _)
  obtain ⟨T3, B3, X3, ba3, bs3, bv3, bh3, bf3, st3⟩ := X0.anew hexec (atype := .byte) (wk W (.arrayClass .byte)) rfl (by show len * 1 ≤ _; omega) (by omega) (g := (mkF m 1 #[.val (.ref b), .val (.int (Int32.ofNat o)), .val (.int (Int32.ofNat len)), .unset, .unset, .unset] [.int (Int32.ofNat len)])) rfl (hb hbytes d1) (rest := []) rfl (Nat.le_refl _) (by show 0 + len ≤ len; omega)
  rw [hh0] at ba3 st3
  have kp3 : XT.Kept s T3 := (XT.Kept.of_eq hh0).push bh3
  have hA3 := hA.keep X3.warmed.alike (kp3 _ _ hA.1.1)
  have hne : b ≠ s.heap.size := hA.1.ne
  have c4 : Steps p.tables e below (s₁.setTop (entryFrame m #[.ref b, .int (Int32.ofNat o), .int (Int32.ofNat len)] 6)) (T3.setTop (mkF m 3 #[.val (.ref b), .val (.int (Int32.ofNat o)), .val (.int (Int32.ofNat len)), .unset, .unset, .unset] [.ref s.heap.size])) := c2.trans (st3 _ (Steps.refl _))
  have c5 : Steps p.tables e below (s₁.setTop (entryFrame m #[.ref b, .int (Int32.ofNat o), .int (Int32.ofNat len)] 6)) (T3.setTop (mkF m 9 #[.val (.ref b), .val (.int (Int32.ofNat o)), .val (.int (Int32.ofNat len)), .val (.ref s.heap.size), .unset, .unset] [.int (Int32.ofNat len), .int 0, .ref s.heap.size, .int (Int32.ofNat o), .ref b])) := c4.trans (by
    refine XS.astoreN X3.here hexec rfl (hb hbytes d3) rfl rfl rfl ?_
    refine XS.aloadN X3.here hexec rfl (hb hbytes d4) rfl rfl ?_
    refine XS.iloadN X3.here hexec rfl (hb hbytes d5) rfl ?_
    refine XS.aloadN X3.here hexec rfl (hb hbytes d6) rfl rfl ?_
    refine iconstV X3.here hexec rfl 0 (hb hbytes d7) (by decide) ?_
    refine XS.iloadN X3.here hexec rfl (hb hbytes d8) rfl ?_
    exact Steps.refl _)
  obtain ⟨v6, T6, X6, E6, g6⟩ := X3.callS hexec (Cmp5.law l b A s.heap.size B3 o 0 len) hown (wks W (staticW U16 115 Cmp5.yN)) (wk W Cmp5.tab) (W := 0) (Nat.le_of_ble_eq_true rfl) (Nat.le_of_ble_eq_true rfl) (Nat.le_refl _) (by show 0 + len + 0 ≤ len; omega) (g := (mkF m 9 #[.val (.ref b), .val (.int (Int32.ofNat o)), .val (.int (Int32.ofNat len)), .val (.ref s.heap.size), .unset, .unset] [.int (Int32.ofNat len), .int (Int32.ofNat 0), .ref s.heap.size, .int (Int32.ofNat o), .ref b])) rfl (by rw [hml]; rfl) c5 (argsL := [.ref b, .int (Int32.ofNat o), .ref s.heap.size, .int (Int32.ofNat 0), .int (Int32.ofNat len)]) (rest := []) rfl rfl (by show 2 * 0 + 0 ≤ _; decide) (hb hbytes d9) (⟨rfl, hA3, ba3, hne, l1, by rw [bs3]; simp, hp⟩)
  obtain ⟨rfl, B6, p6, f6⟩ := E6
  have c7 : Steps p.tables e below (s₁.setTop (entryFrame m #[.ref b, .int (Int32.ofNat o), .int (Int32.ofNat len)] 6)) (T6.setTop (mkF m 12 #[.val (.ref b), .val (.int (Int32.ofNat o)), .val (.int (Int32.ofNat len)), .val (.ref s.heap.size), .unset, .unset] [.int (Int32.ofNat len)])) := g6
  have c8 : Steps p.tables e below (s₁.setTop (entryFrame m #[.ref b, .int (Int32.ofNat o), .int (Int32.ofNat len)] 6)) (T6.setTop (mkF m 58 #[.val (.ref b), .val (.int (Int32.ofNat o)), .val (.int (Int32.ofNat len)), .val (.ref s.heap.size), .val (.int (Int32.ofNat len)), .unset] [.ref s.heap.size])) := c7.trans (by
    refine XS.istore X6.here hexec rfl (hb hbytes d12) rfl rfl ?_
    refine XS.iload X6.here hexec rfl (hb hbytes d14) rfl ?_
    refine XS.iloadN X6.here hexec rfl (hb hbytes d16) rfl ?_
    refine XS.icmpYes X6.here hexec rfl (pc0 := 17) rfl (hb hbytes d17) rfl (ii_eq_t rfl) (by decide) rfl ?_
    refine XS.aloadN X6.here hexec rfl (hb hbytes d57) rfl rfl ?_
    exact Steps.refl _)
  have X8 := X6.wide (L' := []) (cells' := 1) (slots' := len) (fun x hx hlt => by
    simp only [List.nil_append, copyLocs, List.mem_map, List.mem_range] at hx
    obtain ⟨i, -, rfl⟩ := hx
    exact absurd hlt (Nat.lt_irrefl _)) (Nat.le_refl _) (by omega)
  exact ⟨T6, some (.ref s.heap.size), _, _, _, X8, rfl, rfl, rfl, (fun h => by cases h), ⟨⟨rfl, B6, ba3.like (X3.warmed.alike.symm.trans X6.warmed.alike) p6.1 f6.1 f6.2.1 f6.2.2.1, f6.2.1.trans bv3, by rw [X6.warmed.alike.findClass, f6.1]; exact bf3, by rw [f6.2.2.1, bs3]; simp, fun j hj => by rw [f6.2.2.2 j, if_pos (by omega)]; rfl, kp3.put p6 (Nat.le_refl _)⟩, by rw [p6.2.2, bh3, hh0]; simp⟩, fun fs hl => c8.trans (X8.areturnOut hexec rfl hret rfl (hb hbytes d58) hl)⟩
end Cmp3
namespace CodL
def yN : MethodName := ⟨"java/lang/StringUTF16", "coderFromArrayLen", "([BI)B"⟩
abbrev yB : ByteArray := jdk_52_method_15_code
theorem d0 : decode yB 0 = .ok (.iload_n 1, 1) := by decide +kernel
theorem d1 : decode yB 1 = .ok (.aload_n 0, 1) := by decide +kernel
theorem d2 : decode yB 2 = .ok (.arraylength, 1) := by decide +kernel
theorem d3 : decode yB 3 = .ok (.isub, 1) := by decide +kernel
theorem d4 : decode yB 4 = .ok (.bipush 31, 2) := by decide +kernel
theorem d6 : decode yB 6 = .ok (.iushr, 1) := by decide +kernel
theorem d7 : decode yB 7 = .ok (.i2b, 1) := by decide +kernel
theorem d8 : decode yB 8 = .ok (.ireturn, 1) := by decide +kernel
def site : List Cond := []
def tab : Cond := tabOf yN yB 2 (some .byte) site
def P (d : Addr) (B : Cell) (args : Array Value) (s : State) : Prop := args = #[.ref d, .int (Int32.ofNat B.slots.size)] ∧ Arr .byte d B s
def E (r : Option Value) (s u : State) : Prop := XT.PureE (some (.int 0)) r s u
/-- an array as long as the number of chars: LATIN1 -/
theorem law (l : Launch) (d : Addr) (B : Cell) : Law l yN 2 2 0 0 yB 2 (some .byte) site (P d B) E [] 0 0 := by
  refine Law.of_walk (plainFor_of_name (by decide +kernel)) (by decide +kernel) (by decide +kernel) (by decide) (fun _ _ h => by rw [h.1]; rfl) (fun _ U U' hal hh h => ⟨h.1, h.2.mv hal hh⟩) (fun r U U' V V' h1 hal h2 h => XT.PureE.mv r U U' V V' h1 hal h2 h) ?_
  intro p e s m args below meth c s₁ X0 hexec hbytes hml hret hlk hnm hown hh0 W hP
  obtain ⟨rfl, hB⟩ := hP
  have hB0 := hB.mv X0.warmed.alike hh0
  have c1 : Steps p.tables e below (s₁.setTop (entryFrame m #[.ref d, .int (Int32.ofNat B.slots.size)] 2)) (s₁.setTop (mkF m 0 #[.val (.ref d), .val (.int (Int32.ofNat B.slots.size))] [])) := entry rfl
  have c2 : Steps p.tables e below (s₁.setTop (entryFrame m #[.ref d, .int (Int32.ofNat B.slots.size)] 2)) (s₁.setTop (mkF m 2 #[.val (.ref d), .val (.int (Int32.ofNat B.slots.size))] [.ref d, .int (Int32.ofNat B.slots.size)])) := c1.trans (by
    refine XS.iloadN X0.here hexec rfl (hb hbytes d0) rfl ?_
    refine XS.aloadN X0.here hexec rfl (hb hbytes d1) rfl rfl ?_
    exact Steps.refl _)
  have c3 : Steps p.tables e below (s₁.setTop (entryFrame m #[.ref d, .int (Int32.ofNat B.slots.size)] 2)) (s₁.setTop (mkF m 8 #[.val (.ref d), .val (.int (Int32.ofNat B.slots.size))] [.int (lo8 (ushr (Int32.ofNat B.slots.size - Int32.ofNat B.slots.size) 31))])) := c2.trans (by
    refine X0.alen hexec hB0 rfl rfl (hb hbytes d2) ?_
    refine XS.isub X0.here hexec rfl (hb hbytes d3) rfl ?_
    refine bipushV X0.here hexec rfl 31 (hb hbytes d4) (by decide) ?_
    refine iushr X0.here hexec rfl (hb hbytes d6) rfl ?_
    refine i2b X0.here hexec rfl (hb hbytes d7) rfl ?_
    exact Steps.refl _)
  have e0 : lo8 (ushr (Int32.ofNat B.slots.size - Int32.ofNat B.slots.size) 31) = 0 := by rw [Int32.sub_self]; decide
  rw [e0] at c3
  exact ⟨s₁, some (.int 0), _, _, _, X0, rfl, rfl, rfl, (fun h => by cases h), ⟨rfl, hh0⟩, fun fs hl => c3.trans (X0.ireturnOut hexec hret rfl (Or.inr (Or.inr (Or.inl rfl))) (hb hbytes d8) hl)⟩
end CodL
/-- the String at a is Latin-1 over a new byte[] (the heap's one new cell): the low bytes of the len chars of A from o on; every cell but a is kept -/
def Got (a : Addr) (D : Cell) (fV fC : Field) (A : Cell) (o len : Nat) (r : Option Value) (s u : State) : Prop := r = none ∧ ∃ D' V : Cell, Blank "java/lang/String" a D' u ∧ Same D D' [fV.slot, fC.slot] ∧ D'.slots[fV.slot]? = some (.ref s.heap.size) ∧ D'.slots[fC.slot]? = some (.int 0) ∧ Arr .byte s.heap.size V u ∧ V.vm = .none ∧ u.vm.findClass "[B" = some V.cls ∧ V.slots.size = len ∧ (∀ j, j < len → V.slots[j]? = some (.int (lo8 (cv A (o + j))))) ∧ (∀ (y : Addr) (c : Cell), y ≠ a → s.heap[y]? = some c → u.heap[y]? = some c) ∧ u.heap.size = s.heap.size + 1
theorem Got.mv {a : Addr} {D A : Cell} {fV fC : Field} {o len : Nat} : ∀ r (U U' V V' : State), U'.heap = U.heap → V.vm.Alike V'.vm → V'.heap = V.heap → Got a D fV fC A o len r U V → Got a D fV fC A o len r U' V' :=
  fun r U U' V V' h1 hal h2 ⟨e0, D', X, a1, a2, a3, a4, a5, a6, a7, a8, a9, a10, a11⟩ => ⟨e0, D', X, a1.mv hal h2, a2, by rw [h1]; exact a3, a4, by rw [h1]; exact a5.mv hal h2, a6, by rw [hal.findClass]; exact a7, a8, a9, by rw [h1, h2]; exact a10, by rw [h1, h2]; exact a11⟩
namespace New4
def yN : MethodName := ⟨"java/lang/String", "<init>", "([CIILjava/lang/Void;)V"⟩
abbrev yB : ByteArray := jdk_42_method_149_code
theorem d0 : decode yB 0 = .ok (.aload_n 0, 1) := by decide +kernel
theorem d1 : decode yB 1 = .ok (.invokespecial 1, 3) := by decide +kernel
theorem d4 : decode yB 4 = .ok (.iload_n 3, 1) := by decide +kernel
theorem d5 : decode yB 5 = .ok (.ifCond (.ne) 22, 3) := by decide +kernel
theorem d27 : decode yB 27 = .ok (.getstatic 38, 3) := by decide +kernel
theorem d30 : decode yB 30 = .ok (.ifCond (.eq) 28, 3) := by decide +kernel
theorem d33 : decode yB 33 = .ok (.aload_n 1, 1) := by decide +kernel
theorem d34 : decode yB 34 = .ok (.iload_n 2, 1) := by decide +kernel
theorem d35 : decode yB 35 = .ok (.iload_n 3, 1) := by decide +kernel
theorem d36 : decode yB 36 = .ok (.invokestatic 177, 3) := by decide +kernel
theorem d39 : decode yB 39 = .ok (.astore 5, 2) := by decide +kernel
theorem d41 : decode yB 41 = .ok (.aload_n 0, 1) := by decide +kernel
theorem d42 : decode yB 42 = .ok (.aload 5, 2) := by decide +kernel
theorem d44 : decode yB 44 = .ok (.iload_n 3, 1) := by decide +kernel
theorem d45 : decode yB 45 = .ok (.invokestatic 47, 3) := by decide +kernel
theorem d48 : decode yB 48 = .ok (.putfield 15, 3) := by decide +kernel
theorem d51 : decode yB 51 = .ok (.aload_n 0, 1) := by decide +kernel
theorem d52 : decode yB 52 = .ok (.aload 5, 2) := by decide +kernel
theorem d54 : decode yB 54 = .ok (.putfield 9, 3) := by decide +kernel
theorem d57 : decode yB 57 = .ok (.return_, 1) := by decide +kernel
def site : List Cond := [.fieldLink "java/lang/String" 38 "java/lang/String" "COMPACT_STRINGS" "Z", Cmp3.tab, CodL.tab, .laysFinal "java/lang/String" "java/lang/String" "value" "[B", .fieldLink "java/lang/String" 9 "java/lang/String" "value" "[B", .laysFinal "java/lang/String" "java/lang/String" "coder" "B", .fieldLink "java/lang/String" 15 "java/lang/String" "coder" "B"] ++ objW "java/lang/String" 1 ++ staticW "java/lang/String" 177 Cmp3.yN ++ staticW "java/lang/String" 47 CodL.yN
def tab : Cond := tabOf yN yB 6 none site
def P (a : Addr) (D : Cell) (fV fC : Field) (b : Addr) (A : Cell) (z : Int32) (o len : Nat) (args : Array Value) (s : State) : Prop := args = #[.ref a, .ref b, .int (Int32.ofNat o), .int (Int32.ofNat len), .null] ∧ Blank "java/lang/String" a D s ∧ Found "java/lang/String" "value" "[B" fV s ∧ Found "java/lang/String" "coder" "B" fC s ∧ Ch b A s ∧ StaticIs s "java/lang/String" "COMPACT_STRINGS" "Z" (.int z) ∧ ¬ z = 0 ∧ 0 < len ∧ o + len ≤ A.slots.size ∧ len ≤ 536870912 ∧ ∀ i, i < len → ¬ 255 < cv A (o + i)
def E (a : Addr) (D : Cell) (fV fC : Field) (A : Cell) (o len : Nat) (r : Option Value) (s u : State) : Prop := Got a D fV fC A o len r s u
/-- len > 0, no char of the range above 255: a Latin-1 String of their low bytes -/
theorem law (l : Launch) (a : Addr) (D : Cell) (fV fC : Field) (b : Addr) (A : Cell) (z : Int32) (o len : Nat) : Law l yN 5 4 2 35 yB 6 none site (P a D fV fC b A z o len) (E a D fV fC A o len) [⟨a, fC.slot⟩, ⟨a, fV.slot⟩] 1 len := by
  refine Law.of_walk (plainFor_of_name (by decide +kernel)) (by decide +kernel) (by decide +kernel) (by decide) (fun _ _ h => by rw [h.1]; rfl) (fun _ U U' hal hh h => ⟨h.1, h.2.1.mv hal hh, h.2.2.1.al hal, h.2.2.2.1.al hal, h.2.2.2.2.1.mv hal hh, h.2.2.2.2.2.1.there hal hh, h.2.2.2.2.2.2⟩) (fun r U U' V V' h1 hal h2 h => Got.mv r U U' V V' h1 hal h2 h) ?_
  intro p e s m args below meth c s₁ X0 hexec hbytes hml hret hlk hnm hown hh0 W hP
  obtain ⟨rfl, hB, f1, f2, hA, s1, hz, l0, l1, l2, hp⟩ := hP
  have a31 := hA.1.2.2.2
  have c1 : Steps p.tables e below (s₁.setTop (entryFrame m #[.ref a, .ref b, .int (Int32.ofNat o), .int (Int32.ofNat len), .null] 6)) (s₁.setTop (mkF m 0 #[.val (.ref a), .val (.ref b), .val (.int (Int32.ofNat o)), .val (.int (Int32.ofNat len)), .val .null, .unset] [])) := entry rfl
  have c2 : Steps p.tables e below (s₁.setTop (entryFrame m #[.ref a, .ref b, .int (Int32.ofNat o), .int (Int32.ofNat len), .null] 6)) (s₁.setTop (mkF m 1 #[.val (.ref a), .val (.ref b), .val (.int (Int32.ofNat o)), .val (.int (Int32.ofNat len)), .val .null, .unset] [.ref a])) := c1.trans (by
    refine XS.aloadN X0.here hexec rfl (hb hbytes d0) rfl rfl ?_
    exact Steps.refl _)
  obtain ⟨T3, X3, q3, st3⟩ := X0.oinit hexec hown (wks W (objW "java/lang/String" 1)) (g := (mkF m 1 #[.val (.ref a), .val (.ref b), .val (.int (Int32.ofNat o)), .val (.int (Int32.ofNat len)), .val .null, .unset] [.ref a])) rfl (by rw [hml]; rfl) (rest := []) rfl (hb hbytes d1) (W := 0) (by show 2 * 0 + 0 ≤ _; decide) (Nat.le_of_ble_eq_true rfl) (Nat.le_of_ble_eq_true rfl)
  have hh3 := q3.trans hh0
  have c4 : Steps p.tables e below (s₁.setTop (entryFrame m #[.ref a, .ref b, .int (Int32.ofNat o), .int (Int32.ofNat len), .null] 6)) (T3.setTop (mkF m 27 #[.val (.ref a), .val (.ref b), .val (.int (Int32.ofNat o)), .val (.int (Int32.ofNat len)), .val .null, .unset] [])) := (c2.trans (st3 _ (Steps.refl _))).trans (by
    refine XS.iloadN X3.here hexec rfl (hb hbytes d4) rfl ?_
    refine XS.ifYes X3.here hexec rfl (pc0 := 5) rfl (hb hbytes d5) rfl (i0_ne_t (nz32 (by omega) l0)) (by decide) rfl ?_
    exact Steps.refl _)
  obtain ⟨T5, X5, q5, st5⟩ := X3.sget hexec hown (wk W (.fieldLink "java/lang/String" 38 "java/lang/String" "COMPACT_STRINGS" "Z")) s1 (fun _ _ h => by rw [hh3]; exact h) (g := (mkF m 27 #[.val (.ref a), .val (.ref b), .val (.int (Int32.ofNat o)), .val (.int (Int32.ofNat len)), .val .null, .unset] [])) rfl (hb hbytes d27)
  have hh5 := q5.trans hh3
  have c6 : Steps p.tables e below (s₁.setTop (entryFrame m #[.ref a, .ref b, .int (Int32.ofNat o), .int (Int32.ofNat len), .null] 6)) (T5.setTop (mkF m 30 #[.val (.ref a), .val (.ref b), .val (.int (Int32.ofNat o)), .val (.int (Int32.ofNat len)), .val .null, .unset] [.int z])) := c4.trans (st5 _ (Steps.refl _))
  have c7 : Steps p.tables e below (s₁.setTop (entryFrame m #[.ref a, .ref b, .int (Int32.ofNat o), .int (Int32.ofNat len), .null] 6)) (T5.setTop (mkF m 36 #[.val (.ref a), .val (.ref b), .val (.int (Int32.ofNat o)), .val (.int (Int32.ofNat len)), .val .null, .unset] [.int (Int32.ofNat len), .int (Int32.ofNat o), .ref b])) := c6.trans (by
    refine XS.ifNo X5.here hexec rfl (hb hbytes d30) rfl (i0_eq_f hz) ?_
    refine XS.aloadN X5.here hexec rfl (hb hbytes d33) rfl rfl ?_
    refine XS.iloadN X5.here hexec rfl (hb hbytes d34) rfl ?_
    refine XS.iloadN X5.here hexec rfl (hb hbytes d35) rfl ?_
    exact Steps.refl _)
  obtain ⟨v8, T8, X8, E8, g8⟩ := X5.callS hexec (Cmp3.law l b A o len) hown (wks W (staticW "java/lang/String" 177 Cmp3.yN)) (wk W Cmp3.tab) (W := 0) (Nat.le_of_ble_eq_true rfl) (Nat.le_of_ble_eq_true rfl) (Nat.le_refl _) (by show 0 + len ≤ len; omega) (g := (mkF m 36 #[.val (.ref a), .val (.ref b), .val (.int (Int32.ofNat o)), .val (.int (Int32.ofNat len)), .val .null, .unset] [.int (Int32.ofNat len), .int (Int32.ofNat o), .ref b])) rfl (by rw [hml]; rfl) c7 (argsL := [.ref b, .int (Int32.ofNat o), .int (Int32.ofNat len)]) (rest := []) rfl rfl (by show 2 * 0 + 0 ≤ _; decide) (hb hbytes d36) (⟨rfl, hA.mv X5.warmed.alike hh5, l1, l2, hp⟩)
  obtain ⟨e8, z8⟩ := E8
  obtain ⟨rfl, N, n1, n2, n3, n4, n5, n6⟩ := NewArr.mv _ T5 s _ _ hh5.symm (Vm.Alike.refl _) rfl e8
  rw [hh5] at z8
  have hB1 := hB.keep X8.warmed.alike (n6 _ _ hB.1)
  have hne : s.heap.size ≠ a := (Nat.ne_of_lt (Array.getElem?_eq_some_iff.mp hB.1).1).symm
  have c9 : Steps p.tables e below (s₁.setTop (entryFrame m #[.ref a, .ref b, .int (Int32.ofNat o), .int (Int32.ofNat len), .null] 6)) (T8.setTop (mkF m 39 #[.val (.ref a), .val (.ref b), .val (.int (Int32.ofNat o)), .val (.int (Int32.ofNat len)), .val .null, .unset] [.ref s.heap.size])) := g8
  have c10 : Steps p.tables e below (s₁.setTop (entryFrame m #[.ref a, .ref b, .int (Int32.ofNat o), .int (Int32.ofNat len), .null] 6)) (T8.setTop (mkF m 45 #[.val (.ref a), .val (.ref b), .val (.int (Int32.ofNat o)), .val (.int (Int32.ofNat len)), .val .null, .val (.ref s.heap.size)] [.int (Int32.ofNat N.slots.size), .ref s.heap.size, .ref a])) := by
    have hc : Steps p.tables e below (s₁.setTop (entryFrame m #[.ref a, .ref b, .int (Int32.ofNat o), .int (Int32.ofNat len), .null] 6)) (T8.setTop (mkF m 45 #[.val (.ref a), .val (.ref b), .val (.int (Int32.ofNat o)), .val (.int (Int32.ofNat len)), .val .null, .val (.ref s.heap.size)] [.int (Int32.ofNat len), .ref s.heap.size, .ref a])) := c9.trans (by
      refine XS.astore X8.here hexec rfl (hb hbytes d39) rfl rfl rfl ?_
      refine XS.aloadN X8.here hexec rfl (hb hbytes d41) rfl rfl ?_
      refine XS.aload X8.here hexec rfl (hb hbytes d42) rfl rfl ?_
      refine XS.iloadN X8.here hexec rfl (hb hbytes d44) rfl ?_
      exact Steps.refl _)
    rw [n4]; exact hc
  obtain ⟨v11, T11, X11, E11, g11⟩ := X8.callS hexec (CodL.law l s.heap.size N) hown (wks W (staticW "java/lang/String" 47 CodL.yN)) (wk W CodL.tab) (W := 1) (Nat.le_of_ble_eq_true rfl) (Nat.le_of_ble_eq_true rfl) (Nat.le_refl _) (by show 0 + len + 0 ≤ len; omega) (g := (mkF m 45 #[.val (.ref a), .val (.ref b), .val (.int (Int32.ofNat o)), .val (.int (Int32.ofNat len)), .val .null, .val (.ref s.heap.size)] [.int (Int32.ofNat N.slots.size), .ref s.heap.size, .ref a])) rfl (by rw [hml]; rfl) c10 (argsL := [.ref s.heap.size, .int (Int32.ofNat N.slots.size)]) (rest := [.ref a]) rfl rfl (by show 2 * 0 + (1 + 0) ≤ _; decide) (hb hbytes d45) (⟨rfl, n1⟩)
  obtain ⟨rfl, q11⟩ := E11
  have hB11 := hB1.mv (X8.warmed.alike.symm.trans X11.warmed.alike) q11
  have c12 : Steps p.tables e below (s₁.setTop (entryFrame m #[.ref a, .ref b, .int (Int32.ofNat o), .int (Int32.ofNat len), .null] 6)) (T11.setTop (mkF m 48 #[.val (.ref a), .val (.ref b), .val (.int (Int32.ofNat o)), .val (.int (Int32.ofNat len)), .val .null, .val (.ref s.heap.size)] [.int 0, .ref a])) := g11
  obtain ⟨T13, X13, p13, bl13, sl13, st13⟩ := X11.finit hexec hown (wk W (.fieldLink "java/lang/String" 15 "java/lang/String" "coder" "B")) (Or.inr ⟨_, (wk W (.laysFinal "java/lang/String" "java/lang/String" "coder" "B"))⟩) (Or.inl ⟨rfl, hnm⟩) f2 (Or.inl rfl) hB11 (t := .byte) (by decide +kernel) rfl (g := (mkF m 48 #[.val (.ref a), .val (.ref b), .val (.int (Int32.ofNat o)), .val (.int (Int32.ofNat len)), .val .null, .val (.ref s.heap.size)] [.int 0, .ref a])) rfl (rest := []) rfl (hb hbytes d48)
  have c14 : Steps p.tables e below (s₁.setTop (entryFrame m #[.ref a, .ref b, .int (Int32.ofNat o), .int (Int32.ofNat len), .null] 6)) (T13.setTop (mkF m 54 #[.val (.ref a), .val (.ref b), .val (.int (Int32.ofNat o)), .val (.int (Int32.ofNat len)), .val .null, .val (.ref s.heap.size)] [.ref s.heap.size, .ref a])) := (c12.trans (st13 _ (Steps.refl _))).trans (by
    refine XS.aloadN X13.here hexec rfl (hb hbytes d51) rfl rfl ?_
    refine XS.aload X13.here hexec rfl (hb hbytes d52) rfl rfl ?_
    exact Steps.refl _)
  obtain ⟨T15, X15, p15, bl15, sl15, st15⟩ := X13.finit hexec hown (wk W (.fieldLink "java/lang/String" 9 "java/lang/String" "value" "[B")) (Or.inr ⟨_, (wk W (.laysFinal "java/lang/String" "java/lang/String" "value" "[B"))⟩) (Or.inl ⟨rfl, hnm⟩) f1 (Or.inl rfl) bl13 (t := (.array .byte)) (by decide +kernel) rfl (g := (mkF m 54 #[.val (.ref a), .val (.ref b), .val (.int (Int32.ofNat o)), .val (.int (Int32.ofNat len)), .val .null, .val (.ref s.heap.size)] [.ref s.heap.size, .ref a])) rfl (rest := []) rfl (hb hbytes d54)
  have c16 : Steps p.tables e below (s₁.setTop (entryFrame m #[.ref a, .ref b, .int (Int32.ofNat o), .int (Int32.ofNat len), .null] 6)) (T15.setTop (mkF m 57 #[.val (.ref a), .val (.ref b), .val (.int (Int32.ofNat o)), .val (.int (Int32.ofNat len)), .val .null, .val (.ref s.heap.size)] [])) := c14.trans (st15 _ (Steps.refl _))
  have ap := apart (Or.inr ⟨_, (wk W (.laysFinal "java/lang/String" "java/lang/String" "value" "[B"))⟩) (Or.inr ⟨_, (wk W (.laysFinal "java/lang/String" "java/lang/String" "coder" "B"))⟩) f1 f2 (t₁ := .array .byte) (t₂ := .byte) (by decide +kernel) (by decide +kernel) (by decide)
  have al := X8.warmed.alike.symm.trans X15.warmed.alike
  have n7 : T11.heap[s.heap.size]? = some N := by rw [q11]; exact n1.1
  exact ⟨T15, none, _, _, _, X15, by simp, rfl, by omega, (fun _ => rfl), ⟨rfl, _, N, bl15, ((Same.refl D _).set _ (by simp)).set _ (by simp), sl15, (Cell.slots_setSlot_ne _ ap).trans sl13, n1.keep al (p15.other hne (p13.other hne n7)), n2, by rw [al.findClass]; exact n3, n4, n5, fun y c h1 h2 => p15.other h1 (p13.other h1 (by rw [q11]; exact n6 y c h2)), by rw [p15.2.2, p13.2.2, q11]; exact z8⟩, fun fs hl => c16.trans (X15.returnOut hexec hret (hb hbytes d57) hl)⟩
end New4
namespace New1
def yN : MethodName := ⟨"java/lang/String", "<init>", "([C)V"⟩
abbrev yB : ByteArray := jdk_42_method_3_code
theorem d0 : decode yB 0 = .ok (.aload_n 0, 1) := by decide +kernel
theorem d1 : decode yB 1 = .ok (.aload_n 1, 1) := by decide +kernel
theorem d2 : decode yB 2 = .ok (.iconst 0, 1) := by decide +kernel
theorem d3 : decode yB 3 = .ok (.aload_n 1, 1) := by decide +kernel
theorem d4 : decode yB 4 = .ok (.arraylength, 1) := by decide +kernel
theorem d5 : decode yB 5 = .ok (.aconst_null, 1) := by decide +kernel
theorem d6 : decode yB 6 = .ok (.invokespecial 27, 3) := by decide +kernel
theorem d9 : decode yB 9 = .ok (.return_, 1) := by decide +kernel
def site : List Cond := [New4.tab] ++ initW "java/lang/String" 27 New4.yN
def tab : Cond := tabOf yN yB 2 none site
def P (a : Addr) (D : Cell) (fV fC : Field) (b : Addr) (A : Cell) (z : Int32) (args : Array Value) (s : State) : Prop := args = #[.ref a, .ref b] ∧ Blank "java/lang/String" a D s ∧ Found "java/lang/String" "value" "[B" fV s ∧ Found "java/lang/String" "coder" "B" fC s ∧ Ch b A s ∧ StaticIs s "java/lang/String" "COMPACT_STRINGS" "Z" (.int z) ∧ ¬ z = 0 ∧ 0 < A.slots.size ∧ A.slots.size ≤ 536870912 ∧ ∀ i, i < A.slots.size → ¬ 255 < cv A i
def E (a : Addr) (D : Cell) (fV fC : Field) (A : Cell) (r : Option Value) (s u : State) : Prop := Got a D fV fC A 0 A.slots.size r s u
/-- new String(chars), not empty, no char above 255: a Latin-1 String of their low bytes -/
theorem law (l : Launch) (a : Addr) (D : Cell) (fV fC : Field) (b : Addr) (A : Cell) (z : Int32) : Law l yN 2 1 3 52 yB 2 none site (P a D fV fC b A z) (E a D fV fC A) [⟨a, fC.slot⟩, ⟨a, fV.slot⟩] 1 A.slots.size := by
  refine Law.of_walk (plainFor_of_name (by decide +kernel)) (by decide +kernel) (by decide +kernel) (by decide) (fun _ _ h => by rw [h.1]; rfl) (fun _ U U' hal hh h => ⟨h.1, h.2.1.mv hal hh, h.2.2.1.al hal, h.2.2.2.1.al hal, h.2.2.2.2.1.mv hal hh, h.2.2.2.2.2.1.there hal hh, h.2.2.2.2.2.2⟩) (fun r U U' V V' h1 hal h2 h => Got.mv r U U' V V' h1 hal h2 h) ?_
  intro p e s m args below meth c s₁ X0 hexec hbytes hml hret hlk hnm hown hh0 W hP
  obtain ⟨rfl, hB, f1, f2, hA, s1, hz, l0, l2, hp⟩ := hP
  have c1 : Steps p.tables e below (s₁.setTop (entryFrame m #[.ref a, .ref b] 2)) (s₁.setTop (mkF m 0 #[.val (.ref a), .val (.ref b)] [])) := entry rfl
  have c2 : Steps p.tables e below (s₁.setTop (entryFrame m #[.ref a, .ref b] 2)) (s₁.setTop (mkF m 6 #[.val (.ref a), .val (.ref b)] [.null, .int (Int32.ofNat A.slots.size), .int 0, .ref b, .ref a])) := c1.trans (by
    refine XS.aloadN X0.here hexec rfl (hb hbytes d0) rfl rfl ?_
    refine XS.aloadN X0.here hexec rfl (hb hbytes d1) rfl rfl ?_
    refine iconstV X0.here hexec rfl 0 (hb hbytes d2) (by decide) ?_
    refine XS.aloadN X0.here hexec rfl (hb hbytes d3) rfl rfl ?_
    refine X0.alen hexec (hA.1.mv X0.warmed.alike hh0) rfl rfl (hb hbytes d4) ?_
    refine XS.aconstNull X0.here hexec rfl (hb hbytes d5) ?_
    exact Steps.refl _)
  obtain ⟨v3, T3, X3, E3, g3⟩ := X0.callN hexec (New4.law l a D fV fC b A z 0 A.slots.size) rfl hown (wks W (initW "java/lang/String" 27 New4.yN)) (W New4.tab (by simp only [site, List.mem_cons, List.mem_append, true_or, or_true])) (W := 0) (Nat.le_of_ble_eq_true rfl) (Nat.le_of_ble_eq_true rfl) (Nat.le_refl _) (by show 0 + A.slots.size ≤ A.slots.size; omega) (g := (mkF m 6 #[.val (.ref a), .val (.ref b)] [.null, .int (Int32.ofNat A.slots.size), .int (Int32.ofNat 0), .ref b, .ref a])) rfl (by rw [hml]; rfl) c2 (argsL := [.ref b, .int (Int32.ofNat 0), .int (Int32.ofNat A.slots.size), .null]) (rest := []) rfl rfl (by show 2 * 0 + 0 ≤ _; decide) (hb hbytes d6) (⟨rfl, hB.mv X0.warmed.alike hh0, f1.al X0.warmed.alike, f2.al X0.warmed.alike, hA.mv X0.warmed.alike hh0, s1.there X0.warmed.alike hh0, hz, l0, by omega, l2, fun i hi => by rw [Nat.zero_add]; exact hp i hi⟩)
  have e0 := Got.mv _ s₁ s _ _ hh0.symm (Vm.Alike.refl _) rfl E3
  obtain rfl := e0.1
  have c4 : Steps p.tables e below (s₁.setTop (entryFrame m #[.ref a, .ref b] 2)) (T3.setTop (mkF m 9 #[.val (.ref a), .val (.ref b)] [])) := g3
  exact ⟨T3, none, _, _, _, X3, by simp, rfl, by omega, (fun _ => rfl), e0, fun fs hl => c4.trans (X3.returnOut hexec hret (hb hbytes d9) hl)⟩
theorem pays {l : Launch} {R : Room} {p : Program} {e : Env} {below : List Frame} {s : State} {sargs : Array Value} {len W : Nat} (a : Addr) (D : Cell) (fV fC : Field) (b : Addr) (A : Cell) (z : Int32) (htab : tab.before sargs s = true) (hfr : 4 ≤ R.frames) (hlo : W + 65 ≤ R.locals) :
    Back l R p e below s sargs yN len W (fun A₁ a₁ => A₁.cells + 1 ≤ R.cells ∧ A₁.slots + A.slots.size ≤ R.slots ∧ P a D fV fC b A z a₁ A₁.U) (fun A₁ _ v₁ B₁ => E a D fV fC A v₁ A₁.U B₁.U ∧ B₁.locs = A₁.locs ++ [⟨a, fC.slot⟩, ⟨a, fV.slot⟩] ∧ B₁.cells = A₁.cells + 1 ∧ B₁.slots = A₁.slots + A.slots.size) :=
  (law l a D fV fC b A z).pays htab hfr (by omega)
end New1
/-- the byte, read back as charAt reads it, is the char -/
theorem lo8_mask {x : Int32} (h0 : ¬ x < 0) (h1 : ¬ 255 < x) : lo8 x &&& 255 = x := by
  have t : ∀ k : Fin 256, lo8 (Int32.ofNat k.val) &&& 255 = Int32.ofNat k.val := by decide +kernel
  rw [Int32.lt_iff_toInt_lt] at h0 h1
  have e0 : (0 : Int32).toInt = 0 := rfl
  have e1 : (255 : Int32).toInt = 255 := rfl
  obtain ⟨k, hk⟩ : ∃ k : Nat, x.toInt = k := ⟨x.toInt.toNat, by omega⟩
  have hx : x = Int32.ofNat k := Int32.toInt_inj.mp (by rw [hk, Int32.toInt_ofNat_small (by omega)])
  rw [hx]
  exact t ⟨k, by omega⟩
end StrChars
namespace StrChars.Road
open Jvm Sem ClassFile Op Lib Jvm.Stand Jvm.Free Jvm.Free.XT
open Jvm.Lib.Cold (StaticIs)
abbrev ST : String := "java/lang/String"
/-- every table word that New1's law asks, flat -/
abbrev words : List Jvm.Cond := [.code New1.yN New1.yB 2 none, .initialized ST, .methodLink ST 27 New4.yN, .instanceMethod New4.yN,
  .code New4.yN New4.yB 6 none, .fieldLink ST 38 ST "COMPACT_STRINGS" "Z", .laysFinal ST ST "value" "[B", .fieldLink ST 9 ST "value" "[B", .laysFinal ST ST "coder" "B", .fieldLink ST 15 ST "coder" "B",
  .methodLink ST 1 Lib.objectInit, .instanceMethod Lib.objectInit, .code Lib.objectInit ⟨#[0xb1]⟩ 1 none, .methodLink ST 177 Cmp3.yN, .static Cmp3.yN, .methodLink ST 47 CodL.yN, .static CodL.yN,
  .code Cmp3.yN Cmp3.yB 6 (some (.array .byte)), .initialized U16, .arrayClass .byte, .methodLink U16 115 Cmp5.yN, .static Cmp5.yN, .code Cmp5.yN Cmp5.yB 7 (some .int), .code CodL.yN CodL.yB 2 (some .byte)]
theorem tab_of {a : Array Value} {s : State} (h : ∀ w ∈ words, w.before a s = true) : New1.tab.before a s = true := by
  have h5 : Cmp5.tab.before a s = true := unparts (wk h (.code Cmp5.yN Cmp5.yB 7 (some .int))) (wks h (.initialized Cmp5.yN.cls :: Cmp5.site))
  have hc : CodL.tab.before a s = true := unparts (wk h (.code CodL.yN CodL.yB 2 (some .byte))) (wks h (.initialized CodL.yN.cls :: CodL.site))
  have q5 : ∀ w ∈ Cmp5.tab :: words, w.before a s = true := fun w hw => (List.mem_cons.mp hw).elim (fun e => e ▸ h5) (h w)
  have h3 : Cmp3.tab.before a s = true := unparts (wk q5 (.code Cmp3.yN Cmp3.yB 6 (some (.array .byte)))) (wks q5 (.initialized Cmp3.yN.cls :: Cmp3.site))
  have q3 : ∀ w ∈ Cmp3.tab :: CodL.tab :: words, w.before a s = true := fun w hw => (List.mem_cons.mp hw).elim (fun e => e ▸ h3) fun hw => (List.mem_cons.mp hw).elim (fun e => e ▸ hc) (h w)
  have h4 : New4.tab.before a s = true := unparts (wk q3 (.code New4.yN New4.yB 6 none)) (wks q3 (.initialized New4.yN.cls :: New4.site))
  have q4 : ∀ w ∈ New4.tab :: words, w.before a s = true := fun w hw => (List.mem_cons.mp hw).elim (fun e => e ▸ h4) (h w)
  exact unparts (wk q4 (.code New1.yN New1.yB 2 none)) (wks q4 (.initialized New1.yN.cls :: New1.site))
/-- the words ride from the start Z to the walk's own state -/
theorem moved {Z s : State} {a0 args : Array Value} (hZ : Z.Warmed39 s.vm) (hw : ∀ d ∈ words, d.before a0 Z = true) : ∀ d ∈ words, d.before args s = true := fun d hd => by
  have q := hw d hd
  have t : ∀ d ∈ words, d = .arrayClass .byte ∨ (d.onTables && d.keepsFace) = true := by decide +kernel
  rcases t d hd with rfl | t
  · exact RoadKit.mvA hZ q
  · exact RoadKit.mv hZ q t
/-- WHAT COMES BACK, over the tables of the start Z: h the heap at the call, h' behind it -/
def Q (Z : State) (x : Addr) (A : Cell) (h : Heap) (v : Option Value) (h' : Heap) (L : List Loc) : Prop := v = none ∧ (∀ y ∈ L, y.base = x) ∧ RoadKit.Keep h h' [x] ∧ h'.size = h.size + 1 ∧ RoadKit.Exa Z h' x ST ∧ RoadKit.Fld Z h' x ST "value" "[B" (.ref h.size) ∧ RoadKit.Fld Z h' x ST "coder" "B" (.int 0) ∧
  (∃ V : Cell, RoadKit.Arr Z h' h.size V .byte ∧ V.vm = .none ∧ Z.vm.findClass "[B" = some V.cls ∧ V.slots.size = A.slots.size ∧ ∀ j, j < A.slots.size → V.slots[j]? = some (.int (lo8 (cv A j)))) ∧
  ∀ (O n d : String) (w : Value), RoadKit.Fld Z h x O n d w → RoadKit.slotOf Z O n d ≠ RoadKit.slotOf Z ST "value" "[B" → RoadKit.slotOf Z O n d ≠ RoadKit.slotOf Z ST "coder" "B" → RoadKit.Fld Z h' x O n d w
/-- **new String(chars) AT A CALL, IN THE ROAD'S FORM**: for specialBack behind newO: x the fresh String, b the char[] with the cell A -/
theorem back {p : Program} {l : Launch} {e : Env} {R : Room} {s : State} {args : Array Value} {below : List Frame} {len W : Nat} {Z : State} {a0 : Array Value} {h : Heap} (hZ : Z.Warmed39 s.vm) (hw : ∀ d ∈ words, d.before a0 Z = true) {kI : Nat} (wi : (Jvm.Cond.instantiable ST kI).before a0 Z = true)
    {x b : Addr} {A : Cell} {z : Int32} {v0 c0 : Value} (E : RoadKit.Exa Z h x ST) (V : RoadKit.Fld Z h x ST "value" "[B" v0) (C : RoadKit.Fld Z h x ST "coder" "B" c0) (K : RoadKit.Arr Z h b A .char) (hty : Typed .char A) (S : RoadKit.Sta Z h ST "COMPACT_STRINGS" "Z" (.int z)) (hz : ¬ z = 0)
    (l0 : 0 < A.slots.size) (l2 : A.slots.size ≤ 536870912) (hp : ∀ i, i < A.slots.size → ¬ 255 < cv A i) (hfr : 4 ≤ R.frames) (hlo : W + 65 ≤ R.locals) :
    Back l R p e below s args New1.yN len W (fun P a => a = #[.ref x, .ref b] ∧ P.U.heap = h ∧ P.cells + 1 ≤ R.cells ∧ P.slots + A.slots.size ≤ R.slots)
      (fun P _ v B => ∃ L, Q Z x A h v B.U.heap L ∧ B.locs = P.locs ++ L ∧ B.cells = P.cells + 1 ∧ B.slots = P.slots + A.slots.size) := by
  intro m meth c P g ig mk a X hg hsize hdg hW hn hp'
  obtain ⟨rfl, rfl, r1, r2⟩ := hp'
  have al : Z.vm.Alike P.U.vm := hZ.alike.trans X.warmed.alike
  obtain ⟨D, cfV, kV, iV, fV, hD, gV, stV, knV, obV, asV, slV⟩ := id V
  obtain ⟨D', cfC, kC, iC, fC, hD', gC, stC, -, -, asC, slC⟩ := id C
  cases hD.symm.trans hD'
  obtain ⟨D2, kD, e1, e2, e3, e4, e5⟩ := id E
  cases hD.symm.trans e1
  obtain ⟨c2, k2, i1, i2, i3, -⟩ := Cond.instantiable_spec wi
  cases e2.symm.trans i1
  cases e3.symm.trans i2
  obtain ⟨kU, u1, u2⟩ := al.2.2 _ _ e3
  have hB : Blank ST x D P.U := ⟨hD, ⟨knV, fun q hq => by rw [hq] at obV; cases obV⟩, by rw [al.findClass]; exact e2, kU, u1, by rw [u2]; exact i3, by rw [u2]; exact e5 i3⟩
  have F1 : Found ST "value" "[B" fV P.U := ⟨SBG.found_only al ⟨cfV, kV, iV, gV⟩, stV⟩
  have F2 : Found ST "coder" "B" fC P.U := ⟨SBG.found_only al ⟨cfC, kC, iC, gC⟩, stC⟩
  have hA : Ch b A P.U := ⟨⟨K.1, State.isArrayOf_alike al K.2.1, K.2.2, by omega⟩, hty⟩
  have hS : StaticIs P.U ST "COMPACT_STRINGS" "Z" (.int z) := by
    obtain ⟨cfS, iS, kS, fS, st, cS, t1, t2, t3, t4, t5, t6, t7⟩ := S
    exact StaticIs.there (s := { Z with heap := P.U.heap }) ⟨cfS, iS, kS, fS, st, cS, t1, t2, t3, t4, t5, (fun q => by rw [q] at t6; cases t6), t7⟩ al rfl
  obtain ⟨v, B, X', ⟨⟨hv, E', V', q1, q2, q3, q4, q5, q6, q7, q8, q9, q10, q11⟩, hl, hc, hs⟩, st⟩ := New1.pays x D fV fC b A z (tab_of (moved hZ hw)) hfr hlo m meth c P g ig mk _ X hg hsize hdg hW hn ⟨r1, r2, rfl, hB, F1, F2, hA, hS, hz, l0, l2, hp⟩
  have al' : Z.vm.Alike B.U.vm := hZ.alike.trans X'.warmed.alike
  have hsz : E'.slots.size = D.slots.size := by
    obtain ⟨-, -, -, kB, w1, w2, w3⟩ := q1
    obtain ⟨kB', y1, y2⟩ := al'.2.2 _ _ e3
    rw [q2.2.1] at w1
    cases w1.symm.trans y1
    rw [w3, e5 i3, y2]
  refine ⟨v, B, X', ⟨_, ⟨hv, ?_, ⟨by omega, fun y cy hy hn' => q10 y cy (by simpa using hn') hy, fun y cy hy => ?_⟩, q11, ⟨E', _, q1.1, by rw [q2.2.1]; exact e2, by rw [q2.2.1]; exact e3, by rw [q2.1]; exact obV, fun _ => by rw [hsz]; exact e5 i3⟩,
    ⟨E', cfV, kV, iV, fV, q1.1, gV, stV, by rw [q2.1]; exact knV, by rw [q2.1]; exact obV, by rw [q2.2.1]; exact asV, q3⟩, ⟨E', cfC, kC, iC, fC, q1.1, gC, stC, by rw [q2.1]; exact knV, by rw [q2.1]; exact obV, by rw [q2.2.1]; exact asC, q4⟩,
    ⟨V', ⟨q5.1, State.isArrayOf_alike al'.symm q5.2.1, q5.2.2.1⟩, q6, by rw [← al'.findClass]; exact q7, q8, fun j hj => by have := q9 j hj; rwa [Nat.zero_add] at this⟩, fun O n d w F n1 n2 => ?_⟩, hl, hc, hs⟩, st⟩
  · intro y hy
    simp only [List.mem_cons, List.not_mem_nil, or_false] at hy
    rcases hy with rfl | rfl <;> rfl
  · by_cases q : y = x
    · subst q
      cases hD.symm.trans hy
      exact ⟨E', q1.1, q2.2.1, q2.1, hsz⟩
    · exact ⟨cy, q10 y cy q hy, rfl, rfl, rfl⟩
  · obtain ⟨D3, cf, k, i, f, g1, g2, g3, g4, g5, g6, g7⟩ := F
    cases hD.symm.trans g1
    simp only [RoadKit.slotOf, g2, gV, gC, Option.map_some, Option.getD_some] at n1 n2
    exact ⟨E', cf, k, i, f, q1.1, g2, g3, by rw [q2.1]; exact g4, by rw [q2.1]; exact g5, by rw [q2.2.1]; exact g6, by rw [q2.2.2 f.slot (by simp [n1, n2])]; exact g7⟩
end StrChars.Road
namespace StrChars.Road
open Jvm Sem ClassFile Op Lib Jvm.Stand Jvm.Free Jvm.Free.XT
/-- WHAT COMES BACK, the byte[] as a list of values -/
def QA (Z : State) (x : Addr) (zn : Int32) (cs : List Int32) (h : Heap) (v : Option Value) (h' : Heap) (L : List Loc) : Prop := v = none ∧ (∀ y ∈ L, y.base = x) ∧ RoadKit.Keep h h' [x] ∧ h'.size = h.size + 1 ∧ RoadKit.Exa Z h' x ST ∧ RoadKit.Fld Z h' x ST "value" "[B" (.ref h.size) ∧ RoadKit.Fld Z h' x ST "coder" "B" (.int 0) ∧
  (∃ kb, Z.vm.findClass "[B" = some kb ∧ RoadKit.Arv Z h' h.size kb .byte zn (cs.map fun c => .int (lo8 c)) (.int 0)) ∧
  ∀ (O n d : String) (w : Value), RoadKit.Fld Z h x O n d w → RoadKit.slotOf Z O n d ≠ RoadKit.slotOf Z ST "value" "[B" → RoadKit.slotOf Z O n d ≠ RoadKit.slotOf Z ST "coder" "B" → RoadKit.Fld Z h' x O n d w
/-- **new String(chars) AT A CALL, THE ARRAYS AS LISTS**: the char[] at b holds cs, not empty, no char above 255 -/
theorem backArv {p : Program} {l : Launch} {e : Env} {R : Room} {s : State} {args : Array Value} {below : List Frame} {len W : Nat} {Z : State} {a0 : Array Value} {h : Heap} (hZ : Z.Warmed39 s.vm) (hw : ∀ d ∈ words, d.before a0 Z = true) {kI : Nat} (wi : (Jvm.Cond.instantiable ST kI).before a0 Z = true)
    {x b : Addr} {k : ClassId} {zn z : Int32} {cs : List Int32} {dv v0 c0 : Value} (E : RoadKit.Exa Z h x ST) (V : RoadKit.Fld Z h x ST "value" "[B" v0) (C : RoadKit.Fld Z h x ST "coder" "B" c0) (K : RoadKit.Arv Z h b k .char zn (cs.map Value.int) dv) (S : RoadKit.Sta Z h ST "COMPACT_STRINGS" "Z" (.int z)) (hz : ¬ z = 0)
    (hlen : zn.toNatClampNeg = cs.length) (h0 : 0 < cs.length) (hbig : cs.length ≤ 536870912) (hall : ∀ c ∈ cs, ¬ 255 < c) (hfr : 4 ≤ R.frames) (hlo : W + 65 ≤ R.locals) :
    Back l R p e below s args New1.yN len W (fun P a => a = #[.ref x, .ref b] ∧ P.U.heap = h ∧ P.cells + 1 ≤ R.cells ∧ P.slots + cs.length ≤ R.slots)
      (fun P _ v B => ∃ L, QA Z x zn cs h v B.U.heap L ∧ B.locs = P.locs ++ L ∧ B.cells = P.cells + 1 ∧ B.slots = P.slots + cs.length) := by
  obtain ⟨A, K1, K2, K3, K4, K5, K6⟩ := K
  have e : A.slots.size = cs.length := K3.trans hlen
  have hat : ∀ (i : Nat) (hi : i < cs.length), A.slots[i]? = some (.int cs[i]) := fun i hi => by rw [K5 i (by omega)]; simp [List.getD_eq_getElem?_getD, hi]
  have hcv : ∀ (i : Nat) (hi : i < cs.length), cv A i = cs[i] := fun i hi => by unfold cv; rw [hat i hi]
  have hty : Typed .char A := fun i v hv => by
    have hi : i < A.slots.size := (Array.getElem?_eq_some_iff.mp hv).1
    have q := K5 i hi
    rw [hv] at q
    rw [Option.some.inj q]
    exact K6 i hi
  refine Back.mono (back hZ hw wi E V C K1 hty S hz (by omega) (by omega) (fun i hi => by rw [hcv i (by omega)]; exact hall _ (List.getElem_mem _)) hfr hlo) (fun P a hp => ⟨hp.1, hp.2.1, hp.2.2.1, by rw [e]; exact hp.2.2.2⟩) (fun P a v B hp hq => ?_)
  obtain ⟨L, ⟨q1, q2, q3, q4, q5, q6, q7, ⟨V', v1, v2, v3, v4, v5⟩, q9⟩, hl, hc, hs⟩ := hq
  refine ⟨L, ⟨q1, q2, q3, q4, q5, q6, q7, ⟨V'.cls, v3, V', v1, rfl, by rw [v4, e, hlen], K4, fun i hi => ?_, fun i hi => ?_⟩, q9⟩, hl, hc, by rw [hs, e]⟩
  · have hi' : i < cs.length := by omega
    rw [v5 i (by omega), hcv i hi']; simp [List.getD_eq_getElem?_getD, hi']
  · have hi' : i < cs.length := by omega
    simp only [List.getD_eq_getElem?_getD, List.getElem?_map, List.getElem?_eq_getElem hi', Option.map_some, Option.getD_some]
    exact fits_lo8 _
end StrChars.Road
namespace StrChars.Road
open Jvm Sem ClassFile Op Lib Jvm.Stand Jvm.Free Jvm.Free.XT
/-- WHAT COMES BACK, in the writer's own shape -/
def QV (Z : State) (x : Addr) (N : Int32) (bs : List Int32) (h : Heap) (n0 : Nat) (v : Option Value) (h' : Heap) (L : List Loc) : Prop := v = none ∧ RoadKit.Fr n0 L ∧ RoadKit.Keep h h' [x] ∧ RoadKit.Exa Z h' x ST ∧ RoadKit.Fld Z h' x ST "coder" "B" (.int 0) ∧
  ∃ (t : Addr) (kb : ClassId), n0 ≤ t ∧ h.size ≤ t ∧ ¬ t = x ∧ RoadKit.Fld Z h' x ST "value" "[B" (.ref t) ∧ RoadKit.Arv Z h' t kb .byte N (bs.map Value.int) (.int 0)
/-- **new String(chars) AT A CALL, FOR THE WRITER**: a char[] of n known ints, each 0 to 255 -/
theorem backV {p : Program} {l : Launch} {e : Env} {R : Room} {s : State} {args : Array Value} {below : List Frame} {len W : Nat} {Z : State} {a0 : Array Value} {h : Heap} (hZ : Z.Warmed39 s.vm) (hw : ∀ d ∈ words, d.before a0 Z = true) {kI : Nat} (wi : (Jvm.Cond.instantiable ST kI).before a0 Z = true)
    {x b : Addr} {kC : ClassId} {cs bs : List Int32} {d v0 c0 : Value} {z N : Int32} {n n0 : Nat} (hx0 : n0 ≤ x) (hh0 : n0 ≤ h.size) (E : RoadKit.Exa Z h x ST) (V : RoadKit.Fld Z h x ST "value" "[B" v0) (C : RoadKit.Fld Z h x ST "coder" "B" c0) (K : RoadKit.Arv Z h b kC .char N (cs.map Value.int) d) (S : RoadKit.Sta Z h ST "COMPACT_STRINGS" "Z" (.int z)) (hz : ¬ z = 0)
    (hn : cs.length = n) (hN : N = Int32.ofNat n) (l0 : 0 < n) (l2 : n ≤ 4000) (hp : ∀ c ∈ cs, ¬ c < 0 ∧ ¬ (255 : Int32) < c) (hb : bs = cs.map (fun c => c.toInt8.toInt32)) (hfr : 4 ≤ R.frames) (hlo : W + 65 ≤ R.locals) :
    Back l R p e below s args (⟨"java/lang/String", "<init>", "([C)V"⟩ : MethodName) len W (fun P a => a = #[.ref x, .ref b] ∧ P.U.heap = h ∧ P.cells + 1 ≤ R.cells ∧ P.slots + n ≤ R.slots)
      (fun P _ v B => ∃ L, QV Z x N bs h n0 v B.U.heap L ∧ B.locs = P.locs ++ L ∧ B.cells = P.cells + 1 ∧ B.slots = P.slots + n) := by
  subst hn hN hb
  refine Back.mono (backArv hZ hw wi E V C K S hz (n32 (by omega)) l0 (by omega) (fun c hc => (hp c hc).2) hfr hlo) (fun P a hp => hp) (fun P a v B hp hq => ?_)
  obtain ⟨L, ⟨q1, q2, q3, q4, q5, q6, q7, ⟨kb, v1, v2⟩, q9⟩, hl, hc, hs⟩ := hq
  exact ⟨L, ⟨q1, fun y hy => by rw [q2 y hy]; exact hx0, q3, q5, q7, h.size, kb, hh0, Nat.le_refl _, Nat.ne_of_gt E.lt, q6, by rw [List.map_map]; exact v2⟩, hl, hc, hs⟩
end StrChars.Road
namespace StrChars
open Jvm Sem ClassFile Op Lib Jvm.Stand Jvm.Free.XT Jvm.Free.ALB Jvm.Free.JM Jvm.Free
open Jvm.Lib.Cold (StaticIs)
def hi8 (x : Int32) : Int32 := lo8 (x >>> ((8 : Int32) &&& 31))
/-- what StringUTF16.getChar makes of two bytes -/
def pairCh (u v : Int32) : Int32 := (((u &&& 255) <<< ((0 : Int32) &&& 31)) ||| ((v &&& 255) <<< ((8 : Int32) &&& 31))).toUInt32.toUInt16.toUInt32.toInt32
theorem shr0 (c : Int32) : c >>> ((0 : Int32) &&& 31) = c := by
  have e : ((0 : Int32) &&& 31) = 0 := by decide
  rw [e]
  apply Int32.toBitVec_inj.mp
  rw [Int32.toBitVec_shiftRight]
  have e1 : ((0 : Int32).toBitVec.smod 32) = 0#32 := by decide
  rw [e1, BitVec.sshiftRight_eq']
  exact BitVec.sshiftRight_zero
theorem lo8_and (x : Int32) : (lo8 x &&& 255).toBitVec.toNat = x.toBitVec.toNat % 256 := by
  have h : (lo8 x).toBitVec = (x.toBitVec.signExtend 8).signExtend 32 := by rw [lo8, Int8.toBitVec_toInt32, Int32.toBitVec_toInt8]
  rw [Int32.toBitVec_and, BitVec.toNat_and, h]
  have e : ((x.toBitVec.signExtend 8).signExtend 32).toNat % 256 = x.toBitVec.toNat % 256 := by
    rw [BitVec.toNat_signExtend]
    have hlt := x.toBitVec.isLt
    simp only [BitVec.toNat_setWidth, BitVec.toNat_signExtend]
    split <;> split <;> omega
  rw [← e]
  exact Nat.and_two_pow_sub_one_eq_mod _ 8
theorem pair_says {c : Int32} (h0 : ¬ c < 0) (h1 : ¬ 65535 < c) : pairCh (lo8 c) (hi8 c) = c := by
  rw [Int32.lt_iff_toInt_lt] at h0 h1
  have e0 : (0 : Int32).toInt = 0 := rfl
  have e1 : (65535 : Int32).toInt = 65535 := rfl
  have hc : c.toInt = c.toBitVec.toNat := by
    have := c.toBitVec.isLt
    have e : c.toInt = c.toBitVec.toInt := rfl
    rw [e] at h0 h1
    rw [e]
    rw [BitVec.toInt_eq_toNat_cond] at h0 h1 ⊢
    split at h0 <;> split <;> omega
  have hn : c.toBitVec.toNat < 65536 := by omega
  have a1 := lo8_and c
  have a2 : (hi8 c &&& 255).toBitVec.toNat = c.toBitVec.toNat / 256 := by
    rw [hi8, lo8_and]
    have e : ((8 : Int32) &&& 31) = 8 := by decide
    rw [e, Int32.toBitVec_shiftRight]
    have e2 : ((8 : Int32).toBitVec.smod 32) = 8#32 := by decide
    rw [e2, BitVec.sshiftRight_eq', BitVec.toNat_sshiftRight_of_msb_false (by rw [BitVec.msb_eq_false_iff_two_mul_lt]; omega)]
    show c.toBitVec.toNat >>> 8 % 256 = _
    rw [Nat.shiftRight_eq_div_pow]
    omega
  unfold pairCh
  apply Int32.toBitVec_inj.mp
  apply BitVec.eq_of_toNat_eq
  have f0 : ((0 : Int32) &&& 31) = 0 := by decide
  have f8 : ((8 : Int32) &&& 31) = 8 := by decide
  rw [f0, f8]
  have g : (((lo8 c &&& 255) <<< (0 : Int32)) ||| ((hi8 c &&& 255) <<< (8 : Int32))).toBitVec.toNat = c.toBitVec.toNat := by
    rw [Int32.toBitVec_or, Int32.toBitVec_shiftLeft, Int32.toBitVec_shiftLeft]
    have s0 : ((0 : Int32).toBitVec.smod 32) = 0#32 := by decide
    have s8 : ((8 : Int32).toBitVec.smod 32) = 8#32 := by decide
    rw [s0, s8, BitVec.toNat_or]
    simp only [BitVec.shiftLeft_eq', BitVec.toNat_shiftLeft, a1, a2]
    show (c.toBitVec.toNat % 256) <<< 0 % 2 ^ 32 ||| (c.toBitVec.toNat / 256) <<< 8 % 2 ^ 32 = _
    rw [Nat.shiftLeft_zero, Nat.mod_eq_of_lt (show c.toBitVec.toNat % 256 < 2 ^ 32 by omega), Nat.mod_eq_of_lt (show (c.toBitVec.toNat / 256) <<< 8 < 2 ^ 32 by rw [Nat.shiftLeft_eq]; omega), Nat.or_comm, ← Nat.shiftLeft_add_eq_or_of_lt (by omega), Nat.shiftLeft_eq]
    omega
  show BitVec.toNat (((((lo8 c &&& 255) <<< (0 : Int32)) ||| ((hi8 c &&& 255) <<< (8 : Int32))).toBitVec.setWidth 16).setWidth 32) = _
  rw [BitVec.toNat_setWidth, BitVec.toNat_setWidth, g]
  omega
end StrChars
namespace StrChars
open Jvm Sem ClassFile Op Lib Jvm.Stand Jvm.Free.XT Jvm.Free.ALB Jvm.Free.JM Jvm.Free
open Jvm.Lib.Cold (StaticIs)
theorem shr1 {n : Nat} (h : 2 * n < 2 ^ 31) : Int32.ofNat (2 * n) >>> ((1 : Int32) &&& 31) = Int32.ofNat n := by
  have e : ((1 : Int32) &&& 31) = 1 := by decide
  rw [e]
  apply Int32.toBitVec_inj.mp
  rw [Int32.toBitVec_shiftRight]
  have e1 : ((1 : Int32).toBitVec.smod 32) = 1#32 := by decide
  have hm : (BitVec.ofNat 32 (2 * n)).toNat = 2 * n := by rw [BitVec.toNat_ofNat, Nat.mod_eq_of_lt (by omega)]
  rw [e1, BitVec.sshiftRight_eq']
  apply BitVec.eq_of_toNat_eq
  show ((BitVec.ofNat 32 (2 * n)).sshiftRight 1).toNat = (BitVec.ofNat 32 n).toNat
  rw [BitVec.toNat_sshiftRight_of_msb_false (by rw [BitVec.msb_eq_false_iff_two_mul_lt, hm]; omega), hm, BitVec.toNat_ofNat, Nat.shiftRight_eq_div_pow]
  omega
/-- charAt's cast of a byte read back -/
def chr8 (u : Int32) : Int32 := (u &&& 255).toUInt32.toUInt16.toUInt32.toInt32
theorem chr8_lo8 {c : Int32} (h0 : ¬ c < 0) (h1 : ¬ 255 < c) : chr8 (lo8 c) = c := by
  have t : ∀ k : Fin 256, (Int32.ofNat k.val).toUInt32.toUInt16.toUInt32.toInt32 = Int32.ofNat k.val := by decide +kernel
  unfold chr8
  rw [lo8_mask h0 h1]
  rw [Int32.lt_iff_toInt_lt] at h0 h1
  have e0 : (0 : Int32).toInt = 0 := rfl
  have e1 : (255 : Int32).toInt = 255 := rfl
  obtain ⟨k, hk⟩ : ∃ k : Nat, c.toInt = k := ⟨c.toInt.toNat, by omega⟩
  have hx : c = Int32.ofNat k := Int32.toInt_inj.mp (by rw [hk, Int32.toInt_ofNat_small (by omega)])
  rw [hx]
  exact t ⟨k, by omega⟩
theorem narrow_ch {c : Int32} (h0 : ¬ c < 0) (h1 : ¬ 65535 < c) : narrow .char (.int c) = .int c := by
  have q : narrow .char (.int (pairCh (lo8 c) (hi8 c))) = .int (pairCh (lo8 c) (hi8 c)) := narrow_c _
  rwa [pair_says h0 h1] at q
/-- the array's cell V codes the n chars f 0 .. f (n - 1) by the coder cd, as the JDK does: coder 1 just where some char is above 255 -/
def Cod (cd : Int32) (n : Nat) (f : Nat → Int32) (V : Cell) : Prop := (cd = 0 ∧ V.slots.size = n ∧ ∀ j, j < n → V.slots[j]? = some (.int (lo8 (f j))) ∧ ¬ 255 < f j) ∨ (cd = 1 ∧ V.slots.size = 2 * n ∧ (∀ j, j < n → V.slots[2 * j]? = some (.int (lo8 (f j))) ∧ V.slots[2 * j + 1]? = some (.int (hi8 (f j)))) ∧ ∃ j, j < n ∧ 255 < f j)
theorem Cod.cd {cd : Int32} {n : Nat} {f : Nat → Int32} {V : Cell} (h : Cod cd n f V) : cd = 0 ∨ cd = 1 := h.imp (fun q => q.1) fun q => q.1
theorem Cod.len {cd : Int32} {n : Nat} {f : Nat → Int32} {V : Cell} (h : Cod cd n f V) (hs : V.slots.size < 2 ^ 31) : Int32.ofNat V.slots.size >>> (cd &&& 31) = Int32.ofNat n := by
  rcases h with ⟨rfl, h, -⟩ | ⟨rfl, h, -⟩
  · rw [shr0, h]
  · rw [h, shr1 (by omega)]
/-- **x is a String of the n chars f 0 .. f (n - 1)**, Latin-1 or UTF-16; its array at t has the cell V -/
def Txt (x t : Addr) (V : Cell) (cd : Int32) (n : Nat) (f : Nat → Int32) (U : State) : Prop := Exact "java/lang/String" x U ∧ Has x "java/lang/String" "value" "[B" (.ref t) U ∧ Has x "java/lang/String" "coder" "B" (.int cd) U ∧ XT.Arr .byte t V U ∧ Cod cd n f V ∧ ∀ j, j < n → ¬ f j < 0 ∧ ¬ 65535 < f j
theorem Txt.mv {x t : Addr} {V : Cell} {cd : Int32} {n : Nat} {f : Nat → Int32} {U U' : State} (h : Txt x t V cd n f U) (hal : U.vm.Alike U'.vm) (hh : U'.heap = U.heap) : Txt x t V cd n f U' := ⟨h.1.mv hal hh, h.2.1.mv hal hh, h.2.2.1.mv hal hh, h.2.2.2.1.mv hal hh, h.2.2.2.2⟩
namespace Cdr
def yN : MethodName := ⟨"java/lang/String", "coder", "()B"⟩
abbrev yB : ByteArray := jdk_42_method_152_code
theorem d0 : decode yB 0 = .ok (.getstatic 38, 3) := by decide +kernel
theorem d3 : decode yB 3 = .ok (.ifCond (.eq) 10, 3) := by decide +kernel
theorem d6 : decode yB 6 = .ok (.aload_n 0, 1) := by decide +kernel
theorem d7 : decode yB 7 = .ok (.getfield 15, 3) := by decide +kernel
theorem d10 : decode yB 10 = .ok (.goto 4, 3) := by decide +kernel
theorem d14 : decode yB 14 = .ok (.ireturn, 1) := by decide +kernel
def site : List Cond := [.fieldLink "java/lang/String" 38 "java/lang/String" "COMPACT_STRINGS" "Z", .fieldLink "java/lang/String" 15 "java/lang/String" "coder" "B"]
def tab : Cond := tabOf yN yB 1 (some .byte) site
def P (x : Addr) (cd z : Int32) (args : Array Value) (s : State) : Prop := args = #[.ref x] ∧ Has x "java/lang/String" "coder" "B" (.int cd) s ∧ (cd = 0 ∨ cd = 1) ∧ StaticIs s "java/lang/String" "COMPACT_STRINGS" "Z" (.int z) ∧ ¬ z = 0
def E (cd : Int32) (r : Option Value) (s u : State) : Prop := XT.PureE (some (.int cd)) r s u
theorem law (l : Launch) (x : Addr) (cd z : Int32) : Law l yN 1 0 0 0 yB 1 (some .byte) site (P x cd z) (E cd) [] 0 0 := by
  refine Law.of_walk (plainFor_of_name (by decide +kernel)) (by decide +kernel) (by decide +kernel) (by decide) (fun _ _ h => by rw [h.1]; rfl) (fun _ U U' hal hh h => ⟨h.1, h.2.1.mv hal hh, h.2.2.1, h.2.2.2.1.there hal hh, h.2.2.2.2⟩) (fun r U U' V V' h1 hal h2 h => XT.PureE.mv r U U' V V' h1 hal h2 h) ?_
  intro p e s m args below meth c s₁ X0 hexec hbytes hml hret hlk hnm hown hh0 W hP
  obtain ⟨rfl, hx, hc, s1, hz⟩ := hP
  have c1 : Steps p.tables e below (s₁.setTop (entryFrame m #[.ref x] 1)) (s₁.setTop (mkF m 0 #[.val (.ref x)] [])) := entry rfl
  obtain ⟨T2, X2, q2, st2⟩ := X0.sget hexec hown (wk W (.fieldLink "java/lang/String" 38 "java/lang/String" "COMPACT_STRINGS" "Z")) s1 (fun _ _ h => by rw [hh0]; exact h) (g := (mkF m 0 #[.val (.ref x)] [])) rfl (hb hbytes d0)
  have hh2 := q2.trans hh0
  have c3 : Steps p.tables e below (s₁.setTop (entryFrame m #[.ref x] 1)) (T2.setTop (mkF m 7 #[.val (.ref x)] [.ref x])) := (c1.trans (st2 _ (Steps.refl _))).trans (by
    refine XS.ifNo X2.here hexec rfl (hb hbytes d3) rfl (i0_eq_f hz) ?_
    refine XS.aloadN X2.here hexec rfl (hb hbytes d6) rfl rfl ?_
    exact Steps.refl _)
  obtain ⟨T4, X4, q4, st4⟩ := X2.hget hexec hown (wk W (.fieldLink "java/lang/String" 15 "java/lang/String" "coder" "B")) (hx.mv X2.warmed.alike hh2) (g := (mkF m 7 #[.val (.ref x)] [.ref x])) rfl (rest := []) rfl (hb hbytes d7)
  have c5 : Steps p.tables e below (s₁.setTop (entryFrame m #[.ref x] 1)) (T4.setTop (mkF m 14 #[.val (.ref x)] [.int cd])) := (c3.trans (st4 _ (Steps.refl _))).trans (by
    refine XS.goto X4.here hexec rfl (pc0 := 10) rfl (hb hbytes d10) (by decide) rfl ?_
    exact Steps.refl _)
  exact ⟨T4, some (.int cd), _, _, _, X4, rfl, rfl, rfl, (fun h => by cases h), ⟨rfl, q4.trans hh2⟩, fun fs hl => c5.trans (X4.ireturnOut hexec hret (by rcases hc with rfl | rfl <;> rfl) (Or.inr (Or.inr (Or.inl rfl))) (hb hbytes d14) hl)⟩
end Cdr
namespace Len
def yN : MethodName := ⟨"java/lang/String", "length", "()I"⟩
abbrev yB : ByteArray := jdk_42_method_54_code
theorem d0 : decode yB 0 = .ok (.aload_n 0, 1) := by decide +kernel
theorem d1 : decode yB 1 = .ok (.getfield 9, 3) := by decide +kernel
theorem d4 : decode yB 4 = .ok (.arraylength, 1) := by decide +kernel
theorem d5 : decode yB 5 = .ok (.aload_n 0, 1) := by decide +kernel
theorem d6 : decode yB 6 = .ok (.invokevirtual 335, 3) := by decide +kernel
theorem d9 : decode yB 9 = .ok (.ishr, 1) := by decide +kernel
theorem d10 : decode yB 10 = .ok (.ireturn, 1) := by decide +kernel
def site : List Cond := [.fieldLink "java/lang/String" 9 "java/lang/String" "value" "[B", Cdr.tab] ++ virtW "java/lang/String" 335 "java/lang/String" Cdr.yN Cdr.yN
def tab : Cond := tabOf yN yB 1 (some .int) site
def P (x t : Addr) (V : Cell) (cd : Int32) (n : Nat) (f : Nat → Int32) (z : Int32) (args : Array Value) (s : State) : Prop := args = #[.ref x] ∧ Txt x t V cd n f s ∧ StaticIs s "java/lang/String" "COMPACT_STRINGS" "Z" (.int z) ∧ ¬ z = 0
def E (n : Nat) (r : Option Value) (s u : State) : Prop := XT.PureE (some (.int (Int32.ofNat n))) r s u
/-- length() of a String of n chars, in either coding -/
theorem law (l : Launch) (x t : Addr) (V : Cell) (cd : Int32) (n : Nat) (f : Nat → Int32) (z : Int32) : Law l yN 1 0 1 13 yB 1 (some .int) site (P x t V cd n f z) (E n) [] 0 0 := by
  refine Law.of_walk (plainFor_of_name (by decide +kernel)) (by decide +kernel) (by decide +kernel) (by decide) (fun _ _ h => by rw [h.1]; rfl) (fun _ U U' hal hh h => ⟨h.1, h.2.1.mv hal hh, h.2.2.1.there hal hh, h.2.2.2⟩) (fun r U U' V V' h1 hal h2 h => XT.PureE.mv r U U' V V' h1 hal h2 h) ?_
  intro p e s m args below meth c s₁ X0 hexec hbytes hml hret hlk hnm hown hh0 W hP
  obtain ⟨rfl, hx, s1, hz⟩ := hP
  have v31 := hx.2.2.2.1.2.2.2
  have c1 : Steps p.tables e below (s₁.setTop (entryFrame m #[.ref x] 1)) (s₁.setTop (mkF m 1 #[.val (.ref x)] [.ref x])) := Steps.trans (entry rfl) (by
    show Steps p.tables e below (s₁.setTop (mkF m 0 #[.val (.ref x)] [])) _
    refine XS.aloadN X0.here hexec rfl (hb hbytes d0) rfl rfl ?_
    exact Steps.refl _)
  obtain ⟨T2, X2, q2, st2⟩ := X0.hget hexec hown (wk W (.fieldLink "java/lang/String" 9 "java/lang/String" "value" "[B")) (hx.mv X0.warmed.alike hh0).2.1 (g := (mkF m 1 #[.val (.ref x)] [.ref x])) rfl (rest := []) rfl (hb hbytes d1)
  have hh2 := q2.trans hh0
  have hx2 := hx.mv X2.warmed.alike hh2
  have c3 : Steps p.tables e below (s₁.setTop (entryFrame m #[.ref x] 1)) (T2.setTop (mkF m 6 #[.val (.ref x)] [.ref x, .int (Int32.ofNat V.slots.size)])) := (c1.trans (st2 _ (Steps.refl _))).trans (by
    refine X2.alen hexec hx2.2.2.2.1 rfl rfl (hb hbytes d4) ?_
    refine XS.aloadN X2.here hexec rfl (hb hbytes d5) rfl rfl ?_
    exact Steps.refl _)
  obtain ⟨v4, T4, X4, E4, g4⟩ := X2.callV hexec (Cdr.law l x cd z) hown (wks W (virtW "java/lang/String" 335 "java/lang/String" Cdr.yN Cdr.yN)) rfl (by decide) (wk W Cdr.tab) (W := 1) (Nat.le_of_ble_eq_true rfl) (Nat.le_of_ble_eq_true rfl) (Nat.le_refl _) (Nat.le_refl _) (hx2.1.fc X2.warmed.alike) hx2.1.is (g := (mkF m 6 #[.val (.ref x)] [.ref x, .int (Int32.ofNat V.slots.size)])) rfl (by rw [hml]; rfl) c3 (argsL := []) (rest := [.int (Int32.ofNat V.slots.size)]) rfl rfl (by show 2 * 0 + (1 + 0) ≤ _; decide) (hb hbytes d6) (⟨rfl, hx2.2.2.1, hx.2.2.2.2.1.cd, s1.there X2.warmed.alike hh2, hz⟩)
  obtain ⟨rfl, q4⟩ := E4
  have c5 : Steps p.tables e below (s₁.setTop (entryFrame m #[.ref x] 1)) (T4.setTop (mkF m 10 #[.val (.ref x)] [.int (Int32.ofNat V.slots.size >>> (cd &&& 31))])) := Steps.trans g4 (by
    refine ishr X4.here hexec rfl (hb hbytes d9) rfl ?_
    exact Steps.refl _)
  rw [hx.2.2.2.2.1.len v31] at c5
  exact ⟨T4, some (.int (Int32.ofNat n)), _, _, _, X4, rfl, rfl, rfl, (fun h => by cases h), ⟨rfl, q4.trans hh2⟩, fun fs hl => c5.trans (X4.ireturnOut hexec hret rfl (Or.inl rfl) (hb hbytes d10) hl)⟩
theorem pays {l : Launch} {R : Room} {p : Program} {e : Env} {below : List Frame} {s : State} {sargs : Array Value} {len W : Nat} (x t : Addr) (V : Cell) (cd : Int32) (n : Nat) (f : Nat → Int32) (z : Int32) (htab : tab.before sargs s = true) (hfr : 2 ≤ R.frames) (hlo : W + 25 ≤ R.locals) :
    Back l R p e below s sargs yN len W (fun A₁ a₁ => A₁.cells + 0 ≤ R.cells ∧ A₁.slots + 0 ≤ R.slots ∧ P x t V cd n f z a₁ A₁.U) (fun A₁ _ v₁ B₁ => E n v₁ A₁.U B₁.U ∧ B₁.locs = A₁.locs ++ [] ∧ B₁.cells = A₁.cells + 0 ∧ B₁.slots = A₁.slots + 0) :=
  (law l x t V cd n f z).pays htab hfr (by omega)
end Len
namespace IsL
def yN : MethodName := ⟨"java/lang/String", "isLatin1", "()Z"⟩
abbrev yB : ByteArray := jdk_42_method_154_code
theorem d0 : decode yB 0 = .ok (.getstatic 38, 3) := by decide +kernel
theorem d3 : decode yB 3 = .ok (.ifCond (.eq) 14, 3) := by decide +kernel
theorem d6 : decode yB 6 = .ok (.aload_n 0, 1) := by decide +kernel
theorem d7 : decode yB 7 = .ok (.getfield 15, 3) := by decide +kernel
theorem d10 : decode yB 10 = .ok (.ifCond (.ne) 7, 3) := by decide +kernel
theorem d13 : decode yB 13 = .ok (.iconst 1, 1) := by decide +kernel
theorem d14 : decode yB 14 = .ok (.goto 4, 3) := by decide +kernel
theorem d17 : decode yB 17 = .ok (.iconst 0, 1) := by decide +kernel
theorem d18 : decode yB 18 = .ok (.ireturn, 1) := by decide +kernel
def site : List Cond := [.fieldLink "java/lang/String" 38 "java/lang/String" "COMPACT_STRINGS" "Z", .fieldLink "java/lang/String" 15 "java/lang/String" "coder" "B"]
def tab : Cond := tabOf yN yB 1 (some .boolean) site
def P (x : Addr) (cd z : Int32) (args : Array Value) (s : State) : Prop := args = #[.ref x] ∧ Has x "java/lang/String" "coder" "B" (.int cd) s ∧ (cd = 0 ∨ cd = 1) ∧ StaticIs s "java/lang/String" "COMPACT_STRINGS" "Z" (.int z) ∧ ¬ z = 0
def E (cd : Int32) (r : Option Value) (s u : State) : Prop := XT.PureE (some (.int (1 - cd))) r s u
theorem law (l : Launch) (x : Addr) (cd z : Int32) : Law l yN 1 0 0 0 yB 1 (some .boolean) site (P x cd z) (E cd) [] 0 0 := by
  refine Law.of_walk (plainFor_of_name (by decide +kernel)) (by decide +kernel) (by decide +kernel) (by decide) (fun _ _ h => by rw [h.1]; rfl) (fun _ U U' hal hh h => ⟨h.1, h.2.1.mv hal hh, h.2.2.1, h.2.2.2.1.there hal hh, h.2.2.2.2⟩) (fun r U U' V V' h1 hal h2 h => XT.PureE.mv r U U' V V' h1 hal h2 h) ?_
  intro p e s m args below meth c s₁ X0 hexec hbytes hml hret hlk hnm hown hh0 W hP
  obtain ⟨rfl, hx, hc, s1, hz⟩ := hP
  have c1 : Steps p.tables e below (s₁.setTop (entryFrame m #[.ref x] 1)) (s₁.setTop (mkF m 0 #[.val (.ref x)] [])) := entry rfl
  obtain ⟨T2, X2, q2, st2⟩ := X0.sget hexec hown (wk W (.fieldLink "java/lang/String" 38 "java/lang/String" "COMPACT_STRINGS" "Z")) s1 (fun _ _ h => by rw [hh0]; exact h) (g := (mkF m 0 #[.val (.ref x)] [])) rfl (hb hbytes d0)
  have hh2 := q2.trans hh0
  have c3 : Steps p.tables e below (s₁.setTop (entryFrame m #[.ref x] 1)) (T2.setTop (mkF m 7 #[.val (.ref x)] [.ref x])) := (c1.trans (st2 _ (Steps.refl _))).trans (by
    refine XS.ifNo X2.here hexec rfl (hb hbytes d3) rfl (i0_eq_f hz) ?_
    refine XS.aloadN X2.here hexec rfl (hb hbytes d6) rfl rfl ?_
    exact Steps.refl _)
  obtain ⟨T4, X4, q4, st4⟩ := X2.hget hexec hown (wk W (.fieldLink "java/lang/String" 15 "java/lang/String" "coder" "B")) (hx.mv X2.warmed.alike hh2) (g := (mkF m 7 #[.val (.ref x)] [.ref x])) rfl (rest := []) rfl (hb hbytes d7)
  have c5 : Steps p.tables e below (s₁.setTop (entryFrame m #[.ref x] 1)) (T4.setTop (mkF m 10 #[.val (.ref x)] [.int cd])) := c3.trans (st4 _ (Steps.refl _))
  have c6 : Steps p.tables e below (s₁.setTop (entryFrame m #[.ref x] 1)) (T4.setTop (mkF m 18 #[.val (.ref x)] [.int (1 - cd)])) := by
    rcases hc with rfl | rfl
    · exact c5.trans (by
        refine XS.ifNo X4.here hexec rfl (hb hbytes d10) rfl (i0_ne_f rfl) ?_
        refine iconstV X4.here hexec rfl 1 (hb hbytes d13) (by decide) ?_
        refine XS.goto X4.here hexec rfl (pc0 := 14) rfl (hb hbytes d14) (by decide) rfl ?_
        exact Steps.refl _)
    · exact c5.trans (by
        refine XS.ifYes X4.here hexec rfl (pc0 := 10) rfl (hb hbytes d10) rfl (i0_ne_t (by decide)) (by decide) rfl ?_
        refine iconstV X4.here hexec rfl 0 (hb hbytes d17) (by decide) ?_
        exact Steps.refl _)
  exact ⟨T4, some (.int (1 - cd)), _, _, _, X4, rfl, rfl, rfl, (fun h => by cases h), ⟨rfl, q4.trans hh2⟩, fun fs hl => c6.trans (X4.ireturnOut hexec hret (by rcases hc with rfl | rfl <;> rfl) (Or.inr (Or.inl rfl)) (hb hbytes d18) hl)⟩
end IsL
namespace LChA
def yN : MethodName := ⟨"java/lang/StringLatin1", "charAt", "([BI)C"⟩
abbrev yB : ByteArray := jdk_43_method_2_code
theorem d0 : decode yB 0 = .ok (.iload_n 1, 1) := by decide +kernel
theorem d1 : decode yB 1 = .ok (.aload_n 0, 1) := by decide +kernel
theorem d2 : decode yB 2 = .ok (.arraylength, 1) := by decide +kernel
theorem d3 : decode yB 3 = .ok (.invokestatic 9, 3) := by decide +kernel
theorem d6 : decode yB 6 = .ok (.aload_n 0, 1) := by decide +kernel
theorem d7 : decode yB 7 = .ok (.iload_n 1, 1) := by decide +kernel
theorem d8 : decode yB 8 = .ok (.baload, 1) := by decide +kernel
theorem d9 : decode yB 9 = .ok (.sipush 255, 3) := by decide +kernel
theorem d12 : decode yB 12 = .ok (.iand, 1) := by decide +kernel
theorem d13 : decode yB 13 = .ok (.i2c, 1) := by decide +kernel
theorem d14 : decode yB 14 = .ok (.ireturn, 1) := by decide +kernel
def site : List Cond := [JO.Str_checkIndex.tab] ++ staticW "java/lang/StringLatin1" 9 JO.Str_checkIndex.yN
def tab : Cond := tabOf yN yB 2 (some .char) site
def P (t : Addr) (V : Cell) (i : Nat) (u : Int32) (fm : Value) (args : Array Value) (s : State) : Prop := args = #[.ref t, .int (Int32.ofNat i)] ∧ XT.Arr .byte t V s ∧ V.slots[i]? = some (.int u) ∧ (StaticIs s "jdk/internal/util/Preconditions" "SIOOBE_FORMATTER" "Ljava/util/function/BiFunction;" fm ∧ fm.isRef = true)
def E (u : Int32) (r : Option Value) (s w : State) : Prop := XT.PureE (some (.int (chr8 u))) r s w
theorem law (l : Launch) (t : Addr) (V : Cell) (i : Nat) (u : Int32) (fm : Value) : Law l yN 2 2 2 27 yB 2 (some .char) site (P t V i u fm) (E u) [] 0 0 := by
  refine Law.of_walk (plainFor_of_name (by decide +kernel)) (by decide +kernel) (by decide +kernel) (by decide) (fun _ _ h => by rw [h.1]; rfl) (fun _ U U' hal hh h => ⟨h.1, h.2.1.mv hal hh, h.2.2.1, h.2.2.2.1.there hal hh, h.2.2.2.2⟩) (fun r U U' V V' h1 hal h2 h => XT.PureE.mv r U U' V V' h1 hal h2 h) ?_
  intro p e s m args below meth c s₁ X0 hexec hbytes hml hret hlk hnm hown hh0 W hP
  obtain ⟨rfl, hV, hu, s1, rf⟩ := hP
  have v31 := hV.2.2.2
  have hi : i < V.slots.size := (Array.getElem?_eq_some_iff.mp hu).1
  have c1 : Steps p.tables e below (s₁.setTop (entryFrame m #[.ref t, .int (Int32.ofNat i)] 2)) (s₁.setTop (mkF m 0 #[.val (.ref t), .val (.int (Int32.ofNat i))] [])) := entry rfl
  have c2 : Steps p.tables e below (s₁.setTop (entryFrame m #[.ref t, .int (Int32.ofNat i)] 2)) (s₁.setTop (mkF m 3 #[.val (.ref t), .val (.int (Int32.ofNat i))] [.int (Int32.ofNat V.slots.size), .int (Int32.ofNat i)])) := c1.trans (by
    refine XS.iloadN X0.here hexec rfl (hb hbytes d0) rfl ?_
    refine XS.aloadN X0.here hexec rfl (hb hbytes d1) rfl rfl ?_
    refine X0.alen hexec (hV.mv X0.warmed.alike hh0) rfl rfl (hb hbytes d2) ?_
    exact Steps.refl _)
  obtain ⟨v3, T3, X3, E3, g3⟩ := X0.callS hexec (JO.Str_checkIndex.law l (Int32.ofNat i) (Int32.ofNat V.slots.size) fm) hown (wks W (staticW "java/lang/StringLatin1" 9 JO.Str_checkIndex.yN)) (wk W JO.Str_checkIndex.tab) (W := 0) (Nat.le_of_ble_eq_true rfl) (Nat.le_of_ble_eq_true rfl) (Nat.le_refl _) (Nat.le_refl _) (g := (mkF m 3 #[.val (.ref t), .val (.int (Int32.ofNat i))] [.int (Int32.ofNat V.slots.size), .int (Int32.ofNat i)])) rfl (by rw [hml]; rfl) c2 (argsL := [.int (Int32.ofNat i), .int (Int32.ofNat V.slots.size)]) (rest := []) rfl rfl (by show 2 * 0 + 0 ≤ _; decide) (hb hbytes d3) (⟨rfl, rf, s1.there X0.warmed.alike hh0, Int32.ofNat_not_neg (by omega), lt32 v31 hi⟩)
  obtain ⟨rfl, q3⟩ := E3
  have hh3 := q3.trans hh0
  have c4 : Steps p.tables e below (s₁.setTop (entryFrame m #[.ref t, .int (Int32.ofNat i)] 2)) (T3.setTop (mkF m 14 #[.val (.ref t), .val (.int (Int32.ofNat i))] [.int (chr8 u)])) := Steps.trans g3 (by
    refine XS.aloadN X3.here hexec rfl (hb hbytes d6) rfl rfl ?_
    refine XS.iloadN X3.here hexec rfl (hb hbytes d7) rfl ?_
    refine X3.aget hexec (hV.mv X3.warmed.alike hh3) rfl hu rfl rfl (hb hbytes d8) ?_
    refine sipushV X3.here hexec rfl 255 (hb hbytes d9) (by decide) ?_
    refine XS.iand X3.here hexec rfl (hb hbytes d12) rfl ?_
    refine i2c X3.here hexec rfl (hb hbytes d13) rfl ?_
    exact Steps.refl _)
  exact ⟨T3, some (.int (chr8 u)), _, _, _, X3, rfl, rfl, rfl, (fun h => by cases h), ⟨rfl, hh3⟩, fun fs hl => c4.trans (X3.ireturnOut hexec hret (narrow_c _) (Or.inr (Or.inr (Or.inr (Or.inl rfl)))) (hb hbytes d14) hl)⟩
end LChA
end StrChars
namespace StrChars.Road
open Jvm Sem ClassFile Op Lib Jvm.Stand Jvm.Free Jvm.Free.XT
open Jvm.Lib.Cold (StaticIs)
theorem consq {a : Array Value} {s : State} {c : Jvm.Cond} {L : List Jvm.Cond} (h0 : c.before a s = true) (h : ∀ w ∈ L, w.before a s = true) : ∀ w ∈ c :: L, w.before a s = true := fun w hw => (List.mem_cons.mp hw).elim (fun e => e ▸ h0) (h w)
/-- the words of String.length(), either coding -/
abbrev wordsLen : List Jvm.Cond := [.code Len.yN Len.yB 1 (some .int), .initialized ST, .fieldLink ST 9 ST "value" "[B", .fieldLink ST 38 ST "COMPACT_STRINGS" "Z", .fieldLink ST 15 ST "coder" "B", .code Cdr.yN Cdr.yB 1 (some .byte), .methodLink ST 335 Cdr.yN, .declares Cdr.yN, .selects ST Cdr.yN Cdr.yN, .instanceMethod Cdr.yN]
theorem tabLen_of {a : Array Value} {s : State} (h : ∀ w ∈ wordsLen, w.before a s = true) : Len.tab.before a s = true := by
  have hc : Cdr.tab.before a s = true := unparts (wk h (.code Cdr.yN Cdr.yB 1 (some .byte))) (wks h (.initialized Cdr.yN.cls :: Cdr.site))
  have q := consq hc h
  exact unparts (wk q (.code Len.yN Len.yB 1 (some .int))) (wks q (.initialized Len.yN.cls :: Len.site))
theorem movedLen {Z s : State} {a0 args : Array Value} (hZ : Z.Warmed39 s.vm) (hw : ∀ d ∈ wordsLen, d.before a0 Z = true) : ∀ d ∈ wordsLen, d.before args s = true := fun d hd => by
  have q := hw d hd
  have t : ∀ d ∈ wordsLen, d = .arrayClass .byte ∨ (d.onTables && d.keepsFace) = true := by decide +kernel
  rcases t d hd with rfl | t
  · exact RoadKit.mvA hZ q
  · exact RoadKit.mv hZ q t
/-- the bytes of the chars cs, low before high -/
def wideBytes : List Int32 → List Value
  | [] => []
  | c :: cs => .int (lo8 c) :: .int (hi8 c) :: wideBytes cs
theorem wide_lo (d : Value) : ∀ (cs : List Int32) (j : Nat), j < cs.length → (wideBytes cs).getD (2 * j) d = .int (lo8 (cs.getD j 0))
  | [], j, h => absurd h (Nat.not_lt_zero j)
  | c :: cs, 0, _ => rfl
  | c :: cs, j + 1, h => by
    have q := wide_lo d cs j (by simpa using h)
    rw [show 2 * (j + 1) = 2 * j + 1 + 1 from by omega]
    simpa [wideBytes] using q
theorem wide_hi (d : Value) : ∀ (cs : List Int32) (j : Nat), j < cs.length → (wideBytes cs).getD (2 * j + 1) d = .int (hi8 (cs.getD j 0))
  | [], j, h => absurd h (Nat.not_lt_zero j)
  | c :: cs, 0, _ => rfl
  | c :: cs, j + 1, h => by
    have q := wide_hi d cs j (by simpa using h)
    rw [show 2 * (j + 1) + 1 = 2 * j + 1 + 1 + 1 from by omega]
    simpa [wideBytes] using q
theorem low_at (d : Value) (cs : List Int32) (j : Nat) (h : j < cs.length) : (cs.map fun c => Value.int (lo8 c)).getD j d = .int (lo8 (cs.getD j 0)) := by
  simp [List.getD_eq_getElem?_getD, h]
/-- an array of N2 bytes vs codes the chars cs by the coder cd -/
def CodA (cs : List Int32) (cd N2 : Int32) (vs : List Value) : Prop := (cd = 0 ∧ N2 = Int32.ofNat cs.length ∧ vs = (cs.map fun c => Value.int (lo8 c)) ∧ ∀ c ∈ cs, ¬ 255 < c) ∨ (cd = 1 ∧ N2 = Int32.ofNat (2 * cs.length) ∧ vs = wideBytes cs ∧ ∃ c ∈ cs, 255 < c)
theorem CodA.cod {cs : List Int32} {cd N2 : Int32} {vs : List Value} {V : Cell} (h : CodA cs cd N2 vs) (hn : 2 * cs.length < 2 ^ 31) (hs : V.slots.size = N2.toNatClampNeg) (hv : RoadKit.Has V vs (.int 0)) : Cod cd cs.length (fun j => cs.getD j 0) V := by
  rcases h with ⟨rfl, rfl, rfl, h⟩ | ⟨rfl, rfl, rfl, c, hc, hw⟩
  · rw [n32 (by omega)] at hs
    exact Or.inl ⟨rfl, hs, fun j hj => ⟨by rw [hv j (by omega), low_at _ _ _ hj], by
      have e : cs.getD j 0 = cs[j] := by simp [List.getD_eq_getElem?_getD, hj]
      show ¬ 255 < cs.getD j 0
      rw [e]; exact h _ (List.getElem_mem _)⟩⟩
  · rw [n32 (by omega)] at hs
    obtain ⟨j, hj, rfl⟩ := List.getElem_of_mem hc
    exact Or.inr ⟨rfl, hs, fun j hj => ⟨by rw [hv _ (by omega), wide_lo _ _ _ hj], by rw [hv _ (by omega), wide_hi _ _ _ hj]⟩, j, hj, by
      have e : cs.getD j 0 = cs[j] := by simp [List.getD_eq_getElem?_getD, hj]
      show 255 < cs.getD j 0
      rw [e]; exact hw⟩
/-- an object of exactly java/lang/String, its two fields found: as the laws ask it -/
theorem strObj {Z U : State} {a0 : Array Value} {kI : Nat} (wi : (Jvm.Cond.instantiable ST kI).before a0 Z = true) (al : Z.vm.Alike U.vm) {x : Addr} {v0 c0 : Value} (E : RoadKit.Exa Z U.heap x ST) (V : RoadKit.Fld Z U.heap x ST "value" "[B" v0) (C : RoadKit.Fld Z U.heap x ST "coder" "B" c0) :
    ∃ (D : Cell) (fV fC : Field), Blank ST x D U ∧ Found ST "value" "[B" fV U ∧ Found ST "coder" "B" fC U ∧ D.slots[fV.slot]? = some v0 ∧ D.slots[fC.slot]? = some c0 ∧ RoadKit.slotOf Z ST "value" "[B" = fV.slot ∧ RoadKit.slotOf Z ST "coder" "B" = fC.slot := by
  obtain ⟨D, cfV, kV, iV, fV, hD, gV, stV, knV, obV, asV, slV⟩ := V
  obtain ⟨D', cfC, kC, iC, fC, hD', gC, stC, -, -, asC, slC⟩ := C
  cases hD.symm.trans hD'
  obtain ⟨D2, kD, e1, e2, e3, e4, e5⟩ := E
  cases hD.symm.trans e1
  obtain ⟨c2, k2, i1, i2, i3, -⟩ := Cond.instantiable_spec wi
  cases e2.symm.trans i1
  cases e3.symm.trans i2
  obtain ⟨kU, u1, u2⟩ := al.2.2 _ _ e3
  exact ⟨D, fV, fC, ⟨hD, ⟨knV, fun q hq => by rw [hq] at obV; cases obV⟩, by rw [al.findClass]; exact e2, kU, u1, by rw [u2]; exact i3, by rw [u2]; exact e5 i3⟩, ⟨SBG.found_only al ⟨cfV, kV, iV, gV⟩, stV⟩, ⟨SBG.found_only al ⟨cfC, kC, iC, gC⟩, stC⟩, slV, slC, by simp [RoadKit.slotOf, gV], by simp [RoadKit.slotOf, gC]⟩
theorem sta_is {Z U : State} (al : Z.vm.Alike U.vm) {C n d : String} {v : Value} (S : RoadKit.Sta Z U.heap C n d v) : StaticIs U C n d v := by
  obtain ⟨cfS, iS, kS, fS, st, cS, t1, t2, t3, t4, t5, t6, t7⟩ := S
  exact StaticIs.there (s := { Z with heap := U.heap }) ⟨cfS, iS, kS, fS, st, cS, t1, t2, t3, t4, t5, (fun q => by rw [q] at t6; cases t6), t7⟩ al rfl
/-- **length() OF SUCH A STRING** -/
theorem lenW {p : Program} {l : Launch} {e : Env} {R : Room} {s : State} {args : Array Value} {below : List Frame} {len W : Nat} {Z : State} {a0 : Array Value} {h : Heap} (hZ : Z.Warmed39 s.vm) (hw : ∀ d ∈ wordsLen, d.before a0 Z = true) {kI : Nat} (wi : (Jvm.Cond.instantiable ST kI).before a0 Z = true)
    {x t : Addr} {kb : ClassId} {cs : List Int32} {cd N2 z : Int32} {vs : List Value} (E : RoadKit.Exa Z h x ST) (V : RoadKit.Fld Z h x ST "value" "[B" (.ref t)) (C : RoadKit.Fld Z h x ST "coder" "B" (.int cd)) (K : RoadKit.Arv Z h t kb .byte N2 vs (.int 0)) (hc : CodA cs cd N2 vs) (hb : ∀ c ∈ cs, ¬ c < 0 ∧ ¬ (65535 : Int32) < c)
    (S : RoadKit.Sta Z h ST "COMPACT_STRINGS" "Z" (.int z)) (hz : ¬ z = 0) (l2 : cs.length ≤ 4000) (hfr : 2 ≤ R.frames) (hlo : W + 25 ≤ R.locals) :
    Back l R p e below s args (⟨"java/lang/String", "length", "()I"⟩ : MethodName) len W (fun P a => a = #[.ref x] ∧ P.U.heap = h ∧ P.cells + 0 ≤ R.cells ∧ P.slots + 0 ≤ R.slots)
      (fun P _ v B => ∃ L, (v = some (.int (Int32.ofNat cs.length)) ∧ L = [] ∧ B.U.heap = h) ∧ B.locs = P.locs ++ L ∧ B.cells = P.cells + 0 ∧ B.slots = P.slots + 0) := by
  obtain ⟨A, K1, K2, K3, K4, K5, K6⟩ := K
  have hcod := hc.cod (by omega) K3 K5
  intro m meth c P g ig mk a X hg hsize hdg hW hn hp'
  obtain ⟨rfl, rfl, r1, r2⟩ := hp'
  have al : Z.vm.Alike P.U.vm := hZ.alike.trans X.warmed.alike
  obtain ⟨D, fV, fC, hB, F1, F2, g1, g2, -, -⟩ := strObj wi al E V C
  have hx : Txt x t A cd cs.length (fun j => cs.getD j 0) P.U := ⟨⟨_, hB.2.2.1, D, hB.1, rfl, by cases q : D.vm <;> first | rfl | exact absurd q (hB.2.1.2 _)⟩, Has.of hB F1 g1, Has.of hB F2 g2, ⟨K1.1, State.isArrayOf_alike al K1.2.1, K1.2.2, by rcases hcod with ⟨-, q, -⟩ | ⟨-, q, -⟩ <;> omega⟩, hcod, fun j hj => by
    have e : cs.getD j 0 = cs[j] := by simp [List.getD_eq_getElem?_getD, hj]
    show ¬ cs.getD j 0 < 0 ∧ ¬ 65535 < cs.getD j 0
    rw [e]; exact hb _ (List.getElem_mem _)⟩
  obtain ⟨v, B, X', ⟨⟨hv, hh⟩, hl, hk, hs⟩, st⟩ := Len.pays x t A cd cs.length (fun j => cs.getD j 0) z (tabLen_of (movedLen hZ hw)) hfr hlo m meth c P g ig mk _ X hg hsize hdg hW hn ⟨r1, r2, rfl, hx, sta_is al S, hz⟩
  exact ⟨v, B, X', ⟨[], ⟨hv, rfl, hh⟩, hl, hk, hs⟩, st⟩
end StrChars.Road
namespace StrChars
open Jvm Sem ClassFile Op Lib Jvm.Stand Jvm.Free.XT Jvm.Free.ALB Jvm.Free.JM Jvm.Free
open Jvm.Lib.Cold (StaticIs)
/-- what place i of a byte[]'s cell holds -/
def yv (A : Cell) (i : Nat) : Int32 := match A.slots[i]? with | some (.int x) => x | _ => 0
theorem yv_get {a : Addr} {A : Cell} {U : State} (h : XT.Arr .byte a A U) (ht : Typed .byte A) {i : Nat} (hi : i < A.slots.size) : A.slots[i]? = some (.int (yv A i)) := by
  have e := Array.getElem?_eq_getElem hi
  have f := ht i _ e
  unfold yv; rw [e]
  generalize A.slots[i] = v at f
  cases v <;> simp [fits] at f ⊢
/-- the two arrays are equal, place for place -/
def EqC (A B : Cell) : Prop := A.slots.size = B.slots.size ∧ ∀ i, i < A.slots.size → yv A i = yv B i
/-- a boolean that says whether p -/
def Says01 (q : Prop) (r : Option Value) (s u : State) : Prop := ∃ v : Int32, r = some (.int v) ∧ u.heap = s.heap ∧ ((v = 1 ∧ q) ∨ (v = 0 ∧ ¬ q))
theorem Says01.mv {q : Prop} : ∀ r (U U' V V' : State), U'.heap = U.heap → V.vm.Alike V'.vm → V'.heap = V.heap → Says01 q r U V → Says01 q r U' V' :=
  fun r U U' V V' h1 _ h2 ⟨v, a, b, c⟩ => ⟨v, a, by rw [h1, h2]; exact b, c⟩
namespace LEq
def yN : MethodName := ⟨"java/lang/StringLatin1", "equals", "([B[B)Z"⟩
abbrev yB : ByteArray := jdk_43_method_13_code
theorem d0 : decode yB 0 = .ok (.aload_n 0, 1) := by decide +kernel
theorem d1 : decode yB 1 = .ok (.arraylength, 1) := by decide +kernel
theorem d2 : decode yB 2 = .ok (.aload_n 1, 1) := by decide +kernel
theorem d3 : decode yB 3 = .ok (.arraylength, 1) := by decide +kernel
theorem d4 : decode yB 4 = .ok (.if_icmp (.ne) 30, 3) := by decide +kernel
theorem d7 : decode yB 7 = .ok (.iconst 0, 1) := by decide +kernel
theorem d8 : decode yB 8 = .ok (.istore_n 2, 1) := by decide +kernel
theorem d9 : decode yB 9 = .ok (.iload_n 2, 1) := by decide +kernel
theorem d10 : decode yB 10 = .ok (.aload_n 0, 1) := by decide +kernel
theorem d11 : decode yB 11 = .ok (.arraylength, 1) := by decide +kernel
theorem d12 : decode yB 12 = .ok (.if_icmp (.ge) 20, 3) := by decide +kernel
theorem d15 : decode yB 15 = .ok (.aload_n 0, 1) := by decide +kernel
theorem d16 : decode yB 16 = .ok (.iload_n 2, 1) := by decide +kernel
theorem d17 : decode yB 17 = .ok (.baload, 1) := by decide +kernel
theorem d18 : decode yB 18 = .ok (.aload_n 1, 1) := by decide +kernel
theorem d19 : decode yB 19 = .ok (.iload_n 2, 1) := by decide +kernel
theorem d20 : decode yB 20 = .ok (.baload, 1) := by decide +kernel
theorem d21 : decode yB 21 = .ok (.if_icmp (.eq) 5, 3) := by decide +kernel
theorem d24 : decode yB 24 = .ok (.iconst 0, 1) := by decide +kernel
theorem d25 : decode yB 25 = .ok (.ireturn, 1) := by decide +kernel
theorem d26 : decode yB 26 = .ok (.iinc 2 1, 3) := by decide +kernel
theorem d29 : decode yB 29 = .ok (.goto (-20), 3) := by decide +kernel
theorem d32 : decode yB 32 = .ok (.iconst 1, 1) := by decide +kernel
theorem d33 : decode yB 33 = .ok (.ireturn, 1) := by decide +kernel
theorem d34 : decode yB 34 = .ok (.iconst 0, 1) := by decide +kernel
theorem d35 : decode yB 35 = .ok (.ireturn, 1) := by decide +kernel
def site : List Cond := []
def tab : Cond := tabOf yN yB 3 (some .boolean) site
def P (a : Addr) (A : Cell) (b : Addr) (B : Cell) (args : Array Value) (s : State) : Prop := args = #[.ref a, .ref b] ∧ XT.Arr .byte a A s ∧ Typed .byte A ∧ XT.Arr .byte b B s ∧ Typed .byte B
/-- whether two byte[] are equal, place for place -/
theorem law (l : Launch) (a : Addr) (A : Cell) (b : Addr) (B : Cell) : Law l yN 2 2 0 0 yB 3 (some .boolean) site (P a A b B) (Says01 (EqC A B)) [] 0 0 := by
  refine Law.of_walk (plainFor_of_name (by decide +kernel)) (by decide +kernel) (by decide +kernel) (by decide) (fun _ _ h => by rw [h.1]; rfl) (fun _ U U' hal hh h => ⟨h.1, h.2.1.mv hal hh, h.2.2.1, h.2.2.2.1.mv hal hh, h.2.2.2.2⟩) (fun r U U' V V' h1 hal h2 h => Says01.mv r U U' V V' h1 hal h2 h) ?_
  intro p e s m args below meth c s₁ X0 hexec hbytes hml hret hlk hnm hown hh0 W hP
  obtain ⟨rfl, hA, tA, hB, tB⟩ := hP
  have a31 := hA.2.2.2
  have b31 := hB.2.2.2
  have hA0 := hA.mv X0.warmed.alike hh0
  have hB0 := hB.mv X0.warmed.alike hh0
  have c1 : Steps p.tables e below (s₁.setTop (entryFrame m #[.ref a, .ref b] 3)) (s₁.setTop (mkF m 0 #[.val (.ref a), .val (.ref b), .unset] [])) := entry rfl
  have c2 : Steps p.tables e below (s₁.setTop (entryFrame m #[.ref a, .ref b] 3)) (s₁.setTop (mkF m 4 #[.val (.ref a), .val (.ref b), .unset] [.int (Int32.ofNat B.slots.size), .int (Int32.ofNat A.slots.size)])) := c1.trans (by
    refine XS.aloadN X0.here hexec rfl (hb hbytes d0) rfl rfl ?_
    refine X0.alen hexec hA0 rfl rfl (hb hbytes d1) ?_
    refine XS.aloadN X0.here hexec rfl (hb hbytes d2) rfl rfl ?_
    refine X0.alen hexec hB0 rfl rfl (hb hbytes d3) ?_
    exact Steps.refl _)
  by_cases hs : A.slots.size = B.slots.size
  · have c3 : Steps p.tables e below (s₁.setTop (entryFrame m #[.ref a, .ref b] 3)) (s₁.setTop (mkF m 9 #[.val (.ref a), .val (.ref b), .val (.int 0)] [])) := c2.trans (by
      refine XS.icmpNo X0.here hexec rfl (hb hbytes d4) rfl (ii_ne_f (by rw [hs])) ?_
      refine iconstV X0.here hexec rfl 0 (hb hbytes d7) (by decide) ?_
      refine XS.istoreN X0.here hexec rfl (hb hbytes d8) rfl rfl ?_
      exact Steps.refl _)
    have loop : ∀ (r i : Nat), i + r = A.slots.size → (∀ j, j < i → yv A j = yv B j) → Steps p.tables e below (s₁.setTop (entryFrame m #[.ref a, .ref b] 3)) (s₁.setTop (mkF m 9 #[.val (.ref a), .val (.ref b), .val (.int (Int32.ofNat i))] [])) → ∃ (pc : Nat) (Ls : Array Slot) (v : Int32), (pc = 25 ∨ pc = 33) ∧ ((v = 1 ∧ EqC A B) ∨ (v = 0 ∧ ¬ EqC A B)) ∧ Steps p.tables e below (s₁.setTop (entryFrame m #[.ref a, .ref b] 3)) (s₁.setTop (mkF m pc Ls [.int v])) := by
      intro r
      induction r with
      | zero =>
        intro i hi he cl
        exact ⟨33, _, 1, Or.inr rfl, Or.inl ⟨rfl, hs, fun j hj => he j (by omega)⟩, cl.trans (by
          refine XS.iloadN X0.here hexec rfl (hb hbytes d9) rfl ?_
          refine XS.aloadN X0.here hexec rfl (hb hbytes d10) rfl rfl ?_
          refine X0.alen hexec hA0 rfl rfl (hb hbytes d11) ?_
          refine XS.icmpYes X0.here hexec rfl (pc0 := 12) rfl (hb hbytes d12) rfl (ii_ge_t (nlt32 (by omega) (by omega))) (by decide) rfl ?_
          refine iconstV X0.here hexec rfl 1 (hb hbytes d32) (by decide) ?_
          exact Steps.refl _)⟩
      | succ r ih =>
        intro i hi he cl
        have c4 : Steps p.tables e below (s₁.setTop (entryFrame m #[.ref a, .ref b] 3)) (s₁.setTop (mkF m 21 #[.val (.ref a), .val (.ref b), .val (.int (Int32.ofNat i))] [.int (yv B i), .int (yv A i)])) := cl.trans (by
          refine XS.iloadN X0.here hexec rfl (hb hbytes d9) rfl ?_
          refine XS.aloadN X0.here hexec rfl (hb hbytes d10) rfl rfl ?_
          refine X0.alen hexec hA0 rfl rfl (hb hbytes d11) ?_
          refine XS.icmpNo X0.here hexec rfl (hb hbytes d12) rfl (ii_ge_f (lt32 (by omega) (by omega))) ?_
          refine XS.aloadN X0.here hexec rfl (hb hbytes d15) rfl rfl ?_
          refine XS.iloadN X0.here hexec rfl (hb hbytes d16) rfl ?_
          refine X0.aget hexec hA0 rfl (yv_get hA tA (i := i) (by omega)) rfl rfl (hb hbytes d17) ?_
          refine XS.aloadN X0.here hexec rfl (hb hbytes d18) rfl rfl ?_
          refine XS.iloadN X0.here hexec rfl (hb hbytes d19) rfl ?_
          refine X0.aget hexec hB0 rfl (yv_get hB tB (i := i) (by omega)) rfl rfl (hb hbytes d20) ?_
          exact Steps.refl _)
        by_cases hv : yv A i = yv B i
        · have c5 : Steps p.tables e below (s₁.setTop (entryFrame m #[.ref a, .ref b] 3)) (s₁.setTop (mkF m 9 #[.val (.ref a), .val (.ref b), .val (.int (Int32.ofNat i + 1))] [])) := c4.trans (by
            refine XS.icmpYes X0.here hexec rfl (pc0 := 21) rfl (hb hbytes d21) rfl (ii_eq_t hv) (by decide) rfl ?_
            refine iincV X0.here hexec rfl 1 (hb hbytes d26) (by decide) rfl rfl ?_
            refine XS.goto X0.here hexec rfl (pc0 := 29) rfl (hb hbytes d29) (by decide) rfl ?_
            exact Steps.refl _)
          rw [succ32] at c5
          exact ih (i + 1) (by omega) (fun j hj => by
            by_cases e : j = i
            · rw [e]; exact hv
            · exact he j (by omega)) c5
        · exact ⟨25, _, 0, Or.inl rfl, Or.inr ⟨rfl, fun q => hv (q.2 i (by omega))⟩, c4.trans (by
            refine XS.icmpNo X0.here hexec rfl (hb hbytes d21) rfl (ii_eq_f hv) ?_
            refine iconstV X0.here hexec rfl 0 (hb hbytes d24) (by decide) ?_
            exact Steps.refl _)⟩
    obtain ⟨pc, Ls, v, hpc, hv, cz⟩ := loop A.slots.size 0 (by omega) (fun j hj => absurd hj (Nat.not_lt_zero j)) c3
    have nv : narrow .boolean (.int v) = .int v := by rcases hv with ⟨rfl, -⟩ | ⟨rfl, -⟩ <;> rfl
    rcases hpc with rfl | rfl
    · exact ⟨s₁, some (.int v), _, _, _, X0, rfl, rfl, rfl, (fun h => by cases h), ⟨v, rfl, hh0, hv⟩, fun fs hl => cz.trans (X0.ireturnOut hexec hret nv (Or.inr (Or.inl rfl)) (hb hbytes d25) hl)⟩
    · exact ⟨s₁, some (.int v), _, _, _, X0, rfl, rfl, rfl, (fun h => by cases h), ⟨v, rfl, hh0, hv⟩, fun fs hl => cz.trans (X0.ireturnOut hexec hret nv (Or.inr (Or.inl rfl)) (hb hbytes d33) hl)⟩
  · have c3 : Steps p.tables e below (s₁.setTop (entryFrame m #[.ref a, .ref b] 3)) (s₁.setTop (mkF m 35 #[.val (.ref a), .val (.ref b), .unset] [.int 0])) := c2.trans (by
      refine XS.icmpYes X0.here hexec rfl (pc0 := 4) rfl (hb hbytes d4) rfl (ii_ne_t (ne32 a31 b31 hs)) (by decide) rfl ?_
      refine iconstV X0.here hexec rfl 0 (hb hbytes d34) (by decide) ?_
      exact Steps.refl _)
    exact ⟨s₁, some (.int 0), _, _, _, X0, rfl, rfl, rfl, (fun h => by cases h), ⟨0, rfl, hh0, Or.inr ⟨rfl, fun q => hs q.1⟩⟩, fun fs hl => c3.trans (X0.ireturnOut hexec hret rfl (Or.inr (Or.inl rfl)) (hb hbytes d35) hl)⟩
end LEq
theorem Cod.ty {cd : Int32} {n : Nat} {f : Nat → Int32} {V : Cell} (h : Cod cd n f V) : Typed .byte V := fun i v hv => by
  have hi : i < V.slots.size := (Array.getElem?_eq_some_iff.mp hv).1
  rcases h with ⟨-, k1, k2⟩ | ⟨-, k1, k2, -⟩
  · rw [(k2 i (by omega)).1] at hv; cases hv; exact fits_lo8 _
  · rcases Nat.mod_two_eq_zero_or_one i with e | e
    · obtain ⟨j, rfl⟩ : ∃ j, i = 2 * j := ⟨i / 2, by omega⟩
      rw [(k2 j (by omega)).1] at hv; cases hv; exact fits_lo8 _
    · obtain ⟨j, rfl⟩ : ∃ j, i = 2 * j + 1 := ⟨i / 2, by omega⟩
      rw [(k2 j (by omega)).2] at hv; cases hv; exact fits_lo8 _
/-- the same text -/
def SameT (n : Nat) (f : Nat → Int32) (k : Nat) (g : Nat → Int32) : Prop := n = k ∧ ∀ j, j < n → f j = g j
theorem lo8_inj {x y : Int32} (h0 : ¬ x < 0) (h1 : ¬ 255 < x) (k0 : ¬ y < 0) (k1 : ¬ 255 < y) (h : lo8 x = lo8 y) : x = y := by
  rw [← lo8_mask h0 h1, ← lo8_mask k0 k1, h]
/-- arrays coded by one coder are equal just where the texts are -/
theorem Cod.eqv {cd : Int32} {n k : Nat} {f g : Nat → Int32} {V V' : Cell} (h : Cod cd n f V) (h' : Cod cd k g V') (hf : ∀ j, j < n → ¬ f j < 0 ∧ ¬ 65535 < f j) (hg : ∀ j, j < k → ¬ g j < 0 ∧ ¬ 65535 < g j) : EqC V V' ↔ SameT n f k g := by
  have yvv : ∀ {W : Cell} {i : Nat} {x : Int32}, W.slots[i]? = some (.int x) → yv W i = x := fun q => by unfold yv; rw [q]
  rcases h with ⟨rfl, k1, k2⟩ | ⟨rfl, k1, k2, -⟩
  · rcases h' with ⟨-, m1, m2⟩ | ⟨e, -⟩
    · constructor
      · rintro ⟨e1, e2⟩
        refine ⟨by omega, fun j hj => ?_⟩
        have q := e2 j (by omega)
        rw [yvv (k2 j hj).1, yvv (m2 j (by omega)).1] at q
        exact lo8_inj (hf j hj).1 (k2 j hj).2 (hg j (by omega)).1 (m2 j (by omega)).2 q
      · rintro ⟨rfl, e2⟩
        refine ⟨by omega, fun j hj => ?_⟩
        rw [yvv (k2 j (by omega)).1, yvv (m2 j (by omega)).1, e2 j (by omega)]
    · exact absurd e (by decide)
  · rcases h' with ⟨e, -⟩ | ⟨-, m1, m2, -⟩
    · exact absurd e (by decide)
    · constructor
      · rintro ⟨e1, e2⟩
        refine ⟨by omega, fun j hj => ?_⟩
        have q1 := e2 (2 * j) (by omega)
        have q2 := e2 (2 * j + 1) (by omega)
        rw [yvv (k2 j hj).1, yvv (m2 j (by omega)).1] at q1
        rw [yvv (k2 j hj).2, yvv (m2 j (by omega)).2] at q2
        rw [← pair_says (hf j hj).1 (hf j hj).2, ← pair_says (hg j (by omega)).1 (hg j (by omega)).2, q1, q2]
      · rintro ⟨rfl, e2⟩
        refine ⟨by omega, fun i hi => ?_⟩
        rcases Nat.mod_two_eq_zero_or_one i with e | e
        · obtain ⟨j, rfl⟩ : ∃ j, i = 2 * j := ⟨i / 2, by omega⟩
          rw [yvv (k2 j (by omega)).1, yvv (m2 j (by omega)).1, e2 j (by omega)]
        · obtain ⟨j, rfl⟩ : ∃ j, i = 2 * j + 1 := ⟨i / 2, by omega⟩
          rw [yvv (k2 j (by omega)).2, yvv (m2 j (by omega)).2, e2 j (by omega)]
/-- two codings differ: so do the texts -/
theorem Cod.dif {cd cd' : Int32} {n k : Nat} {f g : Nat → Int32} {V V' : Cell} (h : Cod cd n f V) (h' : Cod cd' k g V') (hne : ¬ cd = cd') : ¬ SameT n f k g := by
  rintro ⟨rfl, e⟩
  rcases h with ⟨rfl, -, k2⟩ | ⟨rfl, -, -, j, hj, hw⟩
  · rcases h' with ⟨rfl, -⟩ | ⟨-, -, -, j, hj, hw⟩
    · exact hne rfl
    · exact (k2 j hj).2 (by rw [e j hj]; exact hw)
  · rcases h' with ⟨-, -, m2⟩ | ⟨rfl, -⟩
    · exact (m2 j hj).2 (by rw [← e j hj]; exact hw)
    · exact hne rfl
/-- an object of exactly C is an instance of C -/
theorem cinst {p : Program} {l : Launch} {e : Env} {R : Room} {s : State} {m : MethodId} {args : Array Value} {below : List Frame} {meth : Method} {c : Code} {T : State} {locs : List Loc} {cells slots : Nat} (X : Stand p l e R s m args below meth c T locs cells slots) (hexec : p.tables.exec = Jvm.exec) {own C : String} {index : Nat} (hown : s.vm.findClass own = some m.cls) (hlink : (Cond.classLink own index C).before args s = true) {a : Addr} (hE : Exact C a T)
    {g : JFrame} (hg : g.method = m) {rest : List Value} (hstack : g.stack = .ref a :: rest) (hdg : decode c.code g.pc = .ok (.instanceof index, 3)) :
    ∃ T', Stand p l e R s m args below meth c T' locs cells slots ∧ T'.heap = T.heap ∧ ∀ target, Steps p.tables e below (T'.setTop { g with pc := g.pc + 3, stack := .int 1 :: rest }) target → Steps p.tables e below (T.setTop g) target := by
  obtain ⟨cB, h1, D, h2, h3, h4⟩ := hE
  have h1' : s.vm.findClass C = some cB := by rw [← X.warmed.alike.findClass]; exact h1
  obtain ⟨vm', X', st⟩ := X.instanceofYes hexec hown hlink h2 h4 h1' (by rw [h3]; exact Jvm.Free.SB.assignable_self _ _) hg hstack hdg
  exact ⟨_, X', rfl, st⟩
theorem cself {p : Program} {l : Launch} {e : Env} {R : Room} {s : State} {m : MethodId} {args : Array Value} {below : List Frame} {meth : Method} {c : Code} {T : State} {locs : List Loc} {cells slots : Nat} (X : Stand p l e R s m args below meth c T locs cells slots) (hexec : p.tables.exec = Jvm.exec) {own C : String} {index : Nat} (hown : s.vm.findClass own = some m.cls) (hlink : (Cond.classLink own index C).before args s = true) {a : Addr} (hE : Exact C a T)
    {g : JFrame} (hg : g.method = m) {rest : List Value} (hstack : g.stack = .ref a :: rest) (hdg : decode c.code g.pc = .ok (.checkcast index, 3)) :
    ∃ T', Stand p l e R s m args below meth c T' locs cells slots ∧ T'.heap = T.heap ∧ ∀ target, Steps p.tables e below (T'.setTop { g with pc := g.pc + 3, stack := .ref a :: rest }) target → Steps p.tables e below (T.setTop g) target := by
  obtain ⟨cB, h1, D, h2, h3, h4⟩ := hE
  have h1' : s.vm.findClass C = some cB := by rw [← X.warmed.alike.findClass]; exact h1
  obtain ⟨vm', X', st⟩ := X.checkcastYes hexec hown hlink h2 h4 h1' (by rw [h3]; exact Jvm.Free.SB.assignable_self _ _) hg hstack hdg
  exact ⟨_, X', rfl, fun t h => st t (by rw [← hstack] at h; exact h)⟩
namespace SEq
def yN : MethodName := ⟨"java/lang/String", "equals", "(Ljava/lang/Object;)Z"⟩
abbrev yB : ByteArray := jdk_42_method_66_code
theorem d0 : decode yB 0 = .ok (.aload_n 0, 1) := by decide +kernel
theorem d1 : decode yB 1 = .ok (.aload_n 1, 1) := by decide +kernel
theorem d2 : decode yB 2 = .ok (.if_acmp (.ne) 5, 3) := by decide +kernel
theorem d5 : decode yB 5 = .ok (.iconst 1, 1) := by decide +kernel
theorem d6 : decode yB 6 = .ok (.ireturn, 1) := by decide +kernel
theorem d7 : decode yB 7 = .ok (.aload_n 1, 1) := by decide +kernel
theorem d8 : decode yB 8 = .ok (.instanceof 10, 3) := by decide +kernel
theorem d11 : decode yB 11 = .ok (.ifCond (.eq) 43, 3) := by decide +kernel
theorem d14 : decode yB 14 = .ok (.aload_n 1, 1) := by decide +kernel
theorem d15 : decode yB 15 = .ok (.checkcast 10, 3) := by decide +kernel
theorem d18 : decode yB 18 = .ok (.astore_n 2, 1) := by decide +kernel
theorem d19 : decode yB 19 = .ok (.getstatic 38, 3) := by decide +kernel
theorem d22 : decode yB 22 = .ok (.ifCond (.eq) 14, 3) := by decide +kernel
theorem d25 : decode yB 25 = .ok (.aload_n 0, 1) := by decide +kernel
theorem d26 : decode yB 26 = .ok (.getfield 15, 3) := by decide +kernel
theorem d29 : decode yB 29 = .ok (.aload_n 2, 1) := by decide +kernel
theorem d30 : decode yB 30 = .ok (.getfield 15, 3) := by decide +kernel
theorem d33 : decode yB 33 = .ok (.if_icmp (.ne) 21, 3) := by decide +kernel
theorem d36 : decode yB 36 = .ok (.aload_n 0, 1) := by decide +kernel
theorem d37 : decode yB 37 = .ok (.getfield 9, 3) := by decide +kernel
theorem d40 : decode yB 40 = .ok (.aload_n 2, 1) := by decide +kernel
theorem d41 : decode yB 41 = .ok (.getfield 9, 3) := by decide +kernel
theorem d44 : decode yB 44 = .ok (.invokestatic 541, 3) := by decide +kernel
theorem d47 : decode yB 47 = .ok (.ifCond (.eq) 7, 3) := by decide +kernel
theorem d50 : decode yB 50 = .ok (.iconst 1, 1) := by decide +kernel
theorem d51 : decode yB 51 = .ok (.goto 4, 3) := by decide +kernel
theorem d54 : decode yB 54 = .ok (.iconst 0, 1) := by decide +kernel
theorem d55 : decode yB 55 = .ok (.ireturn, 1) := by decide +kernel
def site : List Cond := [.classLink "java/lang/String" 10 "java/lang/String", .fieldLink "java/lang/String" 38 "java/lang/String" "COMPACT_STRINGS" "Z", .fieldLink "java/lang/String" 15 "java/lang/String" "coder" "B", .fieldLink "java/lang/String" 9 "java/lang/String" "value" "[B", LEq.tab] ++ staticW "java/lang/String" 541 LEq.yN
def tab : Cond := tabOf yN yB 3 (some .boolean) site
def P (x t : Addr) (V : Cell) (cd : Int32) (n : Nat) (f : Nat → Int32) (y t' : Addr) (V' : Cell) (cd' : Int32) (k : Nat) (g : Nat → Int32) (z : Int32) (args : Array Value) (s : State) : Prop := args = #[.ref x, .ref y] ∧ Txt x t V cd n f s ∧ Txt y t' V' cd' k g s ∧ StaticIs s "java/lang/String" "COMPACT_STRINGS" "Z" (.int z) ∧ ¬ z = 0
/-- equals(Object) of two Strings: whether the texts are the same -/
theorem law (l : Launch) (x t : Addr) (V : Cell) (cd : Int32) (n : Nat) (f : Nat → Int32) (y t' : Addr) (V' : Cell) (cd' : Int32) (k : Nat) (g : Nat → Int32) (z : Int32) : Law l yN 2 1 1 14 yB 3 (some .boolean) site (P x t V cd n f y t' V' cd' k g z) (Says01 (SameT n f k g)) [] 0 0 := by
  refine Law.of_walk (plainFor_of_name (by decide +kernel)) (by decide +kernel) (by decide +kernel) (by decide) (fun _ _ h => by rw [h.1]; rfl) (fun _ U U' hal hh h => ⟨h.1, h.2.1.mv hal hh, h.2.2.1.mv hal hh, h.2.2.2.1.there hal hh, h.2.2.2.2⟩) (fun r U U' V V' h1 hal h2 h => Says01.mv r U U' V V' h1 hal h2 h) ?_
  intro p e s m args below meth c s₁ X0 hexec hbytes hml hret hlk hnm hown hh0 W hP
  obtain ⟨rfl, hx, hy, s1, hz⟩ := hP
  have c1 : Steps p.tables e below (s₁.setTop (entryFrame m #[.ref x, .ref y] 3)) (s₁.setTop (mkF m 2 #[.val (.ref x), .val (.ref y), .unset] [.ref y, .ref x])) := Steps.trans (entry rfl) (by
    show Steps p.tables e below (s₁.setTop (mkF m 0 #[.val (.ref x), .val (.ref y), .unset] [])) _
    refine XS.aloadN X0.here hexec rfl (hb hbytes d0) rfl rfl ?_
    refine XS.aloadN X0.here hexec rfl (hb hbytes d1) rfl rfl ?_
    exact Steps.refl _)
  by_cases hxy : x = y
  · have c2 : Steps p.tables e below (s₁.setTop (entryFrame m #[.ref x, .ref y] 3)) (s₁.setTop (mkF m 6 #[.val (.ref x), .val (.ref y), .unset] [.int 1])) := c1.trans (by
      refine acmpNo X0.here hexec rfl (hb hbytes d2) rfl rfl rfl (by simp [acmp, hxy]) ?_
      refine iconstV X0.here hexec rfl 1 (hb hbytes d5) (by decide) ?_
      exact Steps.refl _)
    subst hxy
    have ec : cd = cd' := by
      obtain ⟨D, fd, a1, a2, a3⟩ := hx.2.2.1
      obtain ⟨D', fd', b1, b2, b3⟩ := hy.2.2.1
      cases a1.symm.trans b1
      obtain ⟨q1, q2, q3, q4⟩ := a2.1
      obtain ⟨r1, r2, r3, r4⟩ := b2.1
      cases q4.symm.trans r4
      cases a3.symm.trans b3; rfl
    have et : t = t' := by
      obtain ⟨D, fd, a1, a2, a3⟩ := hx.2.1
      obtain ⟨D', fd', b1, b2, b3⟩ := hy.2.1
      cases a1.symm.trans b1
      obtain ⟨q1, q2, q3, q4⟩ := a2.1
      obtain ⟨r1, r2, r3, r4⟩ := b2.1
      cases q4.symm.trans r4
      cases a3.symm.trans b3; rfl
    subst ec et
    have ev : V = V' := by cases hx.2.2.2.1.1.symm.trans hy.2.2.2.1.1; rfl
    subst ev
    have hs : SameT n f k g := (Cod.eqv hx.2.2.2.2.1 hy.2.2.2.2.1 hx.2.2.2.2.2 hy.2.2.2.2.2).mp ⟨rfl, fun _ _ => rfl⟩
    exact ⟨s₁, some (.int 1), _, _, _, X0, rfl, rfl, rfl, (fun h => by cases h), ⟨1, rfl, hh0, Or.inl ⟨rfl, hs⟩⟩, fun fs hl => c2.trans (X0.ireturnOut hexec hret rfl (Or.inr (Or.inl rfl)) (hb hbytes d6) hl)⟩
  · have c2 : Steps p.tables e below (s₁.setTop (entryFrame m #[.ref x, .ref y] 3)) (s₁.setTop (mkF m 8 #[.val (.ref x), .val (.ref y), .unset] [.ref y])) := c1.trans (by
      refine acmpYes X0.here hexec rfl (pc0 := 2) rfl (hb hbytes d2) rfl rfl rfl (by simp [acmp, hxy]) (by decide) rfl ?_
      refine XS.aloadN X0.here hexec rfl (hb hbytes d7) rfl rfl ?_
      exact Steps.refl _)
    obtain ⟨T3, X3, q3, st3⟩ := cinst X0 hexec hown (wk W (.classLink "java/lang/String" 10 "java/lang/String")) (hy.mv X0.warmed.alike hh0).1 (g := (mkF m 8 #[.val (.ref x), .val (.ref y), .unset] [.ref y])) rfl (rest := []) rfl (hb hbytes d8)
    have hh3 := q3.trans hh0
    have c4 : Steps p.tables e below (s₁.setTop (entryFrame m #[.ref x, .ref y] 3)) (T3.setTop (mkF m 15 #[.val (.ref x), .val (.ref y), .unset] [.ref y])) := (c2.trans (st3 _ (Steps.refl _))).trans (by
      refine XS.ifNo X3.here hexec rfl (hb hbytes d11) rfl (i0_eq_f (by decide)) ?_
      refine XS.aloadN X3.here hexec rfl (hb hbytes d14) rfl rfl ?_
      exact Steps.refl _)
    obtain ⟨T5, X5, q5, st5⟩ := cself X3 hexec hown (wk W (.classLink "java/lang/String" 10 "java/lang/String")) (hy.mv X3.warmed.alike hh3).1 (g := (mkF m 15 #[.val (.ref x), .val (.ref y), .unset] [.ref y])) rfl (rest := []) rfl (hb hbytes d15)
    have hh5 := q5.trans hh3
    have c6 : Steps p.tables e below (s₁.setTop (entryFrame m #[.ref x, .ref y] 3)) (T5.setTop (mkF m 19 #[.val (.ref x), .val (.ref y), .val (.ref y)] [])) := (c4.trans (st5 _ (Steps.refl _))).trans (by
      refine XS.astoreN X5.here hexec rfl (hb hbytes d18) rfl rfl rfl ?_
      exact Steps.refl _)
    obtain ⟨T7, X7, q7, st7⟩ := X5.sget hexec hown (wk W (.fieldLink "java/lang/String" 38 "java/lang/String" "COMPACT_STRINGS" "Z")) s1 (fun _ _ h => by rw [hh5]; exact h) (g := (mkF m 19 #[.val (.ref x), .val (.ref y), .val (.ref y)] [])) rfl (hb hbytes d19)
    have hh7 := q7.trans hh5
    have c8 : Steps p.tables e below (s₁.setTop (entryFrame m #[.ref x, .ref y] 3)) (T7.setTop (mkF m 26 #[.val (.ref x), .val (.ref y), .val (.ref y)] [.ref x])) := (c6.trans (st7 _ (Steps.refl _))).trans (by
      refine XS.ifNo X7.here hexec rfl (hb hbytes d22) rfl (i0_eq_f hz) ?_
      refine XS.aloadN X7.here hexec rfl (hb hbytes d25) rfl rfl ?_
      exact Steps.refl _)
    obtain ⟨T9, X9, q9, st9⟩ := X7.hget hexec hown (wk W (.fieldLink "java/lang/String" 15 "java/lang/String" "coder" "B")) (hx.mv X7.warmed.alike hh7).2.2.1 (g := (mkF m 26 #[.val (.ref x), .val (.ref y), .val (.ref y)] [.ref x])) rfl (rest := []) rfl (hb hbytes d26)
    have hh9 := q9.trans hh7
    have c10 : Steps p.tables e below (s₁.setTop (entryFrame m #[.ref x, .ref y] 3)) (T9.setTop (mkF m 30 #[.val (.ref x), .val (.ref y), .val (.ref y)] [.ref y, .int cd])) := (c8.trans (st9 _ (Steps.refl _))).trans (by
      refine XS.aloadN X9.here hexec rfl (hb hbytes d29) rfl rfl ?_
      exact Steps.refl _)
    obtain ⟨T11, X11, q11, st11⟩ := X9.hget hexec hown (wk W (.fieldLink "java/lang/String" 15 "java/lang/String" "coder" "B")) (hy.mv X9.warmed.alike hh9).2.2.1 (g := (mkF m 30 #[.val (.ref x), .val (.ref y), .val (.ref y)] [.ref y, .int cd])) rfl (rest := [.int cd]) rfl (hb hbytes d30)
    have hh11 := q11.trans hh9
    have c12 : Steps p.tables e below (s₁.setTop (entryFrame m #[.ref x, .ref y] 3)) (T11.setTop (mkF m 33 #[.val (.ref x), .val (.ref y), .val (.ref y)] [.int cd', .int cd])) := c10.trans (st11 _ (Steps.refl _))
    by_cases hcd : cd = cd'
    · subst hcd
      have c13 : Steps p.tables e below (s₁.setTop (entryFrame m #[.ref x, .ref y] 3)) (T11.setTop (mkF m 37 #[.val (.ref x), .val (.ref y), .val (.ref y)] [.ref x])) := c12.trans (by
        refine XS.icmpNo X11.here hexec rfl (hb hbytes d33) rfl (ii_ne_f rfl) ?_
        refine XS.aloadN X11.here hexec rfl (hb hbytes d36) rfl rfl ?_
        exact Steps.refl _)
      obtain ⟨T14, X14, q14, st14⟩ := X11.hget hexec hown (wk W (.fieldLink "java/lang/String" 9 "java/lang/String" "value" "[B")) (hx.mv X11.warmed.alike hh11).2.1 (g := (mkF m 37 #[.val (.ref x), .val (.ref y), .val (.ref y)] [.ref x])) rfl (rest := []) rfl (hb hbytes d37)
      have hh14 := q14.trans hh11
      have c15 : Steps p.tables e below (s₁.setTop (entryFrame m #[.ref x, .ref y] 3)) (T14.setTop (mkF m 41 #[.val (.ref x), .val (.ref y), .val (.ref y)] [.ref y, .ref t])) := (c13.trans (st14 _ (Steps.refl _))).trans (by
        refine XS.aloadN X14.here hexec rfl (hb hbytes d40) rfl rfl ?_
        exact Steps.refl _)
      obtain ⟨T16, X16, q16, st16⟩ := X14.hget hexec hown (wk W (.fieldLink "java/lang/String" 9 "java/lang/String" "value" "[B")) (hy.mv X14.warmed.alike hh14).2.1 (g := (mkF m 41 #[.val (.ref x), .val (.ref y), .val (.ref y)] [.ref y, .ref t])) rfl (rest := [.ref t]) rfl (hb hbytes d41)
      have hh16 := q16.trans hh14
      have c17 : Steps p.tables e below (s₁.setTop (entryFrame m #[.ref x, .ref y] 3)) (T16.setTop (mkF m 44 #[.val (.ref x), .val (.ref y), .val (.ref y)] [.ref t', .ref t])) := c15.trans (st16 _ (Steps.refl _))
      obtain ⟨v18, T18, X18, E18, g18⟩ := X16.callS hexec (LEq.law l t V t' V') hown (wks W (staticW "java/lang/String" 541 LEq.yN)) (wk W LEq.tab) (W := 0) (Nat.le_of_ble_eq_true rfl) (Nat.le_of_ble_eq_true rfl) (Nat.le_refl _) (Nat.le_refl _) (g := (mkF m 44 #[.val (.ref x), .val (.ref y), .val (.ref y)] [.ref t', .ref t])) rfl (by rw [hml]; rfl) c17 (argsL := [.ref t, .ref t']) (rest := []) rfl rfl (by show 2 * 0 + 0 ≤ _; decide) (hb hbytes d44) (⟨rfl, hx.2.2.2.1.mv X16.warmed.alike hh16, hx.2.2.2.2.1.ty, hy.2.2.2.1.mv X16.warmed.alike hh16, hy.2.2.2.2.1.ty⟩)
      obtain ⟨v, rfl, q18, hv⟩ := E18
      have iff := Cod.eqv hx.2.2.2.2.1 hy.2.2.2.2.1 hx.2.2.2.2.2 hy.2.2.2.2.2
      rcases hv with ⟨rfl, he⟩ | ⟨rfl, he⟩
      · have c19 : Steps p.tables e below (s₁.setTop (entryFrame m #[.ref x, .ref y] 3)) (T18.setTop (mkF m 55 #[.val (.ref x), .val (.ref y), .val (.ref y)] [.int 1])) := Steps.trans g18 (by
          refine XS.ifNo X18.here hexec rfl (hb hbytes d47) rfl (i0_eq_f (by decide)) ?_
          refine iconstV X18.here hexec rfl 1 (hb hbytes d50) (by decide) ?_
          refine XS.goto X18.here hexec rfl (pc0 := 51) rfl (hb hbytes d51) (by decide) rfl ?_
          exact Steps.refl _)
        exact ⟨T18, some (.int 1), _, _, _, X18, rfl, rfl, rfl, (fun h => by cases h), ⟨1, rfl, q18.trans hh16, Or.inl ⟨rfl, iff.mp he⟩⟩, fun fs hl => c19.trans (X18.ireturnOut hexec hret rfl (Or.inr (Or.inl rfl)) (hb hbytes d55) hl)⟩
      · have c19 : Steps p.tables e below (s₁.setTop (entryFrame m #[.ref x, .ref y] 3)) (T18.setTop (mkF m 55 #[.val (.ref x), .val (.ref y), .val (.ref y)] [.int 0])) := Steps.trans g18 (by
          refine XS.ifYes X18.here hexec rfl (pc0 := 47) rfl (hb hbytes d47) rfl (i0_eq_t rfl) (by decide) rfl ?_
          refine iconstV X18.here hexec rfl 0 (hb hbytes d54) (by decide) ?_
          exact Steps.refl _)
        exact ⟨T18, some (.int 0), _, _, _, X18, rfl, rfl, rfl, (fun h => by cases h), ⟨0, rfl, q18.trans hh16, Or.inr ⟨rfl, fun q => he (iff.mpr q)⟩⟩, fun fs hl => c19.trans (X18.ireturnOut hexec hret rfl (Or.inr (Or.inl rfl)) (hb hbytes d55) hl)⟩
    · have c13 : Steps p.tables e below (s₁.setTop (entryFrame m #[.ref x, .ref y] 3)) (T11.setTop (mkF m 55 #[.val (.ref x), .val (.ref y), .val (.ref y)] [.int 0])) := c12.trans (by
        refine XS.icmpYes X11.here hexec rfl (pc0 := 33) rfl (hb hbytes d33) rfl (ii_ne_t hcd) (by decide) rfl ?_
        refine iconstV X11.here hexec rfl 0 (hb hbytes d54) (by decide) ?_
        exact Steps.refl _)
      exact ⟨T11, some (.int 0), _, _, _, X11, rfl, rfl, rfl, (fun h => by cases h), ⟨0, rfl, hh11, Or.inr ⟨rfl, Cod.dif hx.2.2.2.2.1 hy.2.2.2.2.1 hcd⟩⟩, fun fs hl => c13.trans (X11.ireturnOut hexec hret rfl (Or.inr (Or.inl rfl)) (hb hbytes d55) hl)⟩
theorem pays {l : Launch} {R : Room} {p : Program} {e : Env} {below : List Frame} {s : State} {sargs : Array Value} {len W : Nat} (x t : Addr) (V : Cell) (cd : Int32) (n : Nat) (f : Nat → Int32) (y t' : Addr) (V' : Cell) (cd' : Int32) (k : Nat) (g : Nat → Int32) (z : Int32) (htab : tab.before sargs s = true) (hfr : 2 ≤ R.frames) (hlo : W + 28 ≤ R.locals) :
    Back l R p e below s sargs yN len W (fun A₁ a₁ => A₁.cells + 0 ≤ R.cells ∧ A₁.slots + 0 ≤ R.slots ∧ P x t V cd n f y t' V' cd' k g z a₁ A₁.U) (fun A₁ _ v₁ B₁ => Says01 (SameT n f k g) v₁ A₁.U B₁.U ∧ B₁.locs = A₁.locs ++ [] ∧ B₁.cells = A₁.cells + 0 ∧ B₁.slots = A₁.slots + 0) :=
  (law l x t V cd n f y t' V' cd' k g z).pays htab hfr (by omega)
end SEq
end StrChars
namespace StrChars.Road
open Jvm Sem ClassFile Op Lib Jvm.Stand Jvm.Free Jvm.Free.XT
open Jvm.Lib.Cold (StaticIs)
/-- the words of String.equals(Object) -/
abbrev wordsEq : List Jvm.Cond := [.code SEq.yN SEq.yB 3 (some .boolean), .initialized ST, .classLink ST 10 ST, .fieldLink ST 38 ST "COMPACT_STRINGS" "Z", .fieldLink ST 15 ST "coder" "B", .fieldLink ST 9 ST "value" "[B", .methodLink ST 541 LEq.yN, .static LEq.yN, .code LEq.yN LEq.yB 3 (some .boolean), .initialized "java/lang/StringLatin1"]
theorem tabEq_of {a : Array Value} {s : State} (h : ∀ w ∈ wordsEq, w.before a s = true) : SEq.tab.before a s = true := by
  have hl : LEq.tab.before a s = true := unparts (wk h (.code LEq.yN LEq.yB 3 (some .boolean))) (wks h (.initialized LEq.yN.cls :: LEq.site))
  have q := consq hl h
  exact unparts (wk q (.code SEq.yN SEq.yB 3 (some .boolean))) (wks q (.initialized SEq.yN.cls :: SEq.site))
theorem movedEq {Z s : State} {a0 args : Array Value} (hZ : Z.Warmed39 s.vm) (hw : ∀ d ∈ wordsEq, d.before a0 Z = true) : ∀ d ∈ wordsEq, d.before args s = true := fun d hd => by
  have t : ∀ d ∈ wordsEq, (d.onTables && d.keepsFace) = true := by decide +kernel
  exact RoadKit.mv hZ (hw d hd) (t d hd)
/-- the road's facts of a String, as the laws ask it -/
theorem txt_of {Z U : State} {a0 : Array Value} {kI : Nat} (wi : (Jvm.Cond.instantiable ST kI).before a0 Z = true) (al : Z.vm.Alike U.vm) {x t : Addr} {kb : ClassId} {cs : List Int32} {cd N2 : Int32} {vs : List Value} (E : RoadKit.Exa Z U.heap x ST) (V : RoadKit.Fld Z U.heap x ST "value" "[B" (.ref t)) (C : RoadKit.Fld Z U.heap x ST "coder" "B" (.int cd)) (K : RoadKit.Arv Z U.heap t kb .byte N2 vs (.int 0)) (hc : CodA cs cd N2 vs) (hb : ∀ c ∈ cs, ¬ c < 0 ∧ ¬ (65535 : Int32) < c) (l2 : cs.length ≤ 4000) :
    ∃ A, Txt x t A cd cs.length (fun j => cs.getD j 0) U := by
  obtain ⟨A, K1, K2, K3, K4, K5, K6⟩ := K
  have hcod := hc.cod (by omega) K3 K5
  obtain ⟨D, fV, fC, hB, F1, F2, g1, g2, -, -⟩ := strObj wi al E V C
  exact ⟨A, ⟨_, hB.2.2.1, D, hB.1, rfl, by cases q : D.vm <;> first | rfl | exact absurd q (hB.2.1.2 _)⟩, Has.of hB F1 g1, Has.of hB F2 g2, ⟨K1.1, State.isArrayOf_alike al K1.2.1, K1.2.2, by rcases hcod with ⟨-, q, -⟩ | ⟨-, q, -⟩ <;> omega⟩, hcod, fun j hj => by
    have e : cs.getD j 0 = cs[j] := by simp [List.getD_eq_getElem?_getD, hj]
    show ¬ cs.getD j 0 < 0 ∧ ¬ 65535 < cs.getD j 0
    rw [e]; exact hb _ (List.getElem_mem _)⟩
theorem same_list (cs ds : List Int32) : SameT cs.length (fun j => cs.getD j 0) ds.length (fun j => ds.getD j 0) ↔ cs = ds := by
  constructor
  · rintro ⟨e, q⟩
    refine List.ext_getElem e fun j h1 h2 => ?_
    have := q j h1
    simpa [List.getD_eq_getElem?_getD, h1, h2] using this
  · rintro rfl
    exact ⟨rfl, fun _ _ => rfl⟩
/-- **equals(Object) OF TWO SUCH STRINGS**: 1 just where the chars are the same -/
theorem eqW {p : Program} {l : Launch} {e : Env} {R : Room} {s : State} {args : Array Value} {below : List Frame} {len W : Nat} {Z : State} {a0 : Array Value} {h : Heap} (hZ : Z.Warmed39 s.vm) (hw : ∀ d ∈ wordsEq, d.before a0 Z = true) {kI : Nat} (wi : (Jvm.Cond.instantiable ST kI).before a0 Z = true)
    {x t : Addr} {kb : ClassId} {cs : List Int32} {cd N2 : Int32} {vs : List Value} (E : RoadKit.Exa Z h x ST) (V : RoadKit.Fld Z h x ST "value" "[B" (.ref t)) (C : RoadKit.Fld Z h x ST "coder" "B" (.int cd)) (K : RoadKit.Arv Z h t kb .byte N2 vs (.int 0)) (hc : CodA cs cd N2 vs) (hb : ∀ c ∈ cs, ¬ c < 0 ∧ ¬ (65535 : Int32) < c) (l2 : cs.length ≤ 4000)
    {y t' : Addr} {kb' : ClassId} {ds : List Int32} {cd' N2' : Int32} {vs' : List Value} (E' : RoadKit.Exa Z h y ST) (V' : RoadKit.Fld Z h y ST "value" "[B" (.ref t')) (C' : RoadKit.Fld Z h y ST "coder" "B" (.int cd')) (K' : RoadKit.Arv Z h t' kb' .byte N2' vs' (.int 0)) (hc' : CodA ds cd' N2' vs') (hb' : ∀ c ∈ ds, ¬ c < 0 ∧ ¬ (65535 : Int32) < c) (l2' : ds.length ≤ 4000)
    {z : Int32} (S : RoadKit.Sta Z h ST "COMPACT_STRINGS" "Z" (.int z)) (hz : ¬ z = 0) (hfr : 2 ≤ R.frames) (hlo : W + 28 ≤ R.locals) :
    Back l R p e below s args (⟨"java/lang/String", "equals", "(Ljava/lang/Object;)Z"⟩ : MethodName) len W (fun P a => a = #[.ref x, .ref y] ∧ P.U.heap = h ∧ P.cells + 0 ≤ R.cells ∧ P.slots + 0 ≤ R.slots)
      (fun P _ v B => ∃ L, (((v = some (.int 1) ∧ cs = ds) ∨ (v = some (.int 0) ∧ ¬ cs = ds)) ∧ L = [] ∧ B.U.heap = h) ∧ B.locs = P.locs ++ L ∧ B.cells = P.cells + 0 ∧ B.slots = P.slots + 0) := by
  intro m meth c P g ig mk a X hg hsize hdg hW hn hp'
  obtain ⟨rfl, rfl, r1, r2⟩ := hp'
  have al : Z.vm.Alike P.U.vm := hZ.alike.trans X.warmed.alike
  obtain ⟨A, hx⟩ := txt_of wi al E V C K hc hb l2
  obtain ⟨A', hy⟩ := txt_of wi al E' V' C' K' hc' hb' l2'
  obtain ⟨v, B, X', ⟨⟨w, hv, hh, hq⟩, hl, hk, hs⟩, st⟩ := SEq.pays x t A cd cs.length (fun j => cs.getD j 0) y t' A' cd' ds.length (fun j => ds.getD j 0) z (tabEq_of (movedEq hZ hw)) hfr hlo m meth c P g ig mk _ X hg hsize hdg hW hn ⟨r1, r2, rfl, hx, hy, sta_is al S, hz⟩
  refine ⟨v, B, X', ⟨[], ⟨?_, rfl, hh⟩, hl, hk, hs⟩, st⟩
  rcases hq with ⟨rfl, q⟩ | ⟨rfl, q⟩
  · exact Or.inl ⟨hv, (same_list cs ds).mp q⟩
  · exact Or.inr ⟨hv, fun e => q ((same_list cs ds).mpr e)⟩
end StrChars.Road
namespace StrChars
open Jvm Sem ClassFile Op Lib Jvm.Stand Jvm.Free.XT Jvm.Free.ALB Jvm.Free.JM Jvm.Free
open Jvm.Lib.Cold (StaticIs)
namespace ChN
def yN : MethodName := ⟨"java/lang/String", "charAt", "(I)C"⟩
abbrev yB : ByteArray := jdk_42_method_56_code
theorem d0 : decode yB 0 = .ok (.aload_n 0, 1) := by decide +kernel
theorem d1 : decode yB 1 = .ok (.invokevirtual 492, 3) := by decide +kernel
theorem d4 : decode yB 4 = .ok (.ifCond (.eq) 12, 3) := by decide +kernel
theorem d7 : decode yB 7 = .ok (.aload_n 0, 1) := by decide +kernel
theorem d8 : decode yB 8 = .ok (.getfield 9, 3) := by decide +kernel
theorem d11 : decode yB 11 = .ok (.iload_n 1, 1) := by decide +kernel
theorem d12 : decode yB 12 = .ok (.invokestatic 495, 3) := by decide +kernel
theorem d15 : decode yB 15 = .ok (.ireturn, 1) := by decide +kernel
def site : List Cond := [.fieldLink "java/lang/String" 9 "java/lang/String" "value" "[B", IsL.tab, LChA.tab] ++ virtW "java/lang/String" 492 "java/lang/String" IsL.yN IsL.yN ++ staticW "java/lang/String" 495 LChA.yN
def tab : Cond := tabOf yN yB 2 (some .char) site
def P (x t : Addr) (V : Cell) (n : Nat) (f : Nat → Int32) (z : Int32) (fm : Value) (i : Nat) (args : Array Value) (s : State) : Prop := args = #[.ref x, .int (Int32.ofNat i)] ∧ Txt x t V 0 n f s ∧ i < n ∧ StaticIs s "java/lang/String" "COMPACT_STRINGS" "Z" (.int z) ∧ ¬ z = 0 ∧ StaticIs s "jdk/internal/util/Preconditions" "SIOOBE_FORMATTER" "Ljava/util/function/BiFunction;" fm ∧ fm.isRef = true
def E (f : Nat → Int32) (i : Nat) (r : Option Value) (s u : State) : Prop := XT.PureE (some (.int (f i))) r s u
/-- charAt(i) of a Latin-1 String of n chars, i < n: f i -/
theorem law (l : Launch) (x t : Addr) (V : Cell) (n : Nat) (f : Nat → Int32) (z : Int32) (fm : Value) (i : Nat) : Law l yN 2 1 3 40 yB 2 (some .char) site (P x t V n f z fm i) (E f i) [] 0 0 := by
  refine Law.of_walk (plainFor_of_name (by decide +kernel)) (by decide +kernel) (by decide +kernel) (by decide) (fun _ _ h => by rw [h.1]; rfl) (fun _ U U' hal hh h => ⟨h.1, h.2.1.mv hal hh, h.2.2.1, h.2.2.2.1.there hal hh, h.2.2.2.2.1, h.2.2.2.2.2.1.there hal hh, h.2.2.2.2.2.2⟩) (fun r U U' V V' h1 hal h2 h => XT.PureE.mv r U U' V V' h1 hal h2 h) ?_
  intro p e s m args below meth c s₁ X0 hexec hbytes hml hret hlk hnm hown hh0 W hP
  obtain ⟨rfl, hx, hi, s1, hz, s3, rf⟩ := hP
  have v31 := hx.2.2.2.1.2.2.2
  have hr := hx.2.2.2.2.2 i hi
  have hx0 := hx.mv X0.warmed.alike hh0
  have c1 : Steps p.tables e below (s₁.setTop (entryFrame m #[.ref x, .int (Int32.ofNat i)] 2)) (s₁.setTop (mkF m 1 #[.val (.ref x), .val (.int (Int32.ofNat i))] [.ref x])) := Steps.trans (entry rfl) (by
    show Steps p.tables e below (s₁.setTop (mkF m 0 #[.val (.ref x), .val (.int (Int32.ofNat i))] [])) _
    refine XS.aloadN X0.here hexec rfl (hb hbytes d0) rfl rfl ?_
    exact Steps.refl _)
  obtain ⟨v2, T2, X2, E2, g2⟩ := X0.callV hexec (IsL.law l x 0 z) hown (wks W (virtW "java/lang/String" 492 "java/lang/String" IsL.yN IsL.yN)) rfl (by decide) (wk W IsL.tab) (W := 0) (Nat.le_of_ble_eq_true rfl) (Nat.le_of_ble_eq_true rfl) (Nat.le_refl _) (Nat.le_refl _) (hx0.1.fc X0.warmed.alike) hx0.1.is (g := (mkF m 1 #[.val (.ref x), .val (.int (Int32.ofNat i))] [.ref x])) rfl (by rw [hml]; rfl) c1 (argsL := []) (rest := []) rfl rfl (by show 2 * 0 + 0 ≤ _; decide) (hb hbytes d1) (⟨rfl, hx0.2.2.1, hx.2.2.2.2.1.cd, s1.there X0.warmed.alike hh0, hz⟩)
  obtain ⟨rfl, q2⟩ := E2
  have hh2 := q2.trans hh0
  have hx2 := hx.mv X2.warmed.alike hh2
  obtain ⟨-, k1, k2⟩ | ⟨k0, -⟩ := hx.2.2.2.2.1
  · have c3 : Steps p.tables e below (s₁.setTop (entryFrame m #[.ref x, .int (Int32.ofNat i)] 2)) (T2.setTop (mkF m 8 #[.val (.ref x), .val (.int (Int32.ofNat i))] [.ref x])) := Steps.trans g2 (by
      refine XS.ifNo X2.here hexec rfl (hb hbytes d4) rfl (i0_eq_f (by decide)) ?_
      refine XS.aloadN X2.here hexec rfl (hb hbytes d7) rfl rfl ?_
      exact Steps.refl _)
    obtain ⟨T4, X4, q4, st4⟩ := X2.hget hexec hown (wk W (.fieldLink "java/lang/String" 9 "java/lang/String" "value" "[B")) hx2.2.1 (g := (mkF m 8 #[.val (.ref x), .val (.int (Int32.ofNat i))] [.ref x])) rfl (rest := []) rfl (hb hbytes d8)
    have hh4 := q4.trans hh2
    have c5 : Steps p.tables e below (s₁.setTop (entryFrame m #[.ref x, .int (Int32.ofNat i)] 2)) (T4.setTop (mkF m 12 #[.val (.ref x), .val (.int (Int32.ofNat i))] [.int (Int32.ofNat i), .ref t])) := (c3.trans (st4 _ (Steps.refl _))).trans (by
      refine XS.iloadN X4.here hexec rfl (hb hbytes d11) rfl ?_
      exact Steps.refl _)
    obtain ⟨v6, T6, X6, E6, g6⟩ := X4.callS hexec (LChA.law l t V i (lo8 (f i)) fm) hown (wks W (staticW "java/lang/String" 495 LChA.yN)) (wk W LChA.tab) (W := 0) (Nat.le_of_ble_eq_true rfl) (Nat.le_of_ble_eq_true rfl) (Nat.le_refl _) (Nat.le_refl _) (g := (mkF m 12 #[.val (.ref x), .val (.int (Int32.ofNat i))] [.int (Int32.ofNat i), .ref t])) rfl (by rw [hml]; rfl) c5 (argsL := [.ref t, .int (Int32.ofNat i)]) (rest := []) rfl rfl (by show 2 * 0 + 0 ≤ _; decide) (hb hbytes d12) (⟨rfl, hx.2.2.2.1.mv X4.warmed.alike hh4, (k2 i hi).1, s3.there X4.warmed.alike hh4, rf⟩)
    obtain ⟨rfl, q6⟩ := E6
    rw [chr8_lo8 hr.1 (k2 i hi).2] at g6
    exact ⟨T6, some (.int (f i)), _, _, _, X6, rfl, rfl, rfl, (fun h => by cases h), ⟨rfl, q6.trans hh4⟩, fun fs hl => Steps.trans g6 (X6.ireturnOut hexec hret (narrow_ch hr.1 hr.2) (Or.inr (Or.inr (Or.inr (Or.inl rfl)))) (hb hbytes d15) hl)⟩
  · exact absurd k0 (by decide)
theorem pays {l : Launch} {R : Room} {p : Program} {e : Env} {below : List Frame} {s : State} {sargs : Array Value} {len W : Nat} (x t : Addr) (V : Cell) (n : Nat) (f : Nat → Int32) (z : Int32) (fm : Value) (i : Nat) (htab : tab.before sargs s = true) (hfr : 4 ≤ R.frames) (hlo : W + 53 ≤ R.locals) :
    Back l R p e below s sargs yN len W (fun A₁ a₁ => A₁.cells + 0 ≤ R.cells ∧ A₁.slots + 0 ≤ R.slots ∧ P x t V n f z fm i a₁ A₁.U) (fun A₁ _ v₁ B₁ => E f i v₁ A₁.U B₁.U ∧ B₁.locs = A₁.locs ++ [] ∧ B₁.cells = A₁.cells + 0 ∧ B₁.slots = A₁.slots + 0) :=
  (law l x t V n f z fm i).pays htab hfr (by omega)
end ChN
end StrChars
namespace StrChars.Road
open Jvm Sem ClassFile Op Lib Jvm.Stand Jvm.Free Jvm.Free.XT
open Jvm.Lib.Cold (StaticIs)
/-- the words of String.charAt(int), the Latin-1 road alone -/
abbrev wordsChN : List Jvm.Cond := [.code ChN.yN ChN.yB 2 (some .char), .initialized ST, .fieldLink ST 9 ST "value" "[B", .fieldLink ST 38 ST "COMPACT_STRINGS" "Z", .fieldLink ST 15 ST "coder" "B", .code IsL.yN IsL.yB 1 (some .boolean), .methodLink ST 492 IsL.yN, .declares IsL.yN, .selects ST IsL.yN IsL.yN, .instanceMethod IsL.yN,
  .methodLink ST 495 LChA.yN, .static LChA.yN, .code LChA.yN LChA.yB 2 (some .char), .initialized "java/lang/StringLatin1", .methodLink "java/lang/StringLatin1" 9 JO.Str_checkIndex.yN, .static JO.Str_checkIndex.yN, .code JO.Str_checkIndex.yN JO.Str_checkIndex.yB 2 none,
  .fieldLink ST 1053 "jdk/internal/util/Preconditions" "SIOOBE_FORMATTER" "Ljava/util/function/BiFunction;", .methodLink ST 1059 JC.PreCheck.yN, .static JC.PreCheck.yN, .code JC.PreCheck.yN JC.PreCheck.yB 3 (some .int), .initialized "jdk/internal/util/Preconditions"]
theorem tabChN_of {a : Array Value} {s : State} (h : ∀ w ∈ wordsChN, w.before a s = true) : ChN.tab.before a s = true := by
  have hp : JC.PreCheck.tab.before a s = true := unparts (wk h (.code JC.PreCheck.yN JC.PreCheck.yB 3 (some .int))) (wks h (.initialized JC.PreCheck.yN.cls :: JC.PreCheck.site))
  have qk := consq hp h
  have hk : JO.Str_checkIndex.tab.before a s = true := unparts (wk qk (.code JO.Str_checkIndex.yN JO.Str_checkIndex.yB 2 none)) (wks qk (.initialized JO.Str_checkIndex.yN.cls :: JO.Str_checkIndex.site))
  have ql := consq hk h
  have hl : LChA.tab.before a s = true := unparts (wk ql (.code LChA.yN LChA.yB 2 (some .char))) (wks ql (.initialized LChA.yN.cls :: LChA.site))
  have hi : IsL.tab.before a s = true := unparts (wk h (.code IsL.yN IsL.yB 1 (some .boolean))) (wks h (.initialized IsL.yN.cls :: IsL.site))
  have q := consq hi (consq hl h)
  exact unparts (wk q (.code ChN.yN ChN.yB 2 (some .char))) (wks q (.initialized ChN.yN.cls :: ChN.site))
theorem movedChN {Z s : State} {a0 args : Array Value} (hZ : Z.Warmed39 s.vm) (hw : ∀ d ∈ wordsChN, d.before a0 Z = true) : ∀ d ∈ wordsChN, d.before args s = true := fun d hd => by
  have t : ∀ d ∈ wordsChN, (d.onTables && d.keepsFace) = true := by decide +kernel
  exact RoadKit.mv hZ (hw d hd) (t d hd)
/-- **charAt(i) OF A LATIN-1 STRING**, i < n: the char -/
theorem chN {p : Program} {l : Launch} {e : Env} {R : Room} {s : State} {args : Array Value} {below : List Frame} {len W : Nat} {Z : State} {a0 : Array Value} {h : Heap} (hZ : Z.Warmed39 s.vm) (hw : ∀ d ∈ wordsChN, d.before a0 Z = true) {kI : Nat} (wi : (Jvm.Cond.instantiable ST kI).before a0 Z = true)
    {x t : Addr} {kb : ClassId} {cs : List Int32} {N2 z : Int32} {vs : List Value} {fm : Value} {i : Nat} {j : Int32} (E : RoadKit.Exa Z h x ST) (V : RoadKit.Fld Z h x ST "value" "[B" (.ref t)) (C : RoadKit.Fld Z h x ST "coder" "B" (.int 0)) (K : RoadKit.Arv Z h t kb .byte N2 vs (.int 0)) (hc : CodA cs 0 N2 vs) (hb : ∀ c ∈ cs, ¬ c < 0 ∧ ¬ (65535 : Int32) < c)
    (S : RoadKit.Sta Z h ST "COMPACT_STRINGS" "Z" (.int z)) (hz : ¬ z = 0) (F : RoadKit.Sta Z h "jdk/internal/util/Preconditions" "SIOOBE_FORMATTER" "Ljava/util/function/BiFunction;" fm) (rf : fm.isRef = true) (l2 : cs.length ≤ 4000) (hi : i < cs.length) (hj : j = Int32.ofNat i) (hfr : 4 ≤ R.frames) (hlo : W + 53 ≤ R.locals) :
    Back l R p e below s args (⟨"java/lang/String", "charAt", "(I)C"⟩ : MethodName) len W (fun P a => a = #[.ref x, .int j] ∧ P.U.heap = h ∧ P.cells + 0 ≤ R.cells ∧ P.slots + 0 ≤ R.slots)
      (fun P _ v B => ∃ L, (v = some (.int (cs.getD i 0)) ∧ L = [] ∧ B.U.heap = h) ∧ B.locs = P.locs ++ L ∧ B.cells = P.cells + 0 ∧ B.slots = P.slots + 0) := by
  subst hj
  intro m meth c P g ig mk a X hg hsize hdg hW hn hp'
  obtain ⟨rfl, rfl, r1, r2⟩ := hp'
  have al : Z.vm.Alike P.U.vm := hZ.alike.trans X.warmed.alike
  obtain ⟨A, hx⟩ := txt_of wi al E V C K hc hb l2
  obtain ⟨v, B, X', ⟨⟨hv, hh⟩, hl, hk, hs⟩, st⟩ := ChN.pays x t A cs.length (fun j => cs.getD j 0) z fm i (tabChN_of (movedChN hZ hw)) hfr hlo m meth c P g ig mk _ X hg hsize hdg hW hn ⟨r1, r2, rfl, hx, hi, sta_is al S, hz, sta_is al F, rf⟩
  exact ⟨v, B, X', ⟨[], ⟨hv, rfl, hh⟩, hl, hk, hs⟩, st⟩
/-- what backV says of its String, as the contracts of this text ask it: cs's low bytes, coder 0 -/
theorem codOf {cs : List Int32} {n : Nat} (hn : cs.length = n) (hb : ∀ c ∈ cs, ¬ 255 < c) : CodA cs 0 (Int32.ofNat n) ((cs.map lo8).map Value.int) := Or.inl ⟨rfl, by rw [hn], by simp [List.map_map, Function.comp_def], hb⟩
end StrChars.Road
end Jvm.Pilot.@@N@@

namespace Jvm.Pilot.@@N@@
open Jvm Jvm.ClassFile Sem Op Lib Jvm.Free Jvm.Stand Jvm.LawKit Jvm.RoadKit Bundle Jvm.Pilot.@@N@@.Jvm.D
theorem own_w {Z : State} {a0 : Array Value} (hw : ∀ d ∈ tables_1, d.before a0 Z = true) (i : Nat) {d : Jvm.Cond} (h : tables_1[i]? = some d) : d.before a0 Z = true := hw d (List.mem_of_getElem? h)
theorem ok {a b : Nat} (h : Nat.ble a b = true) : a ≤ b := Nat.le_of_ble_eq_true h
abbrev y0_ : MethodName := ⟨"com/example/obligation/obligation/Attributes", "isClock", "(Ljava/lang/String;Ljava/lang/String;)Z"⟩
abbrev y1_ : MethodName := ⟨"com/example/obligation/obligation/AttributesIsClockPinLaw", "make", "(CCCCI)Ljava/lang/String;"⟩
abbrev y2_ : MethodName := ⟨"com/example/obligation/obligation/AttributesIsClockPinLaw", "pick", "(JIC)C"⟩
abbrev y3_ : MethodName := ⟨"com/example/obligation/obligation/EntityAttribute", "entity", "()Ljava/lang/String;"⟩
abbrev y4_ : MethodName := ⟨"com/example/obligation/obligation/EntityAttribute", "name", "()Ljava/lang/String;"⟩
abbrev y5_ : MethodName := ⟨"java/lang/String", "<init>", "([C)V"⟩
abbrev y6_ : MethodName := ⟨"java/lang/String", "<init>", "([CIILjava/lang/Void;)V"⟩
abbrev y7_ : MethodName := ⟨"java/lang/String", "charAt", "(I)C"⟩
abbrev y8_ : MethodName := ⟨"java/lang/String", "equals", "(Ljava/lang/Object;)Z"⟩
abbrev y9_ : MethodName := ⟨"java/lang/String", "length", "()I"⟩
theorem own_up {cs : List Int32} (h : ∀ c ∈ cs, ¬ c < 0 ∧ ¬ (255 : Int32) < c) : ∀ c ∈ cs, ¬ c < 0 ∧ ¬ (65535 : Int32) < c := fun c hc => ⟨(h c hc).1, fun q => (h c hc).2 (by rw [Int32.lt_iff_toInt_lt] at q ⊢; have e1 : (65535 : Int32).toInt = 65535 := rfl; have e2 : (255 : Int32).toInt = 255 := rfl; omega)⟩
def EL1 : List (String × Nat) := consts_1
theorem own_EL {Z : State} {a0 : Array Value} (hw : ∀ d ∈ tables_1, d.before a0 Z = true) : EW Z a0 EL1 := (EW.cons (own_w hw 22 rfl) (by decide) EW.nil)
theorem in_atoms : ∀ d ∈ Bundle.stringAtoms, d ∈ tables_1 := by decide +kernel
theorem d4_0 : decode jdk_42_method_149_code 0 = .ok (.aload_n 0, 1) := by decide +kernel
theorem d4_1 : decode jdk_42_method_149_code 1 = .ok (.invokespecial 1, 3) := by decide +kernel
theorem d4_4 : decode jdk_42_method_149_code 4 = .ok (.iload_n 3, 1) := by decide +kernel
theorem d4_5 : decode jdk_42_method_149_code 5 = .ok (.ifCond .ne 22, 3) := by decide +kernel
theorem d4_8 : decode jdk_42_method_149_code 8 = .ok (.aload_n 0, 1) := by decide +kernel
theorem d4_9 : decode jdk_42_method_149_code 9 = .ok (.ldc 7, 2) := by decide +kernel
theorem d4_11 : decode jdk_42_method_149_code 11 = .ok (.getfield 9, 3) := by decide +kernel
theorem d4_14 : decode jdk_42_method_149_code 14 = .ok (.putfield 9, 3) := by decide +kernel
theorem d4_17 : decode jdk_42_method_149_code 17 = .ok (.aload_n 0, 1) := by decide +kernel
theorem d4_18 : decode jdk_42_method_149_code 18 = .ok (.ldc 7, 2) := by decide +kernel
theorem d4_20 : decode jdk_42_method_149_code 20 = .ok (.getfield 15, 3) := by decide +kernel
theorem d4_23 : decode jdk_42_method_149_code 23 = .ok (.putfield 15, 3) := by decide +kernel
theorem d4_26 : decode jdk_42_method_149_code 26 = .ok (.return_, 1) := by decide +kernel
theorem d4_27 : decode jdk_42_method_149_code 27 = .ok (.getstatic 38, 3) := by decide +kernel
theorem d4_30 : decode jdk_42_method_149_code 30 = .ok (.ifCond .eq 28, 3) := by decide +kernel
theorem d4_33 : decode jdk_42_method_149_code 33 = .ok (.aload_n 1, 1) := by decide +kernel
theorem d4_34 : decode jdk_42_method_149_code 34 = .ok (.iload_n 2, 1) := by decide +kernel
theorem d4_35 : decode jdk_42_method_149_code 35 = .ok (.iload_n 3, 1) := by decide +kernel
theorem d4_36 : decode jdk_42_method_149_code 36 = .ok (.invokestatic 177, 3) := by decide +kernel
theorem d4_39 : decode jdk_42_method_149_code 39 = .ok (.astore 5, 2) := by decide +kernel
theorem d4_41 : decode jdk_42_method_149_code 41 = .ok (.aload_n 0, 1) := by decide +kernel
theorem d4_42 : decode jdk_42_method_149_code 42 = .ok (.aload 5, 2) := by decide +kernel
theorem d4_44 : decode jdk_42_method_149_code 44 = .ok (.iload_n 3, 1) := by decide +kernel
theorem d4_45 : decode jdk_42_method_149_code 45 = .ok (.invokestatic 47, 3) := by decide +kernel
theorem d4_48 : decode jdk_42_method_149_code 48 = .ok (.putfield 15, 3) := by decide +kernel
theorem d4_51 : decode jdk_42_method_149_code 51 = .ok (.aload_n 0, 1) := by decide +kernel
theorem d4_52 : decode jdk_42_method_149_code 52 = .ok (.aload 5, 2) := by decide +kernel
theorem d4_54 : decode jdk_42_method_149_code 54 = .ok (.putfield 9, 3) := by decide +kernel
theorem d4_57 : decode jdk_42_method_149_code 57 = .ok (.return_, 1) := by decide +kernel
theorem d4_58 : decode jdk_42_method_149_code 58 = .ok (.aload_n 0, 1) := by decide +kernel
theorem d4_59 : decode jdk_42_method_149_code 59 = .ok (.iconst 1, 1) := by decide +kernel
theorem d4_60 : decode jdk_42_method_149_code 60 = .ok (.putfield 15, 3) := by decide +kernel
theorem d4_63 : decode jdk_42_method_149_code 63 = .ok (.aload_n 0, 1) := by decide +kernel
theorem d4_64 : decode jdk_42_method_149_code 64 = .ok (.aload_n 1, 1) := by decide +kernel
theorem d4_65 : decode jdk_42_method_149_code 65 = .ok (.iload_n 2, 1) := by decide +kernel
theorem d4_66 : decode jdk_42_method_149_code 66 = .ok (.iload_n 3, 1) := by decide +kernel
theorem d4_67 : decode jdk_42_method_149_code 67 = .ok (.invokestatic 180, 3) := by decide +kernel
theorem d4_70 : decode jdk_42_method_149_code 70 = .ok (.putfield 9, 3) := by decide +kernel
theorem d4_73 : decode jdk_42_method_149_code 73 = .ok (.return_, 1) := by decide +kernel
theorem pn_java_lang_String : plainName "java/lang/String" = true := by first | (simp [plainName, overriddenIn]; done) | decide +kernel
theorem efSiC (m : MethodId) (x : Addr) (b : Addr) : entryFrame m #[(.ref x), (.ref b), (.int (0 : Int32)), (.int (0 : Int32)), .null] 6 = mkF m 0 #[.val (.ref x), .val (.ref b), .val (.int (0 : Int32)), .val (.int (0 : Int32)), .val .null, .unset] [] := by first | (simp [entryFrame, mkF, argsToLocals, Value.category]; done) | rfl
def QSiC (Z : State) (x : Addr) (b : Addr) (h0 : Heap) (n0 : Nat) (v : Option Value) (h : Heap) (L : List Loc) : Prop := v = none ∧ Fr n0 L ∧ Keep h0 h [x] ∧ Exa Z h x "java/lang/String" ∧ Fld Z h x "java/lang/String" "coder" "B" (.int (0 : Int32)) ∧ ∃ t kb, Fld Z h x "java/lang/String" "value" "[B" (.ref t) ∧ Arv Z h t kb .byte (0 : Int32) [] (.int (0 : Int32))
set_option maxRecDepth 65536 in
set_option maxHeartbeats 40000000 in
theorem rmSiC (l : Launch) (Z : State) (a0 : Array Value) (hw : ∀ d ∈ tables_1, d.before a0 Z = true) (ws : List Jvm.Cond) (x : Addr) (b : Addr) (h0 : Heap) (n0 : Nat) (Z0 : n0 ≤ h0.size) (O0 : Old Z n0 h0) (gx : n0 ≤ x) (Ex : Exa Z h0 x "java/lang/String") (Vx : Fld Z h0 x "java/lang/String" "value" "[B" .null) (Cx : Fld Z h0 x "java/lang/String" "coder" "B" (.int (0 : Int32))) :
    MetFree l y6_ (head1 (Jvm.Cond.code y6_ jdk_42_method_149_code 6 none :: ws) ({ frames := 1, cells := 4, slots := 8, locals := 12 } : Room)) (fun aa U => aa = #[(.ref x), (.ref b), (.int (0 : Int32)), (.int (0 : Int32)), .null] ∧ Z.Warmed39 U.vm ∧ U.heap = h0 ∧ CHv Z EL1 U.vm h0) (fun _ _ _ _ _ => True) (fun _ U oo U' => ∃ vv LL, oo = .returned vv ∧ QSiC Z x b h0 n0 vv U'.heap LL ∧ CHr Z EL1 U.vm U.heap U'.vm U'.heap ∧ ReturnedEndW U oo U' LL ({ frames := 1, cells := 4, slots := 8, locals := 12 } : Room).cells ({ frames := 1, cells := 4, slots := 8, locals := 12 } : Room).slots) := by
  refine MetFree.of_bodySF (plainFor_of_name pn_java_lang_String) hisR ?_
  intro p e s m args below meth c s₁ Bd hml0 hP hK
  obtain ⟨rfl, hZ, hh, hCH⟩ := hP
  have hx := Bd.exec
  have hby := Bd.bytes
  have hml : c.maxLocals = 6 := hml0
  have hown : s.vm.findClass "java/lang/String" = some m.cls := findClass_of_methodNamed Bd.named
  have hnm := (name_of_methodNamed Bd.named Bd.method).1
  have X0 : Stand p l e ({ frames := 1, cells := 4, slots := 8, locals := 12 } : Room) (s.setVm s.vm) m #[(.ref x), (.ref b), (.int (0 : Int32)), (.int (0 : Int32)), .null] below meth c s₁ [] 0 0 := Stand.of_body Bd
  have e0 : s₁.heap = h0 := by rw [← hh, Bd.state]; rfl
  have N0 := Fr.nil n0
  refine Goes.giveW (Q := QSiC Z x b h0 n0) ?_
  rw [efSiC m x b]
  have hEL : EW Z a0 EL1 := own_EL hw
  have hS0 : s.Since s.vm h0.size := (State.WarmedH.refl s).since _
  have ks0 : h0.size ≤ h0.size := Nat.le_refl _
  have CR0 : CHr Z EL1 s.vm h0 s.vm h0 := CHr.refl hCH
  have K0 : Keep h0 h0 [] := Keep.refl _ _
  have K0 : Keep h0 h0 [x] := Keep.refl _ _
  have sf_x : Safe Z EL1 s.vm h0 x := own_safeNull hZ.alike Ex Vx
  refine P1.aloadN X0.here hx (hb hby d4_0) rfl rfl ?_
  obtain ⟨T1, X1, e1, st1⟩ := initO X0 hx hZ hown (own_w hw 19 rfl) (own_w hw 20 rfl) (own_w hw 21 rfl) e0 (g := (mkF m 1 #[.val (.ref x), .val (.ref b), .val (.int (0 : Int32)), .val (.int (0 : Int32)), .val .null, .unset] [(.ref x)])) rfl (by rw [hml]; rfl) rfl (hb hby d4_1) (by decide) (W := 0) (by show 2 * 0 + _ ≤ _; exact Nat.le_of_eq rfl) (by decide)
  refine Goes.step (T' := T1) (g' := (mkF m 4 #[.val (.ref x), .val (.ref b), .val (.int (0 : Int32)), .val (.int (0 : Int32)), .val .null, .unset] [])) st1 ?_
  refine P1.iloadN X1.here hx (hb hby d4_4) rfl ?_
  refine Goes.step (T' := T1) (g' := (mkF m 8 #[.val (.ref x), .val (.ref b), .val (.int (0 : Int32)), .val (.int (0 : Int32)), .val .null, .unset] [])) (fun t_ k_ => XS.ifNo X1.here hx rfl (hb hby d4_5) rfl ((if0 _ _).trans (teq ((by decide : (0 : Int32) = (0 : Int32)) : (0 : Int32) = (0 : Int32))).2) k_) ?_
  refine P1.aloadN X1.here hx (hb hby d4_8) rfl rfl ?_
  obtain ⟨la2, T2, h2, k1_2, lb2, lk2, X2, e2, E2, hS2, ks2, hZ, hown, LE2, LC2, LV2, LK2, -, -, CW2, -, hsf2, st2⟩ := ldcCH X1 hx hZ hown (own_w hw 22 rfl) (fun d hd => hw d (in_atoms d hd)) e1 hS0 ks0 hEL (by decide) CR0.1 (vs := []) (z := (0 : Int32)) (by decide) (by decide) rfl (g := (mkF m 9 #[.val (.ref x), .val (.ref b), .val (.int (0 : Int32)), .val (.int (0 : Int32)), .val .null, .unset] [(.ref x)])) rfl (hb hby d4_9) (n := 0) (by decide) (by decide) (ok rfl) (ok rfl)
  refine Goes.step (T' := T2) (g' := (mkF m 11 #[.val (.ref x), .val (.ref b), .val (.int (0 : Int32)), .val (.int (0 : Int32)), .val .null, .unset] [(.ref la2), (.ref x)])) st2 ?_
  obtain ⟨T3, X3, e3, st3⟩ := getF X2 hx hZ hown (host := "") (Or.inl (own_w hw 28 rfl)) Via.refl e2 LV2 (g := (mkF m 11 #[.val (.ref x), .val (.ref b), .val (.int (0 : Int32)), .val (.int (0 : Int32)), .val .null, .unset] [(.ref la2), (.ref x)])) rfl rfl (hb hby d4_11)
  refine Goes.step (T' := T3) (g' := (mkF m 14 #[.val (.ref x), .val (.ref b), .val (.int (0 : Int32)), .val (.int (0 : Int32)), .val .null, .unset] [(.ref lb2), (.ref x)])) st3 ?_
  have F4 : Fld Z h2 x "java/lang/String" "value" "[B" .null := Vx.ext E2
  have E5 : Exa Z h2 x "java/lang/String" := Ex.ext E2
  obtain ⟨T6, h6, X6, e6, W6, st6⟩ := putF X3 hx hZ hown (host := "") (Or.inl (own_w hw 28 rfl)) Via.refl e3 F4 E5 (Or.inr ⟨(own_w hw 24 rfl), rfl, hnm⟩) (own_w hw 9 rfl) (ty := (.array .byte)) (by decide) rfl rfl (g := (mkF m 14 #[.val (.ref x), .val (.ref b), .val (.int (0 : Int32)), .val (.int (0 : Int32)), .val .null, .unset] [(.ref lb2), (.ref x)])) rfl rfl (hb hby d4_14)
  have Fw6 : Fld Z h6 x "java/lang/String" "value" "[B" (.ref lb2) := F4.same W6
  have N6 := Fr.snoc X6 N0 gx
  refine Goes.step (T' := T6) (g' := (mkF m 17 #[.val (.ref x), .val (.ref b), .val (.int (0 : Int32)), .val (.int (0 : Int32)), .val .null, .unset] [])) st6 ?_
  refine P1.aloadN X6.here hx (hb hby d4_17) rfl rfl ?_
  have ks8 : k1_2 ≤ h6.size := Nat.le_trans ks2 (Keep.of_wr W6).1
  have CR9 : CHr Z EL1 s.vm h0 T2.vm h2 := CR0.trans CW2
  have sf10 : Safe Z EL1 T2.vm h2 x := CHr.safe CW2 Ex.lt sf_x
  have CR11 : CHr Z EL1 s.vm h0 T2.vm h6 := CR9.trans (CHr.wr W6 sf10 CR9.1)
  obtain ⟨la7, T7, h7, k1_7, lb7, lk7, X7, e7, E7, hS7, ks7, hZ, hown, LE7, LC7, LV7, LK7, -, -, CW7, -, hsf7, st7⟩ := ldcCH X6 hx hZ hown (own_w hw 22 rfl) (fun d hd => hw d (in_atoms d hd)) e6 hS2 ks8 hEL (by decide) CR11.1 (vs := []) (z := (0 : Int32)) (by decide) (by decide) rfl (g := (mkF m 18 #[.val (.ref x), .val (.ref b), .val (.int (0 : Int32)), .val (.int (0 : Int32)), .val .null, .unset] [(.ref x)])) rfl (hb hby d4_18) (n := 0) (by decide) (by decide) (ok rfl) (ok rfl)
  refine Goes.step (T' := T7) (g' := (mkF m 20 #[.val (.ref x), .val (.ref b), .val (.int (0 : Int32)), .val (.int (0 : Int32)), .val .null, .unset] [(.ref la7), (.ref x)])) st7 ?_
  obtain ⟨T12, X12, e12, st12⟩ := getF X7 hx hZ hown (host := "") (Or.inl (own_w hw 29 rfl)) Via.refl e7 LC7 (g := (mkF m 20 #[.val (.ref x), .val (.ref b), .val (.int (0 : Int32)), .val (.int (0 : Int32)), .val .null, .unset] [(.ref la7), (.ref x)])) rfl rfl (hb hby d4_20)
  refine Goes.step (T' := T12) (g' := (mkF m 23 #[.val (.ref x), .val (.ref b), .val (.int (0 : Int32)), .val (.int (0 : Int32)), .val .null, .unset] [(.int (0 : Int32)), (.ref x)])) st12 ?_
  have F13 : Fld Z h2 x "java/lang/String" "coder" "B" (.int (0 : Int32)) := Cx.ext E2
  have F14 : Fld Z h6 x "java/lang/String" "coder" "B" (.int (0 : Int32)) := F13.other W6 (Or.inr (slot_ne (Or.inr (own_w hw 25 rfl)) (Or.inr (own_w hw 24 rfl)) (by decide) (t := .byte) (t' := (.array .byte)) (by decide) (by decide)))
  have F15 : Fld Z h7 x "java/lang/String" "coder" "B" (.int (0 : Int32)) := F14.ext E7
  have E16 : Exa Z h6 x "java/lang/String" := E5.wr W6
  have E17 : Exa Z h7 x "java/lang/String" := E16.ext E7
  obtain ⟨T18, h18, X18, e18, W18, st18⟩ := putFN X12 hx hZ hown (own_w hw 29 rfl) Via.refl e12 F15 E17 (Or.inr ⟨(own_w hw 25 rfl), rfl, hnm⟩) (own_w hw 9 rfl) (ty := .byte) (v' := (.int (0 : Int32))) (by decide) rfl (by decide) (g := (mkF m 23 #[.val (.ref x), .val (.ref b), .val (.int (0 : Int32)), .val (.int (0 : Int32)), .val .null, .unset] [(.int (0 : Int32)), (.ref x)])) rfl rfl (hb hby d4_23)
  have Fw18 : Fld Z h18 x "java/lang/String" "coder" "B" (.int (0 : Int32)) := F15.same W18
  have N18 := Fr.snoc X18 N6 gx
  refine Goes.step (T' := T18) (g' := (mkF m 26 #[.val (.ref x), .val (.ref b), .val (.int (0 : Int32)), .val (.int (0 : Int32)), .val .null, .unset] [])) st18 ?_
  have ks19 : k1_7 ≤ h18.size := Nat.le_trans ks7 (Keep.of_wr W18).1
  have CR20 : CHr Z EL1 s.vm h0 T7.vm h7 := CR11.trans CW7
  have sf21 : Safe Z EL1 T2.vm h6 x := Safe.wr W6 sf10 CR9.1 sf10
  have sf22 : Safe Z EL1 T7.vm h7 x := CHr.safe CW7 E16.lt sf21
  have CR23 : CHr Z EL1 s.vm h0 T7.vm h18 := CR20.trans (CHr.wr W18 sf22 CR20.1)
  refine Goes.retVW X18 hx Bd.notSynchronized hS7 ks19 hZ hEL (hh ▸ CR23) e18 Bd.returns (hb hby d4_26) (ok rfl) (ok rfl) ?_
  have K24 : Keep h0 h2 [x] := K0.ext E2
  have K25 : Keep h0 h6 [x] := K24.wr W6 (Or.inl (by simp))
  have K26 : Keep h0 h7 [x] := K25.ext E7
  have K27 : Keep h0 h18 [x] := K26.wr W18 (Or.inl (by simp))
  have E28 : Exa Z h18 x "java/lang/String" := E17.wr W18
  have F29 : Fld Z h7 x "java/lang/String" "value" "[B" (.ref lb2) := Fw6.ext E7
  have F30 : Fld Z h18 x "java/lang/String" "value" "[B" (.ref lb2) := F29.other W18 (Or.inr (slot_ne (Or.inr (own_w hw 24 rfl)) (Or.inr (own_w hw 25 rfl)) (by decide) (t := (.array .byte)) (t' := .byte) (by decide) (by decide)))
  have ne31 : x ≠ lb2 := (hsf2 x sf10).2
  have V32 : Arv Z h6 lb2 lk2 .byte (0 : Int32) [] (.int (0 : Int32)) := LK2.other W6 (Ne.symm ne31)
  have V33 : Arv Z h7 lb2 lk2 .byte (0 : Int32) [] (.int (0 : Int32)) := V32.ext E7
  have V34 : Arv Z h18 lb2 lk2 .byte (0 : Int32) [] (.int (0 : Int32)) := V33.other W18 (Ne.symm ne31)
  exact ⟨rfl, N18, K27, E28, Fw18, lb2, lk2, F30, V34⟩
theorem d3_0 : decode jdk_42_method_3_code 0 = .ok (.aload_n 0, 1) := by decide +kernel
theorem d3_1 : decode jdk_42_method_3_code 1 = .ok (.aload_n 1, 1) := by decide +kernel
theorem d3_2 : decode jdk_42_method_3_code 2 = .ok (.iconst 0, 1) := by decide +kernel
theorem d3_3 : decode jdk_42_method_3_code 3 = .ok (.aload_n 1, 1) := by decide +kernel
theorem d3_4 : decode jdk_42_method_3_code 4 = .ok (.arraylength, 1) := by decide +kernel
theorem d3_5 : decode jdk_42_method_3_code 5 = .ok (.aconst_null, 1) := by decide +kernel
theorem d3_6 : decode jdk_42_method_3_code 6 = .ok (.invokespecial 27, 3) := by decide +kernel
theorem d3_9 : decode jdk_42_method_3_code 9 = .ok (.return_, 1) := by decide +kernel
theorem pd_23571 : parseMethodDescriptor "([CIILjava/lang/Void;)V" = some ⟨[(.array .char), .int, .int, (.object "java/lang/Void")], none⟩ := by decide +kernel
theorem efSiE (m : MethodId) (x : Addr) (b : Addr) : entryFrame m #[(.ref x), (.ref b)] 2 = mkF m 0 #[.val (.ref x), .val (.ref b)] [] := by first | (simp [entryFrame, mkF, argsToLocals, Value.category]; done) | rfl
def QSiE (Z : State) (x : Addr) (b : Addr) (kc : ClassId) (h0 : Heap) (n0 : Nat) (v : Option Value) (h : Heap) (L : List Loc) : Prop := v = none ∧ Fr n0 L ∧ Keep h0 h [x] ∧ Exa Z h x "java/lang/String" ∧ Fld Z h x "java/lang/String" "coder" "B" (.int (0 : Int32)) ∧ ∃ t kb, Fld Z h x "java/lang/String" "value" "[B" (.ref t) ∧ Arv Z h t kb .byte (0 : Int32) [] (.int (0 : Int32))
set_option maxRecDepth 65536 in
set_option maxHeartbeats 40000000 in
theorem rmSiE (l : Launch) (Z : State) (a0 : Array Value) (hw : ∀ d ∈ tables_1, d.before a0 Z = true) (ws : List Jvm.Cond) (x : Addr) (b : Addr) (kc : ClassId) (h0 : Heap) (n0 : Nat) (Z0 : n0 ≤ h0.size) (O0 : Old Z n0 h0) (gx : n0 ≤ x) (Ex : Exa Z h0 x "java/lang/String") (Vx : Fld Z h0 x "java/lang/String" "value" "[B" .null) (Cx : Fld Z h0 x "java/lang/String" "coder" "B" (.int (0 : Int32))) (Vb : Arv Z h0 b kc .char (0 : Int32) [] (.int (0 : Int32))) :
    MetFree l y5_ (head1 (Jvm.Cond.code y5_ jdk_42_method_3_code 2 none :: ws) ({ frames := 2, cells := 4, slots := 8, locals := 29 } : Room)) (fun aa U => aa = #[(.ref x), (.ref b)] ∧ Z.Warmed39 U.vm ∧ U.heap = h0 ∧ CHv Z EL1 U.vm h0) (fun _ _ _ _ _ => True) (fun _ U oo U' => ∃ vv LL, oo = .returned vv ∧ QSiE Z x b kc h0 n0 vv U'.heap LL ∧ CHr Z EL1 U.vm U.heap U'.vm U'.heap ∧ ReturnedEndW U oo U' LL ({ frames := 2, cells := 4, slots := 8, locals := 29 } : Room).cells ({ frames := 2, cells := 4, slots := 8, locals := 29 } : Room).slots) := by
  refine MetFree.of_bodySF (plainFor_of_name pn_java_lang_String) hisR ?_
  intro p e s m args below meth c s₁ Bd hml0 hP hK
  obtain ⟨rfl, hZ, hh, hCH⟩ := hP
  have hx := Bd.exec
  have hby := Bd.bytes
  have hml : c.maxLocals = 2 := hml0
  have hown : s.vm.findClass "java/lang/String" = some m.cls := findClass_of_methodNamed Bd.named
  have hnm := (name_of_methodNamed Bd.named Bd.method).1
  have X0 : Stand p l e ({ frames := 2, cells := 4, slots := 8, locals := 29 } : Room) (s.setVm s.vm) m #[(.ref x), (.ref b)] below meth c s₁ [] 0 0 := Stand.of_body Bd
  have e0 : s₁.heap = h0 := by rw [← hh, Bd.state]; rfl
  have N0 := Fr.nil n0
  refine Goes.giveW (Q := QSiE Z x b kc h0 n0) ?_
  rw [efSiE m x b]
  have hEL : EW Z a0 EL1 := own_EL hw
  have hS0 : s.Since s.vm h0.size := (State.WarmedH.refl s).since _
  have ks0 : h0.size ≤ h0.size := Nat.le_refl _
  have CR0 : CHr Z EL1 s.vm h0 s.vm h0 := CHr.refl hCH
  have K0 : Keep h0 h0 [] := Keep.refl _ _
  have K0 : Keep h0 h0 [x] := Keep.refl _ _
  have sf_x : Safe Z EL1 s.vm h0 x := own_safeNull hZ.alike Ex Vx
  refine P1.aloadN X0.here hx (hb hby d3_0) rfl rfl ?_
  refine P1.aloadN X0.here hx (hb hby d3_1) rfl rfl ?_
  refine P1.iconst X0.here hx (0 : Int32) (hb hby d3_2) rfl ?_
  refine P1.aloadN X0.here hx (hb hby d3_3) rfl rfl ?_
  obtain ⟨cl35, Ar35, qk35, sl35, nz35, ha35, fi35⟩ := id Vb
  have al36 : cl35.slots.size.toInt32 = (0 : Int32) := len_of sl35 nz35
  refine Goes.step (T' := s₁) (g' := (mkF m 5 #[.val (.ref x), .val (.ref b)] [(.int (0 : Int32)), (.int (0 : Int32)), (.ref b), (.ref x)])) (fun t_ k_ => X0.arraylength hx (by rw [e0]; exact Ar35.1) (State.isArrayOf_alike hZ.alike Ar35.2.1) (g := (mkF m 4 #[.val (.ref x), .val (.ref b)] [(.ref b), (.int (0 : Int32)), (.ref b), (.ref x)])) rfl rfl (hb hby d3_4) _ <| by rw [al36]; exact k_) ?_
  refine P1.aconstNull X0.here hx (hb hby d3_5) ?_
  refine Goes.callCW X0 hx (y := y6_) hS0 ks0 hZ rfl hown (mvT hZ (own_w hw 15 rfl)) (mvT hZ (own_w hw 16 rfl)) (mvT hZ (own_w hw 18 rfl)) (by decide) (kc' := 4) (ks' := 8) (backOfSH (W := 0) (rmSiC l Z a0 hw [] x b h0 n0 Z0 O0 gx Ex Vx Cx) hZ (own_w hw 18 rfl) (own_w hw 10 rfl) (ok rfl) (ok rfl) hEL CR0.1) (g := (mkF m 6 #[.val (.ref x), .val (.ref b)] [.null, (.int (0 : Int32)), (.int (0 : Int32)), (.ref b), (.ref x)])) (a := x) rfl (by rw [hml]; rfl) (argsL := [(.ref b), (.int (0 : Int32)), (.int (0 : Int32)), .null]) (rest := []) (lenOf pd_23571 rfl) rfl (by show 2 * 0 + _ ≤ _; exact Nat.le_of_eq rfl) (hb hby d3_6) rfl e0 (ok rfl) (ok rfl) ?_
  intro v37 T37 L37 q37 Y37
  obtain ⟨X37, hS37, hZ, hown, CW37⟩ := Y37
  obtain ⟨rfl, N37q, K37, g37E, g37C, t37, kb37, g37V, g37K⟩ := q37
  have N37 := Fr.app N0 N37q
  have ks37 : T37.heap.size ≤ T37.heap.size := Nat.le_refl _
  show Goes p e below _ T37 (mkF m 9 #[.val (.ref x), .val (.ref b)] [])
  have CR38 : CHr Z EL1 s.vm h0 T37.vm T37.heap := CR0.trans CW37
  refine Goes.retVW X37 hx Bd.notSynchronized hS37 ks37 hZ hEL (hh ▸ CR38) rfl Bd.returns (hb hby d3_9) (ok rfl) (ok rfl) ?_
  have K39 : Keep h0 T37.heap [x] := K0.trans K37 (allS (Or.inl (by simp)) all0)
  exact ⟨rfl, N37, K39, g37E, g37C, t37, kb37, g37V, g37K⟩
theorem d1_0 : decode method_3_code 0 = .ok (.lload_n 0, 1) := by decide +kernel
theorem d1_1 : decode method_3_code 1 = .ok (.bipush 32, 2) := by decide +kernel
theorem d1_3 : decode method_3_code 3 = .ok (.iload_n 2, 1) := by decide +kernel
theorem d1_4 : decode method_3_code 4 = .ok (.iadd, 1) := by decide +kernel
theorem d1_5 : decode method_3_code 5 = .ok (.lushr, 1) := by decide +kernel
theorem d1_6 : decode method_3_code 6 = .ok (.lconst 1, 1) := by decide +kernel
theorem d1_7 : decode method_3_code 7 = .ok (.land, 1) := by decide +kernel
theorem d1_8 : decode method_3_code 8 = .ok (.lconst 0, 1) := by decide +kernel
theorem d1_9 : decode method_3_code 9 = .ok (.lcmp, 1) := by decide +kernel
theorem d1_10 : decode method_3_code 10 = .ok (.ifCond .eq 5, 3) := by decide +kernel
theorem d1_13 : decode method_3_code 13 = .ok (.iload_n 3, 1) := by decide +kernel
theorem d1_14 : decode method_3_code 14 = .ok (.ireturn, 1) := by decide +kernel
theorem d1_15 : decode method_3_code 15 = .ok (.lload_n 0, 1) := by decide +kernel
theorem d1_16 : decode method_3_code 16 = .ok (.bipush 8, 2) := by decide +kernel
theorem d1_18 : decode method_3_code 18 = .ok (.iload_n 2, 1) := by decide +kernel
theorem d1_19 : decode method_3_code 19 = .ok (.imul, 1) := by decide +kernel
theorem d1_20 : decode method_3_code 20 = .ok (.lushr, 1) := by decide +kernel
theorem d1_21 : decode method_3_code 21 = .ok (.ldc2_w 33, 3) := by decide +kernel
theorem d1_24 : decode method_3_code 24 = .ok (.land, 1) := by decide +kernel
theorem d1_25 : decode method_3_code 25 = .ok (.l2i, 1) := by decide +kernel
theorem d1_26 : decode method_3_code 26 = .ok (.i2c, 1) := by decide +kernel
theorem d1_27 : decode method_3_code 27 = .ok (.ireturn, 1) := by decide +kernel
theorem pn_com_example_obligation_obligation_AttributesIsClockPinLaw : plainName "com/example/obligation/obligation/AttributesIsClockPinLaw" = true := by first | (simp [plainName, overriddenIn]; done) | decide +kernel
theorem efPk (m : MethodId) (q : Int64) (i : Int32) (tg : Int32) : entryFrame m #[(.long q), (.int i), (.int tg)] 4 = mkF m 0 #[.val (.long q), .second, .val (.int i), .val (.int tg)] [] := by first | (simp [entryFrame, mkF, argsToLocals, Value.category]; done) | rfl
def QPk (Z : State) (q : Int64) (i : Int32) (tg : Int32) (h0 : Heap) (n0 : Nat) (v : Option Value) (h : Heap) (L : List Loc) : Prop := ∃ r, v = some (.int r) ∧ (¬ r < 0 ∧ ¬ (255 : Int32) < r) ∧ Fr n0 L ∧ h = h0
set_option maxRecDepth 65536 in
set_option maxHeartbeats 40000000 in
theorem rmPk (l : Launch) (Z : State) (a0 : Array Value) (hw : ∀ d ∈ tables_1, d.before a0 Z = true) (ws : List Jvm.Cond) (q : Int64) (i : Int32) (tg : Int32) (h0 : Heap) (n0 : Nat) (Z0 : n0 ≤ h0.size) (O0 : Old Z n0 h0) (htg : ¬ tg < 0 ∧ ¬ (255 : Int32) < tg) :
    MetFree l y2_ (head1 (Jvm.Cond.code y2_ method_3_code 4 (some .char) :: ws) ({ frames := 0, cells := 0, slots := 0, locals := 0 } : Room)) (fun aa U => aa = #[(.long q), (.int i), (.int tg)] ∧ Z.Warmed39 U.vm ∧ U.heap = h0) (fun _ _ _ _ _ => True) (fun _ U oo U' => ∃ vv LL, oo = .returned vv ∧ QPk Z q i tg h0 n0 vv U'.heap LL ∧ FrameEnd U oo U' LL ({ frames := 0, cells := 0, slots := 0, locals := 0 } : Room).cells ({ frames := 0, cells := 0, slots := 0, locals := 0 } : Room).slots) := by
  refine MetFree.of_bodySF (plainFor_of_name pn_com_example_obligation_obligation_AttributesIsClockPinLaw) hisR ?_
  intro p e s m args below meth c s₁ Bd hml0 hP hK
  obtain ⟨rfl, hZ, hh⟩ := hP
  have hx := Bd.exec
  have hby := Bd.bytes
  have hml : c.maxLocals = 4 := hml0
  have hown : s.vm.findClass "com/example/obligation/obligation/AttributesIsClockPinLaw" = some m.cls := findClass_of_methodNamed Bd.named
  have hnm := (name_of_methodNamed Bd.named Bd.method).1
  have X0 : Stand p l e ({ frames := 0, cells := 0, slots := 0, locals := 0 } : Room) s m #[(.long q), (.int i), (.int tg)] below meth c s₁ [] 0 0 := Stand.of_body Bd
  have e0 : s₁.heap = h0 := by rw [← hh, Bd.state]; rfl
  have N0 := Fr.nil n0
  refine Goes.give (Q := QPk Z q i tg h0 n0) ?_
  rw [efPk m q i tg]
  have K0 : Keep h0 h0 [] := Keep.refl _ _
  refine P1.lloadN X0.here hx (hb hby d1_0) rfl ?_
  refine P1.bipush X0.here hx (32 : Int32) (hb hby d1_1) rfl ?_
  refine P1.iloadN X0.here hx (hb hby d1_3) rfl ?_
  refine P1.iadd X0.here hx (hb hby d1_4) ?_
  refine Goes.step (T' := s₁) (g' := (mkF m 6 #[.val (.long q), .second, .val (.int i), .val (.int tg)] [(.long ((q.toUInt64 >>> (((32 : Int32) + i) &&& 0x3f).toInt64.toUInt64).toInt64))])) (fun t_ k_ => XS.lushr X0.here hx rfl (hb hby d1_5) rfl k_) ?_
  refine Goes.step (T' := s₁) (g' := (mkF m 7 #[.val (.long q), .second, .val (.int i), .val (.int tg)] [(.long (1 : Int64)), (.long ((q.toUInt64 >>> (((32 : Int32) + i) &&& 0x3f).toInt64.toUInt64).toInt64))])) (fun t_ k_ => XS.lconst X0.here hx rfl (hb hby d1_6) k_) ?_
  refine Goes.step (T' := s₁) (g' := (mkF m 8 #[.val (.long q), .second, .val (.int i), .val (.int tg)] [(.long (((q.toUInt64 >>> (((32 : Int32) + i) &&& 0x3f).toInt64.toUInt64).toInt64) &&& (1 : Int64)))])) (fun t_ k_ => XS.land X0.here hx rfl (hb hby d1_7) rfl k_) ?_
  refine Goes.step (T' := s₁) (g' := (mkF m 9 #[.val (.long q), .second, .val (.int i), .val (.int tg)] [(.long (0 : Int64)), (.long (((q.toUInt64 >>> (((32 : Int32) + i) &&& 0x3f).toInt64.toUInt64).toInt64) &&& (1 : Int64)))])) (fun t_ k_ => XS.lconst X0.here hx rfl (hb hby d1_8) k_) ?_
  refine Goes.step (T' := s₁) (g' := (mkF m 10 #[.val (.long q), .second, .val (.int i), .val (.int tg)] [(.int (lcmpW (((q.toUInt64 >>> (((32 : Int32) + i) &&& 0x3f).toInt64.toUInt64).toInt64) &&& (1 : Int64)) (0 : Int64)))])) (fun t_ k_ => XS.lcmp X0.here hx rfl (hb hby d1_9) rfl k_) ?_
  by_cases hbr : (lcmpW (((q.toUInt64 >>> (((32 : Int32) + i) &&& 0x3f).toInt64.toUInt64).toInt64) &&& (1 : Int64)) (0 : Int64)) = (0 : Int32)
  ·
    refine Goes.step (T' := s₁) (g' := (mkF m 15 #[.val (.long q), .second, .val (.int i), .val (.int tg)] [])) (fun t_ k_ => XS.ifYes X0.here hx rfl (pc0 := 10) (pc' := 15) rfl (hb hby d1_10) rfl ((if0 _ _).trans (teq (hbr : (lcmpW (((q.toUInt64 >>> (((32 : Int32) + i) &&& 0x3f).toInt64.toUInt64).toInt64) &&& (1 : Int64)) (0 : Int64)) = (0 : Int32))).1) (by decide) (by decide) k_) ?_
    refine P1.lloadN X0.here hx (hb hby d1_15) rfl ?_
    refine P1.bipush X0.here hx (8 : Int32) (hb hby d1_16) rfl ?_
    refine P1.iloadN X0.here hx (hb hby d1_18) rfl ?_
    refine P1.imul X0.here hx (hb hby d1_19) ?_
    refine Goes.step (T' := s₁) (g' := (mkF m 21 #[.val (.long q), .second, .val (.int i), .val (.int tg)] [(.long ((q.toUInt64 >>> (((8 : Int32) * i) &&& 0x3f).toInt64.toUInt64).toInt64))])) (fun t_ k_ => XS.lushr X0.here hx rfl (hb hby d1_20) rfl k_) ?_
    refine Goes.step (T' := s₁) (g' := (mkF m 24 #[.val (.long q), .second, .val (.int i), .val (.int tg)] [(.long (255 : Int64)), (.long ((q.toUInt64 >>> (((8 : Int32) * i) &&& 0x3f).toInt64.toUInt64).toInt64))])) (fun t_ k_ => X0.ldc2Long hx hown (mvT hZ (own_w hw 4 rfl)) (g := (mkF m 21 #[.val (.long q), .second, .val (.int i), .val (.int tg)] [(.long ((q.toUInt64 >>> (((8 : Int32) * i) &&& 0x3f).toInt64.toUInt64).toInt64))])) rfl (hb hby d1_21) t_ k_) ?_
    refine Goes.step (T' := s₁) (g' := (mkF m 25 #[.val (.long q), .second, .val (.int i), .val (.int tg)] [(.long (((q.toUInt64 >>> (((8 : Int32) * i) &&& 0x3f).toInt64.toUInt64).toInt64) &&& (255 : Int64)))])) (fun t_ k_ => XS.land X0.here hx rfl (hb hby d1_24) rfl k_) ?_
    refine Goes.step (T' := s₁) (g' := (mkF m 26 #[.val (.long q), .second, .val (.int i), .val (.int tg)] [(.int ((((q.toUInt64 >>> (((8 : Int32) * i) &&& 0x3f).toInt64.toUInt64).toInt64) &&& (255 : Int64)).toInt32))])) (fun t_ k_ => XS.l2i X0.here hx rfl (hb hby d1_25) rfl k_) ?_
    have bd := own_land255 ((q.toUInt64 >>> (((8 : Int32) * i) &&& 0x3f).toInt64.toUInt64).toInt64)
    refine Goes.step (T' := s₁) (g' := (mkF m 27 #[.val (.long q), .second, .val (.int i), .val (.int tg)] [(.int (((((q.toUInt64 >>> (((8 : Int32) * i) &&& 0x3f).toInt64.toUInt64).toInt64) &&& (255 : Int64)).toInt32).toUInt32.toUInt16.toUInt32.toInt32))])) (fun t_ k_ => XS.i2c X0.here hx rfl (hb hby d1_26) rfl k_) ?_
    have rw40 : (((((q.toUInt64 >>> (((8 : Int32) * i) &&& 0x3f).toInt64.toUInt64).toInt64) &&& (255 : Int64)).toInt32).toUInt32.toUInt16.toUInt32.toInt32) = ((((q.toUInt64 >>> (((8 : Int32) * i) &&& 0x3f).toInt64.toUInt64).toInt64) &&& (255 : Int64)).toInt32) := own_i2c bd
    rw [rw40]
    refine Goes.retN X0 hx Bd.notSynchronized (t := .char) Bd.returns (by simp) (hb hby d1_27) (ok rfl) (ok rfl) ?_
    rw [e0]
    exact ⟨_, rfl, by rw [own_nar bd]; exact bd, N0, rfl⟩
  ·
    refine Goes.step (T' := s₁) (g' := (mkF m 13 #[.val (.long q), .second, .val (.int i), .val (.int tg)] [])) (fun t_ k_ => XS.ifNo X0.here hx rfl (hb hby d1_10) rfl ((if0 _ _).trans (feq (hbr : ¬ ((lcmpW (((q.toUInt64 >>> (((32 : Int32) + i) &&& 0x3f).toInt64.toUInt64).toInt64) &&& (1 : Int64)) (0 : Int64)) = (0 : Int32)))).1) k_) ?_
    refine P1.iloadN X0.here hx (hb hby d1_13) rfl ?_
    refine Goes.retN X0 hx Bd.notSynchronized (t := .char) Bd.returns (by simp) (hb hby d1_14) (ok rfl) (ok rfl) ?_
    rw [e0]
    exact ⟨_, rfl, by rw [own_nar htg]; exact htg, N0, rfl⟩
theorem d2_0 : decode method_4_code 0 = .ok (.iload 4, 2) := by decide +kernel
theorem d2_2 : decode method_4_code 2 = .ok (.ifCond .ne 14, 3) := by decide +kernel
theorem d2_5 : decode method_4_code 5 = .ok (.new 18, 3) := by decide +kernel
theorem d2_8 : decode method_4_code 8 = .ok (.dup, 1) := by decide +kernel
theorem d2_9 : decode method_4_code 9 = .ok (.iconst 0, 1) := by decide +kernel
theorem d2_10 : decode method_4_code 10 = .ok (.newarray .char, 2) := by decide +kernel
theorem d2_12 : decode method_4_code 12 = .ok (.invokespecial 35, 3) := by decide +kernel
theorem d2_15 : decode method_4_code 15 = .ok (.areturn, 1) := by decide +kernel
theorem d2_16 : decode method_4_code 16 = .ok (.iload 4, 2) := by decide +kernel
theorem d2_18 : decode method_4_code 18 = .ok (.iconst 1, 1) := by decide +kernel
theorem d2_19 : decode method_4_code 19 = .ok (.if_icmp .ne 18, 3) := by decide +kernel
theorem d2_22 : decode method_4_code 22 = .ok (.new 18, 3) := by decide +kernel
theorem d2_25 : decode method_4_code 25 = .ok (.dup, 1) := by decide +kernel
theorem d2_26 : decode method_4_code 26 = .ok (.iconst 1, 1) := by decide +kernel
theorem d2_27 : decode method_4_code 27 = .ok (.newarray .char, 2) := by decide +kernel
theorem d2_29 : decode method_4_code 29 = .ok (.dup, 1) := by decide +kernel
theorem d2_30 : decode method_4_code 30 = .ok (.iconst 0, 1) := by decide +kernel
theorem d2_31 : decode method_4_code 31 = .ok (.iload_n 0, 1) := by decide +kernel
theorem d2_32 : decode method_4_code 32 = .ok (.castore, 1) := by decide +kernel
theorem d2_33 : decode method_4_code 33 = .ok (.invokespecial 35, 3) := by decide +kernel
theorem d2_36 : decode method_4_code 36 = .ok (.areturn, 1) := by decide +kernel
theorem d2_37 : decode method_4_code 37 = .ok (.iload 4, 2) := by decide +kernel
theorem d2_39 : decode method_4_code 39 = .ok (.iconst 2, 1) := by decide +kernel
theorem d2_40 : decode method_4_code 40 = .ok (.if_icmp .ne 22, 3) := by decide +kernel
theorem d2_43 : decode method_4_code 43 = .ok (.new 18, 3) := by decide +kernel
theorem d2_46 : decode method_4_code 46 = .ok (.dup, 1) := by decide +kernel
theorem d2_47 : decode method_4_code 47 = .ok (.iconst 2, 1) := by decide +kernel
theorem d2_48 : decode method_4_code 48 = .ok (.newarray .char, 2) := by decide +kernel
theorem d2_50 : decode method_4_code 50 = .ok (.dup, 1) := by decide +kernel
theorem d2_51 : decode method_4_code 51 = .ok (.iconst 0, 1) := by decide +kernel
theorem d2_52 : decode method_4_code 52 = .ok (.iload_n 0, 1) := by decide +kernel
theorem d2_53 : decode method_4_code 53 = .ok (.castore, 1) := by decide +kernel
theorem d2_54 : decode method_4_code 54 = .ok (.dup, 1) := by decide +kernel
theorem d2_55 : decode method_4_code 55 = .ok (.iconst 1, 1) := by decide +kernel
theorem d2_56 : decode method_4_code 56 = .ok (.iload_n 1, 1) := by decide +kernel
theorem d2_57 : decode method_4_code 57 = .ok (.castore, 1) := by decide +kernel
theorem d2_58 : decode method_4_code 58 = .ok (.invokespecial 35, 3) := by decide +kernel
theorem d2_61 : decode method_4_code 61 = .ok (.areturn, 1) := by decide +kernel
theorem d2_62 : decode method_4_code 62 = .ok (.iload 4, 2) := by decide +kernel
theorem d2_64 : decode method_4_code 64 = .ok (.iconst 3, 1) := by decide +kernel
theorem d2_65 : decode method_4_code 65 = .ok (.if_icmp .ne 26, 3) := by decide +kernel
theorem d2_68 : decode method_4_code 68 = .ok (.new 18, 3) := by decide +kernel
theorem d2_71 : decode method_4_code 71 = .ok (.dup, 1) := by decide +kernel
theorem d2_72 : decode method_4_code 72 = .ok (.iconst 3, 1) := by decide +kernel
theorem d2_73 : decode method_4_code 73 = .ok (.newarray .char, 2) := by decide +kernel
theorem d2_75 : decode method_4_code 75 = .ok (.dup, 1) := by decide +kernel
theorem d2_76 : decode method_4_code 76 = .ok (.iconst 0, 1) := by decide +kernel
theorem d2_77 : decode method_4_code 77 = .ok (.iload_n 0, 1) := by decide +kernel
theorem d2_78 : decode method_4_code 78 = .ok (.castore, 1) := by decide +kernel
theorem d2_79 : decode method_4_code 79 = .ok (.dup, 1) := by decide +kernel
theorem d2_80 : decode method_4_code 80 = .ok (.iconst 1, 1) := by decide +kernel
theorem d2_81 : decode method_4_code 81 = .ok (.iload_n 1, 1) := by decide +kernel
theorem d2_82 : decode method_4_code 82 = .ok (.castore, 1) := by decide +kernel
theorem d2_83 : decode method_4_code 83 = .ok (.dup, 1) := by decide +kernel
theorem d2_84 : decode method_4_code 84 = .ok (.iconst 2, 1) := by decide +kernel
theorem d2_85 : decode method_4_code 85 = .ok (.iload_n 2, 1) := by decide +kernel
theorem d2_86 : decode method_4_code 86 = .ok (.castore, 1) := by decide +kernel
theorem d2_87 : decode method_4_code 87 = .ok (.invokespecial 35, 3) := by decide +kernel
theorem d2_90 : decode method_4_code 90 = .ok (.areturn, 1) := by decide +kernel
theorem d2_91 : decode method_4_code 91 = .ok (.new 18, 3) := by decide +kernel
theorem d2_94 : decode method_4_code 94 = .ok (.dup, 1) := by decide +kernel
theorem d2_95 : decode method_4_code 95 = .ok (.iconst 4, 1) := by decide +kernel
theorem d2_96 : decode method_4_code 96 = .ok (.newarray .char, 2) := by decide +kernel
theorem d2_98 : decode method_4_code 98 = .ok (.dup, 1) := by decide +kernel
theorem d2_99 : decode method_4_code 99 = .ok (.iconst 0, 1) := by decide +kernel
theorem d2_100 : decode method_4_code 100 = .ok (.iload_n 0, 1) := by decide +kernel
theorem d2_101 : decode method_4_code 101 = .ok (.castore, 1) := by decide +kernel
theorem d2_102 : decode method_4_code 102 = .ok (.dup, 1) := by decide +kernel
theorem d2_103 : decode method_4_code 103 = .ok (.iconst 1, 1) := by decide +kernel
theorem d2_104 : decode method_4_code 104 = .ok (.iload_n 1, 1) := by decide +kernel
theorem d2_105 : decode method_4_code 105 = .ok (.castore, 1) := by decide +kernel
theorem d2_106 : decode method_4_code 106 = .ok (.dup, 1) := by decide +kernel
theorem d2_107 : decode method_4_code 107 = .ok (.iconst 2, 1) := by decide +kernel
theorem d2_108 : decode method_4_code 108 = .ok (.iload_n 2, 1) := by decide +kernel
theorem d2_109 : decode method_4_code 109 = .ok (.castore, 1) := by decide +kernel
theorem d2_110 : decode method_4_code 110 = .ok (.dup, 1) := by decide +kernel
theorem d2_111 : decode method_4_code 111 = .ok (.iconst 3, 1) := by decide +kernel
theorem d2_112 : decode method_4_code 112 = .ok (.iload_n 3, 1) := by decide +kernel
theorem d2_113 : decode method_4_code 113 = .ok (.castore, 1) := by decide +kernel
theorem d2_114 : decode method_4_code 114 = .ok (.invokespecial 35, 3) := by decide +kernel
theorem d2_117 : decode method_4_code 117 = .ok (.areturn, 1) := by decide +kernel
theorem pd_1017 : parseMethodDescriptor "([C)V" = some ⟨[(.array .char)], none⟩ := by decide +kernel
theorem in_words : ∀ d ∈ StrChars.Road.words, d ∈ tables_1 := by decide +kernel
theorem efMk (m : MethodId) (c0 : Int32) (c1 : Int32) (c2 : Int32) (c3 : Int32) (n : Int32) : entryFrame m #[(.int c0), (.int c1), (.int c2), (.int c3), (.int n)] 5 = mkF m 0 #[.val (.int c0), .val (.int c1), .val (.int c2), .val (.int c3), .val (.int n)] [] := by first | (simp [entryFrame, mkF, argsToLocals, Value.category]; done) | rfl
def QMk (Z : State) (c0 : Int32) (c1 : Int32) (c2 : Int32) (c3 : Int32) (n : Int32) (ck : Addr) (sn : Addr) (tn : Addr) (se : Addr) (te : Addr) (k_tn : ClassId) (k_te : ClassId) (zc : Int32) (fm : Value) (h0 : Heap) (n0 : Nat) (v : Option Value) (h : Heap) (L : List Loc) : Prop := ∃ x t kb, ∃ cs : List Int32, v = some (.ref x) ∧ Fr n0 L ∧ Keep h0 h [] ∧ Exa Z h x "java/lang/String" ∧ Fld Z h x "java/lang/String" "value" "[B" (.ref t) ∧ Fld Z h x "java/lang/String" "coder" "B" (.int (0 : Int32)) ∧ Arv Z h t kb .byte (Int32.ofNat cs.length) ((cs.map StrChars.lo8).map Value.int) (.int (0 : Int32)) ∧ (∀ c ∈ cs, ¬ c < 0 ∧ ¬ (255 : Int32) < c) ∧ cs.length ≤ 4
set_option maxRecDepth 65536 in
set_option maxHeartbeats 40000000 in
theorem rmMk (l : Launch) (Z : State) (a0 : Array Value) (hw : ∀ d ∈ tables_1, d.before a0 Z = true) (ws : List Jvm.Cond) (c0 : Int32) (c1 : Int32) (c2 : Int32) (c3 : Int32) (n : Int32) (ck : Addr) (sn : Addr) (tn : Addr) (se : Addr) (te : Addr) (k_tn : ClassId) (k_te : ClassId) (zc : Int32) (fm : Value) (h0 : Heap) (n0 : Nat) (Z0 : n0 ≤ h0.size) (O0 : Old Z n0 h0) (S_CLOCK : Sta Z Z.heap "com/example/obligation/obligation/Attributes" "CLOCK" "Lcom/example/obligation/obligation/EntityAttribute;" (.ref ck)) (E_ck : Exa Z Z.heap ck "com/example/obligation/obligation/EntityAttribute") (F_ck_name : Fld Z Z.heap ck "com/example/obligation/obligation/EntityAttribute" "name" "Ljava/lang/String;" (.ref sn)) (E_sn : Exa Z Z.heap sn "java/lang/String") (F_sn_coder : Fld Z Z.heap sn "java/lang/String" "coder" "B" (.int (0 : Int32))) (F_sn_value : Fld Z Z.heap sn "java/lang/String" "value" "[B" (.ref tn)) (F_ck_entity : Fld Z Z.heap ck "com/example/obligation/obligation/EntityAttribute" "entity" "Ljava/lang/String;" (.ref se)) (E_se : Exa Z Z.heap se "java/lang/String") (F_se_coder : Fld Z Z.heap se "java/lang/String" "coder" "B" (.int (0 : Int32))) (F_se_value : Fld Z Z.heap se "java/lang/String" "value" "[B" (.ref te)) (V_tn : Arv Z Z.heap tn k_tn .byte (4 : Int32) [(.int (116 : Int32)), (.int (105 : Int32)), (.int (109 : Int32)), (.int (101 : Int32))] (.int (0 : Int32))) (V_te : Arv Z Z.heap te k_te .byte (3 : Int32) [(.int (101 : Int32)), (.int (110 : Int32)), (.int (118 : Int32))] (.int (0 : Int32))) (S_CS : Sta Z Z.heap "java/lang/String" "COMPACT_STRINGS" "Z" (.int zc)) (hzc : ¬ zc = 0) (S_FM : Sta Z Z.heap "jdk/internal/util/Preconditions" "SIOOBE_FORMATTER" "Ljava/util/function/BiFunction;" fm) (hfm : fm.isRef = true) (bd_c0 : ¬ c0 < 0 ∧ ¬ (255 : Int32) < c0) (bd_c1 : ¬ c1 < 0 ∧ ¬ (255 : Int32) < c1) (bd_c2 : ¬ c2 < 0 ∧ ¬ (255 : Int32) < c2) (bd_c3 : ¬ c3 < 0 ∧ ¬ (255 : Int32) < c3) :
    MetFree l y1_ (head1 (Jvm.Cond.code y1_ method_4_code 5 (some (.object "java/lang/String")) :: ws) ({ frames := 4, cells := 6, slots := 12, locals := 66 } : Room)) (fun aa U => aa = #[(.int c0), (.int c1), (.int c2), (.int c3), (.int n)] ∧ Z.Warmed39 U.vm ∧ U.heap = h0 ∧ CHv Z EL1 U.vm h0) (fun _ _ _ _ _ => True) (fun _ U oo U' => ∃ vv LL, oo = .returned vv ∧ QMk Z c0 c1 c2 c3 n ck sn tn se te k_tn k_te zc fm h0 n0 vv U'.heap LL ∧ CHr Z EL1 U.vm U.heap U'.vm U'.heap ∧ ReturnedEndW U oo U' LL ({ frames := 4, cells := 6, slots := 12, locals := 66 } : Room).cells ({ frames := 4, cells := 6, slots := 12, locals := 66 } : Room).slots) := by
  refine MetFree.of_bodySF (plainFor_of_name pn_com_example_obligation_obligation_AttributesIsClockPinLaw) hisR ?_
  intro p e s m args below meth c s₁ Bd hml0 hP hK
  obtain ⟨rfl, hZ, hh, hCH⟩ := hP
  have hx := Bd.exec
  have hby := Bd.bytes
  have hml : c.maxLocals = 5 := hml0
  have hown : s.vm.findClass "com/example/obligation/obligation/AttributesIsClockPinLaw" = some m.cls := findClass_of_methodNamed Bd.named
  have hnm := (name_of_methodNamed Bd.named Bd.method).1
  have X0 : Stand p l e ({ frames := 4, cells := 6, slots := 12, locals := 66 } : Room) (s.setVm s.vm) m #[(.int c0), (.int c1), (.int c2), (.int c3), (.int n)] below meth c s₁ [] 0 0 := Stand.of_body Bd
  have e0 : s₁.heap = h0 := by rw [← hh, Bd.state]; rfl
  have N0 := Fr.nil n0
  refine Goes.giveW (Q := QMk Z c0 c1 c2 c3 n ck sn tn se te k_tn k_te zc fm h0 n0) ?_
  rw [efMk m c0 c1 c2 c3 n]
  have hEL : EW Z a0 EL1 := own_EL hw
  have hS0 : s.Since s.vm h0.size := (State.WarmedH.refl s).since _
  have ks0 : h0.size ≤ h0.size := Nat.le_refl _
  have CR0 : CHr Z EL1 s.vm h0 s.vm h0 := CHr.refl hCH
  have K0 : Keep h0 h0 [] := Keep.refl _ _
  refine P1.iload X0.here hx (hb hby d2_0) rfl ?_
  by_cases hb0 : n = (0 : Int32)
  ·
    refine Goes.step (T' := s₁) (g' := (mkF m 5 #[.val (.int c0), .val (.int c1), .val (.int c2), .val (.int c3), .val (.int n)] [])) (fun t_ k_ => XS.ifNo X0.here hx rfl (hb hby d2_2) rfl ((if0 _ _).trans (teq (hb0 : n = (0 : Int32))).2) k_) ?_
    obtain ⟨T41, h41, X41, e41, E41, A41, D41, -, st41⟩ := newO X0 hx hZ hown (own_w hw 8 rfl) (own_w hw 9 rfl) (own_w hw 10 rfl) e0 (g := (mkF m 5 #[.val (.int c0), .val (.int c1), .val (.int c2), .val (.int c3), .val (.int n)] [])) rfl (hb hby d2_5) (ok rfl) (ok rfl)
    obtain ⟨b41, g41⟩ : ∃ z, z = h0.size := ⟨_, rfl⟩
    rw [← g41] at A41 D41 st41
    have ge_b41 : n0 ≤ b41 := Nat.le_trans Z0 (Nat.le_of_eq g41.symm)
    have sz_b41 : h0.size ≤ b41 := Nat.le_trans K0.1 (Nat.le_of_eq g41.symm)
    have sf_b41 : Safe Z EL1 s.vm h0 b41 := Safe.new (Nat.le_of_eq g41.symm)
    have F41_value : Fld Z h41 b41 "java/lang/String" "value" "[B" .null := D41 (Or.inr (own_w hw 24 rfl)) (ty := (.array .byte)) (by decide)
    have F41_coder : Fld Z h41 b41 "java/lang/String" "coder" "B" (.int (0 : Int32)) := D41 (Or.inr (own_w hw 25 rfl)) (ty := .byte) (by decide)
    refine Goes.step (T' := T41) (g' := (mkF m 8 #[.val (.int c0), .val (.int c1), .val (.int c2), .val (.int c3), .val (.int n)] [(.ref b41)])) st41 ?_
    refine P1.dup X41.here hx (hb hby d2_8) rfl ?_
    refine P1.iconst X41.here hx (0 : Int32) (hb hby d2_9) rfl ?_
    obtain ⟨T42, h42, k42, X42, e42, E42, A42, st42⟩ := newP X41 hx hZ (own_w hw 11 rfl) e41 (g := (mkF m 10 #[.val (.int c0), .val (.int c1), .val (.int c2), .val (.int c3), .val (.int n)] [(.int (0 : Int32)), (.ref b41), (.ref b41)])) rfl (hb hby d2_10) rfl (by decide) (cap := 0) (ok rfl) (ok rfl) (ok rfl) (ok rfl)
    have Z43 : n0 ≤ h41.size := Nat.le_trans Z0 E41.1
    have K44 : Keep h0 h41 [] := K0.ext E41
    obtain ⟨b42, g42⟩ : ∃ z, z = h41.size := ⟨_, rfl⟩
    rw [← g42] at A42 st42
    have ge_b42 : n0 ≤ b42 := Nat.le_trans Z43 (Nat.le_of_eq g42.symm)
    have sz_b42 : h0.size ≤ b42 := Nat.le_trans K44.1 (Nat.le_of_eq g42.symm)
    have sf_b42 : Safe Z EL1 s.vm h41 b42 := Safe.new (Nat.le_of_eq g42.symm)
    have V42 : Arv Z h42 b42 k42 .char (0 : Int32) [] (.int (0 : Int32)) := (Arv.new A42 (by decide)).pad (pad_rep [] (.int (0 : Int32)) 0)
    refine Goes.step (T' := T42) (g' := (mkF m 12 #[.val (.int c0), .val (.int c1), .val (.int c2), .val (.int c3), .val (.int n)] [(.ref b42), (.ref b41), (.ref b41)])) st42 ?_
    have E45 : Exa Z h42 b41 "java/lang/String" := A41.ext E42
    have F46 : Fld Z h42 b41 "java/lang/String" "value" "[B" .null := F41_value.ext E42
    have F47 : Fld Z h42 b41 "java/lang/String" "coder" "B" (.int (0 : Int32)) := F41_coder.ext E42
    have Z48 : n0 ≤ h42.size := Nat.le_trans Z43 E42.1
    have O49 : Old Z n0 h41 := O0.ext E41
    have O50 : Old Z n0 h42 := O49.ext E42
    have CR51 : CHr Z EL1 s.vm h0 s.vm h41 := CR0.trans (CHr.ext E41 CR0.1)
    have CR52 : CHr Z EL1 s.vm h0 s.vm h42 := CR51.trans (CHr.ext E42 CR51.1)
    have ks54 : h0.size ≤ h41.size := Nat.le_trans ks0 E41.1
    have ks55 : h0.size ≤ h42.size := Nat.le_trans ks54 E42.1
    refine Goes.callCW X42 hx (y := y5_) hS0 ks55 hZ rfl hown (mvT hZ (own_w hw 12 rfl)) (mvT hZ (own_w hw 13 rfl)) (mvT hZ (own_w hw 14 rfl)) (by decide) (kc' := 4) (ks' := 8) (backOfSH (W := 1) (rmSiE l Z a0 hw [] b41 b42 k42 h42 n0 Z48 O50 ge_b41 E45 F46 F47 V42) hZ (own_w hw 14 rfl) (own_w hw 10 rfl) (ok rfl) (ok rfl) hEL CR52.1) (g := (mkF m 12 #[.val (.int c0), .val (.int c1), .val (.int c2), .val (.int c3), .val (.int n)] [(.ref b42), (.ref b41), (.ref b41)])) (a := b41) rfl (by rw [hml]; rfl) (argsL := [(.ref b42)]) (rest := [(.ref b41)]) (lenOf pd_1017 rfl) rfl (by show 2 * 0 + _ ≤ _; exact Nat.le_of_eq rfl) (hb hby d2_12) rfl e42 (ok rfl) (ok rfl) ?_
    intro v53 T53 L53 q53 Y53
    obtain ⟨X53, hS53, hZ, hown, CW53⟩ := Y53
    obtain ⟨rfl, N53q, K53, g53E, g53C, t53, kb53, g53V, g53K⟩ := q53
    have N53 := Fr.app N0 N53q
    have ks53 : T53.heap.size ≤ T53.heap.size := Nat.le_refl _
    show Goes p e below _ T53 (mkF m 15 #[.val (.int c0), .val (.int c1), .val (.int c2), .val (.int c3), .val (.int n)] [(.ref b41)])
    have CR56 : CHr Z EL1 s.vm h0 T53.vm T53.heap := CR52.trans CW53
    refine Goes.retAW X53 hx Bd.notSynchronized hS53 ks53 hZ hEL (hh ▸ CR56) rfl Bd.returns rfl rfl (hb hby d2_15) (ok rfl) (ok rfl) ?_
    have K57 : Keep h0 h42 [] := K44.ext E42
    have K58 : Keep h0 T53.heap [] := K57.trans K53 (allS (Or.inr sz_b41) all0)
    exact ⟨b41, t53, kb53, ([] : List Int32), rfl, N53, K58, g53E, g53V, g53C, g53K, (by decide), Nat.le_of_ble_eq_true rfl⟩
  ·
    refine Goes.step (T' := s₁) (g' := (mkF m 16 #[.val (.int c0), .val (.int c1), .val (.int c2), .val (.int c3), .val (.int n)] [])) (fun t_ k_ => XS.ifYes X0.here hx rfl (pc0 := 2) (pc' := 16) rfl (hb hby d2_2) rfl ((if0 _ _).trans (feq (hb0 : ¬ (n = (0 : Int32)))).2) (by decide) (by decide) k_) ?_
    refine P1.iload X0.here hx (hb hby d2_16) rfl ?_
    refine P1.iconst X0.here hx (1 : Int32) (hb hby d2_18) rfl ?_
    by_cases hb1 : n = (1 : Int32)
    ·
      refine Goes.step (T' := s₁) (g' := (mkF m 22 #[.val (.int c0), .val (.int c1), .val (.int c2), .val (.int c3), .val (.int n)] [])) (fun t_ k_ => XS.icmpNo X0.here hx rfl (hb hby d2_19) rfl (teq (hb1 : n = (1 : Int32))).2 k_) ?_
      obtain ⟨T59, h59, X59, e59, E59, A59, D59, -, st59⟩ := newO X0 hx hZ hown (own_w hw 8 rfl) (own_w hw 9 rfl) (own_w hw 10 rfl) e0 (g := (mkF m 22 #[.val (.int c0), .val (.int c1), .val (.int c2), .val (.int c3), .val (.int n)] [])) rfl (hb hby d2_22) (ok rfl) (ok rfl)
      obtain ⟨b59, g59⟩ : ∃ z, z = h0.size := ⟨_, rfl⟩
      rw [← g59] at A59 D59 st59
      have ge_b59 : n0 ≤ b59 := Nat.le_trans Z0 (Nat.le_of_eq g59.symm)
      have sz_b59 : h0.size ≤ b59 := Nat.le_trans K0.1 (Nat.le_of_eq g59.symm)
      have sf_b59 : Safe Z EL1 s.vm h0 b59 := Safe.new (Nat.le_of_eq g59.symm)
      have F59_value : Fld Z h59 b59 "java/lang/String" "value" "[B" .null := D59 (Or.inr (own_w hw 24 rfl)) (ty := (.array .byte)) (by decide)
      have F59_coder : Fld Z h59 b59 "java/lang/String" "coder" "B" (.int (0 : Int32)) := D59 (Or.inr (own_w hw 25 rfl)) (ty := .byte) (by decide)
      refine Goes.step (T' := T59) (g' := (mkF m 25 #[.val (.int c0), .val (.int c1), .val (.int c2), .val (.int c3), .val (.int n)] [(.ref b59)])) st59 ?_
      refine P1.dup X59.here hx (hb hby d2_25) rfl ?_
      refine P1.iconst X59.here hx (1 : Int32) (hb hby d2_26) rfl ?_
      obtain ⟨T60, h60, k60, X60, e60, E60, A60, st60⟩ := newP X59 hx hZ (own_w hw 11 rfl) e59 (g := (mkF m 27 #[.val (.int c0), .val (.int c1), .val (.int c2), .val (.int c3), .val (.int n)] [(.int (1 : Int32)), (.ref b59), (.ref b59)])) rfl (hb hby d2_27) rfl (by decide) (cap := 1) (ok rfl) (ok rfl) (ok rfl) (ok rfl)
      have Z61 : n0 ≤ h59.size := Nat.le_trans Z0 E59.1
      have K62 : Keep h0 h59 [] := K0.ext E59
      obtain ⟨b60, g60⟩ : ∃ z, z = h59.size := ⟨_, rfl⟩
      rw [← g60] at A60 st60
      have ge_b60 : n0 ≤ b60 := Nat.le_trans Z61 (Nat.le_of_eq g60.symm)
      have sz_b60 : h0.size ≤ b60 := Nat.le_trans K62.1 (Nat.le_of_eq g60.symm)
      have sf_b60 : Safe Z EL1 s.vm h59 b60 := Safe.new (Nat.le_of_eq g60.symm)
      have V60 : Arv Z h60 b60 k60 .char (1 : Int32) [(.int (0 : Int32))] (.int (0 : Int32)) := (Arv.new A60 (by decide)).pad (pad_rep [] (.int (0 : Int32)) 1)
      refine Goes.step (T' := T60) (g' := (mkF m 29 #[.val (.int c0), .val (.int c1), .val (.int c2), .val (.int c3), .val (.int n)] [(.ref b60), (.ref b59), (.ref b59)])) st60 ?_
      refine P1.dup X60.here hx (hb hby d2_29) rfl ?_
      refine P1.iconst X60.here hx (0 : Int32) (hb hby d2_30) rfl ?_
      refine P1.iloadN X60.here hx (hb hby d2_31) rfl ?_
      obtain ⟨cl63, Ar63, qk63, sl63, nz63, ha63, fi63⟩ := id V60
      obtain ⟨T64, h64, X64, e64, W64, st64⟩ := stC X60 hx hZ e60 Ar63 (j := (0 : Int32)) (inb_of sl63 ⟨by decide, by decide⟩) (g := (mkF m 32 #[.val (.int c0), .val (.int c1), .val (.int c2), .val (.int c3), .val (.int n)] [(.int c0), (.int (0 : Int32)), (.ref b60), (.ref b60), (.ref b59), (.ref b59)])) rfl rfl (hb hby d2_32)
      rw [(own_nar bd_c0)] at W64
      have V64 : Arv Z h64 b60 k60 .char (1 : Int32) [(.int c0)] (.int (0 : Int32)) := Arv.set Ar63 qk63 sl63 nz63 ha63 fi63 ((own_nar bd_c0) ▸ fits_nar_char c0) W64 0 rfl (ok rfl)
      have N64 := Fr.snoc X64 N0 ge_b60
      refine Goes.step (T' := T64) (g' := (mkF m 33 #[.val (.int c0), .val (.int c1), .val (.int c2), .val (.int c3), .val (.int n)] [(.ref b60), (.ref b59), (.ref b59)])) st64 ?_
      have E65 : Exa Z h60 b59 "java/lang/String" := A59.ext E60
      have E66 : Exa Z h64 b59 "java/lang/String" := E65.wr W64
      have F67 : Fld Z h60 b59 "java/lang/String" "value" "[B" .null := F59_value.ext E60
      have ne68 : b59 ≠ b60 := Nat.ne_of_lt (Nat.lt_of_lt_of_le A59.lt (Nat.le_of_eq g60.symm))
      have F69 : Fld Z h64 b59 "java/lang/String" "value" "[B" .null := F67.other W64 (Or.inl ne68)
      have F70 : Fld Z h60 b59 "java/lang/String" "coder" "B" (.int (0 : Int32)) := F59_coder.ext E60
      have F71 : Fld Z h64 b59 "java/lang/String" "coder" "B" (.int (0 : Int32)) := F70.other W64 (Or.inl ne68)
      have Z72 : n0 ≤ h60.size := Nat.le_trans Z61 E60.1
      have Z73 : n0 ≤ h64.size := Nat.le_trans Z72 (Keep.of_wr W64).1
      have hq74 : ∀ c ∈ ([c0] : List Int32), ¬ c < 0 ∧ ¬ (255 : Int32) < c := by
        intro c hc
        simp only [List.mem_cons, List.not_mem_nil, or_false] at hc
        subst hc
        exact bd_c0
      have hp75 : ∀ c ∈ ([c0] : List Int32), ¬ c < 0 ∧ ¬ (255 : Int32) < c := hq74
      have O76 : Old Z n0 h59 := O0.ext E59
      have O77 : Old Z n0 h60 := O76.ext E60
      have O78 : Old Z n0 h64 := O77.wr W64 ge_b60
      refine Goes.callC X64 hx (y := y5_) rfl hown (mvT hZ (own_w hw 12 rfl)) (mvT hZ (own_w hw 13 rfl)) (mvT hZ (own_w hw 14 rfl)) (by decide) (kc' := 1) (ks' := 1) (StrChars.Road.backV (W := 1) hZ (fun d hd => hw d (in_words d hd)) (kI := 4) (own_w hw 9 rfl) (cs := ([c0] : List Int32)) (bs := ([c0] : List Int32).map (fun c => c.toInt8.toInt32)) (n := 1) ge_b59 Z73 E66 F69 F71 V64 (S_CS.ext O78.2) hzc rfl rfl (by decide) (by decide) hp75 rfl (ok rfl) (ok rfl)) (g := (mkF m 33 #[.val (.int c0), .val (.int c1), .val (.int c2), .val (.int c3), .val (.int n)] [(.ref b60), (.ref b59), (.ref b59)])) (a := b59) rfl (by rw [hml]; rfl) (argsL := [(.ref b60)]) (rest := [(.ref b59)]) (lenOf pd_1017 rfl) rfl (by show 2 * 0 + _ ≤ _; exact Nat.le_of_eq rfl) (hb hby d2_33) rfl e64 (ok rfl) (ok rfl) ?_
      intro v79 T79 L79 q79 X79
      obtain ⟨rfl, N79q, K79, g79E, g79C, t79, kb79, ge_t79, szt79, net79, g79V, g79K⟩ := q79
      have K80 : Keep h0 h60 [] := K62.ext E60
      have K81 : Keep h0 h64 [] := K80.wr W64 (Or.inr sz_b60)
      have N79 := Fr.app N64 N79q
      have sz_t79 : h0.size ≤ t79 := Nat.le_trans K81.1 szt79
      show Goes p e below _ T79 (mkF m 36 #[.val (.int c0), .val (.int c1), .val (.int c2), .val (.int c3), .val (.int n)] [(.ref b59)])
      have ks82 : h0.size ≤ h59.size := Nat.le_trans ks0 E59.1
      have ks83 : h0.size ≤ h60.size := Nat.le_trans ks82 E60.1
      have ks84 : h0.size ≤ h64.size := Nat.le_trans ks83 (Keep.of_wr W64).1
      have ks85 : h0.size ≤ T79.heap.size := Nat.le_trans ks84 K79.1
      have CR86 : CHr Z EL1 s.vm h0 s.vm h59 := CR0.trans (CHr.ext E59 CR0.1)
      have CR87 : CHr Z EL1 s.vm h0 s.vm h60 := CR86.trans (CHr.ext E60 CR86.1)
      have sf88 : Safe Z EL1 s.vm h60 b60 := Safe.ext E60 CR86.1 sf_b60
      have CR89 : CHr Z EL1 s.vm h0 s.vm h64 := CR87.trans (CHr.wr W64 sf88 CR87.1)
      have sf90 : Safe Z EL1 s.vm h59 b59 := Safe.ext E59 CR0.1 sf_b59
      have sf91 : Safe Z EL1 s.vm h60 b59 := Safe.ext E60 CR86.1 sf90
      have sf92 : Safe Z EL1 s.vm h64 b59 := Safe.wr W64 sf88 CR87.1 sf91
      have CR93 : CHr Z EL1 s.vm h0 s.vm T79.heap := CR89.trans (CHr.keep K79 (sfS sf92 sf0) CR89.1)
      refine Goes.retAW X79 hx Bd.notSynchronized hS0 ks85 hZ hEL (hh ▸ CR93) rfl Bd.returns rfl rfl (hb hby d2_36) (ok rfl) (ok rfl) ?_
      have K94 : Keep h0 T79.heap [] := K81.trans K79 (allS (Or.inr sz_b59) all0)
      exact ⟨b59, t79, kb79, ([c0] : List Int32), rfl, N79, K94, g79E, g79V, g79C, g79K, hp75, Nat.le_of_ble_eq_true rfl⟩
    ·
      refine Goes.step (T' := s₁) (g' := (mkF m 37 #[.val (.int c0), .val (.int c1), .val (.int c2), .val (.int c3), .val (.int n)] [])) (fun t_ k_ => XS.icmpYes X0.here hx rfl (pc0 := 19) (pc' := 37) rfl (hb hby d2_19) rfl (feq (hb1 : ¬ (n = (1 : Int32)))).2 (by decide) (by decide) k_) ?_
      refine P1.iload X0.here hx (hb hby d2_37) rfl ?_
      refine P1.iconst X0.here hx (2 : Int32) (hb hby d2_39) rfl ?_
      by_cases hb2 : n = (2 : Int32)
      ·
        refine Goes.step (T' := s₁) (g' := (mkF m 43 #[.val (.int c0), .val (.int c1), .val (.int c2), .val (.int c3), .val (.int n)] [])) (fun t_ k_ => XS.icmpNo X0.here hx rfl (hb hby d2_40) rfl (teq (hb2 : n = (2 : Int32))).2 k_) ?_
        obtain ⟨T95, h95, X95, e95, E95, A95, D95, -, st95⟩ := newO X0 hx hZ hown (own_w hw 8 rfl) (own_w hw 9 rfl) (own_w hw 10 rfl) e0 (g := (mkF m 43 #[.val (.int c0), .val (.int c1), .val (.int c2), .val (.int c3), .val (.int n)] [])) rfl (hb hby d2_43) (ok rfl) (ok rfl)
        obtain ⟨b95, g95⟩ : ∃ z, z = h0.size := ⟨_, rfl⟩
        rw [← g95] at A95 D95 st95
        have ge_b95 : n0 ≤ b95 := Nat.le_trans Z0 (Nat.le_of_eq g95.symm)
        have sz_b95 : h0.size ≤ b95 := Nat.le_trans K0.1 (Nat.le_of_eq g95.symm)
        have sf_b95 : Safe Z EL1 s.vm h0 b95 := Safe.new (Nat.le_of_eq g95.symm)
        have F95_value : Fld Z h95 b95 "java/lang/String" "value" "[B" .null := D95 (Or.inr (own_w hw 24 rfl)) (ty := (.array .byte)) (by decide)
        have F95_coder : Fld Z h95 b95 "java/lang/String" "coder" "B" (.int (0 : Int32)) := D95 (Or.inr (own_w hw 25 rfl)) (ty := .byte) (by decide)
        refine Goes.step (T' := T95) (g' := (mkF m 46 #[.val (.int c0), .val (.int c1), .val (.int c2), .val (.int c3), .val (.int n)] [(.ref b95)])) st95 ?_
        refine P1.dup X95.here hx (hb hby d2_46) rfl ?_
        refine P1.iconst X95.here hx (2 : Int32) (hb hby d2_47) rfl ?_
        obtain ⟨T96, h96, k96, X96, e96, E96, A96, st96⟩ := newP X95 hx hZ (own_w hw 11 rfl) e95 (g := (mkF m 48 #[.val (.int c0), .val (.int c1), .val (.int c2), .val (.int c3), .val (.int n)] [(.int (2 : Int32)), (.ref b95), (.ref b95)])) rfl (hb hby d2_48) rfl (by decide) (cap := 2) (ok rfl) (ok rfl) (ok rfl) (ok rfl)
        have Z97 : n0 ≤ h95.size := Nat.le_trans Z0 E95.1
        have K98 : Keep h0 h95 [] := K0.ext E95
        obtain ⟨b96, g96⟩ : ∃ z, z = h95.size := ⟨_, rfl⟩
        rw [← g96] at A96 st96
        have ge_b96 : n0 ≤ b96 := Nat.le_trans Z97 (Nat.le_of_eq g96.symm)
        have sz_b96 : h0.size ≤ b96 := Nat.le_trans K98.1 (Nat.le_of_eq g96.symm)
        have sf_b96 : Safe Z EL1 s.vm h95 b96 := Safe.new (Nat.le_of_eq g96.symm)
        have V96 : Arv Z h96 b96 k96 .char (2 : Int32) [(.int (0 : Int32)), (.int (0 : Int32))] (.int (0 : Int32)) := (Arv.new A96 (by decide)).pad (pad_rep [] (.int (0 : Int32)) 2)
        refine Goes.step (T' := T96) (g' := (mkF m 50 #[.val (.int c0), .val (.int c1), .val (.int c2), .val (.int c3), .val (.int n)] [(.ref b96), (.ref b95), (.ref b95)])) st96 ?_
        refine P1.dup X96.here hx (hb hby d2_50) rfl ?_
        refine P1.iconst X96.here hx (0 : Int32) (hb hby d2_51) rfl ?_
        refine P1.iloadN X96.here hx (hb hby d2_52) rfl ?_
        obtain ⟨cl99, Ar99, qk99, sl99, nz99, ha99, fi99⟩ := id V96
        obtain ⟨T100, h100, X100, e100, W100, st100⟩ := stC X96 hx hZ e96 Ar99 (j := (0 : Int32)) (inb_of sl99 ⟨by decide, by decide⟩) (g := (mkF m 53 #[.val (.int c0), .val (.int c1), .val (.int c2), .val (.int c3), .val (.int n)] [(.int c0), (.int (0 : Int32)), (.ref b96), (.ref b96), (.ref b95), (.ref b95)])) rfl rfl (hb hby d2_53)
        rw [(own_nar bd_c0)] at W100
        have V100 : Arv Z h100 b96 k96 .char (2 : Int32) [(.int c0), (.int (0 : Int32))] (.int (0 : Int32)) := Arv.set Ar99 qk99 sl99 nz99 ha99 fi99 ((own_nar bd_c0) ▸ fits_nar_char c0) W100 0 rfl (ok rfl)
        have N100 := Fr.snoc X100 N0 ge_b96
        refine Goes.step (T' := T100) (g' := (mkF m 54 #[.val (.int c0), .val (.int c1), .val (.int c2), .val (.int c3), .val (.int n)] [(.ref b96), (.ref b95), (.ref b95)])) st100 ?_
        refine P1.dup X100.here hx (hb hby d2_54) rfl ?_
        refine P1.iconst X100.here hx (1 : Int32) (hb hby d2_55) rfl ?_
        refine P1.iloadN X100.here hx (hb hby d2_56) rfl ?_
        obtain ⟨cl101, Ar101, qk101, sl101, nz101, ha101, fi101⟩ := id V100
        obtain ⟨T102, h102, X102, e102, W102, st102⟩ := stC X100 hx hZ e100 Ar101 (j := (1 : Int32)) (inb_of sl101 ⟨by decide, by decide⟩) (g := (mkF m 57 #[.val (.int c0), .val (.int c1), .val (.int c2), .val (.int c3), .val (.int n)] [(.int c1), (.int (1 : Int32)), (.ref b96), (.ref b96), (.ref b95), (.ref b95)])) rfl rfl (hb hby d2_57)
        rw [(own_nar bd_c1)] at W102
        have V102 : Arv Z h102 b96 k96 .char (2 : Int32) [(.int c0), (.int c1)] (.int (0 : Int32)) := Arv.set Ar101 qk101 sl101 nz101 ha101 fi101 ((own_nar bd_c1) ▸ fits_nar_char c1) W102 1 rfl (ok rfl)
        have N102 := Fr.snoc X102 N100 ge_b96
        refine Goes.step (T' := T102) (g' := (mkF m 58 #[.val (.int c0), .val (.int c1), .val (.int c2), .val (.int c3), .val (.int n)] [(.ref b96), (.ref b95), (.ref b95)])) st102 ?_
        have E103 : Exa Z h96 b95 "java/lang/String" := A95.ext E96
        have E104 : Exa Z h100 b95 "java/lang/String" := E103.wr W100
        have E105 : Exa Z h102 b95 "java/lang/String" := E104.wr W102
        have F106 : Fld Z h96 b95 "java/lang/String" "value" "[B" .null := F95_value.ext E96
        have ne107 : b95 ≠ b96 := Nat.ne_of_lt (Nat.lt_of_lt_of_le A95.lt (Nat.le_of_eq g96.symm))
        have F108 : Fld Z h100 b95 "java/lang/String" "value" "[B" .null := F106.other W100 (Or.inl ne107)
        have F109 : Fld Z h102 b95 "java/lang/String" "value" "[B" .null := F108.other W102 (Or.inl ne107)
        have F110 : Fld Z h96 b95 "java/lang/String" "coder" "B" (.int (0 : Int32)) := F95_coder.ext E96
        have F111 : Fld Z h100 b95 "java/lang/String" "coder" "B" (.int (0 : Int32)) := F110.other W100 (Or.inl ne107)
        have F112 : Fld Z h102 b95 "java/lang/String" "coder" "B" (.int (0 : Int32)) := F111.other W102 (Or.inl ne107)
        have Z113 : n0 ≤ h96.size := Nat.le_trans Z97 E96.1
        have Z114 : n0 ≤ h100.size := Nat.le_trans Z113 (Keep.of_wr W100).1
        have Z115 : n0 ≤ h102.size := Nat.le_trans Z114 (Keep.of_wr W102).1
        have hq116 : ∀ c ∈ ([c0, c1] : List Int32), ¬ c < 0 ∧ ¬ (255 : Int32) < c := by
          intro c hc
          simp only [List.mem_cons, List.not_mem_nil, or_false] at hc
          rcases hc with rfl | rfl
          · exact bd_c0
          · exact bd_c1
        have hp117 : ∀ c ∈ ([c0, c1] : List Int32), ¬ c < 0 ∧ ¬ (255 : Int32) < c := hq116
        have O118 : Old Z n0 h95 := O0.ext E95
        have O119 : Old Z n0 h96 := O118.ext E96
        have O120 : Old Z n0 h100 := O119.wr W100 ge_b96
        have O121 : Old Z n0 h102 := O120.wr W102 ge_b96
        refine Goes.callC X102 hx (y := y5_) rfl hown (mvT hZ (own_w hw 12 rfl)) (mvT hZ (own_w hw 13 rfl)) (mvT hZ (own_w hw 14 rfl)) (by decide) (kc' := 1) (ks' := 2) (StrChars.Road.backV (W := 1) hZ (fun d hd => hw d (in_words d hd)) (kI := 4) (own_w hw 9 rfl) (cs := ([c0, c1] : List Int32)) (bs := ([c0, c1] : List Int32).map (fun c => c.toInt8.toInt32)) (n := 2) ge_b95 Z115 E105 F109 F112 V102 (S_CS.ext O121.2) hzc rfl rfl (by decide) (by decide) hp117 rfl (ok rfl) (ok rfl)) (g := (mkF m 58 #[.val (.int c0), .val (.int c1), .val (.int c2), .val (.int c3), .val (.int n)] [(.ref b96), (.ref b95), (.ref b95)])) (a := b95) rfl (by rw [hml]; rfl) (argsL := [(.ref b96)]) (rest := [(.ref b95)]) (lenOf pd_1017 rfl) rfl (by show 2 * 0 + _ ≤ _; exact Nat.le_of_eq rfl) (hb hby d2_58) rfl e102 (ok rfl) (ok rfl) ?_
        intro v122 T122 L122 q122 X122
        obtain ⟨rfl, N122q, K122, g122E, g122C, t122, kb122, ge_t122, szt122, net122, g122V, g122K⟩ := q122
        have K123 : Keep h0 h96 [] := K98.ext E96
        have K124 : Keep h0 h100 [] := K123.wr W100 (Or.inr sz_b96)
        have K125 : Keep h0 h102 [] := K124.wr W102 (Or.inr sz_b96)
        have N122 := Fr.app N102 N122q
        have sz_t122 : h0.size ≤ t122 := Nat.le_trans K125.1 szt122
        show Goes p e below _ T122 (mkF m 61 #[.val (.int c0), .val (.int c1), .val (.int c2), .val (.int c3), .val (.int n)] [(.ref b95)])
        have ks126 : h0.size ≤ h95.size := Nat.le_trans ks0 E95.1
        have ks127 : h0.size ≤ h96.size := Nat.le_trans ks126 E96.1
        have ks128 : h0.size ≤ h100.size := Nat.le_trans ks127 (Keep.of_wr W100).1
        have ks129 : h0.size ≤ h102.size := Nat.le_trans ks128 (Keep.of_wr W102).1
        have ks130 : h0.size ≤ T122.heap.size := Nat.le_trans ks129 K122.1
        have CR131 : CHr Z EL1 s.vm h0 s.vm h95 := CR0.trans (CHr.ext E95 CR0.1)
        have CR132 : CHr Z EL1 s.vm h0 s.vm h96 := CR131.trans (CHr.ext E96 CR131.1)
        have sf133 : Safe Z EL1 s.vm h96 b96 := Safe.ext E96 CR131.1 sf_b96
        have CR134 : CHr Z EL1 s.vm h0 s.vm h100 := CR132.trans (CHr.wr W100 sf133 CR132.1)
        have sf135 : Safe Z EL1 s.vm h100 b96 := Safe.wr W100 sf133 CR132.1 sf133
        have CR136 : CHr Z EL1 s.vm h0 s.vm h102 := CR134.trans (CHr.wr W102 sf135 CR134.1)
        have sf137 : Safe Z EL1 s.vm h95 b95 := Safe.ext E95 CR0.1 sf_b95
        have sf138 : Safe Z EL1 s.vm h96 b95 := Safe.ext E96 CR131.1 sf137
        have sf139 : Safe Z EL1 s.vm h100 b95 := Safe.wr W100 sf133 CR132.1 sf138
        have sf140 : Safe Z EL1 s.vm h102 b95 := Safe.wr W102 sf135 CR134.1 sf139
        have CR141 : CHr Z EL1 s.vm h0 s.vm T122.heap := CR136.trans (CHr.keep K122 (sfS sf140 sf0) CR136.1)
        refine Goes.retAW X122 hx Bd.notSynchronized hS0 ks130 hZ hEL (hh ▸ CR141) rfl Bd.returns rfl rfl (hb hby d2_61) (ok rfl) (ok rfl) ?_
        have K142 : Keep h0 T122.heap [] := K125.trans K122 (allS (Or.inr sz_b95) all0)
        exact ⟨b95, t122, kb122, ([c0, c1] : List Int32), rfl, N122, K142, g122E, g122V, g122C, g122K, hp117, Nat.le_of_ble_eq_true rfl⟩
      ·
        refine Goes.step (T' := s₁) (g' := (mkF m 62 #[.val (.int c0), .val (.int c1), .val (.int c2), .val (.int c3), .val (.int n)] [])) (fun t_ k_ => XS.icmpYes X0.here hx rfl (pc0 := 40) (pc' := 62) rfl (hb hby d2_40) rfl (feq (hb2 : ¬ (n = (2 : Int32)))).2 (by decide) (by decide) k_) ?_
        refine P1.iload X0.here hx (hb hby d2_62) rfl ?_
        refine P1.iconst X0.here hx (3 : Int32) (hb hby d2_64) rfl ?_
        by_cases hb3 : n = (3 : Int32)
        ·
          refine Goes.step (T' := s₁) (g' := (mkF m 68 #[.val (.int c0), .val (.int c1), .val (.int c2), .val (.int c3), .val (.int n)] [])) (fun t_ k_ => XS.icmpNo X0.here hx rfl (hb hby d2_65) rfl (teq (hb3 : n = (3 : Int32))).2 k_) ?_
          obtain ⟨T143, h143, X143, e143, E143, A143, D143, -, st143⟩ := newO X0 hx hZ hown (own_w hw 8 rfl) (own_w hw 9 rfl) (own_w hw 10 rfl) e0 (g := (mkF m 68 #[.val (.int c0), .val (.int c1), .val (.int c2), .val (.int c3), .val (.int n)] [])) rfl (hb hby d2_68) (ok rfl) (ok rfl)
          obtain ⟨b143, g143⟩ : ∃ z, z = h0.size := ⟨_, rfl⟩
          rw [← g143] at A143 D143 st143
          have ge_b143 : n0 ≤ b143 := Nat.le_trans Z0 (Nat.le_of_eq g143.symm)
          have sz_b143 : h0.size ≤ b143 := Nat.le_trans K0.1 (Nat.le_of_eq g143.symm)
          have sf_b143 : Safe Z EL1 s.vm h0 b143 := Safe.new (Nat.le_of_eq g143.symm)
          have F143_value : Fld Z h143 b143 "java/lang/String" "value" "[B" .null := D143 (Or.inr (own_w hw 24 rfl)) (ty := (.array .byte)) (by decide)
          have F143_coder : Fld Z h143 b143 "java/lang/String" "coder" "B" (.int (0 : Int32)) := D143 (Or.inr (own_w hw 25 rfl)) (ty := .byte) (by decide)
          refine Goes.step (T' := T143) (g' := (mkF m 71 #[.val (.int c0), .val (.int c1), .val (.int c2), .val (.int c3), .val (.int n)] [(.ref b143)])) st143 ?_
          refine P1.dup X143.here hx (hb hby d2_71) rfl ?_
          refine P1.iconst X143.here hx (3 : Int32) (hb hby d2_72) rfl ?_
          obtain ⟨T144, h144, k144, X144, e144, E144, A144, st144⟩ := newP X143 hx hZ (own_w hw 11 rfl) e143 (g := (mkF m 73 #[.val (.int c0), .val (.int c1), .val (.int c2), .val (.int c3), .val (.int n)] [(.int (3 : Int32)), (.ref b143), (.ref b143)])) rfl (hb hby d2_73) rfl (by decide) (cap := 3) (ok rfl) (ok rfl) (ok rfl) (ok rfl)
          have Z145 : n0 ≤ h143.size := Nat.le_trans Z0 E143.1
          have K146 : Keep h0 h143 [] := K0.ext E143
          obtain ⟨b144, g144⟩ : ∃ z, z = h143.size := ⟨_, rfl⟩
          rw [← g144] at A144 st144
          have ge_b144 : n0 ≤ b144 := Nat.le_trans Z145 (Nat.le_of_eq g144.symm)
          have sz_b144 : h0.size ≤ b144 := Nat.le_trans K146.1 (Nat.le_of_eq g144.symm)
          have sf_b144 : Safe Z EL1 s.vm h143 b144 := Safe.new (Nat.le_of_eq g144.symm)
          have V144 : Arv Z h144 b144 k144 .char (3 : Int32) [(.int (0 : Int32)), (.int (0 : Int32)), (.int (0 : Int32))] (.int (0 : Int32)) := (Arv.new A144 (by decide)).pad (pad_rep [] (.int (0 : Int32)) 3)
          refine Goes.step (T' := T144) (g' := (mkF m 75 #[.val (.int c0), .val (.int c1), .val (.int c2), .val (.int c3), .val (.int n)] [(.ref b144), (.ref b143), (.ref b143)])) st144 ?_
          refine P1.dup X144.here hx (hb hby d2_75) rfl ?_
          refine P1.iconst X144.here hx (0 : Int32) (hb hby d2_76) rfl ?_
          refine P1.iloadN X144.here hx (hb hby d2_77) rfl ?_
          obtain ⟨cl147, Ar147, qk147, sl147, nz147, ha147, fi147⟩ := id V144
          obtain ⟨T148, h148, X148, e148, W148, st148⟩ := stC X144 hx hZ e144 Ar147 (j := (0 : Int32)) (inb_of sl147 ⟨by decide, by decide⟩) (g := (mkF m 78 #[.val (.int c0), .val (.int c1), .val (.int c2), .val (.int c3), .val (.int n)] [(.int c0), (.int (0 : Int32)), (.ref b144), (.ref b144), (.ref b143), (.ref b143)])) rfl rfl (hb hby d2_78)
          rw [(own_nar bd_c0)] at W148
          have V148 : Arv Z h148 b144 k144 .char (3 : Int32) [(.int c0), (.int (0 : Int32)), (.int (0 : Int32))] (.int (0 : Int32)) := Arv.set Ar147 qk147 sl147 nz147 ha147 fi147 ((own_nar bd_c0) ▸ fits_nar_char c0) W148 0 rfl (ok rfl)
          have N148 := Fr.snoc X148 N0 ge_b144
          refine Goes.step (T' := T148) (g' := (mkF m 79 #[.val (.int c0), .val (.int c1), .val (.int c2), .val (.int c3), .val (.int n)] [(.ref b144), (.ref b143), (.ref b143)])) st148 ?_
          refine P1.dup X148.here hx (hb hby d2_79) rfl ?_
          refine P1.iconst X148.here hx (1 : Int32) (hb hby d2_80) rfl ?_
          refine P1.iloadN X148.here hx (hb hby d2_81) rfl ?_
          obtain ⟨cl149, Ar149, qk149, sl149, nz149, ha149, fi149⟩ := id V148
          obtain ⟨T150, h150, X150, e150, W150, st150⟩ := stC X148 hx hZ e148 Ar149 (j := (1 : Int32)) (inb_of sl149 ⟨by decide, by decide⟩) (g := (mkF m 82 #[.val (.int c0), .val (.int c1), .val (.int c2), .val (.int c3), .val (.int n)] [(.int c1), (.int (1 : Int32)), (.ref b144), (.ref b144), (.ref b143), (.ref b143)])) rfl rfl (hb hby d2_82)
          rw [(own_nar bd_c1)] at W150
          have V150 : Arv Z h150 b144 k144 .char (3 : Int32) [(.int c0), (.int c1), (.int (0 : Int32))] (.int (0 : Int32)) := Arv.set Ar149 qk149 sl149 nz149 ha149 fi149 ((own_nar bd_c1) ▸ fits_nar_char c1) W150 1 rfl (ok rfl)
          have N150 := Fr.snoc X150 N148 ge_b144
          refine Goes.step (T' := T150) (g' := (mkF m 83 #[.val (.int c0), .val (.int c1), .val (.int c2), .val (.int c3), .val (.int n)] [(.ref b144), (.ref b143), (.ref b143)])) st150 ?_
          refine P1.dup X150.here hx (hb hby d2_83) rfl ?_
          refine P1.iconst X150.here hx (2 : Int32) (hb hby d2_84) rfl ?_
          refine P1.iloadN X150.here hx (hb hby d2_85) rfl ?_
          obtain ⟨cl151, Ar151, qk151, sl151, nz151, ha151, fi151⟩ := id V150
          obtain ⟨T152, h152, X152, e152, W152, st152⟩ := stC X150 hx hZ e150 Ar151 (j := (2 : Int32)) (inb_of sl151 ⟨by decide, by decide⟩) (g := (mkF m 86 #[.val (.int c0), .val (.int c1), .val (.int c2), .val (.int c3), .val (.int n)] [(.int c2), (.int (2 : Int32)), (.ref b144), (.ref b144), (.ref b143), (.ref b143)])) rfl rfl (hb hby d2_86)
          rw [(own_nar bd_c2)] at W152
          have V152 : Arv Z h152 b144 k144 .char (3 : Int32) [(.int c0), (.int c1), (.int c2)] (.int (0 : Int32)) := Arv.set Ar151 qk151 sl151 nz151 ha151 fi151 ((own_nar bd_c2) ▸ fits_nar_char c2) W152 2 rfl (ok rfl)
          have N152 := Fr.snoc X152 N150 ge_b144
          refine Goes.step (T' := T152) (g' := (mkF m 87 #[.val (.int c0), .val (.int c1), .val (.int c2), .val (.int c3), .val (.int n)] [(.ref b144), (.ref b143), (.ref b143)])) st152 ?_
          have E153 : Exa Z h144 b143 "java/lang/String" := A143.ext E144
          have E154 : Exa Z h148 b143 "java/lang/String" := E153.wr W148
          have E155 : Exa Z h150 b143 "java/lang/String" := E154.wr W150
          have E156 : Exa Z h152 b143 "java/lang/String" := E155.wr W152
          have F157 : Fld Z h144 b143 "java/lang/String" "value" "[B" .null := F143_value.ext E144
          have ne158 : b143 ≠ b144 := Nat.ne_of_lt (Nat.lt_of_lt_of_le A143.lt (Nat.le_of_eq g144.symm))
          have F159 : Fld Z h148 b143 "java/lang/String" "value" "[B" .null := F157.other W148 (Or.inl ne158)
          have F160 : Fld Z h150 b143 "java/lang/String" "value" "[B" .null := F159.other W150 (Or.inl ne158)
          have F161 : Fld Z h152 b143 "java/lang/String" "value" "[B" .null := F160.other W152 (Or.inl ne158)
          have F162 : Fld Z h144 b143 "java/lang/String" "coder" "B" (.int (0 : Int32)) := F143_coder.ext E144
          have F163 : Fld Z h148 b143 "java/lang/String" "coder" "B" (.int (0 : Int32)) := F162.other W148 (Or.inl ne158)
          have F164 : Fld Z h150 b143 "java/lang/String" "coder" "B" (.int (0 : Int32)) := F163.other W150 (Or.inl ne158)
          have F165 : Fld Z h152 b143 "java/lang/String" "coder" "B" (.int (0 : Int32)) := F164.other W152 (Or.inl ne158)
          have Z166 : n0 ≤ h144.size := Nat.le_trans Z145 E144.1
          have Z167 : n0 ≤ h148.size := Nat.le_trans Z166 (Keep.of_wr W148).1
          have Z168 : n0 ≤ h150.size := Nat.le_trans Z167 (Keep.of_wr W150).1
          have Z169 : n0 ≤ h152.size := Nat.le_trans Z168 (Keep.of_wr W152).1
          have hq170 : ∀ c ∈ ([c0, c1, c2] : List Int32), ¬ c < 0 ∧ ¬ (255 : Int32) < c := by
            intro c hc
            simp only [List.mem_cons, List.not_mem_nil, or_false] at hc
            rcases hc with rfl | rfl | rfl
            · exact bd_c0
            · exact bd_c1
            · exact bd_c2
          have hp171 : ∀ c ∈ ([c0, c1, c2] : List Int32), ¬ c < 0 ∧ ¬ (255 : Int32) < c := hq170
          have O172 : Old Z n0 h143 := O0.ext E143
          have O173 : Old Z n0 h144 := O172.ext E144
          have O174 : Old Z n0 h148 := O173.wr W148 ge_b144
          have O175 : Old Z n0 h150 := O174.wr W150 ge_b144
          have O176 : Old Z n0 h152 := O175.wr W152 ge_b144
          refine Goes.callC X152 hx (y := y5_) rfl hown (mvT hZ (own_w hw 12 rfl)) (mvT hZ (own_w hw 13 rfl)) (mvT hZ (own_w hw 14 rfl)) (by decide) (kc' := 1) (ks' := 3) (StrChars.Road.backV (W := 1) hZ (fun d hd => hw d (in_words d hd)) (kI := 4) (own_w hw 9 rfl) (cs := ([c0, c1, c2] : List Int32)) (bs := ([c0, c1, c2] : List Int32).map (fun c => c.toInt8.toInt32)) (n := 3) ge_b143 Z169 E156 F161 F165 V152 (S_CS.ext O176.2) hzc rfl rfl (by decide) (by decide) hp171 rfl (ok rfl) (ok rfl)) (g := (mkF m 87 #[.val (.int c0), .val (.int c1), .val (.int c2), .val (.int c3), .val (.int n)] [(.ref b144), (.ref b143), (.ref b143)])) (a := b143) rfl (by rw [hml]; rfl) (argsL := [(.ref b144)]) (rest := [(.ref b143)]) (lenOf pd_1017 rfl) rfl (by show 2 * 0 + _ ≤ _; exact Nat.le_of_eq rfl) (hb hby d2_87) rfl e152 (ok rfl) (ok rfl) ?_
          intro v177 T177 L177 q177 X177
          obtain ⟨rfl, N177q, K177, g177E, g177C, t177, kb177, ge_t177, szt177, net177, g177V, g177K⟩ := q177
          have K178 : Keep h0 h144 [] := K146.ext E144
          have K179 : Keep h0 h148 [] := K178.wr W148 (Or.inr sz_b144)
          have K180 : Keep h0 h150 [] := K179.wr W150 (Or.inr sz_b144)
          have K181 : Keep h0 h152 [] := K180.wr W152 (Or.inr sz_b144)
          have N177 := Fr.app N152 N177q
          have sz_t177 : h0.size ≤ t177 := Nat.le_trans K181.1 szt177
          show Goes p e below _ T177 (mkF m 90 #[.val (.int c0), .val (.int c1), .val (.int c2), .val (.int c3), .val (.int n)] [(.ref b143)])
          have ks182 : h0.size ≤ h143.size := Nat.le_trans ks0 E143.1
          have ks183 : h0.size ≤ h144.size := Nat.le_trans ks182 E144.1
          have ks184 : h0.size ≤ h148.size := Nat.le_trans ks183 (Keep.of_wr W148).1
          have ks185 : h0.size ≤ h150.size := Nat.le_trans ks184 (Keep.of_wr W150).1
          have ks186 : h0.size ≤ h152.size := Nat.le_trans ks185 (Keep.of_wr W152).1
          have ks187 : h0.size ≤ T177.heap.size := Nat.le_trans ks186 K177.1
          have CR188 : CHr Z EL1 s.vm h0 s.vm h143 := CR0.trans (CHr.ext E143 CR0.1)
          have CR189 : CHr Z EL1 s.vm h0 s.vm h144 := CR188.trans (CHr.ext E144 CR188.1)
          have sf190 : Safe Z EL1 s.vm h144 b144 := Safe.ext E144 CR188.1 sf_b144
          have CR191 : CHr Z EL1 s.vm h0 s.vm h148 := CR189.trans (CHr.wr W148 sf190 CR189.1)
          have sf192 : Safe Z EL1 s.vm h148 b144 := Safe.wr W148 sf190 CR189.1 sf190
          have CR193 : CHr Z EL1 s.vm h0 s.vm h150 := CR191.trans (CHr.wr W150 sf192 CR191.1)
          have sf194 : Safe Z EL1 s.vm h150 b144 := Safe.wr W150 sf192 CR191.1 sf192
          have CR195 : CHr Z EL1 s.vm h0 s.vm h152 := CR193.trans (CHr.wr W152 sf194 CR193.1)
          have sf196 : Safe Z EL1 s.vm h143 b143 := Safe.ext E143 CR0.1 sf_b143
          have sf197 : Safe Z EL1 s.vm h144 b143 := Safe.ext E144 CR188.1 sf196
          have sf198 : Safe Z EL1 s.vm h148 b143 := Safe.wr W148 sf190 CR189.1 sf197
          have sf199 : Safe Z EL1 s.vm h150 b143 := Safe.wr W150 sf192 CR191.1 sf198
          have sf200 : Safe Z EL1 s.vm h152 b143 := Safe.wr W152 sf194 CR193.1 sf199
          have CR201 : CHr Z EL1 s.vm h0 s.vm T177.heap := CR195.trans (CHr.keep K177 (sfS sf200 sf0) CR195.1)
          refine Goes.retAW X177 hx Bd.notSynchronized hS0 ks187 hZ hEL (hh ▸ CR201) rfl Bd.returns rfl rfl (hb hby d2_90) (ok rfl) (ok rfl) ?_
          have K202 : Keep h0 T177.heap [] := K181.trans K177 (allS (Or.inr sz_b143) all0)
          exact ⟨b143, t177, kb177, ([c0, c1, c2] : List Int32), rfl, N177, K202, g177E, g177V, g177C, g177K, hp171, Nat.le_of_ble_eq_true rfl⟩
        ·
          refine Goes.step (T' := s₁) (g' := (mkF m 91 #[.val (.int c0), .val (.int c1), .val (.int c2), .val (.int c3), .val (.int n)] [])) (fun t_ k_ => XS.icmpYes X0.here hx rfl (pc0 := 65) (pc' := 91) rfl (hb hby d2_65) rfl (feq (hb3 : ¬ (n = (3 : Int32)))).2 (by decide) (by decide) k_) ?_
          obtain ⟨T203, h203, X203, e203, E203, A203, D203, -, st203⟩ := newO X0 hx hZ hown (own_w hw 8 rfl) (own_w hw 9 rfl) (own_w hw 10 rfl) e0 (g := (mkF m 91 #[.val (.int c0), .val (.int c1), .val (.int c2), .val (.int c3), .val (.int n)] [])) rfl (hb hby d2_91) (ok rfl) (ok rfl)
          obtain ⟨b203, g203⟩ : ∃ z, z = h0.size := ⟨_, rfl⟩
          rw [← g203] at A203 D203 st203
          have ge_b203 : n0 ≤ b203 := Nat.le_trans Z0 (Nat.le_of_eq g203.symm)
          have sz_b203 : h0.size ≤ b203 := Nat.le_trans K0.1 (Nat.le_of_eq g203.symm)
          have sf_b203 : Safe Z EL1 s.vm h0 b203 := Safe.new (Nat.le_of_eq g203.symm)
          have F203_value : Fld Z h203 b203 "java/lang/String" "value" "[B" .null := D203 (Or.inr (own_w hw 24 rfl)) (ty := (.array .byte)) (by decide)
          have F203_coder : Fld Z h203 b203 "java/lang/String" "coder" "B" (.int (0 : Int32)) := D203 (Or.inr (own_w hw 25 rfl)) (ty := .byte) (by decide)
          refine Goes.step (T' := T203) (g' := (mkF m 94 #[.val (.int c0), .val (.int c1), .val (.int c2), .val (.int c3), .val (.int n)] [(.ref b203)])) st203 ?_
          refine P1.dup X203.here hx (hb hby d2_94) rfl ?_
          refine P1.iconst X203.here hx (4 : Int32) (hb hby d2_95) rfl ?_
          obtain ⟨T204, h204, k204, X204, e204, E204, A204, st204⟩ := newP X203 hx hZ (own_w hw 11 rfl) e203 (g := (mkF m 96 #[.val (.int c0), .val (.int c1), .val (.int c2), .val (.int c3), .val (.int n)] [(.int (4 : Int32)), (.ref b203), (.ref b203)])) rfl (hb hby d2_96) rfl (by decide) (cap := 4) (ok rfl) (ok rfl) (ok rfl) (ok rfl)
          have Z205 : n0 ≤ h203.size := Nat.le_trans Z0 E203.1
          have K206 : Keep h0 h203 [] := K0.ext E203
          obtain ⟨b204, g204⟩ : ∃ z, z = h203.size := ⟨_, rfl⟩
          rw [← g204] at A204 st204
          have ge_b204 : n0 ≤ b204 := Nat.le_trans Z205 (Nat.le_of_eq g204.symm)
          have sz_b204 : h0.size ≤ b204 := Nat.le_trans K206.1 (Nat.le_of_eq g204.symm)
          have sf_b204 : Safe Z EL1 s.vm h203 b204 := Safe.new (Nat.le_of_eq g204.symm)
          have V204 : Arv Z h204 b204 k204 .char (4 : Int32) [(.int (0 : Int32)), (.int (0 : Int32)), (.int (0 : Int32)), (.int (0 : Int32))] (.int (0 : Int32)) := (Arv.new A204 (by decide)).pad (pad_rep [] (.int (0 : Int32)) 4)
          refine Goes.step (T' := T204) (g' := (mkF m 98 #[.val (.int c0), .val (.int c1), .val (.int c2), .val (.int c3), .val (.int n)] [(.ref b204), (.ref b203), (.ref b203)])) st204 ?_
          refine P1.dup X204.here hx (hb hby d2_98) rfl ?_
          refine P1.iconst X204.here hx (0 : Int32) (hb hby d2_99) rfl ?_
          refine P1.iloadN X204.here hx (hb hby d2_100) rfl ?_
          obtain ⟨cl207, Ar207, qk207, sl207, nz207, ha207, fi207⟩ := id V204
          obtain ⟨T208, h208, X208, e208, W208, st208⟩ := stC X204 hx hZ e204 Ar207 (j := (0 : Int32)) (inb_of sl207 ⟨by decide, by decide⟩) (g := (mkF m 101 #[.val (.int c0), .val (.int c1), .val (.int c2), .val (.int c3), .val (.int n)] [(.int c0), (.int (0 : Int32)), (.ref b204), (.ref b204), (.ref b203), (.ref b203)])) rfl rfl (hb hby d2_101)
          rw [(own_nar bd_c0)] at W208
          have V208 : Arv Z h208 b204 k204 .char (4 : Int32) [(.int c0), (.int (0 : Int32)), (.int (0 : Int32)), (.int (0 : Int32))] (.int (0 : Int32)) := Arv.set Ar207 qk207 sl207 nz207 ha207 fi207 ((own_nar bd_c0) ▸ fits_nar_char c0) W208 0 rfl (ok rfl)
          have N208 := Fr.snoc X208 N0 ge_b204
          refine Goes.step (T' := T208) (g' := (mkF m 102 #[.val (.int c0), .val (.int c1), .val (.int c2), .val (.int c3), .val (.int n)] [(.ref b204), (.ref b203), (.ref b203)])) st208 ?_
          refine P1.dup X208.here hx (hb hby d2_102) rfl ?_
          refine P1.iconst X208.here hx (1 : Int32) (hb hby d2_103) rfl ?_
          refine P1.iloadN X208.here hx (hb hby d2_104) rfl ?_
          obtain ⟨cl209, Ar209, qk209, sl209, nz209, ha209, fi209⟩ := id V208
          obtain ⟨T210, h210, X210, e210, W210, st210⟩ := stC X208 hx hZ e208 Ar209 (j := (1 : Int32)) (inb_of sl209 ⟨by decide, by decide⟩) (g := (mkF m 105 #[.val (.int c0), .val (.int c1), .val (.int c2), .val (.int c3), .val (.int n)] [(.int c1), (.int (1 : Int32)), (.ref b204), (.ref b204), (.ref b203), (.ref b203)])) rfl rfl (hb hby d2_105)
          rw [(own_nar bd_c1)] at W210
          have V210 : Arv Z h210 b204 k204 .char (4 : Int32) [(.int c0), (.int c1), (.int (0 : Int32)), (.int (0 : Int32))] (.int (0 : Int32)) := Arv.set Ar209 qk209 sl209 nz209 ha209 fi209 ((own_nar bd_c1) ▸ fits_nar_char c1) W210 1 rfl (ok rfl)
          have N210 := Fr.snoc X210 N208 ge_b204
          refine Goes.step (T' := T210) (g' := (mkF m 106 #[.val (.int c0), .val (.int c1), .val (.int c2), .val (.int c3), .val (.int n)] [(.ref b204), (.ref b203), (.ref b203)])) st210 ?_
          refine P1.dup X210.here hx (hb hby d2_106) rfl ?_
          refine P1.iconst X210.here hx (2 : Int32) (hb hby d2_107) rfl ?_
          refine P1.iloadN X210.here hx (hb hby d2_108) rfl ?_
          obtain ⟨cl211, Ar211, qk211, sl211, nz211, ha211, fi211⟩ := id V210
          obtain ⟨T212, h212, X212, e212, W212, st212⟩ := stC X210 hx hZ e210 Ar211 (j := (2 : Int32)) (inb_of sl211 ⟨by decide, by decide⟩) (g := (mkF m 109 #[.val (.int c0), .val (.int c1), .val (.int c2), .val (.int c3), .val (.int n)] [(.int c2), (.int (2 : Int32)), (.ref b204), (.ref b204), (.ref b203), (.ref b203)])) rfl rfl (hb hby d2_109)
          rw [(own_nar bd_c2)] at W212
          have V212 : Arv Z h212 b204 k204 .char (4 : Int32) [(.int c0), (.int c1), (.int c2), (.int (0 : Int32))] (.int (0 : Int32)) := Arv.set Ar211 qk211 sl211 nz211 ha211 fi211 ((own_nar bd_c2) ▸ fits_nar_char c2) W212 2 rfl (ok rfl)
          have N212 := Fr.snoc X212 N210 ge_b204
          refine Goes.step (T' := T212) (g' := (mkF m 110 #[.val (.int c0), .val (.int c1), .val (.int c2), .val (.int c3), .val (.int n)] [(.ref b204), (.ref b203), (.ref b203)])) st212 ?_
          refine P1.dup X212.here hx (hb hby d2_110) rfl ?_
          refine P1.iconst X212.here hx (3 : Int32) (hb hby d2_111) rfl ?_
          refine P1.iloadN X212.here hx (hb hby d2_112) rfl ?_
          obtain ⟨cl213, Ar213, qk213, sl213, nz213, ha213, fi213⟩ := id V212
          obtain ⟨T214, h214, X214, e214, W214, st214⟩ := stC X212 hx hZ e212 Ar213 (j := (3 : Int32)) (inb_of sl213 ⟨by decide, by decide⟩) (g := (mkF m 113 #[.val (.int c0), .val (.int c1), .val (.int c2), .val (.int c3), .val (.int n)] [(.int c3), (.int (3 : Int32)), (.ref b204), (.ref b204), (.ref b203), (.ref b203)])) rfl rfl (hb hby d2_113)
          rw [(own_nar bd_c3)] at W214
          have V214 : Arv Z h214 b204 k204 .char (4 : Int32) [(.int c0), (.int c1), (.int c2), (.int c3)] (.int (0 : Int32)) := Arv.set Ar213 qk213 sl213 nz213 ha213 fi213 ((own_nar bd_c3) ▸ fits_nar_char c3) W214 3 rfl (ok rfl)
          have N214 := Fr.snoc X214 N212 ge_b204
          refine Goes.step (T' := T214) (g' := (mkF m 114 #[.val (.int c0), .val (.int c1), .val (.int c2), .val (.int c3), .val (.int n)] [(.ref b204), (.ref b203), (.ref b203)])) st214 ?_
          have E215 : Exa Z h204 b203 "java/lang/String" := A203.ext E204
          have E216 : Exa Z h208 b203 "java/lang/String" := E215.wr W208
          have E217 : Exa Z h210 b203 "java/lang/String" := E216.wr W210
          have E218 : Exa Z h212 b203 "java/lang/String" := E217.wr W212
          have E219 : Exa Z h214 b203 "java/lang/String" := E218.wr W214
          have F220 : Fld Z h204 b203 "java/lang/String" "value" "[B" .null := F203_value.ext E204
          have ne221 : b203 ≠ b204 := Nat.ne_of_lt (Nat.lt_of_lt_of_le A203.lt (Nat.le_of_eq g204.symm))
          have F222 : Fld Z h208 b203 "java/lang/String" "value" "[B" .null := F220.other W208 (Or.inl ne221)
          have F223 : Fld Z h210 b203 "java/lang/String" "value" "[B" .null := F222.other W210 (Or.inl ne221)
          have F224 : Fld Z h212 b203 "java/lang/String" "value" "[B" .null := F223.other W212 (Or.inl ne221)
          have F225 : Fld Z h214 b203 "java/lang/String" "value" "[B" .null := F224.other W214 (Or.inl ne221)
          have F226 : Fld Z h204 b203 "java/lang/String" "coder" "B" (.int (0 : Int32)) := F203_coder.ext E204
          have F227 : Fld Z h208 b203 "java/lang/String" "coder" "B" (.int (0 : Int32)) := F226.other W208 (Or.inl ne221)
          have F228 : Fld Z h210 b203 "java/lang/String" "coder" "B" (.int (0 : Int32)) := F227.other W210 (Or.inl ne221)
          have F229 : Fld Z h212 b203 "java/lang/String" "coder" "B" (.int (0 : Int32)) := F228.other W212 (Or.inl ne221)
          have F230 : Fld Z h214 b203 "java/lang/String" "coder" "B" (.int (0 : Int32)) := F229.other W214 (Or.inl ne221)
          have Z231 : n0 ≤ h204.size := Nat.le_trans Z205 E204.1
          have Z232 : n0 ≤ h208.size := Nat.le_trans Z231 (Keep.of_wr W208).1
          have Z233 : n0 ≤ h210.size := Nat.le_trans Z232 (Keep.of_wr W210).1
          have Z234 : n0 ≤ h212.size := Nat.le_trans Z233 (Keep.of_wr W212).1
          have Z235 : n0 ≤ h214.size := Nat.le_trans Z234 (Keep.of_wr W214).1
          have hq236 : ∀ c ∈ ([c0, c1, c2, c3] : List Int32), ¬ c < 0 ∧ ¬ (255 : Int32) < c := by
            intro c hc
            simp only [List.mem_cons, List.not_mem_nil, or_false] at hc
            rcases hc with rfl | rfl | rfl | rfl
            · exact bd_c0
            · exact bd_c1
            · exact bd_c2
            · exact bd_c3
          have hp237 : ∀ c ∈ ([c0, c1, c2, c3] : List Int32), ¬ c < 0 ∧ ¬ (255 : Int32) < c := hq236
          have O238 : Old Z n0 h203 := O0.ext E203
          have O239 : Old Z n0 h204 := O238.ext E204
          have O240 : Old Z n0 h208 := O239.wr W208 ge_b204
          have O241 : Old Z n0 h210 := O240.wr W210 ge_b204
          have O242 : Old Z n0 h212 := O241.wr W212 ge_b204
          have O243 : Old Z n0 h214 := O242.wr W214 ge_b204
          refine Goes.callC X214 hx (y := y5_) rfl hown (mvT hZ (own_w hw 12 rfl)) (mvT hZ (own_w hw 13 rfl)) (mvT hZ (own_w hw 14 rfl)) (by decide) (kc' := 1) (ks' := 4) (StrChars.Road.backV (W := 1) hZ (fun d hd => hw d (in_words d hd)) (kI := 4) (own_w hw 9 rfl) (cs := ([c0, c1, c2, c3] : List Int32)) (bs := ([c0, c1, c2, c3] : List Int32).map (fun c => c.toInt8.toInt32)) (n := 4) ge_b203 Z235 E219 F225 F230 V214 (S_CS.ext O243.2) hzc rfl rfl (by decide) (by decide) hp237 rfl (ok rfl) (ok rfl)) (g := (mkF m 114 #[.val (.int c0), .val (.int c1), .val (.int c2), .val (.int c3), .val (.int n)] [(.ref b204), (.ref b203), (.ref b203)])) (a := b203) rfl (by rw [hml]; rfl) (argsL := [(.ref b204)]) (rest := [(.ref b203)]) (lenOf pd_1017 rfl) rfl (by show 2 * 0 + _ ≤ _; exact Nat.le_of_eq rfl) (hb hby d2_114) rfl e214 (ok rfl) (ok rfl) ?_
          intro v244 T244 L244 q244 X244
          obtain ⟨rfl, N244q, K244, g244E, g244C, t244, kb244, ge_t244, szt244, net244, g244V, g244K⟩ := q244
          have K245 : Keep h0 h204 [] := K206.ext E204
          have K246 : Keep h0 h208 [] := K245.wr W208 (Or.inr sz_b204)
          have K247 : Keep h0 h210 [] := K246.wr W210 (Or.inr sz_b204)
          have K248 : Keep h0 h212 [] := K247.wr W212 (Or.inr sz_b204)
          have K249 : Keep h0 h214 [] := K248.wr W214 (Or.inr sz_b204)
          have N244 := Fr.app N214 N244q
          have sz_t244 : h0.size ≤ t244 := Nat.le_trans K249.1 szt244
          show Goes p e below _ T244 (mkF m 117 #[.val (.int c0), .val (.int c1), .val (.int c2), .val (.int c3), .val (.int n)] [(.ref b203)])
          have ks250 : h0.size ≤ h203.size := Nat.le_trans ks0 E203.1
          have ks251 : h0.size ≤ h204.size := Nat.le_trans ks250 E204.1
          have ks252 : h0.size ≤ h208.size := Nat.le_trans ks251 (Keep.of_wr W208).1
          have ks253 : h0.size ≤ h210.size := Nat.le_trans ks252 (Keep.of_wr W210).1
          have ks254 : h0.size ≤ h212.size := Nat.le_trans ks253 (Keep.of_wr W212).1
          have ks255 : h0.size ≤ h214.size := Nat.le_trans ks254 (Keep.of_wr W214).1
          have ks256 : h0.size ≤ T244.heap.size := Nat.le_trans ks255 K244.1
          have CR257 : CHr Z EL1 s.vm h0 s.vm h203 := CR0.trans (CHr.ext E203 CR0.1)
          have CR258 : CHr Z EL1 s.vm h0 s.vm h204 := CR257.trans (CHr.ext E204 CR257.1)
          have sf259 : Safe Z EL1 s.vm h204 b204 := Safe.ext E204 CR257.1 sf_b204
          have CR260 : CHr Z EL1 s.vm h0 s.vm h208 := CR258.trans (CHr.wr W208 sf259 CR258.1)
          have sf261 : Safe Z EL1 s.vm h208 b204 := Safe.wr W208 sf259 CR258.1 sf259
          have CR262 : CHr Z EL1 s.vm h0 s.vm h210 := CR260.trans (CHr.wr W210 sf261 CR260.1)
          have sf263 : Safe Z EL1 s.vm h210 b204 := Safe.wr W210 sf261 CR260.1 sf261
          have CR264 : CHr Z EL1 s.vm h0 s.vm h212 := CR262.trans (CHr.wr W212 sf263 CR262.1)
          have sf265 : Safe Z EL1 s.vm h212 b204 := Safe.wr W212 sf263 CR262.1 sf263
          have CR266 : CHr Z EL1 s.vm h0 s.vm h214 := CR264.trans (CHr.wr W214 sf265 CR264.1)
          have sf267 : Safe Z EL1 s.vm h203 b203 := Safe.ext E203 CR0.1 sf_b203
          have sf268 : Safe Z EL1 s.vm h204 b203 := Safe.ext E204 CR257.1 sf267
          have sf269 : Safe Z EL1 s.vm h208 b203 := Safe.wr W208 sf259 CR258.1 sf268
          have sf270 : Safe Z EL1 s.vm h210 b203 := Safe.wr W210 sf261 CR260.1 sf269
          have sf271 : Safe Z EL1 s.vm h212 b203 := Safe.wr W212 sf263 CR262.1 sf270
          have sf272 : Safe Z EL1 s.vm h214 b203 := Safe.wr W214 sf265 CR264.1 sf271
          have CR273 : CHr Z EL1 s.vm h0 s.vm T244.heap := CR266.trans (CHr.keep K244 (sfS sf272 sf0) CR266.1)
          refine Goes.retAW X244 hx Bd.notSynchronized hS0 ks256 hZ hEL (hh ▸ CR273) rfl Bd.returns rfl rfl (hb hby d2_117) (ok rfl) (ok rfl) ?_
          have K274 : Keep h0 T244.heap [] := K249.trans K244 (allS (Or.inr sz_b203) all0)
          exact ⟨b203, t244, kb244, ([c0, c1, c2, c3] : List Int32), rfl, N244, K274, g244E, g244V, g244C, g244K, hp237, Nat.le_of_ble_eq_true rfl⟩
theorem d9_0 : decode prog_8_method_7_code 0 = .ok (.aload_n 0, 1) := by decide +kernel
theorem d9_1 : decode prog_8_method_7_code 1 = .ok (.getfield 13, 3) := by decide +kernel
theorem d9_4 : decode prog_8_method_7_code 4 = .ok (.areturn, 1) := by decide +kernel
theorem pn_com_example_obligation_obligation_EntityAttribute : plainName "com/example/obligation/obligation/EntityAttribute" = true := by first | (simp [plainName, overriddenIn]; done) | decide +kernel
theorem efNm (m : MethodId) (a : Addr) : entryFrame m #[(.ref a)] 1 = mkF m 0 #[.val (.ref a)] [] := by first | (simp [entryFrame, mkF, argsToLocals, Value.category]; done) | rfl
def QNm (Z : State) (a : Addr) (o : Addr) (h0 : Heap) (n0 : Nat) (v : Option Value) (h : Heap) (L : List Loc) : Prop := v = some (.ref o) ∧ Fr n0 L ∧ h = h0
set_option maxRecDepth 65536 in
set_option maxHeartbeats 40000000 in
theorem rmNm (l : Launch) (Z : State) (a0 : Array Value) (hw : ∀ d ∈ tables_1, d.before a0 Z = true) (ws : List Jvm.Cond) (a : Addr) (o : Addr) (h0 : Heap) (n0 : Nat) (Z0 : n0 ≤ h0.size) (O0 : Old Z n0 h0) (Fa : Fld Z h0 a "com/example/obligation/obligation/EntityAttribute" "name" "Ljava/lang/String;" (.ref o)) :
    MetFree l y4_ (head1 (Jvm.Cond.code y4_ prog_8_method_7_code 1 (some (.object "java/lang/String")) :: ws) ({ frames := 0, cells := 0, slots := 0, locals := 0 } : Room)) (fun aa U => aa = #[(.ref a)] ∧ Z.Warmed39 U.vm ∧ U.heap = h0) (fun _ _ _ _ _ => True) (fun _ U oo U' => ∃ vv LL, oo = .returned vv ∧ QNm Z a o h0 n0 vv U'.heap LL ∧ FrameEnd U oo U' LL ({ frames := 0, cells := 0, slots := 0, locals := 0 } : Room).cells ({ frames := 0, cells := 0, slots := 0, locals := 0 } : Room).slots) := by
  refine MetFree.of_bodySF (plainFor_of_name pn_com_example_obligation_obligation_EntityAttribute) hisR ?_
  intro p e s m args below meth c s₁ Bd hml0 hP hK
  obtain ⟨rfl, hZ, hh⟩ := hP
  have hx := Bd.exec
  have hby := Bd.bytes
  have hml : c.maxLocals = 1 := hml0
  have hown : s.vm.findClass "com/example/obligation/obligation/EntityAttribute" = some m.cls := findClass_of_methodNamed Bd.named
  have hnm := (name_of_methodNamed Bd.named Bd.method).1
  have X0 : Stand p l e ({ frames := 0, cells := 0, slots := 0, locals := 0 } : Room) s m #[(.ref a)] below meth c s₁ [] 0 0 := Stand.of_body Bd
  have e0 : s₁.heap = h0 := by rw [← hh, Bd.state]; rfl
  have N0 := Fr.nil n0
  refine Goes.give (Q := QNm Z a o h0 n0) ?_
  rw [efNm m a]
  have K0 : Keep h0 h0 [] := Keep.refl _ _
  refine P1.aloadN X0.here hx (hb hby d9_0) rfl rfl ?_
  obtain ⟨T275, X275, e275, st275⟩ := getF X0 hx hZ hown (host := "") (Or.inl (own_w hw 53 rfl)) Via.refl e0 Fa (g := (mkF m 1 #[.val (.ref a)] [(.ref a)])) rfl rfl (hb hby d9_1)
  refine Goes.step (T' := T275) (g' := (mkF m 4 #[.val (.ref a)] [(.ref o)])) st275 ?_
  refine Goes.retA X275 hx Bd.notSynchronized Bd.returns rfl rfl (hb hby d9_4) (ok rfl) (ok rfl) ?_
  rw [e275]
  exact ⟨rfl, N0, rfl⟩
theorem d20_0 : decode prog_8_method_6_code 0 = .ok (.aload_n 0, 1) := by decide +kernel
theorem d20_1 : decode prog_8_method_6_code 1 = .ok (.getfield 7, 3) := by decide +kernel
theorem d20_4 : decode prog_8_method_6_code 4 = .ok (.areturn, 1) := by decide +kernel
theorem efEn (m : MethodId) (a : Addr) : entryFrame m #[(.ref a)] 1 = mkF m 0 #[.val (.ref a)] [] := by first | (simp [entryFrame, mkF, argsToLocals, Value.category]; done) | rfl
def QEn (Z : State) (a : Addr) (o : Addr) (h0 : Heap) (n0 : Nat) (v : Option Value) (h : Heap) (L : List Loc) : Prop := v = some (.ref o) ∧ Fr n0 L ∧ h = h0
set_option maxRecDepth 65536 in
set_option maxHeartbeats 40000000 in
theorem rmEn (l : Launch) (Z : State) (a0 : Array Value) (hw : ∀ d ∈ tables_1, d.before a0 Z = true) (ws : List Jvm.Cond) (a : Addr) (o : Addr) (h0 : Heap) (n0 : Nat) (Z0 : n0 ≤ h0.size) (O0 : Old Z n0 h0) (Fa : Fld Z h0 a "com/example/obligation/obligation/EntityAttribute" "entity" "Ljava/lang/String;" (.ref o)) :
    MetFree l y3_ (head1 (Jvm.Cond.code y3_ prog_8_method_6_code 1 (some (.object "java/lang/String")) :: ws) ({ frames := 0, cells := 0, slots := 0, locals := 0 } : Room)) (fun aa U => aa = #[(.ref a)] ∧ Z.Warmed39 U.vm ∧ U.heap = h0) (fun _ _ _ _ _ => True) (fun _ U oo U' => ∃ vv LL, oo = .returned vv ∧ QEn Z a o h0 n0 vv U'.heap LL ∧ FrameEnd U oo U' LL ({ frames := 0, cells := 0, slots := 0, locals := 0 } : Room).cells ({ frames := 0, cells := 0, slots := 0, locals := 0 } : Room).slots) := by
  refine MetFree.of_bodySF (plainFor_of_name pn_com_example_obligation_obligation_EntityAttribute) hisR ?_
  intro p e s m args below meth c s₁ Bd hml0 hP hK
  obtain ⟨rfl, hZ, hh⟩ := hP
  have hx := Bd.exec
  have hby := Bd.bytes
  have hml : c.maxLocals = 1 := hml0
  have hown : s.vm.findClass "com/example/obligation/obligation/EntityAttribute" = some m.cls := findClass_of_methodNamed Bd.named
  have hnm := (name_of_methodNamed Bd.named Bd.method).1
  have X0 : Stand p l e ({ frames := 0, cells := 0, slots := 0, locals := 0 } : Room) s m #[(.ref a)] below meth c s₁ [] 0 0 := Stand.of_body Bd
  have e0 : s₁.heap = h0 := by rw [← hh, Bd.state]; rfl
  have N0 := Fr.nil n0
  refine Goes.give (Q := QEn Z a o h0 n0) ?_
  rw [efEn m a]
  have K0 : Keep h0 h0 [] := Keep.refl _ _
  refine P1.aloadN X0.here hx (hb hby d20_0) rfl rfl ?_
  obtain ⟨T276, X276, e276, st276⟩ := getF X0 hx hZ hown (host := "") (Or.inl (own_w hw 101 rfl)) Via.refl e0 Fa (g := (mkF m 1 #[.val (.ref a)] [(.ref a)])) rfl rfl (hb hby d20_1)
  refine Goes.step (T' := T276) (g' := (mkF m 4 #[.val (.ref a)] [(.ref o)])) st276 ?_
  refine Goes.retA X276 hx Bd.notSynchronized Bd.returns rfl rfl (hb hby d20_4) (ok rfl) (ok rfl) ?_
  rw [e276]
  exact ⟨rfl, N0, rfl⟩
theorem d8_0 : decode prog_4_method_3_code 0 = .ok (.aload_n 1, 1) := by decide +kernel
theorem d8_1 : decode prog_4_method_3_code 1 = .ok (.getstatic 19, 3) := by decide +kernel
theorem d8_4 : decode prog_4_method_3_code 4 = .ok (.invokevirtual 23, 3) := by decide +kernel
theorem d8_7 : decode prog_4_method_3_code 7 = .ok (.invokevirtual 5, 3) := by decide +kernel
theorem d8_10 : decode prog_4_method_3_code 10 = .ok (.ifCond .eq 20, 3) := by decide +kernel
theorem d8_13 : decode prog_4_method_3_code 13 = .ok (.aload_n 0, 1) := by decide +kernel
theorem d8_14 : decode prog_4_method_3_code 14 = .ok (.getstatic 19, 3) := by decide +kernel
theorem d8_17 : decode prog_4_method_3_code 17 = .ok (.invokevirtual 29, 3) := by decide +kernel
theorem d8_20 : decode prog_4_method_3_code 20 = .ok (.invokevirtual 5, 3) := by decide +kernel
theorem d8_23 : decode prog_4_method_3_code 23 = .ok (.ifCond .eq 7, 3) := by decide +kernel
theorem d8_26 : decode prog_4_method_3_code 26 = .ok (.iconst 1, 1) := by decide +kernel
theorem d8_27 : decode prog_4_method_3_code 27 = .ok (.goto 4, 3) := by decide +kernel
theorem d8_30 : decode prog_4_method_3_code 30 = .ok (.iconst 0, 1) := by decide +kernel
theorem d8_31 : decode prog_4_method_3_code 31 = .ok (.ireturn, 1) := by decide +kernel
theorem pn_com_example_obligation_obligation_Attributes : plainName "com/example/obligation/obligation/Attributes" = true := by first | (simp [plainName, overriddenIn]; done) | decide +kernel
theorem pd_19649 : parseMethodDescriptor "()Ljava/lang/String;" = some ⟨[], some (.object "java/lang/String")⟩ := by decide +kernel
theorem in_wordsEq : ∀ d ∈ StrChars.Road.wordsEq, d ∈ tables_1 := by decide +kernel
theorem pd_20140 : parseMethodDescriptor "(Ljava/lang/Object;)Z" = some ⟨[(.object "java/lang/Object")], some .boolean⟩ := by decide +kernel
theorem efIC (m : MethodId) (xe : Addr) (xn : Addr) : entryFrame m #[(.ref xe), (.ref xn)] 2 = mkF m 0 #[.val (.ref xe), .val (.ref xn)] [] := by first | (simp [entryFrame, mkF, argsToLocals, Value.category]; done) | rfl
def QIC (Z : State) (xe : Addr) (te2 : Addr) (ke2 : ClassId) (ce : List Int32) (xn : Addr) (tn2 : Addr) (kn2 : ClassId) (cn : List Int32) (ck : Addr) (sn : Addr) (tn : Addr) (se : Addr) (te : Addr) (k_tn : ClassId) (k_te : ClassId) (zc : Int32) (fm : Value) (h0 : Heap) (n0 : Nat) (v : Option Value) (h : Heap) (L : List Loc) : Prop := v = some (.int (if ce = ([(101 : Int32), (110 : Int32), (118 : Int32)] : List Int32) ∧ cn = ([(116 : Int32), (105 : Int32), (109 : Int32), (101 : Int32)] : List Int32) then 1 else 0)) ∧ Fr n0 L ∧ h = h0
set_option maxRecDepth 65536 in
set_option maxHeartbeats 40000000 in
theorem rmIC (l : Launch) (Z : State) (a0 : Array Value) (hw : ∀ d ∈ tables_1, d.before a0 Z = true) (ws : List Jvm.Cond) (xe : Addr) (te2 : Addr) (ke2 : ClassId) (ce : List Int32) (xn : Addr) (tn2 : Addr) (kn2 : ClassId) (cn : List Int32) (ck : Addr) (sn : Addr) (tn : Addr) (se : Addr) (te : Addr) (k_tn : ClassId) (k_te : ClassId) (zc : Int32) (fm : Value) (h0 : Heap) (n0 : Nat) (Z0 : n0 ≤ h0.size) (O0 : Old Z n0 h0) (S_CLOCK : Sta Z Z.heap "com/example/obligation/obligation/Attributes" "CLOCK" "Lcom/example/obligation/obligation/EntityAttribute;" (.ref ck)) (E_ck : Exa Z Z.heap ck "com/example/obligation/obligation/EntityAttribute") (F_ck_name : Fld Z Z.heap ck "com/example/obligation/obligation/EntityAttribute" "name" "Ljava/lang/String;" (.ref sn)) (E_sn : Exa Z Z.heap sn "java/lang/String") (F_sn_coder : Fld Z Z.heap sn "java/lang/String" "coder" "B" (.int (0 : Int32))) (F_sn_value : Fld Z Z.heap sn "java/lang/String" "value" "[B" (.ref tn)) (F_ck_entity : Fld Z Z.heap ck "com/example/obligation/obligation/EntityAttribute" "entity" "Ljava/lang/String;" (.ref se)) (E_se : Exa Z Z.heap se "java/lang/String") (F_se_coder : Fld Z Z.heap se "java/lang/String" "coder" "B" (.int (0 : Int32))) (F_se_value : Fld Z Z.heap se "java/lang/String" "value" "[B" (.ref te)) (V_tn : Arv Z Z.heap tn k_tn .byte (4 : Int32) [(.int (116 : Int32)), (.int (105 : Int32)), (.int (109 : Int32)), (.int (101 : Int32))] (.int (0 : Int32))) (V_te : Arv Z Z.heap te k_te .byte (3 : Int32) [(.int (101 : Int32)), (.int (110 : Int32)), (.int (118 : Int32))] (.int (0 : Int32))) (S_CS : Sta Z Z.heap "java/lang/String" "COMPACT_STRINGS" "Z" (.int zc)) (hzc : ¬ zc = 0) (S_FM : Sta Z Z.heap "jdk/internal/util/Preconditions" "SIOOBE_FORMATTER" "Ljava/util/function/BiFunction;" fm) (hfm : fm.isRef = true) (E_xe : Exa Z h0 xe "java/lang/String") (V_xe : Fld Z h0 xe "java/lang/String" "value" "[B" (.ref te2)) (C_xe : Fld Z h0 xe "java/lang/String" "coder" "B" (.int (0 : Int32))) (K_xe : Arv Z h0 te2 ke2 .byte (Int32.ofNat ce.length) ((ce.map StrChars.lo8).map Value.int) (.int (0 : Int32))) (hp_xe : ∀ c ∈ ce, ¬ c < 0 ∧ ¬ (255 : Int32) < c) (le_xe : ce.length ≤ 4000) (E_xn : Exa Z h0 xn "java/lang/String") (V_xn : Fld Z h0 xn "java/lang/String" "value" "[B" (.ref tn2)) (C_xn : Fld Z h0 xn "java/lang/String" "coder" "B" (.int (0 : Int32))) (K_xn : Arv Z h0 tn2 kn2 .byte (Int32.ofNat cn.length) ((cn.map StrChars.lo8).map Value.int) (.int (0 : Int32))) (hp_xn : ∀ c ∈ cn, ¬ c < 0 ∧ ¬ (255 : Int32) < c) (le_xn : cn.length ≤ 4000) :
    MetFree l y0_ (head1 (Jvm.Cond.code y0_ prog_4_method_3_code 2 (some .boolean) :: ws) ({ frames := 2, cells := 0, slots := 0, locals := 28 } : Room)) (fun aa U => aa = #[(.ref xe), (.ref xn)] ∧ Z.Warmed39 U.vm ∧ U.heap = h0) (fun _ _ _ _ _ => True) (fun _ U oo U' => ∃ vv LL, oo = .returned vv ∧ QIC Z xe te2 ke2 ce xn tn2 kn2 cn ck sn tn se te k_tn k_te zc fm h0 n0 vv U'.heap LL ∧ FrameEnd U oo U' LL ({ frames := 2, cells := 0, slots := 0, locals := 28 } : Room).cells ({ frames := 2, cells := 0, slots := 0, locals := 28 } : Room).slots) := by
  refine MetFree.of_bodySF (plainFor_of_name pn_com_example_obligation_obligation_Attributes) hisR ?_
  intro p e s m args below meth c s₁ Bd hml0 hP hK
  obtain ⟨rfl, hZ, hh⟩ := hP
  have hx := Bd.exec
  have hby := Bd.bytes
  have hml : c.maxLocals = 2 := hml0
  have hown : s.vm.findClass "com/example/obligation/obligation/Attributes" = some m.cls := findClass_of_methodNamed Bd.named
  have hnm := (name_of_methodNamed Bd.named Bd.method).1
  have X0 : Stand p l e ({ frames := 2, cells := 0, slots := 0, locals := 28 } : Room) s m #[(.ref xe), (.ref xn)] below meth c s₁ [] 0 0 := Stand.of_body Bd
  have e0 : s₁.heap = h0 := by rw [← hh, Bd.state]; rfl
  have N0 := Fr.nil n0
  refine Goes.give (Q := QIC Z xe te2 ke2 ce xn tn2 kn2 cn ck sn tn se te k_tn k_te zc fm h0 n0) ?_
  rw [efIC m xe xn]
  have K0 : Keep h0 h0 [] := Keep.refl _ _
  refine P1.aloadN X0.here hx (hb hby d8_0) rfl rfl ?_
  obtain ⟨T277, X277, e277, st277⟩ := getS2 X0 hx hZ hown (host := "") (Or.inl (own_w hw 45 rfl)) Via.refl e0 (S_CLOCK.ext O0.2) (g := (mkF m 1 #[.val (.ref xe), .val (.ref xn)] [(.ref xn)])) rfl (hb hby d8_1)
  refine Goes.step (T' := T277) (g' := (mkF m 4 #[.val (.ref xe), .val (.ref xn)] [(.ref ck), (.ref xn)])) st277 ?_
  refine Goes.callV X277 hx hZ (y := y4_) (z := y4_) hown (mvT hZ (own_w hw 47 rfl)) (mvT hZ (own_w hw 48 rfl)) (notFace_of_selects (args := #[]) (mvT hZ (own_w hw 50 rfl))) (mvT hZ (own_w hw 50 rfl)) (mvT hZ (own_w hw 49 rfl)) (by decide) (kc' := 0) (ks' := 0) (backOf (W := 1) (rmNm l Z a0 hw [] ck sn h0 n0 Z0 O0 (F_ck_name.ext O0.2)) hZ (own_w hw 52 rfl) (own_w hw 51 rfl) (ok rfl) (ok rfl)) (b := ck) e277 (E_ck.ext O0.2) (g := (mkF m 4 #[.val (.ref xe), .val (.ref xn)] [(.ref ck), (.ref xn)])) rfl (by rw [hml]; rfl) (argsL := []) (rest := [(.ref xn)]) (lenOf pd_19649 rfl) rfl (by show 2 * 0 + _ ≤ _; exact Nat.le_of_eq rfl) (hb hby d8_4) rfl (ok rfl) (ok rfl) ?_
  intro v278 T278 L278 q278 X278
  obtain ⟨rfl, N278q, hE278⟩ := q278
  have N278 := Fr.app N0 N278q
  show Goes p e below _ T278 (mkF m 7 #[.val (.ref xe), .val (.ref xn)] [(.ref sn), (.ref xn)])
  have V279 : Arv Z h0 tn k_tn .byte (4 : Int32) [(.int (116 : Int32)), (.int (105 : Int32)), (.int (109 : Int32)), (.int (101 : Int32))] (.int (0 : Int32)) := (V_tn.ext O0.2)
  refine Goes.callV X278 hx hZ (y := y8_) (z := y8_) (Qc := fun v h' L => (((v = some (.int 1) ∧ cn = ([(116 : Int32), (105 : Int32), (109 : Int32), (101 : Int32)] : List Int32)) ∨ (v = some (.int 0) ∧ ¬ cn = ([(116 : Int32), (105 : Int32), (109 : Int32), (101 : Int32)] : List Int32))) ∧ L = [] ∧ h' = h0)) hown (mvT hZ (own_w hw 55 rfl)) (mvT hZ (own_w hw 56 rfl)) (notFace_of_selects (args := #[]) (mvT hZ (own_w hw 58 rfl))) (mvT hZ (own_w hw 58 rfl)) (mvT hZ (own_w hw 57 rfl)) (by decide) (kc' := 0) (ks' := 0) (StrChars.Road.eqW (W := 0) hZ (fun d hd => hw d (in_wordsEq d hd)) (kI := 4) (own_w hw 9 rfl) E_xn V_xn C_xn K_xn (StrChars.Road.codOf (cs := cn) rfl (fun c hc => (hp_xn c hc).2)) (own_up hp_xn) le_xn (E_sn.ext O0.2) (F_sn_value.ext O0.2) (F_sn_coder.ext O0.2) V279 (show StrChars.Road.CodA ([(116 : Int32), (105 : Int32), (109 : Int32), (101 : Int32)] : List Int32) 0 (4 : Int32) _ from Or.inl ⟨rfl, rfl, rfl, by decide⟩) (by decide) (ok rfl) (S_CS.ext O0.2) hzc (ok rfl) (ok rfl)) (b := xn) hE278 E_xn (g := (mkF m 7 #[.val (.ref xe), .val (.ref xn)] [(.ref sn), (.ref xn)])) rfl (by rw [hml]; rfl) (argsL := [(.ref sn)]) (rest := []) (lenOf pd_20140 rfl) rfl (by show 2 * 0 + _ ≤ _; exact Nat.le_of_eq rfl) (hb hby d8_7) rfl (ok rfl) (ok rfl) ?_
  intro v280 T280 L280 q280 X280
  obtain ⟨q280, rfl, hE280⟩ := q280
  have N280 := Fr.app N278 (Fr.nil n0)
  rcases q280 with ⟨rfl, qe280⟩ | ⟨rfl, qe280⟩
  ·
    show Goes p e below _ T280 (mkF m 10 #[.val (.ref xe), .val (.ref xn)] [(.int (1 : Int32))])
    refine Goes.step (T' := T280) (g' := (mkF m 13 #[.val (.ref xe), .val (.ref xn)] [])) (fun t_ k_ => XS.ifNo X280.here hx rfl (hb hby d8_10) rfl ((if0 _ _).trans (feq ((by decide : ¬ ((1 : Int32) = (0 : Int32))) : ¬ ((1 : Int32) = (0 : Int32)))).1) k_) ?_
    refine P1.aloadN X280.here hx (hb hby d8_13) rfl rfl ?_
    obtain ⟨T281, X281, e281, st281⟩ := getS2 X280 hx hZ hown (host := "") (Or.inl (own_w hw 45 rfl)) Via.refl hE280 (S_CLOCK.ext O0.2) (g := (mkF m 14 #[.val (.ref xe), .val (.ref xn)] [(.ref xe)])) rfl (hb hby d8_14)
    refine Goes.step (T' := T281) (g' := (mkF m 17 #[.val (.ref xe), .val (.ref xn)] [(.ref ck), (.ref xe)])) st281 ?_
    refine Goes.callV X281 hx hZ (y := y3_) (z := y3_) hown (mvT hZ (own_w hw 96 rfl)) (mvT hZ (own_w hw 97 rfl)) (notFace_of_selects (args := #[]) (mvT hZ (own_w hw 99 rfl))) (mvT hZ (own_w hw 99 rfl)) (mvT hZ (own_w hw 98 rfl)) (by decide) (kc' := 0) (ks' := 0) (backOf (W := 1) (rmEn l Z a0 hw [] ck se h0 n0 Z0 O0 (F_ck_entity.ext O0.2)) hZ (own_w hw 100 rfl) (own_w hw 51 rfl) (ok rfl) (ok rfl)) (b := ck) e281 (E_ck.ext O0.2) (g := (mkF m 17 #[.val (.ref xe), .val (.ref xn)] [(.ref ck), (.ref xe)])) rfl (by rw [hml]; rfl) (argsL := []) (rest := [(.ref xe)]) (lenOf pd_19649 rfl) rfl (by show 2 * 0 + _ ≤ _; exact Nat.le_of_eq rfl) (hb hby d8_17) rfl (ok rfl) (ok rfl) ?_
    intro v282 T282 L282 q282 X282
    obtain ⟨rfl, N282q, hE282⟩ := q282
    have N282 := Fr.app N280 N282q
    show Goes p e below _ T282 (mkF m 20 #[.val (.ref xe), .val (.ref xn)] [(.ref se), (.ref xe)])
    have V283 : Arv Z h0 te k_te .byte (3 : Int32) [(.int (101 : Int32)), (.int (110 : Int32)), (.int (118 : Int32))] (.int (0 : Int32)) := (V_te.ext O0.2)
    refine Goes.callV X282 hx hZ (y := y8_) (z := y8_) (Qc := fun v h' L => (((v = some (.int 1) ∧ ce = ([(101 : Int32), (110 : Int32), (118 : Int32)] : List Int32)) ∨ (v = some (.int 0) ∧ ¬ ce = ([(101 : Int32), (110 : Int32), (118 : Int32)] : List Int32))) ∧ L = [] ∧ h' = h0)) hown (mvT hZ (own_w hw 55 rfl)) (mvT hZ (own_w hw 56 rfl)) (notFace_of_selects (args := #[]) (mvT hZ (own_w hw 58 rfl))) (mvT hZ (own_w hw 58 rfl)) (mvT hZ (own_w hw 57 rfl)) (by decide) (kc' := 0) (ks' := 0) (StrChars.Road.eqW (W := 0) hZ (fun d hd => hw d (in_wordsEq d hd)) (kI := 4) (own_w hw 9 rfl) E_xe V_xe C_xe K_xe (StrChars.Road.codOf (cs := ce) rfl (fun c hc => (hp_xe c hc).2)) (own_up hp_xe) le_xe (E_se.ext O0.2) (F_se_value.ext O0.2) (F_se_coder.ext O0.2) V283 (show StrChars.Road.CodA ([(101 : Int32), (110 : Int32), (118 : Int32)] : List Int32) 0 (3 : Int32) _ from Or.inl ⟨rfl, rfl, rfl, by decide⟩) (by decide) (ok rfl) (S_CS.ext O0.2) hzc (ok rfl) (ok rfl)) (b := xe) hE282 E_xe (g := (mkF m 20 #[.val (.ref xe), .val (.ref xn)] [(.ref se), (.ref xe)])) rfl (by rw [hml]; rfl) (argsL := [(.ref se)]) (rest := []) (lenOf pd_20140 rfl) rfl (by show 2 * 0 + _ ≤ _; exact Nat.le_of_eq rfl) (hb hby d8_20) rfl (ok rfl) (ok rfl) ?_
    intro v284 T284 L284 q284 X284
    obtain ⟨q284, rfl, hE284⟩ := q284
    have N284 := Fr.app N282 (Fr.nil n0)
    rcases q284 with ⟨rfl, qe284⟩ | ⟨rfl, qe284⟩
    ·
      show Goes p e below _ T284 (mkF m 23 #[.val (.ref xe), .val (.ref xn)] [(.int (1 : Int32))])
      refine Goes.step (T' := T284) (g' := (mkF m 26 #[.val (.ref xe), .val (.ref xn)] [])) (fun t_ k_ => XS.ifNo X284.here hx rfl (hb hby d8_23) rfl ((if0 _ _).trans (feq ((by decide : ¬ ((1 : Int32) = (0 : Int32))) : ¬ ((1 : Int32) = (0 : Int32)))).1) k_) ?_
      refine P1.iconst X284.here hx (1 : Int32) (hb hby d8_26) rfl ?_
      refine P1.goto X284.here hx 31 (hb hby d8_27) (by decide) (by decide) ?_
      refine Goes.retN X284 hx Bd.notSynchronized (t := .boolean) Bd.returns (by simp) (hb hby d8_31) (ok rfl) (ok rfl) ?_
      rw [hE284]
      exact ⟨by simp [nar, qe280, qe284], N284, rfl⟩
    ·
      show Goes p e below _ T284 (mkF m 23 #[.val (.ref xe), .val (.ref xn)] [(.int (0 : Int32))])
      refine Goes.step (T' := T284) (g' := (mkF m 30 #[.val (.ref xe), .val (.ref xn)] [])) (fun t_ k_ => XS.ifYes X284.here hx rfl (pc0 := 23) (pc' := 30) rfl (hb hby d8_23) rfl ((if0 _ _).trans (teq ((by decide : (0 : Int32) = (0 : Int32)) : (0 : Int32) = (0 : Int32))).1) (by decide) (by decide) k_) ?_
      refine P1.iconst X284.here hx (0 : Int32) (hb hby d8_30) rfl ?_
      refine Goes.retN X284 hx Bd.notSynchronized (t := .boolean) Bd.returns (by simp) (hb hby d8_31) (ok rfl) (ok rfl) ?_
      rw [hE284]
      exact ⟨by simp [nar, qe280, qe284], N284, rfl⟩
  ·
    show Goes p e below _ T280 (mkF m 10 #[.val (.ref xe), .val (.ref xn)] [(.int (0 : Int32))])
    refine Goes.step (T' := T280) (g' := (mkF m 30 #[.val (.ref xe), .val (.ref xn)] [])) (fun t_ k_ => XS.ifYes X280.here hx rfl (pc0 := 10) (pc' := 30) rfl (hb hby d8_10) rfl ((if0 _ _).trans (teq ((by decide : (0 : Int32) = (0 : Int32)) : (0 : Int32) = (0 : Int32))).1) (by decide) (by decide) k_) ?_
    refine P1.iconst X280.here hx (0 : Int32) (hb hby d8_30) rfl ?_
    refine Goes.retN X280 hx Bd.notSynchronized (t := .boolean) Bd.returns (by simp) (hb hby d8_31) (ok rfl) (ok rfl) ?_
    rw [hE280]
    exact ⟨by simp [nar, qe280], N280, rfl⟩
theorem pd_1282 : parseMethodDescriptor "(JIC)C" = some ⟨[.long, .int, .char], some .char⟩ := by decide +kernel
theorem pd_29710 : parseMethodDescriptor "(CCCCI)Ljava/lang/String;" = some ⟨[.char, .char, .char, .char, .int], some (.object "java/lang/String")⟩ := by decide +kernel
theorem pd_71298 : parseMethodDescriptor "(Ljava/lang/String;Ljava/lang/String;)Z" = some ⟨[(.object "java/lang/String"), (.object "java/lang/String")], some .boolean⟩ := by decide +kernel
theorem in_wordsLen : ∀ d ∈ StrChars.Road.wordsLen, d ∈ tables_1 := by decide +kernel
theorem pd_341 : parseMethodDescriptor "()I" = some ⟨[], some .int⟩ := by decide +kernel
theorem in_wordsChN : ∀ d ∈ StrChars.Road.wordsChN, d ∈ tables_1 := by decide +kernel
theorem pd_577 : parseMethodDescriptor "(I)C" = some ⟨[.int], some .char⟩ := by decide +kernel
theorem ef0 (m : MethodId) (q0 : Int64) (q1 : Int64) (p2 : Int32) : entryFrame m #[(.long q0), (.long q1), (.int p2)] maxLocals = mkF m 0 #[.val (.long q0), .second, .val (.long q1), .second, .val (.int p2), .unset, .unset, .unset, .unset, .unset, .unset, .unset] [] := by first | (simp [entryFrame, mkF, argsToLocals, Value.category, maxLocals]; done) | rfl
def Q0 (Z : State) (q0 : Int64) (q1 : Int64) (p2 : Int32) (ck : Addr) (sn : Addr) (tn : Addr) (se : Addr) (te : Addr) (k_tn : ClassId) (k_te : ClassId) (zc : Int32) (fm : Value) (h0 : Heap) (n0 : Nat) (v : Option Value) (h : Heap) (L : List Loc) : Prop := v = some (.int 1) ∧ Fr n0 L
set_option maxRecDepth 65536 in
set_option maxHeartbeats 40000000 in
theorem rm0 (l : Launch) (Z : State) (a0 : Array Value) (hw : ∀ d ∈ tables_1, d.before a0 Z = true) (ws : List Jvm.Cond) (q0 : Int64) (q1 : Int64) (p2 : Int32) (ck : Addr) (sn : Addr) (tn : Addr) (se : Addr) (te : Addr) (k_tn : ClassId) (k_te : ClassId) (zc : Int32) (fm : Value) (h0 : Heap) (n0 : Nat) (Z0 : n0 ≤ h0.size) (O0 : Old Z n0 h0) (S_CLOCK : Sta Z Z.heap "com/example/obligation/obligation/Attributes" "CLOCK" "Lcom/example/obligation/obligation/EntityAttribute;" (.ref ck)) (E_ck : Exa Z Z.heap ck "com/example/obligation/obligation/EntityAttribute") (F_ck_name : Fld Z Z.heap ck "com/example/obligation/obligation/EntityAttribute" "name" "Ljava/lang/String;" (.ref sn)) (E_sn : Exa Z Z.heap sn "java/lang/String") (F_sn_coder : Fld Z Z.heap sn "java/lang/String" "coder" "B" (.int (0 : Int32))) (F_sn_value : Fld Z Z.heap sn "java/lang/String" "value" "[B" (.ref tn)) (F_ck_entity : Fld Z Z.heap ck "com/example/obligation/obligation/EntityAttribute" "entity" "Ljava/lang/String;" (.ref se)) (E_se : Exa Z Z.heap se "java/lang/String") (F_se_coder : Fld Z Z.heap se "java/lang/String" "coder" "B" (.int (0 : Int32))) (F_se_value : Fld Z Z.heap se "java/lang/String" "value" "[B" (.ref te)) (V_tn : Arv Z Z.heap tn k_tn .byte (4 : Int32) [(.int (116 : Int32)), (.int (105 : Int32)), (.int (109 : Int32)), (.int (101 : Int32))] (.int (0 : Int32))) (V_te : Arv Z Z.heap te k_te .byte (3 : Int32) [(.int (101 : Int32)), (.int (110 : Int32)), (.int (118 : Int32))] (.int (0 : Int32))) (S_CS : Sta Z Z.heap "java/lang/String" "COMPACT_STRINGS" "Z" (.int zc)) (hzc : ¬ zc = 0) (S_FM : Sta Z Z.heap "jdk/internal/util/Preconditions" "SIOOBE_FORMATTER" "Ljava/util/function/BiFunction;" fm) (hfm : fm.isRef = true) :
    MetFree l x (head1 (Jvm.Cond.code x code maxLocals ret :: ws) room_1) (fun aa U => aa = #[(.long q0), (.long q1), (.int p2)] ∧ Z.Warmed39 U.vm ∧ U.heap = h0 ∧ CHv Z EL1 U.vm h0) (fun _ _ _ _ _ => True) (fun _ U oo U' => ∃ vv LL, oo = .returned vv ∧ Q0 Z q0 q1 p2 ck sn tn se te k_tn k_te zc fm h0 n0 vv U'.heap LL ∧ CHr Z EL1 U.vm U.heap U'.vm U'.heap ∧ ReturnedEndW U oo U' LL room_1.cells room_1.slots) := by
  refine MetFree.of_bodySF (plainFor_of_name pn_com_example_obligation_obligation_AttributesIsClockPinLaw) hisR ?_
  intro p e s m args below meth c s₁ Bd hml0 hP hK
  obtain ⟨rfl, hZ, hh, hCH⟩ := hP
  have hx := Bd.exec
  have hby := Bd.bytes
  have hml : c.maxLocals = 12 := hml0
  have hown : s.vm.findClass "com/example/obligation/obligation/AttributesIsClockPinLaw" = some m.cls := findClass_of_methodNamed Bd.named
  have hnm := (name_of_methodNamed Bd.named Bd.method).1
  have X0 : Stand p l e room_1 (s.setVm s.vm) m #[(.long q0), (.long q1), (.int p2)] below meth c s₁ [] 0 0 := Stand.of_body Bd
  have e0 : s₁.heap = h0 := by rw [← hh, Bd.state]; rfl
  have N0 := Fr.nil n0
  refine Goes.giveW (Q := Q0 Z q0 q1 p2 ck sn tn se te k_tn k_te zc fm h0 n0) ?_
  rw [ef0 m q0 q1 p2]
  have hEL : EW Z a0 EL1 := own_EL hw
  have hS0 : s.Since s.vm h0.size := (State.WarmedH.refl s).since _
  have ks0 : h0.size ≤ h0.size := Nat.le_refl _
  have CR0 : CHr Z EL1 s.vm h0 s.vm h0 := CHr.refl hCH
  have K0 : Keep h0 h0 [] := Keep.refl _ _
  have J34 : ∀ (n5 n6 : Int32) (T' : State) (lc : List Loc), Stand p l e room_1 (s.setVm s.vm) m #[(.long q0), (.long q1), (.int p2)] below meth c T' lc 0 0 → T'.heap = h0 → Fr n0 lc → Goes p e below (EndW s Z EL1 (Q0 Z q0 q1 p2 ck sn tn se te k_tn k_te zc fm h0 n0) room_1.cells room_1.slots) T' (mkF m 34 #[.val (.long q0), .second, .val (.long q1), .second, .val (.int p2), .val (.int n5), .val (.int n6), .unset, .unset, .unset, .unset, .unset] []) := by
    intro n5 n6 TJ285 lJ285  XJ285 eJ285 NJ285
    refine P1.lloadN XJ285.here hx (hb hby at_34) rfl ?_
    refine P1.iconst XJ285.here hx (0 : Int32) (hb hby at_35) rfl ?_
    refine P1.bipush XJ285.here hx (101 : Int32) (hb hby at_36) rfl ?_
    refine Goes.callS XJ285 hx (y := y2_) hown (mvT hZ (own_w hw 0 rfl)) (mvT hZ (own_w hw 1 rfl)) (mvT hZ (own_w hw 2 rfl)) (mvT hZ (own_w hw 3 rfl)) (by decide) (kc' := 0) (ks' := 0) (backOf (W := 0) (rmPk l Z a0 hw [] q0 (0 : Int32) (101 : Int32) h0 n0 Z0 O0 (by decide)) hZ (own_w hw 3 rfl) (own_w hw 2 rfl) (ok rfl) (ok rfl)) (g := (mkF m 38 #[.val (.long q0), .second, .val (.long q1), .second, .val (.int p2), .val (.int n5), .val (.int n6), .unset, .unset, .unset, .unset, .unset] [(.int (101 : Int32)), (.int (0 : Int32)), (.long q0)])) rfl (by rw [hml]; rfl) (argsL := [(.long q0), (.int (0 : Int32)), (.int (101 : Int32))]) (rest := []) (lenOf pd_1282 rfl) rfl (by show 2 * 0 + _ ≤ _; exact Nat.le_of_eq rfl) (hb hby at_38) rfl eJ285 (ok rfl) (ok rfl) ?_
    intro v286 T286 L286 q286 X286
    obtain ⟨r286, rfl, bd_r286, N286q, hE286⟩ := q286
    have N286 := Fr.app NJ285 N286q
    show Goes p e below _ T286 (mkF m 41 #[.val (.long q0), .second, .val (.long q1), .second, .val (.int p2), .val (.int n5), .val (.int n6), .unset, .unset, .unset, .unset, .unset] [(.int r286)])
    refine P1.lloadN X286.here hx (hb hby at_41) rfl ?_
    refine P1.iconst X286.here hx (1 : Int32) (hb hby at_42) rfl ?_
    refine P1.bipush X286.here hx (110 : Int32) (hb hby at_43) rfl ?_
    refine Goes.callS X286 hx (y := y2_) hown (mvT hZ (own_w hw 0 rfl)) (mvT hZ (own_w hw 1 rfl)) (mvT hZ (own_w hw 2 rfl)) (mvT hZ (own_w hw 3 rfl)) (by decide) (kc' := 0) (ks' := 0) (backOf (W := 1) (rmPk l Z a0 hw [] q0 (1 : Int32) (110 : Int32) h0 n0 Z0 O0 (by decide)) hZ (own_w hw 3 rfl) (own_w hw 2 rfl) (ok rfl) (ok rfl)) (g := (mkF m 45 #[.val (.long q0), .second, .val (.long q1), .second, .val (.int p2), .val (.int n5), .val (.int n6), .unset, .unset, .unset, .unset, .unset] [(.int (110 : Int32)), (.int (1 : Int32)), (.long q0), (.int r286)])) rfl (by rw [hml]; rfl) (argsL := [(.long q0), (.int (1 : Int32)), (.int (110 : Int32))]) (rest := [(.int r286)]) (lenOf pd_1282 rfl) rfl (by show 2 * 0 + _ ≤ _; exact Nat.le_of_eq rfl) (hb hby at_45) rfl hE286 (ok rfl) (ok rfl) ?_
    intro v287 T287 L287 q287 X287
    obtain ⟨r287, rfl, bd_r287, N287q, hE287⟩ := q287
    have N287 := Fr.app N286 N287q
    show Goes p e below _ T287 (mkF m 48 #[.val (.long q0), .second, .val (.long q1), .second, .val (.int p2), .val (.int n5), .val (.int n6), .unset, .unset, .unset, .unset, .unset] [(.int r287), (.int r286)])
    refine P1.lloadN X287.here hx (hb hby at_48) rfl ?_
    refine P1.iconst X287.here hx (2 : Int32) (hb hby at_49) rfl ?_
    refine P1.bipush X287.here hx (118 : Int32) (hb hby at_50) rfl ?_
    refine Goes.callS X287 hx (y := y2_) hown (mvT hZ (own_w hw 0 rfl)) (mvT hZ (own_w hw 1 rfl)) (mvT hZ (own_w hw 2 rfl)) (mvT hZ (own_w hw 3 rfl)) (by decide) (kc' := 0) (ks' := 0) (backOf (W := 2) (rmPk l Z a0 hw [] q0 (2 : Int32) (118 : Int32) h0 n0 Z0 O0 (by decide)) hZ (own_w hw 3 rfl) (own_w hw 2 rfl) (ok rfl) (ok rfl)) (g := (mkF m 52 #[.val (.long q0), .second, .val (.long q1), .second, .val (.int p2), .val (.int n5), .val (.int n6), .unset, .unset, .unset, .unset, .unset] [(.int (118 : Int32)), (.int (2 : Int32)), (.long q0), (.int r287), (.int r286)])) rfl (by rw [hml]; rfl) (argsL := [(.long q0), (.int (2 : Int32)), (.int (118 : Int32))]) (rest := [(.int r287), (.int r286)]) (lenOf pd_1282 rfl) rfl (by show 2 * 0 + _ ≤ _; exact Nat.le_of_eq rfl) (hb hby at_52) rfl hE287 (ok rfl) (ok rfl) ?_
    intro v288 T288 L288 q288 X288
    obtain ⟨r288, rfl, bd_r288, N288q, hE288⟩ := q288
    have N288 := Fr.app N287 N288q
    show Goes p e below _ T288 (mkF m 55 #[.val (.long q0), .second, .val (.long q1), .second, .val (.int p2), .val (.int n5), .val (.int n6), .unset, .unset, .unset, .unset, .unset] [(.int r288), (.int r287), (.int r286)])
    refine P1.lloadN X288.here hx (hb hby at_55) rfl ?_
    refine P1.iconst X288.here hx (3 : Int32) (hb hby at_56) rfl ?_
    refine P1.bipush X288.here hx (101 : Int32) (hb hby at_57) rfl ?_
    refine Goes.callS X288 hx (y := y2_) hown (mvT hZ (own_w hw 0 rfl)) (mvT hZ (own_w hw 1 rfl)) (mvT hZ (own_w hw 2 rfl)) (mvT hZ (own_w hw 3 rfl)) (by decide) (kc' := 0) (ks' := 0) (backOf (W := 3) (rmPk l Z a0 hw [] q0 (3 : Int32) (101 : Int32) h0 n0 Z0 O0 (by decide)) hZ (own_w hw 3 rfl) (own_w hw 2 rfl) (ok rfl) (ok rfl)) (g := (mkF m 59 #[.val (.long q0), .second, .val (.long q1), .second, .val (.int p2), .val (.int n5), .val (.int n6), .unset, .unset, .unset, .unset, .unset] [(.int (101 : Int32)), (.int (3 : Int32)), (.long q0), (.int r288), (.int r287), (.int r286)])) rfl (by rw [hml]; rfl) (argsL := [(.long q0), (.int (3 : Int32)), (.int (101 : Int32))]) (rest := [(.int r288), (.int r287), (.int r286)]) (lenOf pd_1282 rfl) rfl (by show 2 * 0 + _ ≤ _; exact Nat.le_of_eq rfl) (hb hby at_59) rfl hE288 (ok rfl) (ok rfl) ?_
    intro v289 T289 L289 q289 X289
    obtain ⟨r289, rfl, bd_r289, N289q, hE289⟩ := q289
    have N289 := Fr.app N288 N289q
    show Goes p e below _ T289 (mkF m 62 #[.val (.long q0), .second, .val (.long q1), .second, .val (.int p2), .val (.int n5), .val (.int n6), .unset, .unset, .unset, .unset, .unset] [(.int r289), (.int r288), (.int r287), (.int r286)])
    refine P1.iload X289.here hx (hb hby at_62) rfl ?_
    refine Goes.callSW X289 hx (y := y1_) hS0 ks0 hZ hown (mvT hZ (own_w hw 5 rfl)) (mvT hZ (own_w hw 6 rfl)) (mvT hZ (own_w hw 2 rfl)) (mvT hZ (own_w hw 7 rfl)) (by decide) (kc' := 6) (ks' := 12) (backOfSH (W := 0) (rmMk l Z a0 hw [] r286 r287 r288 r289 n5 ck sn tn se te k_tn k_te zc fm h0 n0 Z0 O0 S_CLOCK E_ck F_ck_name E_sn F_sn_coder F_sn_value F_ck_entity E_se F_se_coder F_se_value V_tn V_te S_CS hzc S_FM hfm bd_r286 bd_r287 bd_r288 bd_r289) hZ (own_w hw 7 rfl) (own_w hw 2 rfl) (ok rfl) (ok rfl) hEL CR0.1) (g := (mkF m 64 #[.val (.long q0), .second, .val (.long q1), .second, .val (.int p2), .val (.int n5), .val (.int n6), .unset, .unset, .unset, .unset, .unset] [(.int n5), (.int r289), (.int r288), (.int r287), (.int r286)])) rfl (by rw [hml]; rfl) (argsL := [(.int r286), (.int r287), (.int r288), (.int r289), (.int n5)]) (rest := []) (lenOf pd_29710 rfl) rfl (by show 2 * 0 + _ ≤ _; exact Nat.le_of_eq rfl) (hb hby at_64) rfl hE289 (ok rfl) (ok rfl) ?_
    intro v290 T290 L290 q290 Y290
    obtain ⟨X290, hS290, hZ, hown, CW290⟩ := Y290
    obtain ⟨x290, t290, kb290, cs290, rfl, N290q, K290, g290E, g290V, g290C, g290K, hp290, le290⟩ := q290
    have N290 := Fr.app N289 N290q
    have ks290 : T290.heap.size ≤ T290.heap.size := Nat.le_refl _
    have le4290 : cs290.length ≤ 4000 := Nat.le_trans le290 (by decide)
    show Goes p e below _ T290 (mkF m 67 #[.val (.long q0), .second, .val (.long q1), .second, .val (.int p2), .val (.int n5), .val (.int n6), .unset, .unset, .unset, .unset, .unset] [(.ref x290)])
    refine P1.astore X290.here hx #[.val (.long q0), .second, .val (.long q1), .second, .val (.int p2), .val (.int n5), .val (.int n6), .val (.ref x290), .unset, .unset, .unset, .unset] (hb hby at_67) rfl rfl ?_
    refine P1.lloadN X290.here hx (hb hby at_69) rfl ?_
    refine P1.iconst X290.here hx (0 : Int32) (hb hby at_70) rfl ?_
    refine P1.bipush X290.here hx (116 : Int32) (hb hby at_71) rfl ?_
    have Z291 : n0 ≤ T290.heap.size := Nat.le_trans Z0 K290.1
    have O292 : Old Z n0 T290.heap := O0.keep K290 all0
    refine Goes.callS X290 hx (y := y2_) hown (mvT hZ (own_w hw 0 rfl)) (mvT hZ (own_w hw 1 rfl)) (mvT hZ (own_w hw 2 rfl)) (mvT hZ (own_w hw 3 rfl)) (by decide) (kc' := 0) (ks' := 0) (backOf (W := 0) (rmPk l Z a0 hw [] q1 (0 : Int32) (116 : Int32) T290.heap n0 Z291 O292 (by decide)) hZ (own_w hw 3 rfl) (own_w hw 2 rfl) (ok rfl) (ok rfl)) (g := (mkF m 73 #[.val (.long q0), .second, .val (.long q1), .second, .val (.int p2), .val (.int n5), .val (.int n6), .val (.ref x290), .unset, .unset, .unset, .unset] [(.int (116 : Int32)), (.int (0 : Int32)), (.long q1)])) rfl (by rw [hml]; rfl) (argsL := [(.long q1), (.int (0 : Int32)), (.int (116 : Int32))]) (rest := []) (lenOf pd_1282 rfl) rfl (by show 2 * 0 + _ ≤ _; exact Nat.le_of_eq rfl) (hb hby at_73) rfl rfl (ok rfl) (ok rfl) ?_
    intro v293 T293 L293 q293 X293
    obtain ⟨r293, rfl, bd_r293, N293q, hE293⟩ := q293
    have N293 := Fr.app N290 N293q
    show Goes p e below _ T293 (mkF m 76 #[.val (.long q0), .second, .val (.long q1), .second, .val (.int p2), .val (.int n5), .val (.int n6), .val (.ref x290), .unset, .unset, .unset, .unset] [(.int r293)])
    refine P1.lloadN X293.here hx (hb hby at_76) rfl ?_
    refine P1.iconst X293.here hx (1 : Int32) (hb hby at_77) rfl ?_
    refine P1.bipush X293.here hx (105 : Int32) (hb hby at_78) rfl ?_
    refine Goes.callS X293 hx (y := y2_) hown (mvT hZ (own_w hw 0 rfl)) (mvT hZ (own_w hw 1 rfl)) (mvT hZ (own_w hw 2 rfl)) (mvT hZ (own_w hw 3 rfl)) (by decide) (kc' := 0) (ks' := 0) (backOf (W := 1) (rmPk l Z a0 hw [] q1 (1 : Int32) (105 : Int32) T290.heap n0 Z291 O292 (by decide)) hZ (own_w hw 3 rfl) (own_w hw 2 rfl) (ok rfl) (ok rfl)) (g := (mkF m 80 #[.val (.long q0), .second, .val (.long q1), .second, .val (.int p2), .val (.int n5), .val (.int n6), .val (.ref x290), .unset, .unset, .unset, .unset] [(.int (105 : Int32)), (.int (1 : Int32)), (.long q1), (.int r293)])) rfl (by rw [hml]; rfl) (argsL := [(.long q1), (.int (1 : Int32)), (.int (105 : Int32))]) (rest := [(.int r293)]) (lenOf pd_1282 rfl) rfl (by show 2 * 0 + _ ≤ _; exact Nat.le_of_eq rfl) (hb hby at_80) rfl hE293 (ok rfl) (ok rfl) ?_
    intro v294 T294 L294 q294 X294
    obtain ⟨r294, rfl, bd_r294, N294q, hE294⟩ := q294
    have N294 := Fr.app N293 N294q
    show Goes p e below _ T294 (mkF m 83 #[.val (.long q0), .second, .val (.long q1), .second, .val (.int p2), .val (.int n5), .val (.int n6), .val (.ref x290), .unset, .unset, .unset, .unset] [(.int r294), (.int r293)])
    refine P1.lloadN X294.here hx (hb hby at_83) rfl ?_
    refine P1.iconst X294.here hx (2 : Int32) (hb hby at_84) rfl ?_
    refine P1.bipush X294.here hx (109 : Int32) (hb hby at_85) rfl ?_
    refine Goes.callS X294 hx (y := y2_) hown (mvT hZ (own_w hw 0 rfl)) (mvT hZ (own_w hw 1 rfl)) (mvT hZ (own_w hw 2 rfl)) (mvT hZ (own_w hw 3 rfl)) (by decide) (kc' := 0) (ks' := 0) (backOf (W := 2) (rmPk l Z a0 hw [] q1 (2 : Int32) (109 : Int32) T290.heap n0 Z291 O292 (by decide)) hZ (own_w hw 3 rfl) (own_w hw 2 rfl) (ok rfl) (ok rfl)) (g := (mkF m 87 #[.val (.long q0), .second, .val (.long q1), .second, .val (.int p2), .val (.int n5), .val (.int n6), .val (.ref x290), .unset, .unset, .unset, .unset] [(.int (109 : Int32)), (.int (2 : Int32)), (.long q1), (.int r294), (.int r293)])) rfl (by rw [hml]; rfl) (argsL := [(.long q1), (.int (2 : Int32)), (.int (109 : Int32))]) (rest := [(.int r294), (.int r293)]) (lenOf pd_1282 rfl) rfl (by show 2 * 0 + _ ≤ _; exact Nat.le_of_eq rfl) (hb hby at_87) rfl hE294 (ok rfl) (ok rfl) ?_
    intro v295 T295 L295 q295 X295
    obtain ⟨r295, rfl, bd_r295, N295q, hE295⟩ := q295
    have N295 := Fr.app N294 N295q
    show Goes p e below _ T295 (mkF m 90 #[.val (.long q0), .second, .val (.long q1), .second, .val (.int p2), .val (.int n5), .val (.int n6), .val (.ref x290), .unset, .unset, .unset, .unset] [(.int r295), (.int r294), (.int r293)])
    refine P1.lloadN X295.here hx (hb hby at_90) rfl ?_
    refine P1.iconst X295.here hx (3 : Int32) (hb hby at_91) rfl ?_
    refine P1.bipush X295.here hx (101 : Int32) (hb hby at_92) rfl ?_
    refine Goes.callS X295 hx (y := y2_) hown (mvT hZ (own_w hw 0 rfl)) (mvT hZ (own_w hw 1 rfl)) (mvT hZ (own_w hw 2 rfl)) (mvT hZ (own_w hw 3 rfl)) (by decide) (kc' := 0) (ks' := 0) (backOf (W := 3) (rmPk l Z a0 hw [] q1 (3 : Int32) (101 : Int32) T290.heap n0 Z291 O292 (by decide)) hZ (own_w hw 3 rfl) (own_w hw 2 rfl) (ok rfl) (ok rfl)) (g := (mkF m 94 #[.val (.long q0), .second, .val (.long q1), .second, .val (.int p2), .val (.int n5), .val (.int n6), .val (.ref x290), .unset, .unset, .unset, .unset] [(.int (101 : Int32)), (.int (3 : Int32)), (.long q1), (.int r295), (.int r294), (.int r293)])) rfl (by rw [hml]; rfl) (argsL := [(.long q1), (.int (3 : Int32)), (.int (101 : Int32))]) (rest := [(.int r295), (.int r294), (.int r293)]) (lenOf pd_1282 rfl) rfl (by show 2 * 0 + _ ≤ _; exact Nat.le_of_eq rfl) (hb hby at_94) rfl hE295 (ok rfl) (ok rfl) ?_
    intro v296 T296 L296 q296 X296
    obtain ⟨r296, rfl, bd_r296, N296q, hE296⟩ := q296
    have N296 := Fr.app N295 N296q
    show Goes p e below _ T296 (mkF m 97 #[.val (.long q0), .second, .val (.long q1), .second, .val (.int p2), .val (.int n5), .val (.int n6), .val (.ref x290), .unset, .unset, .unset, .unset] [(.int r296), (.int r295), (.int r294), (.int r293)])
    refine P1.iload X296.here hx (hb hby at_97) rfl ?_
    have CR297 : CHr Z EL1 s.vm h0 T290.vm T290.heap := CR0.trans CW290
    refine Goes.callSW X296 hx (y := y1_) hS290 ks290 hZ hown (mvT hZ (own_w hw 5 rfl)) (mvT hZ (own_w hw 6 rfl)) (mvT hZ (own_w hw 2 rfl)) (mvT hZ (own_w hw 7 rfl)) (by decide) (kc' := 6) (ks' := 12) (backOfSH (W := 0) (rmMk l Z a0 hw [] r293 r294 r295 r296 n6 ck sn tn se te k_tn k_te zc fm T290.heap n0 Z291 O292 S_CLOCK E_ck F_ck_name E_sn F_sn_coder F_sn_value F_ck_entity E_se F_se_coder F_se_value V_tn V_te S_CS hzc S_FM hfm bd_r293 bd_r294 bd_r295 bd_r296) hZ (own_w hw 7 rfl) (own_w hw 2 rfl) (ok rfl) (ok rfl) hEL CR297.1) (g := (mkF m 99 #[.val (.long q0), .second, .val (.long q1), .second, .val (.int p2), .val (.int n5), .val (.int n6), .val (.ref x290), .unset, .unset, .unset, .unset] [(.int n6), (.int r296), (.int r295), (.int r294), (.int r293)])) rfl (by rw [hml]; rfl) (argsL := [(.int r293), (.int r294), (.int r295), (.int r296), (.int n6)]) (rest := []) (lenOf pd_29710 rfl) rfl (by show 2 * 0 + _ ≤ _; exact Nat.le_of_eq rfl) (hb hby at_99) rfl hE296 (ok rfl) (ok rfl) ?_
    intro v298 T298 L298 q298 Y298
    obtain ⟨X298, hS298, hZ, hown, CW298⟩ := Y298
    obtain ⟨x298, t298, kb298, cs298, rfl, N298q, K298, g298E, g298V, g298C, g298K, hp298, le298⟩ := q298
    have N298 := Fr.app N296 N298q
    have ks298 : T298.heap.size ≤ T298.heap.size := Nat.le_refl _
    have le4298 : cs298.length ≤ 4000 := Nat.le_trans le298 (by decide)
    show Goes p e below _ T298 (mkF m 102 #[.val (.long q0), .second, .val (.long q1), .second, .val (.int p2), .val (.int n5), .val (.int n6), .val (.ref x290), .unset, .unset, .unset, .unset] [(.ref x298)])
    refine P1.astore X298.here hx #[.val (.long q0), .second, .val (.long q1), .second, .val (.int p2), .val (.int n5), .val (.int n6), .val (.ref x290), .val (.ref x298), .unset, .unset, .unset] (hb hby at_102) rfl rfl ?_
    have J151 : ∀ (b1 : Int32) (T' : State) (lc : List Loc), ((b1 = 1 ∧ cs290 = ([(101 : Int32), (110 : Int32), (118 : Int32)] : List Int32)) ∨ (b1 = 0 ∧ ¬ cs290 = ([(101 : Int32), (110 : Int32), (118 : Int32)] : List Int32))) → Stand p l e room_1 (s.setVm T298.vm) m #[(.long q0), (.long q1), (.int p2)] below meth c T' lc 12 24 → T'.heap = T298.heap → Fr n0 lc → Goes p e below (EndW s Z EL1 (Q0 Z q0 q1 p2 ck sn tn se te k_tn k_te zc fm h0 n0) room_1.cells room_1.slots) T' (mkF m 151 #[.val (.long q0), .second, .val (.long q1), .second, .val (.int p2), .val (.int n5), .val (.int n6), .val (.ref x290), .val (.ref x298), .unset, .unset, .unset] [(.int b1)]) := by
      intro b1 TJ299 lJ299 hb1 XJ299 eJ299 NJ299
      refine P1.istore XJ299.here hx #[.val (.long q0), .second, .val (.long q1), .second, .val (.int p2), .val (.int n5), .val (.int n6), .val (.ref x290), .val (.ref x298), .val (.int b1), .unset, .unset] (hb hby at_151) rfl ?_
      have J211 : ∀ (b2 : Int32) (T' : State) (lc : List Loc), ((b2 = 1 ∧ cs298 = ([(116 : Int32), (105 : Int32), (109 : Int32), (101 : Int32)] : List Int32)) ∨ (b2 = 0 ∧ ¬ cs298 = ([(116 : Int32), (105 : Int32), (109 : Int32), (101 : Int32)] : List Int32))) → Stand p l e room_1 (s.setVm T298.vm) m #[(.long q0), (.long q1), (.int p2)] below meth c T' lc 12 24 → T'.heap = T298.heap → Fr n0 lc → Goes p e below (EndW s Z EL1 (Q0 Z q0 q1 p2 ck sn tn se te k_tn k_te zc fm h0 n0) room_1.cells room_1.slots) T' (mkF m 211 #[.val (.long q0), .second, .val (.long q1), .second, .val (.int p2), .val (.int n5), .val (.int n6), .val (.ref x290), .val (.ref x298), .val (.int b1), .unset, .unset] [(.int b2)]) := by
        intro b2 TJ300 lJ300 hb2 XJ300 eJ300 NJ300
        obtain ⟨rfl, hb1⟩ | ⟨rfl, hb1⟩ := hb1 <;> obtain ⟨rfl, hb2⟩ | ⟨rfl, hb2⟩ := hb2
        ·
          refine P1.istore XJ300.here hx #[.val (.long q0), .second, .val (.long q1), .second, .val (.int p2), .val (.int n5), .val (.int n6), .val (.ref x290), .val (.ref x298), .val (.int (1 : Int32)), .val (.int (1 : Int32)), .unset] (hb hby at_211) rfl ?_
          refine P1.iload XJ300.here hx (hb hby at_213) rfl ?_
          refine Goes.step (T' := TJ300) (g' := (mkF m 218 #[.val (.long q0), .second, .val (.long q1), .second, .val (.int p2), .val (.int n5), .val (.int n6), .val (.ref x290), .val (.ref x298), .val (.int (1 : Int32)), .val (.int (1 : Int32)), .unset] [])) (fun t_ k_ => XS.ifNo XJ300.here hx rfl (hb hby at_215) rfl ((if0 _ _).trans (feq ((by decide : ¬ ((1 : Int32) = (0 : Int32))) : ¬ ((1 : Int32) = (0 : Int32)))).1) k_) ?_
          refine P1.iload XJ300.here hx (hb hby at_218) rfl ?_
          refine Goes.step (T' := TJ300) (g' := (mkF m 223 #[.val (.long q0), .second, .val (.long q1), .second, .val (.int p2), .val (.int n5), .val (.int n6), .val (.ref x290), .val (.ref x298), .val (.int (1 : Int32)), .val (.int (1 : Int32)), .unset] [])) (fun t_ k_ => XS.ifNo XJ300.here hx rfl (hb hby at_220) rfl ((if0 _ _).trans (feq ((by decide : ¬ ((1 : Int32) = (0 : Int32))) : ¬ ((1 : Int32) = (0 : Int32)))).1) k_) ?_
          refine P1.iconst XJ300.here hx (1 : Int32) (hb hby at_223) rfl ?_
          refine P1.goto XJ300.here hx 228 (hb hby at_224) (by decide) (by decide) ?_
          refine P1.istore XJ300.here hx #[.val (.long q0), .second, .val (.long q1), .second, .val (.int p2), .val (.int n5), .val (.int n6), .val (.ref x290), .val (.ref x298), .val (.int (1 : Int32)), .val (.int (1 : Int32)), .val (.int (1 : Int32))] (hb hby at_228) rfl ?_
          refine P1.aload XJ300.here hx (hb hby at_230) rfl rfl ?_
          refine P1.aload XJ300.here hx (hb hby at_232) rfl rfl ?_
          have E301 : Exa Z T298.heap x290 "java/lang/String" := g290E.keep K298
          have F302 : Fld Z T298.heap x290 "java/lang/String" "value" "[B" (.ref t290) := g290V.keep K298 nin0
          have F303 : Fld Z T298.heap x290 "java/lang/String" "coder" "B" (.int (0 : Int32)) := g290C.keep K298 nin0
          have V304 : Arv Z T298.heap t290 kb290 .byte (Int32.ofNat cs290.length) ((cs290.map StrChars.lo8).map Value.int) (.int (0 : Int32)) := g290K.keep K298 nin0
          have Z305 : n0 ≤ T298.heap.size := Nat.le_trans Z291 K298.1
          have O306 : Old Z n0 T298.heap := O292.keep K298 all0
          refine Goes.callS XJ300 hx (y := y0_) hown (mvT hZ (own_w hw 41 rfl)) (mvT hZ (own_w hw 42 rfl)) (mvT hZ (own_w hw 43 rfl)) (mvT hZ (own_w hw 44 rfl)) (by decide) (kc' := 0) (ks' := 0) (backOf (W := 0) (rmIC l Z a0 hw [] x290 t290 kb290 cs290 x298 t298 kb298 cs298 ck sn tn se te k_tn k_te zc fm T298.heap n0 Z305 O306 S_CLOCK E_ck F_ck_name E_sn F_sn_coder F_sn_value F_ck_entity E_se F_se_coder F_se_value V_tn V_te S_CS hzc S_FM hfm E301 F302 F303 V304 hp290 le4290 g298E g298V g298C g298K hp298 le4298) hZ (own_w hw 44 rfl) (own_w hw 43 rfl) (ok rfl) (ok rfl)) (g := (mkF m 234 #[.val (.long q0), .second, .val (.long q1), .second, .val (.int p2), .val (.int n5), .val (.int n6), .val (.ref x290), .val (.ref x298), .val (.int (1 : Int32)), .val (.int (1 : Int32)), .val (.int (1 : Int32))] [(.ref x298), (.ref x290)])) rfl (by rw [hml]; rfl) (argsL := [(.ref x290), (.ref x298)]) (rest := []) (lenOf pd_71298 rfl) rfl (by show 2 * 0 + _ ≤ _; exact Nat.le_of_eq rfl) (hb hby at_234) rfl eJ300 (ok rfl) (ok rfl) ?_
          intro v307 T307 L307 q307 X307
          obtain ⟨rfl, N307q, hE307⟩ := q307
          have N307 := Fr.app NJ300 N307q
          show Goes p e below _ T307 (mkF m 237 #[.val (.long q0), .second, .val (.long q1), .second, .val (.int p2), .val (.int n5), .val (.int n6), .val (.ref x290), .val (.ref x298), .val (.int (1 : Int32)), .val (.int (1 : Int32)), .val (.int (1 : Int32))] [(.int (if cs290 = ([(101 : Int32), (110 : Int32), (118 : Int32)] : List Int32) ∧ cs298 = ([(116 : Int32), (105 : Int32), (109 : Int32), (101 : Int32)] : List Int32) then (1 : Int32) else 0))])
          refine P1.iload X307.here hx (hb hby at_237) rfl ?_
          have rw308 : (if cs290 = ([(101 : Int32), (110 : Int32), (118 : Int32)] : List Int32) ∧ cs298 = ([(116 : Int32), (105 : Int32), (109 : Int32), (101 : Int32)] : List Int32) then (1 : Int32) else 0) = (1 : Int32) := by simp [hb1, hb2]
          rw [rw308]
          refine Goes.step (T' := T307) (g' := (mkF m 242 #[.val (.long q0), .second, .val (.long q1), .second, .val (.int p2), .val (.int n5), .val (.int n6), .val (.ref x290), .val (.ref x298), .val (.int (1 : Int32)), .val (.int (1 : Int32)), .val (.int (1 : Int32))] [])) (fun t_ k_ => XS.icmpNo X307.here hx rfl (hb hby at_239) rfl (teq ((by decide : (1 : Int32) = (1 : Int32)) : (1 : Int32) = (1 : Int32))).2 k_) ?_
          refine P1.iconst X307.here hx (1 : Int32) (hb hby at_242) rfl ?_
          refine P1.goto X307.here hx 247 (hb hby at_243) (by decide) (by decide) ?_
          have CR309 : CHr Z EL1 s.vm h0 T298.vm T298.heap := CR297.trans CW298
          refine Goes.retNW X307 hx Bd.notSynchronized hS298 ks298 hZ hEL (hh ▸ CR309) hE307 (t := .boolean) Bd.returns (by simp) (hb hby at_247) (ok rfl) (ok rfl) ?_
          exact ⟨rfl, N307⟩
        ·
          refine P1.istore XJ300.here hx #[.val (.long q0), .second, .val (.long q1), .second, .val (.int p2), .val (.int n5), .val (.int n6), .val (.ref x290), .val (.ref x298), .val (.int (1 : Int32)), .val (.int (0 : Int32)), .unset] (hb hby at_211) rfl ?_
          refine P1.iload XJ300.here hx (hb hby at_213) rfl ?_
          refine Goes.step (T' := TJ300) (g' := (mkF m 218 #[.val (.long q0), .second, .val (.long q1), .second, .val (.int p2), .val (.int n5), .val (.int n6), .val (.ref x290), .val (.ref x298), .val (.int (1 : Int32)), .val (.int (0 : Int32)), .unset] [])) (fun t_ k_ => XS.ifNo XJ300.here hx rfl (hb hby at_215) rfl ((if0 _ _).trans (feq ((by decide : ¬ ((1 : Int32) = (0 : Int32))) : ¬ ((1 : Int32) = (0 : Int32)))).1) k_) ?_
          refine P1.iload XJ300.here hx (hb hby at_218) rfl ?_
          refine Goes.step (T' := TJ300) (g' := (mkF m 227 #[.val (.long q0), .second, .val (.long q1), .second, .val (.int p2), .val (.int n5), .val (.int n6), .val (.ref x290), .val (.ref x298), .val (.int (1 : Int32)), .val (.int (0 : Int32)), .unset] [])) (fun t_ k_ => XS.ifYes XJ300.here hx rfl (pc0 := 220) (pc' := 227) rfl (hb hby at_220) rfl ((if0 _ _).trans (teq ((by decide : (0 : Int32) = (0 : Int32)) : (0 : Int32) = (0 : Int32))).1) (by decide) (by decide) k_) ?_
          refine P1.iconst XJ300.here hx (0 : Int32) (hb hby at_227) rfl ?_
          refine P1.istore XJ300.here hx #[.val (.long q0), .second, .val (.long q1), .second, .val (.int p2), .val (.int n5), .val (.int n6), .val (.ref x290), .val (.ref x298), .val (.int (1 : Int32)), .val (.int (0 : Int32)), .val (.int (0 : Int32))] (hb hby at_228) rfl ?_
          refine P1.aload XJ300.here hx (hb hby at_230) rfl rfl ?_
          refine P1.aload XJ300.here hx (hb hby at_232) rfl rfl ?_
          have E310 : Exa Z T298.heap x290 "java/lang/String" := g290E.keep K298
          have F311 : Fld Z T298.heap x290 "java/lang/String" "value" "[B" (.ref t290) := g290V.keep K298 nin0
          have F312 : Fld Z T298.heap x290 "java/lang/String" "coder" "B" (.int (0 : Int32)) := g290C.keep K298 nin0
          have V313 : Arv Z T298.heap t290 kb290 .byte (Int32.ofNat cs290.length) ((cs290.map StrChars.lo8).map Value.int) (.int (0 : Int32)) := g290K.keep K298 nin0
          have Z314 : n0 ≤ T298.heap.size := Nat.le_trans Z291 K298.1
          have O315 : Old Z n0 T298.heap := O292.keep K298 all0
          refine Goes.callS XJ300 hx (y := y0_) hown (mvT hZ (own_w hw 41 rfl)) (mvT hZ (own_w hw 42 rfl)) (mvT hZ (own_w hw 43 rfl)) (mvT hZ (own_w hw 44 rfl)) (by decide) (kc' := 0) (ks' := 0) (backOf (W := 0) (rmIC l Z a0 hw [] x290 t290 kb290 cs290 x298 t298 kb298 cs298 ck sn tn se te k_tn k_te zc fm T298.heap n0 Z314 O315 S_CLOCK E_ck F_ck_name E_sn F_sn_coder F_sn_value F_ck_entity E_se F_se_coder F_se_value V_tn V_te S_CS hzc S_FM hfm E310 F311 F312 V313 hp290 le4290 g298E g298V g298C g298K hp298 le4298) hZ (own_w hw 44 rfl) (own_w hw 43 rfl) (ok rfl) (ok rfl)) (g := (mkF m 234 #[.val (.long q0), .second, .val (.long q1), .second, .val (.int p2), .val (.int n5), .val (.int n6), .val (.ref x290), .val (.ref x298), .val (.int (1 : Int32)), .val (.int (0 : Int32)), .val (.int (0 : Int32))] [(.ref x298), (.ref x290)])) rfl (by rw [hml]; rfl) (argsL := [(.ref x290), (.ref x298)]) (rest := []) (lenOf pd_71298 rfl) rfl (by show 2 * 0 + _ ≤ _; exact Nat.le_of_eq rfl) (hb hby at_234) rfl eJ300 (ok rfl) (ok rfl) ?_
          intro v316 T316 L316 q316 X316
          obtain ⟨rfl, N316q, hE316⟩ := q316
          have N316 := Fr.app NJ300 N316q
          show Goes p e below _ T316 (mkF m 237 #[.val (.long q0), .second, .val (.long q1), .second, .val (.int p2), .val (.int n5), .val (.int n6), .val (.ref x290), .val (.ref x298), .val (.int (1 : Int32)), .val (.int (0 : Int32)), .val (.int (0 : Int32))] [(.int (if cs290 = ([(101 : Int32), (110 : Int32), (118 : Int32)] : List Int32) ∧ cs298 = ([(116 : Int32), (105 : Int32), (109 : Int32), (101 : Int32)] : List Int32) then (1 : Int32) else 0))])
          refine P1.iload X316.here hx (hb hby at_237) rfl ?_
          have rw317 : (if cs290 = ([(101 : Int32), (110 : Int32), (118 : Int32)] : List Int32) ∧ cs298 = ([(116 : Int32), (105 : Int32), (109 : Int32), (101 : Int32)] : List Int32) then (1 : Int32) else 0) = (0 : Int32) := by simp [hb1, hb2]
          rw [rw317]
          refine Goes.step (T' := T316) (g' := (mkF m 242 #[.val (.long q0), .second, .val (.long q1), .second, .val (.int p2), .val (.int n5), .val (.int n6), .val (.ref x290), .val (.ref x298), .val (.int (1 : Int32)), .val (.int (0 : Int32)), .val (.int (0 : Int32))] [])) (fun t_ k_ => XS.icmpNo X316.here hx rfl (hb hby at_239) rfl (teq ((by decide : (0 : Int32) = (0 : Int32)) : (0 : Int32) = (0 : Int32))).2 k_) ?_
          refine P1.iconst X316.here hx (1 : Int32) (hb hby at_242) rfl ?_
          refine P1.goto X316.here hx 247 (hb hby at_243) (by decide) (by decide) ?_
          have CR318 : CHr Z EL1 s.vm h0 T298.vm T298.heap := CR297.trans CW298
          refine Goes.retNW X316 hx Bd.notSynchronized hS298 ks298 hZ hEL (hh ▸ CR318) hE316 (t := .boolean) Bd.returns (by simp) (hb hby at_247) (ok rfl) (ok rfl) ?_
          exact ⟨rfl, N316⟩
        ·
          refine P1.istore XJ300.here hx #[.val (.long q0), .second, .val (.long q1), .second, .val (.int p2), .val (.int n5), .val (.int n6), .val (.ref x290), .val (.ref x298), .val (.int (0 : Int32)), .val (.int (1 : Int32)), .unset] (hb hby at_211) rfl ?_
          refine P1.iload XJ300.here hx (hb hby at_213) rfl ?_
          refine Goes.step (T' := TJ300) (g' := (mkF m 227 #[.val (.long q0), .second, .val (.long q1), .second, .val (.int p2), .val (.int n5), .val (.int n6), .val (.ref x290), .val (.ref x298), .val (.int (0 : Int32)), .val (.int (1 : Int32)), .unset] [])) (fun t_ k_ => XS.ifYes XJ300.here hx rfl (pc0 := 215) (pc' := 227) rfl (hb hby at_215) rfl ((if0 _ _).trans (teq ((by decide : (0 : Int32) = (0 : Int32)) : (0 : Int32) = (0 : Int32))).1) (by decide) (by decide) k_) ?_
          refine P1.iconst XJ300.here hx (0 : Int32) (hb hby at_227) rfl ?_
          refine P1.istore XJ300.here hx #[.val (.long q0), .second, .val (.long q1), .second, .val (.int p2), .val (.int n5), .val (.int n6), .val (.ref x290), .val (.ref x298), .val (.int (0 : Int32)), .val (.int (1 : Int32)), .val (.int (0 : Int32))] (hb hby at_228) rfl ?_
          refine P1.aload XJ300.here hx (hb hby at_230) rfl rfl ?_
          refine P1.aload XJ300.here hx (hb hby at_232) rfl rfl ?_
          have E319 : Exa Z T298.heap x290 "java/lang/String" := g290E.keep K298
          have F320 : Fld Z T298.heap x290 "java/lang/String" "value" "[B" (.ref t290) := g290V.keep K298 nin0
          have F321 : Fld Z T298.heap x290 "java/lang/String" "coder" "B" (.int (0 : Int32)) := g290C.keep K298 nin0
          have V322 : Arv Z T298.heap t290 kb290 .byte (Int32.ofNat cs290.length) ((cs290.map StrChars.lo8).map Value.int) (.int (0 : Int32)) := g290K.keep K298 nin0
          have Z323 : n0 ≤ T298.heap.size := Nat.le_trans Z291 K298.1
          have O324 : Old Z n0 T298.heap := O292.keep K298 all0
          refine Goes.callS XJ300 hx (y := y0_) hown (mvT hZ (own_w hw 41 rfl)) (mvT hZ (own_w hw 42 rfl)) (mvT hZ (own_w hw 43 rfl)) (mvT hZ (own_w hw 44 rfl)) (by decide) (kc' := 0) (ks' := 0) (backOf (W := 0) (rmIC l Z a0 hw [] x290 t290 kb290 cs290 x298 t298 kb298 cs298 ck sn tn se te k_tn k_te zc fm T298.heap n0 Z323 O324 S_CLOCK E_ck F_ck_name E_sn F_sn_coder F_sn_value F_ck_entity E_se F_se_coder F_se_value V_tn V_te S_CS hzc S_FM hfm E319 F320 F321 V322 hp290 le4290 g298E g298V g298C g298K hp298 le4298) hZ (own_w hw 44 rfl) (own_w hw 43 rfl) (ok rfl) (ok rfl)) (g := (mkF m 234 #[.val (.long q0), .second, .val (.long q1), .second, .val (.int p2), .val (.int n5), .val (.int n6), .val (.ref x290), .val (.ref x298), .val (.int (0 : Int32)), .val (.int (1 : Int32)), .val (.int (0 : Int32))] [(.ref x298), (.ref x290)])) rfl (by rw [hml]; rfl) (argsL := [(.ref x290), (.ref x298)]) (rest := []) (lenOf pd_71298 rfl) rfl (by show 2 * 0 + _ ≤ _; exact Nat.le_of_eq rfl) (hb hby at_234) rfl eJ300 (ok rfl) (ok rfl) ?_
          intro v325 T325 L325 q325 X325
          obtain ⟨rfl, N325q, hE325⟩ := q325
          have N325 := Fr.app NJ300 N325q
          show Goes p e below _ T325 (mkF m 237 #[.val (.long q0), .second, .val (.long q1), .second, .val (.int p2), .val (.int n5), .val (.int n6), .val (.ref x290), .val (.ref x298), .val (.int (0 : Int32)), .val (.int (1 : Int32)), .val (.int (0 : Int32))] [(.int (if cs290 = ([(101 : Int32), (110 : Int32), (118 : Int32)] : List Int32) ∧ cs298 = ([(116 : Int32), (105 : Int32), (109 : Int32), (101 : Int32)] : List Int32) then (1 : Int32) else 0))])
          refine P1.iload X325.here hx (hb hby at_237) rfl ?_
          have rw326 : (if cs290 = ([(101 : Int32), (110 : Int32), (118 : Int32)] : List Int32) ∧ cs298 = ([(116 : Int32), (105 : Int32), (109 : Int32), (101 : Int32)] : List Int32) then (1 : Int32) else 0) = (0 : Int32) := by simp [hb1, hb2]
          rw [rw326]
          refine Goes.step (T' := T325) (g' := (mkF m 242 #[.val (.long q0), .second, .val (.long q1), .second, .val (.int p2), .val (.int n5), .val (.int n6), .val (.ref x290), .val (.ref x298), .val (.int (0 : Int32)), .val (.int (1 : Int32)), .val (.int (0 : Int32))] [])) (fun t_ k_ => XS.icmpNo X325.here hx rfl (hb hby at_239) rfl (teq ((by decide : (0 : Int32) = (0 : Int32)) : (0 : Int32) = (0 : Int32))).2 k_) ?_
          refine P1.iconst X325.here hx (1 : Int32) (hb hby at_242) rfl ?_
          refine P1.goto X325.here hx 247 (hb hby at_243) (by decide) (by decide) ?_
          have CR327 : CHr Z EL1 s.vm h0 T298.vm T298.heap := CR297.trans CW298
          refine Goes.retNW X325 hx Bd.notSynchronized hS298 ks298 hZ hEL (hh ▸ CR327) hE325 (t := .boolean) Bd.returns (by simp) (hb hby at_247) (ok rfl) (ok rfl) ?_
          exact ⟨rfl, N325⟩
        ·
          refine P1.istore XJ300.here hx #[.val (.long q0), .second, .val (.long q1), .second, .val (.int p2), .val (.int n5), .val (.int n6), .val (.ref x290), .val (.ref x298), .val (.int (0 : Int32)), .val (.int (0 : Int32)), .unset] (hb hby at_211) rfl ?_
          refine P1.iload XJ300.here hx (hb hby at_213) rfl ?_
          refine Goes.step (T' := TJ300) (g' := (mkF m 227 #[.val (.long q0), .second, .val (.long q1), .second, .val (.int p2), .val (.int n5), .val (.int n6), .val (.ref x290), .val (.ref x298), .val (.int (0 : Int32)), .val (.int (0 : Int32)), .unset] [])) (fun t_ k_ => XS.ifYes XJ300.here hx rfl (pc0 := 215) (pc' := 227) rfl (hb hby at_215) rfl ((if0 _ _).trans (teq ((by decide : (0 : Int32) = (0 : Int32)) : (0 : Int32) = (0 : Int32))).1) (by decide) (by decide) k_) ?_
          refine P1.iconst XJ300.here hx (0 : Int32) (hb hby at_227) rfl ?_
          refine P1.istore XJ300.here hx #[.val (.long q0), .second, .val (.long q1), .second, .val (.int p2), .val (.int n5), .val (.int n6), .val (.ref x290), .val (.ref x298), .val (.int (0 : Int32)), .val (.int (0 : Int32)), .val (.int (0 : Int32))] (hb hby at_228) rfl ?_
          refine P1.aload XJ300.here hx (hb hby at_230) rfl rfl ?_
          refine P1.aload XJ300.here hx (hb hby at_232) rfl rfl ?_
          have E328 : Exa Z T298.heap x290 "java/lang/String" := g290E.keep K298
          have F329 : Fld Z T298.heap x290 "java/lang/String" "value" "[B" (.ref t290) := g290V.keep K298 nin0
          have F330 : Fld Z T298.heap x290 "java/lang/String" "coder" "B" (.int (0 : Int32)) := g290C.keep K298 nin0
          have V331 : Arv Z T298.heap t290 kb290 .byte (Int32.ofNat cs290.length) ((cs290.map StrChars.lo8).map Value.int) (.int (0 : Int32)) := g290K.keep K298 nin0
          have Z332 : n0 ≤ T298.heap.size := Nat.le_trans Z291 K298.1
          have O333 : Old Z n0 T298.heap := O292.keep K298 all0
          refine Goes.callS XJ300 hx (y := y0_) hown (mvT hZ (own_w hw 41 rfl)) (mvT hZ (own_w hw 42 rfl)) (mvT hZ (own_w hw 43 rfl)) (mvT hZ (own_w hw 44 rfl)) (by decide) (kc' := 0) (ks' := 0) (backOf (W := 0) (rmIC l Z a0 hw [] x290 t290 kb290 cs290 x298 t298 kb298 cs298 ck sn tn se te k_tn k_te zc fm T298.heap n0 Z332 O333 S_CLOCK E_ck F_ck_name E_sn F_sn_coder F_sn_value F_ck_entity E_se F_se_coder F_se_value V_tn V_te S_CS hzc S_FM hfm E328 F329 F330 V331 hp290 le4290 g298E g298V g298C g298K hp298 le4298) hZ (own_w hw 44 rfl) (own_w hw 43 rfl) (ok rfl) (ok rfl)) (g := (mkF m 234 #[.val (.long q0), .second, .val (.long q1), .second, .val (.int p2), .val (.int n5), .val (.int n6), .val (.ref x290), .val (.ref x298), .val (.int (0 : Int32)), .val (.int (0 : Int32)), .val (.int (0 : Int32))] [(.ref x298), (.ref x290)])) rfl (by rw [hml]; rfl) (argsL := [(.ref x290), (.ref x298)]) (rest := []) (lenOf pd_71298 rfl) rfl (by show 2 * 0 + _ ≤ _; exact Nat.le_of_eq rfl) (hb hby at_234) rfl eJ300 (ok rfl) (ok rfl) ?_
          intro v334 T334 L334 q334 X334
          obtain ⟨rfl, N334q, hE334⟩ := q334
          have N334 := Fr.app NJ300 N334q
          show Goes p e below _ T334 (mkF m 237 #[.val (.long q0), .second, .val (.long q1), .second, .val (.int p2), .val (.int n5), .val (.int n6), .val (.ref x290), .val (.ref x298), .val (.int (0 : Int32)), .val (.int (0 : Int32)), .val (.int (0 : Int32))] [(.int (if cs290 = ([(101 : Int32), (110 : Int32), (118 : Int32)] : List Int32) ∧ cs298 = ([(116 : Int32), (105 : Int32), (109 : Int32), (101 : Int32)] : List Int32) then (1 : Int32) else 0))])
          refine P1.iload X334.here hx (hb hby at_237) rfl ?_
          have rw335 : (if cs290 = ([(101 : Int32), (110 : Int32), (118 : Int32)] : List Int32) ∧ cs298 = ([(116 : Int32), (105 : Int32), (109 : Int32), (101 : Int32)] : List Int32) then (1 : Int32) else 0) = (0 : Int32) := by simp [hb1, hb2]
          rw [rw335]
          refine Goes.step (T' := T334) (g' := (mkF m 242 #[.val (.long q0), .second, .val (.long q1), .second, .val (.int p2), .val (.int n5), .val (.int n6), .val (.ref x290), .val (.ref x298), .val (.int (0 : Int32)), .val (.int (0 : Int32)), .val (.int (0 : Int32))] [])) (fun t_ k_ => XS.icmpNo X334.here hx rfl (hb hby at_239) rfl (teq ((by decide : (0 : Int32) = (0 : Int32)) : (0 : Int32) = (0 : Int32))).2 k_) ?_
          refine P1.iconst X334.here hx (1 : Int32) (hb hby at_242) rfl ?_
          refine P1.goto X334.here hx 247 (hb hby at_243) (by decide) (by decide) ?_
          have CR336 : CHr Z EL1 s.vm h0 T298.vm T298.heap := CR297.trans CW298
          refine Goes.retNW X334 hx Bd.notSynchronized hS298 ks298 hZ hEL (hh ▸ CR336) hE334 (t := .boolean) Bd.returns (by simp) (hb hby at_247) (ok rfl) (ok rfl) ?_
          exact ⟨rfl, N334⟩
      refine P1.aload XJ299.here hx (hb hby at_153) rfl rfl ?_
      have O337 : Old Z n0 T298.heap := O292.keep K298 all0
      refine Goes.callV XJ299 hx hZ (y := y9_) (z := y9_) (Qc := fun v h' L => (v = some (.int (Int32.ofNat cs298.length)) ∧ L = [] ∧ h' = T298.heap)) hown (mvT hZ (own_w hw 30 rfl)) (mvT hZ (own_w hw 31 rfl)) (notFace_of_selects (args := #[]) (mvT hZ (own_w hw 33 rfl))) (mvT hZ (own_w hw 33 rfl)) (mvT hZ (own_w hw 32 rfl)) (by decide) (kc' := 0) (ks' := 0) (StrChars.Road.lenW (W := 0) (s := s.setVm T298.vm) hZ (fun d hd => hw d (in_wordsLen d hd)) (kI := 4) (own_w hw 9 rfl) g298E g298V g298C g298K (StrChars.Road.codOf (cs := cs298) rfl (fun c hc => (hp298 c hc).2)) (own_up hp298) (S_CS.ext O337.2) hzc le4298 (ok rfl) (ok rfl)) (b := x298) eJ299 g298E (g := (mkF m 155 #[.val (.long q0), .second, .val (.long q1), .second, .val (.int p2), .val (.int n5), .val (.int n6), .val (.ref x290), .val (.ref x298), .val (.int b1), .unset, .unset] [(.ref x298)])) rfl (by rw [hml]; rfl) (argsL := []) (rest := []) (lenOf pd_341 rfl) rfl (by show 2 * 0 + _ ≤ _; exact Nat.le_of_eq rfl) (hb hby at_155) rfl (ok rfl) (ok rfl) ?_
      intro v338 T338 L338 q338 X338
      obtain ⟨rfl, rfl, hE338⟩ := q338
      have N338 := Fr.app NJ299 (Fr.nil n0)
      show Goes p e below _ T338 (mkF m 158 #[.val (.long q0), .second, .val (.long q1), .second, .val (.int p2), .val (.int n5), .val (.int n6), .val (.ref x290), .val (.ref x298), .val (.int b1), .unset, .unset] [(.int (Int32.ofNat cs298.length))])
      refine P1.iconst X338.here hx (4 : Int32) (hb hby at_158) rfl ?_
      by_cases hl2 : (Int32.ofNat cs298.length) = (4 : Int32)
      ·
        refine Goes.step (T' := T338) (g' := (mkF m 162 #[.val (.long q0), .second, .val (.long q1), .second, .val (.int p2), .val (.int n5), .val (.int n6), .val (.ref x290), .val (.ref x298), .val (.int b1), .unset, .unset] [])) (fun t_ k_ => XS.icmpNo X338.here hx rfl (hb hby at_159) rfl (teq (hl2 : (Int32.ofNat cs298.length) = (4 : Int32))).2 k_) ?_
        obtain ⟨y2_0, y2_1, y2_2, y2_3, hcs2⟩ := own_len4 le298 hl2
        subst hcs2
        refine P1.aload X338.here hx (hb hby at_162) rfl rfl ?_
        refine P1.iconst X338.here hx (0 : Int32) (hb hby at_164) rfl ?_
        refine Goes.callV X338 hx hZ (y := y7_) (z := y7_) (Qc := fun v h' L => (v = some (.int (([y2_0, y2_1, y2_2, y2_3] : List Int32).getD 0 0)) ∧ L = [] ∧ h' = T298.heap)) hown (mvT hZ (own_w hw 75 rfl)) (mvT hZ (own_w hw 76 rfl)) (notFace_of_selects (args := #[]) (mvT hZ (own_w hw 78 rfl))) (mvT hZ (own_w hw 78 rfl)) (mvT hZ (own_w hw 77 rfl)) (by decide) (kc' := 0) (ks' := 0) (StrChars.Road.chN (W := 0) (s := s.setVm T298.vm) hZ (fun d hd => hw d (in_wordsChN d hd)) (kI := 4) (own_w hw 9 rfl) g298E g298V g298C g298K (StrChars.Road.codOf (cs := ([y2_0, y2_1, y2_2, y2_3] : List Int32)) (n := 4) rfl (fun c hc => (hp298 c hc).2)) (own_up hp298) (S_CS.ext O337.2) hzc (S_FM.ext O337.2) hfm (ok rfl) (i := 0) (ok rfl) (j := (0 : Int32)) rfl (ok rfl) (ok rfl)) (b := x298) hE338 g298E (g := (mkF m 165 #[.val (.long q0), .second, .val (.long q1), .second, .val (.int p2), .val (.int n5), .val (.int n6), .val (.ref x290), .val (.ref x298), .val (.int b1), .unset, .unset] [(.int (0 : Int32)), (.ref x298)])) rfl (by rw [hml]; rfl) (argsL := [(.int (0 : Int32))]) (rest := []) (lenOf pd_577 rfl) rfl (by show 2 * 0 + _ ≤ _; exact Nat.le_of_eq rfl) (hb hby at_165) rfl (ok rfl) (ok rfl) ?_
        intro v339 T339 L339 q339 X339
        obtain ⟨rfl, rfl, hE339⟩ := q339
        have N339 := Fr.app N338 (Fr.nil n0)
        show Goes p e below _ T339 (mkF m 168 #[.val (.long q0), .second, .val (.long q1), .second, .val (.int p2), .val (.int n5), .val (.int n6), .val (.ref x290), .val (.ref x298), .val (.int b1), .unset, .unset] [(.int y2_0)])
        refine P1.bipush X339.here hx (116 : Int32) (hb hby at_168) rfl ?_
        by_cases hd2_0 : y2_0 = (116 : Int32)
        ·
          refine Goes.step (T' := T339) (g' := (mkF m 173 #[.val (.long q0), .second, .val (.long q1), .second, .val (.int p2), .val (.int n5), .val (.int n6), .val (.ref x290), .val (.ref x298), .val (.int b1), .unset, .unset] [])) (fun t_ k_ => XS.icmpNo X339.here hx rfl (hb hby at_170) rfl (teq (hd2_0 : y2_0 = (116 : Int32))).2 k_) ?_
          refine P1.aload X339.here hx (hb hby at_173) rfl rfl ?_
          refine P1.iconst X339.here hx (1 : Int32) (hb hby at_175) rfl ?_
          refine Goes.callV X339 hx hZ (y := y7_) (z := y7_) (Qc := fun v h' L => (v = some (.int (([y2_0, y2_1, y2_2, y2_3] : List Int32).getD 1 0)) ∧ L = [] ∧ h' = T298.heap)) hown (mvT hZ (own_w hw 75 rfl)) (mvT hZ (own_w hw 76 rfl)) (notFace_of_selects (args := #[]) (mvT hZ (own_w hw 78 rfl))) (mvT hZ (own_w hw 78 rfl)) (mvT hZ (own_w hw 77 rfl)) (by decide) (kc' := 0) (ks' := 0) (StrChars.Road.chN (W := 0) (s := s.setVm T298.vm) hZ (fun d hd => hw d (in_wordsChN d hd)) (kI := 4) (own_w hw 9 rfl) g298E g298V g298C g298K (StrChars.Road.codOf (cs := ([y2_0, y2_1, y2_2, y2_3] : List Int32)) (n := 4) rfl (fun c hc => (hp298 c hc).2)) (own_up hp298) (S_CS.ext O337.2) hzc (S_FM.ext O337.2) hfm (ok rfl) (i := 1) (ok rfl) (j := (1 : Int32)) rfl (ok rfl) (ok rfl)) (b := x298) hE339 g298E (g := (mkF m 176 #[.val (.long q0), .second, .val (.long q1), .second, .val (.int p2), .val (.int n5), .val (.int n6), .val (.ref x290), .val (.ref x298), .val (.int b1), .unset, .unset] [(.int (1 : Int32)), (.ref x298)])) rfl (by rw [hml]; rfl) (argsL := [(.int (1 : Int32))]) (rest := []) (lenOf pd_577 rfl) rfl (by show 2 * 0 + _ ≤ _; exact Nat.le_of_eq rfl) (hb hby at_176) rfl (ok rfl) (ok rfl) ?_
          intro v340 T340 L340 q340 X340
          obtain ⟨rfl, rfl, hE340⟩ := q340
          have N340 := Fr.app N339 (Fr.nil n0)
          show Goes p e below _ T340 (mkF m 179 #[.val (.long q0), .second, .val (.long q1), .second, .val (.int p2), .val (.int n5), .val (.int n6), .val (.ref x290), .val (.ref x298), .val (.int b1), .unset, .unset] [(.int y2_1)])
          refine P1.bipush X340.here hx (105 : Int32) (hb hby at_179) rfl ?_
          by_cases hd2_1 : y2_1 = (105 : Int32)
          ·
            refine Goes.step (T' := T340) (g' := (mkF m 184 #[.val (.long q0), .second, .val (.long q1), .second, .val (.int p2), .val (.int n5), .val (.int n6), .val (.ref x290), .val (.ref x298), .val (.int b1), .unset, .unset] [])) (fun t_ k_ => XS.icmpNo X340.here hx rfl (hb hby at_181) rfl (teq (hd2_1 : y2_1 = (105 : Int32))).2 k_) ?_
            refine P1.aload X340.here hx (hb hby at_184) rfl rfl ?_
            refine P1.iconst X340.here hx (2 : Int32) (hb hby at_186) rfl ?_
            refine Goes.callV X340 hx hZ (y := y7_) (z := y7_) (Qc := fun v h' L => (v = some (.int (([y2_0, y2_1, y2_2, y2_3] : List Int32).getD 2 0)) ∧ L = [] ∧ h' = T298.heap)) hown (mvT hZ (own_w hw 75 rfl)) (mvT hZ (own_w hw 76 rfl)) (notFace_of_selects (args := #[]) (mvT hZ (own_w hw 78 rfl))) (mvT hZ (own_w hw 78 rfl)) (mvT hZ (own_w hw 77 rfl)) (by decide) (kc' := 0) (ks' := 0) (StrChars.Road.chN (W := 0) (s := s.setVm T298.vm) hZ (fun d hd => hw d (in_wordsChN d hd)) (kI := 4) (own_w hw 9 rfl) g298E g298V g298C g298K (StrChars.Road.codOf (cs := ([y2_0, y2_1, y2_2, y2_3] : List Int32)) (n := 4) rfl (fun c hc => (hp298 c hc).2)) (own_up hp298) (S_CS.ext O337.2) hzc (S_FM.ext O337.2) hfm (ok rfl) (i := 2) (ok rfl) (j := (2 : Int32)) rfl (ok rfl) (ok rfl)) (b := x298) hE340 g298E (g := (mkF m 187 #[.val (.long q0), .second, .val (.long q1), .second, .val (.int p2), .val (.int n5), .val (.int n6), .val (.ref x290), .val (.ref x298), .val (.int b1), .unset, .unset] [(.int (2 : Int32)), (.ref x298)])) rfl (by rw [hml]; rfl) (argsL := [(.int (2 : Int32))]) (rest := []) (lenOf pd_577 rfl) rfl (by show 2 * 0 + _ ≤ _; exact Nat.le_of_eq rfl) (hb hby at_187) rfl (ok rfl) (ok rfl) ?_
            intro v341 T341 L341 q341 X341
            obtain ⟨rfl, rfl, hE341⟩ := q341
            have N341 := Fr.app N340 (Fr.nil n0)
            show Goes p e below _ T341 (mkF m 190 #[.val (.long q0), .second, .val (.long q1), .second, .val (.int p2), .val (.int n5), .val (.int n6), .val (.ref x290), .val (.ref x298), .val (.int b1), .unset, .unset] [(.int y2_2)])
            refine P1.bipush X341.here hx (109 : Int32) (hb hby at_190) rfl ?_
            by_cases hd2_2 : y2_2 = (109 : Int32)
            ·
              refine Goes.step (T' := T341) (g' := (mkF m 195 #[.val (.long q0), .second, .val (.long q1), .second, .val (.int p2), .val (.int n5), .val (.int n6), .val (.ref x290), .val (.ref x298), .val (.int b1), .unset, .unset] [])) (fun t_ k_ => XS.icmpNo X341.here hx rfl (hb hby at_192) rfl (teq (hd2_2 : y2_2 = (109 : Int32))).2 k_) ?_
              refine P1.aload X341.here hx (hb hby at_195) rfl rfl ?_
              refine P1.iconst X341.here hx (3 : Int32) (hb hby at_197) rfl ?_
              refine Goes.callV X341 hx hZ (y := y7_) (z := y7_) (Qc := fun v h' L => (v = some (.int (([y2_0, y2_1, y2_2, y2_3] : List Int32).getD 3 0)) ∧ L = [] ∧ h' = T298.heap)) hown (mvT hZ (own_w hw 75 rfl)) (mvT hZ (own_w hw 76 rfl)) (notFace_of_selects (args := #[]) (mvT hZ (own_w hw 78 rfl))) (mvT hZ (own_w hw 78 rfl)) (mvT hZ (own_w hw 77 rfl)) (by decide) (kc' := 0) (ks' := 0) (StrChars.Road.chN (W := 0) (s := s.setVm T298.vm) hZ (fun d hd => hw d (in_wordsChN d hd)) (kI := 4) (own_w hw 9 rfl) g298E g298V g298C g298K (StrChars.Road.codOf (cs := ([y2_0, y2_1, y2_2, y2_3] : List Int32)) (n := 4) rfl (fun c hc => (hp298 c hc).2)) (own_up hp298) (S_CS.ext O337.2) hzc (S_FM.ext O337.2) hfm (ok rfl) (i := 3) (ok rfl) (j := (3 : Int32)) rfl (ok rfl) (ok rfl)) (b := x298) hE341 g298E (g := (mkF m 198 #[.val (.long q0), .second, .val (.long q1), .second, .val (.int p2), .val (.int n5), .val (.int n6), .val (.ref x290), .val (.ref x298), .val (.int b1), .unset, .unset] [(.int (3 : Int32)), (.ref x298)])) rfl (by rw [hml]; rfl) (argsL := [(.int (3 : Int32))]) (rest := []) (lenOf pd_577 rfl) rfl (by show 2 * 0 + _ ≤ _; exact Nat.le_of_eq rfl) (hb hby at_198) rfl (ok rfl) (ok rfl) ?_
              intro v342 T342 L342 q342 X342
              obtain ⟨rfl, rfl, hE342⟩ := q342
              have N342 := Fr.app N341 (Fr.nil n0)
              show Goes p e below _ T342 (mkF m 201 #[.val (.long q0), .second, .val (.long q1), .second, .val (.int p2), .val (.int n5), .val (.int n6), .val (.ref x290), .val (.ref x298), .val (.int b1), .unset, .unset] [(.int y2_3)])
              refine P1.bipush X342.here hx (101 : Int32) (hb hby at_201) rfl ?_
              by_cases hd2_3 : y2_3 = (101 : Int32)
              ·
                refine Goes.step (T' := T342) (g' := (mkF m 206 #[.val (.long q0), .second, .val (.long q1), .second, .val (.int p2), .val (.int n5), .val (.int n6), .val (.ref x290), .val (.ref x298), .val (.int b1), .unset, .unset] [])) (fun t_ k_ => XS.icmpNo X342.here hx rfl (hb hby at_203) rfl (teq (hd2_3 : y2_3 = (101 : Int32))).2 k_) ?_
                refine P1.iconst X342.here hx (1 : Int32) (hb hby at_206) rfl ?_
                refine P1.goto X342.here hx 211 (hb hby at_207) (by decide) (by decide) ?_
                exact J211 (1 : Int32) T342 _ (Or.inl ⟨rfl, by rw [hd2_0, hd2_1, hd2_2, hd2_3]⟩) X342 hE342 N342
              ·
                refine Goes.step (T' := T342) (g' := (mkF m 210 #[.val (.long q0), .second, .val (.long q1), .second, .val (.int p2), .val (.int n5), .val (.int n6), .val (.ref x290), .val (.ref x298), .val (.int b1), .unset, .unset] [])) (fun t_ k_ => XS.icmpYes X342.here hx rfl (pc0 := 203) (pc' := 210) rfl (hb hby at_203) rfl (feq (hd2_3 : ¬ (y2_3 = (101 : Int32)))).2 (by decide) (by decide) k_) ?_
                refine P1.iconst X342.here hx (0 : Int32) (hb hby at_210) rfl ?_
                exact J211 (0 : Int32) T342 _ (Or.inr ⟨rfl, fun q => hd2_3 (by simp at q; simp [q])⟩) X342 hE342 N342
            ·
              refine Goes.step (T' := T341) (g' := (mkF m 210 #[.val (.long q0), .second, .val (.long q1), .second, .val (.int p2), .val (.int n5), .val (.int n6), .val (.ref x290), .val (.ref x298), .val (.int b1), .unset, .unset] [])) (fun t_ k_ => XS.icmpYes X341.here hx rfl (pc0 := 192) (pc' := 210) rfl (hb hby at_192) rfl (feq (hd2_2 : ¬ (y2_2 = (109 : Int32)))).2 (by decide) (by decide) k_) ?_
              refine P1.iconst X341.here hx (0 : Int32) (hb hby at_210) rfl ?_
              exact J211 (0 : Int32) T341 _ (Or.inr ⟨rfl, fun q => hd2_2 (by simp at q; simp [q])⟩) X341 hE341 N341
          ·
            refine Goes.step (T' := T340) (g' := (mkF m 210 #[.val (.long q0), .second, .val (.long q1), .second, .val (.int p2), .val (.int n5), .val (.int n6), .val (.ref x290), .val (.ref x298), .val (.int b1), .unset, .unset] [])) (fun t_ k_ => XS.icmpYes X340.here hx rfl (pc0 := 181) (pc' := 210) rfl (hb hby at_181) rfl (feq (hd2_1 : ¬ (y2_1 = (105 : Int32)))).2 (by decide) (by decide) k_) ?_
            refine P1.iconst X340.here hx (0 : Int32) (hb hby at_210) rfl ?_
            exact J211 (0 : Int32) T340 _ (Or.inr ⟨rfl, fun q => hd2_1 (by simp at q; simp [q])⟩) X340 hE340 N340
        ·
          refine Goes.step (T' := T339) (g' := (mkF m 210 #[.val (.long q0), .second, .val (.long q1), .second, .val (.int p2), .val (.int n5), .val (.int n6), .val (.ref x290), .val (.ref x298), .val (.int b1), .unset, .unset] [])) (fun t_ k_ => XS.icmpYes X339.here hx rfl (pc0 := 170) (pc' := 210) rfl (hb hby at_170) rfl (feq (hd2_0 : ¬ (y2_0 = (116 : Int32)))).2 (by decide) (by decide) k_) ?_
          refine P1.iconst X339.here hx (0 : Int32) (hb hby at_210) rfl ?_
          exact J211 (0 : Int32) T339 _ (Or.inr ⟨rfl, fun q => hd2_0 (by simp at q; simp [q])⟩) X339 hE339 N339
      ·
        refine Goes.step (T' := T338) (g' := (mkF m 210 #[.val (.long q0), .second, .val (.long q1), .second, .val (.int p2), .val (.int n5), .val (.int n6), .val (.ref x290), .val (.ref x298), .val (.int b1), .unset, .unset] [])) (fun t_ k_ => XS.icmpYes X338.here hx rfl (pc0 := 159) (pc' := 210) rfl (hb hby at_159) rfl (feq (hl2 : ¬ ((Int32.ofNat cs298.length) = (4 : Int32)))).2 (by decide) (by decide) k_) ?_
        refine P1.iconst X338.here hx (0 : Int32) (hb hby at_210) rfl ?_
        exact J211 (0 : Int32) T338 _ (Or.inr ⟨rfl, fun q => hl2 (by rw [q]; rfl)⟩) X338 hE338 N338
    refine P1.aload X298.here hx (hb hby at_104) rfl rfl ?_
    have E343 : Exa Z T298.heap x290 "java/lang/String" := g290E.keep K298
    have F344 : Fld Z T298.heap x290 "java/lang/String" "value" "[B" (.ref t290) := g290V.keep K298 nin0
    have F345 : Fld Z T298.heap x290 "java/lang/String" "coder" "B" (.int (0 : Int32)) := g290C.keep K298 nin0
    have V346 : Arv Z T298.heap t290 kb290 .byte (Int32.ofNat cs290.length) ((cs290.map StrChars.lo8).map Value.int) (.int (0 : Int32)) := g290K.keep K298 nin0
    have O347 : Old Z n0 T298.heap := O292.keep K298 all0
    refine Goes.callV X298 hx hZ (y := y9_) (z := y9_) (Qc := fun v h' L => (v = some (.int (Int32.ofNat cs290.length)) ∧ L = [] ∧ h' = T298.heap)) hown (mvT hZ (own_w hw 30 rfl)) (mvT hZ (own_w hw 31 rfl)) (notFace_of_selects (args := #[]) (mvT hZ (own_w hw 33 rfl))) (mvT hZ (own_w hw 33 rfl)) (mvT hZ (own_w hw 32 rfl)) (by decide) (kc' := 0) (ks' := 0) (StrChars.Road.lenW (W := 0) (s := s.setVm T298.vm) hZ (fun d hd => hw d (in_wordsLen d hd)) (kI := 4) (own_w hw 9 rfl) E343 F344 F345 V346 (StrChars.Road.codOf (cs := cs290) rfl (fun c hc => (hp290 c hc).2)) (own_up hp290) (S_CS.ext O347.2) hzc le4290 (ok rfl) (ok rfl)) (b := x290) rfl E343 (g := (mkF m 106 #[.val (.long q0), .second, .val (.long q1), .second, .val (.int p2), .val (.int n5), .val (.int n6), .val (.ref x290), .val (.ref x298), .unset, .unset, .unset] [(.ref x290)])) rfl (by rw [hml]; rfl) (argsL := []) (rest := []) (lenOf pd_341 rfl) rfl (by show 2 * 0 + _ ≤ _; exact Nat.le_of_eq rfl) (hb hby at_106) rfl (ok rfl) (ok rfl) ?_
    intro v348 T348 L348 q348 X348
    obtain ⟨rfl, rfl, hE348⟩ := q348
    have N348 := Fr.app N298 (Fr.nil n0)
    show Goes p e below _ T348 (mkF m 109 #[.val (.long q0), .second, .val (.long q1), .second, .val (.int p2), .val (.int n5), .val (.int n6), .val (.ref x290), .val (.ref x298), .unset, .unset, .unset] [(.int (Int32.ofNat cs290.length))])
    refine P1.iconst X348.here hx (3 : Int32) (hb hby at_109) rfl ?_
    by_cases hl1 : (Int32.ofNat cs290.length) = (3 : Int32)
    ·
      refine Goes.step (T' := T348) (g' := (mkF m 113 #[.val (.long q0), .second, .val (.long q1), .second, .val (.int p2), .val (.int n5), .val (.int n6), .val (.ref x290), .val (.ref x298), .unset, .unset, .unset] [])) (fun t_ k_ => XS.icmpNo X348.here hx rfl (hb hby at_110) rfl (teq (hl1 : (Int32.ofNat cs290.length) = (3 : Int32))).2 k_) ?_
      obtain ⟨y1_0, y1_1, y1_2, hcs1⟩ := own_len3 le290 hl1
      subst hcs1
      refine P1.aload X348.here hx (hb hby at_113) rfl rfl ?_
      refine P1.iconst X348.here hx (0 : Int32) (hb hby at_115) rfl ?_
      refine Goes.callV X348 hx hZ (y := y7_) (z := y7_) (Qc := fun v h' L => (v = some (.int (([y1_0, y1_1, y1_2] : List Int32).getD 0 0)) ∧ L = [] ∧ h' = T298.heap)) hown (mvT hZ (own_w hw 75 rfl)) (mvT hZ (own_w hw 76 rfl)) (notFace_of_selects (args := #[]) (mvT hZ (own_w hw 78 rfl))) (mvT hZ (own_w hw 78 rfl)) (mvT hZ (own_w hw 77 rfl)) (by decide) (kc' := 0) (ks' := 0) (StrChars.Road.chN (W := 0) (s := s.setVm T298.vm) hZ (fun d hd => hw d (in_wordsChN d hd)) (kI := 4) (own_w hw 9 rfl) E343 F344 F345 V346 (StrChars.Road.codOf (cs := ([y1_0, y1_1, y1_2] : List Int32)) (n := 3) rfl (fun c hc => (hp290 c hc).2)) (own_up hp290) (S_CS.ext O347.2) hzc (S_FM.ext O347.2) hfm (ok rfl) (i := 0) (ok rfl) (j := (0 : Int32)) rfl (ok rfl) (ok rfl)) (b := x290) hE348 E343 (g := (mkF m 116 #[.val (.long q0), .second, .val (.long q1), .second, .val (.int p2), .val (.int n5), .val (.int n6), .val (.ref x290), .val (.ref x298), .unset, .unset, .unset] [(.int (0 : Int32)), (.ref x290)])) rfl (by rw [hml]; rfl) (argsL := [(.int (0 : Int32))]) (rest := []) (lenOf pd_577 rfl) rfl (by show 2 * 0 + _ ≤ _; exact Nat.le_of_eq rfl) (hb hby at_116) rfl (ok rfl) (ok rfl) ?_
      intro v349 T349 L349 q349 X349
      obtain ⟨rfl, rfl, hE349⟩ := q349
      have N349 := Fr.app N348 (Fr.nil n0)
      show Goes p e below _ T349 (mkF m 119 #[.val (.long q0), .second, .val (.long q1), .second, .val (.int p2), .val (.int n5), .val (.int n6), .val (.ref x290), .val (.ref x298), .unset, .unset, .unset] [(.int y1_0)])
      refine P1.bipush X349.here hx (101 : Int32) (hb hby at_119) rfl ?_
      by_cases hd1_0 : y1_0 = (101 : Int32)
      ·
        refine Goes.step (T' := T349) (g' := (mkF m 124 #[.val (.long q0), .second, .val (.long q1), .second, .val (.int p2), .val (.int n5), .val (.int n6), .val (.ref x290), .val (.ref x298), .unset, .unset, .unset] [])) (fun t_ k_ => XS.icmpNo X349.here hx rfl (hb hby at_121) rfl (teq (hd1_0 : y1_0 = (101 : Int32))).2 k_) ?_
        refine P1.aload X349.here hx (hb hby at_124) rfl rfl ?_
        refine P1.iconst X349.here hx (1 : Int32) (hb hby at_126) rfl ?_
        refine Goes.callV X349 hx hZ (y := y7_) (z := y7_) (Qc := fun v h' L => (v = some (.int (([y1_0, y1_1, y1_2] : List Int32).getD 1 0)) ∧ L = [] ∧ h' = T298.heap)) hown (mvT hZ (own_w hw 75 rfl)) (mvT hZ (own_w hw 76 rfl)) (notFace_of_selects (args := #[]) (mvT hZ (own_w hw 78 rfl))) (mvT hZ (own_w hw 78 rfl)) (mvT hZ (own_w hw 77 rfl)) (by decide) (kc' := 0) (ks' := 0) (StrChars.Road.chN (W := 0) (s := s.setVm T298.vm) hZ (fun d hd => hw d (in_wordsChN d hd)) (kI := 4) (own_w hw 9 rfl) E343 F344 F345 V346 (StrChars.Road.codOf (cs := ([y1_0, y1_1, y1_2] : List Int32)) (n := 3) rfl (fun c hc => (hp290 c hc).2)) (own_up hp290) (S_CS.ext O347.2) hzc (S_FM.ext O347.2) hfm (ok rfl) (i := 1) (ok rfl) (j := (1 : Int32)) rfl (ok rfl) (ok rfl)) (b := x290) hE349 E343 (g := (mkF m 127 #[.val (.long q0), .second, .val (.long q1), .second, .val (.int p2), .val (.int n5), .val (.int n6), .val (.ref x290), .val (.ref x298), .unset, .unset, .unset] [(.int (1 : Int32)), (.ref x290)])) rfl (by rw [hml]; rfl) (argsL := [(.int (1 : Int32))]) (rest := []) (lenOf pd_577 rfl) rfl (by show 2 * 0 + _ ≤ _; exact Nat.le_of_eq rfl) (hb hby at_127) rfl (ok rfl) (ok rfl) ?_
        intro v350 T350 L350 q350 X350
        obtain ⟨rfl, rfl, hE350⟩ := q350
        have N350 := Fr.app N349 (Fr.nil n0)
        show Goes p e below _ T350 (mkF m 130 #[.val (.long q0), .second, .val (.long q1), .second, .val (.int p2), .val (.int n5), .val (.int n6), .val (.ref x290), .val (.ref x298), .unset, .unset, .unset] [(.int y1_1)])
        refine P1.bipush X350.here hx (110 : Int32) (hb hby at_130) rfl ?_
        by_cases hd1_1 : y1_1 = (110 : Int32)
        ·
          refine Goes.step (T' := T350) (g' := (mkF m 135 #[.val (.long q0), .second, .val (.long q1), .second, .val (.int p2), .val (.int n5), .val (.int n6), .val (.ref x290), .val (.ref x298), .unset, .unset, .unset] [])) (fun t_ k_ => XS.icmpNo X350.here hx rfl (hb hby at_132) rfl (teq (hd1_1 : y1_1 = (110 : Int32))).2 k_) ?_
          refine P1.aload X350.here hx (hb hby at_135) rfl rfl ?_
          refine P1.iconst X350.here hx (2 : Int32) (hb hby at_137) rfl ?_
          refine Goes.callV X350 hx hZ (y := y7_) (z := y7_) (Qc := fun v h' L => (v = some (.int (([y1_0, y1_1, y1_2] : List Int32).getD 2 0)) ∧ L = [] ∧ h' = T298.heap)) hown (mvT hZ (own_w hw 75 rfl)) (mvT hZ (own_w hw 76 rfl)) (notFace_of_selects (args := #[]) (mvT hZ (own_w hw 78 rfl))) (mvT hZ (own_w hw 78 rfl)) (mvT hZ (own_w hw 77 rfl)) (by decide) (kc' := 0) (ks' := 0) (StrChars.Road.chN (W := 0) (s := s.setVm T298.vm) hZ (fun d hd => hw d (in_wordsChN d hd)) (kI := 4) (own_w hw 9 rfl) E343 F344 F345 V346 (StrChars.Road.codOf (cs := ([y1_0, y1_1, y1_2] : List Int32)) (n := 3) rfl (fun c hc => (hp290 c hc).2)) (own_up hp290) (S_CS.ext O347.2) hzc (S_FM.ext O347.2) hfm (ok rfl) (i := 2) (ok rfl) (j := (2 : Int32)) rfl (ok rfl) (ok rfl)) (b := x290) hE350 E343 (g := (mkF m 138 #[.val (.long q0), .second, .val (.long q1), .second, .val (.int p2), .val (.int n5), .val (.int n6), .val (.ref x290), .val (.ref x298), .unset, .unset, .unset] [(.int (2 : Int32)), (.ref x290)])) rfl (by rw [hml]; rfl) (argsL := [(.int (2 : Int32))]) (rest := []) (lenOf pd_577 rfl) rfl (by show 2 * 0 + _ ≤ _; exact Nat.le_of_eq rfl) (hb hby at_138) rfl (ok rfl) (ok rfl) ?_
          intro v351 T351 L351 q351 X351
          obtain ⟨rfl, rfl, hE351⟩ := q351
          have N351 := Fr.app N350 (Fr.nil n0)
          show Goes p e below _ T351 (mkF m 141 #[.val (.long q0), .second, .val (.long q1), .second, .val (.int p2), .val (.int n5), .val (.int n6), .val (.ref x290), .val (.ref x298), .unset, .unset, .unset] [(.int y1_2)])
          refine P1.bipush X351.here hx (118 : Int32) (hb hby at_141) rfl ?_
          by_cases hd1_2 : y1_2 = (118 : Int32)
          ·
            refine Goes.step (T' := T351) (g' := (mkF m 146 #[.val (.long q0), .second, .val (.long q1), .second, .val (.int p2), .val (.int n5), .val (.int n6), .val (.ref x290), .val (.ref x298), .unset, .unset, .unset] [])) (fun t_ k_ => XS.icmpNo X351.here hx rfl (hb hby at_143) rfl (teq (hd1_2 : y1_2 = (118 : Int32))).2 k_) ?_
            refine P1.iconst X351.here hx (1 : Int32) (hb hby at_146) rfl ?_
            refine P1.goto X351.here hx 151 (hb hby at_147) (by decide) (by decide) ?_
            exact J151 (1 : Int32) T351 _ (Or.inl ⟨rfl, by rw [hd1_0, hd1_1, hd1_2]⟩) X351 hE351 N351
          ·
            refine Goes.step (T' := T351) (g' := (mkF m 150 #[.val (.long q0), .second, .val (.long q1), .second, .val (.int p2), .val (.int n5), .val (.int n6), .val (.ref x290), .val (.ref x298), .unset, .unset, .unset] [])) (fun t_ k_ => XS.icmpYes X351.here hx rfl (pc0 := 143) (pc' := 150) rfl (hb hby at_143) rfl (feq (hd1_2 : ¬ (y1_2 = (118 : Int32)))).2 (by decide) (by decide) k_) ?_
            refine P1.iconst X351.here hx (0 : Int32) (hb hby at_150) rfl ?_
            exact J151 (0 : Int32) T351 _ (Or.inr ⟨rfl, fun q => hd1_2 (by simp at q; simp [q])⟩) X351 hE351 N351
        ·
          refine Goes.step (T' := T350) (g' := (mkF m 150 #[.val (.long q0), .second, .val (.long q1), .second, .val (.int p2), .val (.int n5), .val (.int n6), .val (.ref x290), .val (.ref x298), .unset, .unset, .unset] [])) (fun t_ k_ => XS.icmpYes X350.here hx rfl (pc0 := 132) (pc' := 150) rfl (hb hby at_132) rfl (feq (hd1_1 : ¬ (y1_1 = (110 : Int32)))).2 (by decide) (by decide) k_) ?_
          refine P1.iconst X350.here hx (0 : Int32) (hb hby at_150) rfl ?_
          exact J151 (0 : Int32) T350 _ (Or.inr ⟨rfl, fun q => hd1_1 (by simp at q; simp [q])⟩) X350 hE350 N350
      ·
        refine Goes.step (T' := T349) (g' := (mkF m 150 #[.val (.long q0), .second, .val (.long q1), .second, .val (.int p2), .val (.int n5), .val (.int n6), .val (.ref x290), .val (.ref x298), .unset, .unset, .unset] [])) (fun t_ k_ => XS.icmpYes X349.here hx rfl (pc0 := 121) (pc' := 150) rfl (hb hby at_121) rfl (feq (hd1_0 : ¬ (y1_0 = (101 : Int32)))).2 (by decide) (by decide) k_) ?_
        refine P1.iconst X349.here hx (0 : Int32) (hb hby at_150) rfl ?_
        exact J151 (0 : Int32) T349 _ (Or.inr ⟨rfl, fun q => hd1_0 (by simp at q; simp [q])⟩) X349 hE349 N349
    ·
      refine Goes.step (T' := T348) (g' := (mkF m 150 #[.val (.long q0), .second, .val (.long q1), .second, .val (.int p2), .val (.int n5), .val (.int n6), .val (.ref x290), .val (.ref x298), .unset, .unset, .unset] [])) (fun t_ k_ => XS.icmpYes X348.here hx rfl (pc0 := 110) (pc' := 150) rfl (hb hby at_110) rfl (feq (hl1 : ¬ ((Int32.ofNat cs290.length) = (3 : Int32)))).2 (by decide) (by decide) k_) ?_
      refine P1.iconst X348.here hx (0 : Int32) (hb hby at_150) rfl ?_
      exact J151 (0 : Int32) T348 _ (Or.inr ⟨rfl, fun q => hl1 (by rw [q]; rfl)⟩) X348 hE348 N348
  refine P1.iload X0.here hx (hb hby at_0) rfl ?_
  refine P1.bipush X0.here hx (7 : Int32) (hb hby at_2) rfl ?_
  refine P1.iand X0.here hx (hb hby at_4) ?_
  refine P1.istore X0.here hx #[.val (.long q0), .second, .val (.long q1), .second, .val (.int p2), .val (.int (p2 &&& (7 : Int32))), .unset, .unset, .unset, .unset, .unset, .unset] (hb hby at_5) rfl ?_
  refine P1.iload X0.here hx (hb hby at_7) rfl ?_
  refine P1.iconst X0.here hx (4 : Int32) (hb hby at_9) rfl ?_
  by_cases hk0 : (4 : Int32) < (p2 &&& (7 : Int32))
  ·
    refine Goes.step (T' := s₁) (g' := (mkF m 13 #[.val (.long q0), .second, .val (.long q1), .second, .val (.int p2), .val (.int (p2 &&& (7 : Int32))), .unset, .unset, .unset, .unset, .unset, .unset] [])) (fun t_ k_ => XS.icmpNo X0.here hx rfl (hb hby at_10) rfl (tlt (hk0 : (4 : Int32) < (p2 &&& (7 : Int32)))).2.2.2 k_) ?_
    refine P1.iconst X0.here hx (3 : Int32) (hb hby at_13) rfl ?_
    refine P1.istore X0.here hx #[.val (.long q0), .second, .val (.long q1), .second, .val (.int p2), .val (.int (3 : Int32)), .unset, .unset, .unset, .unset, .unset, .unset] (hb hby at_14) rfl ?_
    refine P1.iload X0.here hx (hb hby at_16) rfl ?_
    refine P1.iconst X0.here hx (3 : Int32) (hb hby at_18) rfl ?_
    refine Goes.step (T' := s₁) (g' := (mkF m 20 #[.val (.long q0), .second, .val (.long q1), .second, .val (.int p2), .val (.int (3 : Int32)), .unset, .unset, .unset, .unset, .unset, .unset] [(.int ((p2.toUInt32 >>> ((3 : Int32) &&& 31).toUInt32).toInt32))])) (fun t_ k_ => XS.iushr X0.here hx rfl (hb hby at_19) rfl k_) ?_
    refine P1.bipush X0.here hx (7 : Int32) (hb hby at_20) rfl ?_
    refine P1.iand X0.here hx (hb hby at_22) ?_
    refine P1.istore X0.here hx #[.val (.long q0), .second, .val (.long q1), .second, .val (.int p2), .val (.int (3 : Int32)), .val (.int (((p2.toUInt32 >>> ((3 : Int32) &&& 31).toUInt32).toInt32) &&& (7 : Int32))), .unset, .unset, .unset, .unset, .unset] (hb hby at_23) rfl ?_
    refine P1.iload X0.here hx (hb hby at_25) rfl ?_
    refine P1.iconst X0.here hx (4 : Int32) (hb hby at_27) rfl ?_
    by_cases hk1 : (4 : Int32) < (((p2.toUInt32 >>> ((3 : Int32) &&& 31).toUInt32).toInt32) &&& (7 : Int32))
    ·
      refine Goes.step (T' := s₁) (g' := (mkF m 31 #[.val (.long q0), .second, .val (.long q1), .second, .val (.int p2), .val (.int (3 : Int32)), .val (.int (((p2.toUInt32 >>> ((3 : Int32) &&& 31).toUInt32).toInt32) &&& (7 : Int32))), .unset, .unset, .unset, .unset, .unset] [])) (fun t_ k_ => XS.icmpNo X0.here hx rfl (hb hby at_28) rfl (tlt (hk1 : (4 : Int32) < (((p2.toUInt32 >>> ((3 : Int32) &&& 31).toUInt32).toInt32) &&& (7 : Int32)))).2.2.2 k_) ?_
      refine P1.iconst X0.here hx (4 : Int32) (hb hby at_31) rfl ?_
      refine P1.istore X0.here hx #[.val (.long q0), .second, .val (.long q1), .second, .val (.int p2), .val (.int (3 : Int32)), .val (.int (4 : Int32)), .unset, .unset, .unset, .unset, .unset] (hb hby at_32) rfl ?_
      exact J34 (3 : Int32) (4 : Int32) s₁ _ X0 e0 N0
    ·
      refine Goes.step (T' := s₁) (g' := (mkF m 34 #[.val (.long q0), .second, .val (.long q1), .second, .val (.int p2), .val (.int (3 : Int32)), .val (.int (((p2.toUInt32 >>> ((3 : Int32) &&& 31).toUInt32).toInt32) &&& (7 : Int32))), .unset, .unset, .unset, .unset, .unset] [])) (fun t_ k_ => XS.icmpYes X0.here hx rfl (pc0 := 28) (pc' := 34) rfl (hb hby at_28) rfl (flt (hk1 : ¬ ((4 : Int32) < (((p2.toUInt32 >>> ((3 : Int32) &&& 31).toUInt32).toInt32) &&& (7 : Int32))))).2.2.2 (by decide) (by decide) k_) ?_
      exact J34 (3 : Int32) (((p2.toUInt32 >>> ((3 : Int32) &&& 31).toUInt32).toInt32) &&& (7 : Int32)) s₁ _ X0 e0 N0
  ·
    refine Goes.step (T' := s₁) (g' := (mkF m 16 #[.val (.long q0), .second, .val (.long q1), .second, .val (.int p2), .val (.int (p2 &&& (7 : Int32))), .unset, .unset, .unset, .unset, .unset, .unset] [])) (fun t_ k_ => XS.icmpYes X0.here hx rfl (pc0 := 10) (pc' := 16) rfl (hb hby at_10) rfl (flt (hk0 : ¬ ((4 : Int32) < (p2 &&& (7 : Int32))))).2.2.2 (by decide) (by decide) k_) ?_
    refine P1.iload X0.here hx (hb hby at_16) rfl ?_
    refine P1.iconst X0.here hx (3 : Int32) (hb hby at_18) rfl ?_
    refine Goes.step (T' := s₁) (g' := (mkF m 20 #[.val (.long q0), .second, .val (.long q1), .second, .val (.int p2), .val (.int (p2 &&& (7 : Int32))), .unset, .unset, .unset, .unset, .unset, .unset] [(.int ((p2.toUInt32 >>> ((3 : Int32) &&& 31).toUInt32).toInt32))])) (fun t_ k_ => XS.iushr X0.here hx rfl (hb hby at_19) rfl k_) ?_
    refine P1.bipush X0.here hx (7 : Int32) (hb hby at_20) rfl ?_
    refine P1.iand X0.here hx (hb hby at_22) ?_
    refine P1.istore X0.here hx #[.val (.long q0), .second, .val (.long q1), .second, .val (.int p2), .val (.int (p2 &&& (7 : Int32))), .val (.int (((p2.toUInt32 >>> ((3 : Int32) &&& 31).toUInt32).toInt32) &&& (7 : Int32))), .unset, .unset, .unset, .unset, .unset] (hb hby at_23) rfl ?_
    refine P1.iload X0.here hx (hb hby at_25) rfl ?_
    refine P1.iconst X0.here hx (4 : Int32) (hb hby at_27) rfl ?_
    by_cases hk1 : (4 : Int32) < (((p2.toUInt32 >>> ((3 : Int32) &&& 31).toUInt32).toInt32) &&& (7 : Int32))
    ·
      refine Goes.step (T' := s₁) (g' := (mkF m 31 #[.val (.long q0), .second, .val (.long q1), .second, .val (.int p2), .val (.int (p2 &&& (7 : Int32))), .val (.int (((p2.toUInt32 >>> ((3 : Int32) &&& 31).toUInt32).toInt32) &&& (7 : Int32))), .unset, .unset, .unset, .unset, .unset] [])) (fun t_ k_ => XS.icmpNo X0.here hx rfl (hb hby at_28) rfl (tlt (hk1 : (4 : Int32) < (((p2.toUInt32 >>> ((3 : Int32) &&& 31).toUInt32).toInt32) &&& (7 : Int32)))).2.2.2 k_) ?_
      refine P1.iconst X0.here hx (4 : Int32) (hb hby at_31) rfl ?_
      refine P1.istore X0.here hx #[.val (.long q0), .second, .val (.long q1), .second, .val (.int p2), .val (.int (p2 &&& (7 : Int32))), .val (.int (4 : Int32)), .unset, .unset, .unset, .unset, .unset] (hb hby at_32) rfl ?_
      exact J34 (p2 &&& (7 : Int32)) (4 : Int32) s₁ _ X0 e0 N0
    ·
      refine Goes.step (T' := s₁) (g' := (mkF m 34 #[.val (.long q0), .second, .val (.long q1), .second, .val (.int p2), .val (.int (p2 &&& (7 : Int32))), .val (.int (((p2.toUInt32 >>> ((3 : Int32) &&& 31).toUInt32).toInt32) &&& (7 : Int32))), .unset, .unset, .unset, .unset, .unset] [])) (fun t_ k_ => XS.icmpYes X0.here hx rfl (pc0 := 28) (pc' := 34) rfl (hb hby at_28) rfl (flt (hk1 : ¬ ((4 : Int32) < (((p2.toUInt32 >>> ((3 : Int32) &&& 31).toUInt32).toInt32) &&& (7 : Int32))))).2.2.2 (by decide) (by decide) k_) ?_
      exact J34 (p2 &&& (7 : Int32)) (((p2.toUInt32 >>> ((3 : Int32) &&& 31).toUInt32).toInt32) &&& (7 : Int32)) s₁ _ X0 e0 N0
set_option maxRecDepth 65536 in
set_option maxHeartbeats 40000000 in
theorem comes_1 {Post : Tables → Env → Array Value → State → Outcome → State → Prop} (hpost : ∀ tb e args s v u, (limb_1_1.after args s (.returned v) u = true ∧ limb_1_2.after args s (.returned v) u = true ∧ True) → ReturnedEndW s (.returned v) u (Jvm.fieldLocs frame_1_writes args s ++ Jvm.arrayLocs frame_1_arrays args s ++ Jvm.staticLocs frame_1_statics s) 24 1152 → Post tb e args s (.returned v) u) :
    ArmFor flags0 classFile x code maxLocals ret World_1 tables_1 room_1 Calls_1 rest_1 Pre_1 Post := by
  intro l hfl _ _ p e ha hc hk s m args below hf hA hF happ hP
  obtain ⟨hcalls, hrest, hpre⟩ := hP
  obtain ⟨-, -, -, hnamed, -, -, -, hat⟩ := (Spec.applies_iff hf).mp happ
  obtain ⟨hg, hn⟩ := and_e (Cond.before_iff.mp (show (Jvm.Cond.and given_1 narrow_1).before args s = true from hpre))
  obtain ⟨hg0, hg1⟩ := and_e hg
  obtain ⟨ha0, hgr0⟩ := and_e hg1
  obtain ⟨ha1, hgr1⟩ := and_e hgr0
  obtain ⟨w0, w1, w2, rfl⟩ : ∃ w0 w1 w2 : Value, args = #[w0, w1, w2] := by
    have hs : args.size = 3 := by simpa [Cond.value, given_1] using hg0
    obtain ⟨L⟩ := args
    match L, hs with
    | [w0, w1, w2], _ => exact ⟨w0, w1, w2, rfl⟩
  have hw := fun d (hd : d ∈ tables_1) => atoms_spec (ws := Jvm.Cond.code x code maxLocals ret :: tables_1) hat d (List.mem_cons_of_mem _ hd)
  have hfit : Fit s := fun {y c} hc i hi => by
    obtain ⟨ha, rfl⟩ := Array.getElem?_eq_some_iff.mp hc
    have q := List.all_eq_true.mp ((Array.all_eq_true_iff_forall_mem.mp hF) _ (Array.getElem_mem ha)) i (List.mem_range.mpr hi)
    simpa [Array.getElem?_eq_getElem hi] using q
  obtain ⟨hsets, hown0⟩ := atoms_of _ (rest_1_c_eq ▸ (show rest_1_c.before _ s = true from hrest))
  obtain ⟨i0, ei0⟩ := isL_v ha0
  obtain rfl : w0 = (.long i0) := Option.some.inj ei0
  obtain ⟨i1, ei1⟩ := isL_v ha1
  obtain rfl : w1 = (.long i1) := Option.some.inj ei1
  obtain ⟨i2, ei2⟩ := is_v hgr1
  obtain rfl : w2 = (.int i2) := Option.some.inj ei2
  obtain ⟨hn0, hr0⟩ := and_e hn
  obtain ⟨ck, ev_ck⟩ := exa_v hn0
  have S_CLOCK : Sta s s.heap "com/example/obligation/obligation/Attributes" "CLOCK" "Lcom/example/obligation/obligation/EntityAttribute;" (.ref ck) := Sta.start ev_ck (Or.inr ⟨(own_w hw 43 rfl), (own_w hw 46 rfl)⟩)
  have E_ck : Exa s s.heap ck "com/example/obligation/obligation/EntityAttribute" := Exa.start ev_ck hn0
  obtain ⟨hn1, hr1⟩ := and_e hr0
  obtain ⟨sn, ev_sn⟩ := exa_v hn1
  have F_ck_name : Fld s s.heap ck "com/example/obligation/obligation/EntityAttribute" "name" "Ljava/lang/String;" (.ref sn) := own_fld ev_ck ev_sn
  have E_sn : Exa s s.heap sn "java/lang/String" := Exa.start ev_sn hn1
  obtain ⟨hn2, hr2⟩ := and_e hr1
  have F_sn_coder : Fld s s.heap sn "java/lang/String" "coder" "B" (.int (0 : Int32)) := own_fld ev_sn (own_eqV hn2 (Term.int_eval _) (Or.inl ⟨_, rfl⟩))
  obtain ⟨hn3, hr3⟩ := and_e hr2
  obtain ⟨tn, ev_tn⟩ := arr_v hn3
  have F_sn_value : Fld s s.heap sn "java/lang/String" "value" "[B" (.ref tn) := own_fld ev_sn ev_tn
  obtain ⟨cl_tn, Ar_tn⟩ := Arr.start ev_tn hn3
  obtain ⟨hn4, hr4⟩ := and_e hr3
  obtain ⟨lt_tn, le_tn⟩ := own_len Ar_tn ev_tn hn4
  obtain ⟨hn5, hr5⟩ := and_e hr4
  have el_tn_0 := own_elem Ar_tn ev_tn (own_eqV hn5 (Term.int_eval _) (Or.inl ⟨_, rfl⟩))
  obtain ⟨hn6, hr6⟩ := and_e hr5
  have el_tn_1 := own_elem Ar_tn ev_tn (own_eqV hn6 (Term.int_eval _) (Or.inl ⟨_, rfl⟩))
  obtain ⟨hn7, hr7⟩ := and_e hr6
  have el_tn_2 := own_elem Ar_tn ev_tn (own_eqV hn7 (Term.int_eval _) (Or.inl ⟨_, rfl⟩))
  obtain ⟨hn8, hr8⟩ := and_e hr7
  have el_tn_3 := own_elem Ar_tn ev_tn (own_eqV hn8 (Term.int_eval _) (Or.inl ⟨_, rfl⟩))
  obtain ⟨hn9, hr9⟩ := and_e hr8
  obtain ⟨se, ev_se⟩ := exa_v hn9
  have F_ck_entity : Fld s s.heap ck "com/example/obligation/obligation/EntityAttribute" "entity" "Ljava/lang/String;" (.ref se) := own_fld ev_ck ev_se
  have E_se : Exa s s.heap se "java/lang/String" := Exa.start ev_se hn9
  obtain ⟨hn10, hr10⟩ := and_e hr9
  have F_se_coder : Fld s s.heap se "java/lang/String" "coder" "B" (.int (0 : Int32)) := own_fld ev_se (own_eqV hn10 (Term.int_eval _) (Or.inl ⟨_, rfl⟩))
  obtain ⟨hn11, hr11⟩ := and_e hr10
  obtain ⟨te, ev_te⟩ := arr_v hn11
  have F_se_value : Fld s s.heap se "java/lang/String" "value" "[B" (.ref te) := own_fld ev_se ev_te
  obtain ⟨cl_te, Ar_te⟩ := Arr.start ev_te hn11
  obtain ⟨hn12, hr12⟩ := and_e hr11
  obtain ⟨lt_te, le_te⟩ := own_len Ar_te ev_te hn12
  obtain ⟨hn13, hr13⟩ := and_e hr12
  have el_te_0 := own_elem Ar_te ev_te (own_eqV hn13 (Term.int_eval _) (Or.inl ⟨_, rfl⟩))
  obtain ⟨hn14, hr14⟩ := and_e hr13
  have el_te_1 := own_elem Ar_te ev_te (own_eqV hn14 (Term.int_eval _) (Or.inl ⟨_, rfl⟩))
  have el_te_2 := own_elem Ar_te ev_te (own_eqV hr14 (Term.int_eval _) (Or.inl ⟨_, rfl⟩))
  obtain ⟨k_tn, ek_tn⟩ : ∃ k, k = cl_tn.cls := ⟨_, rfl⟩
  have V_tn : Arv s s.heap tn k_tn .byte (4 : Int32) [(.int (116 : Int32)), (.int (105 : Int32)), (.int (109 : Int32)), (.int (101 : Int32))] (.int (0 : Int32)) := by rw [ek_tn]; exact Arv.start hfit Ar_tn lt_tn le_tn (by decide) rfl ⟨el_tn_0, el_tn_1, el_tn_2, el_tn_3, trivial⟩
  obtain ⟨k_te, ek_te⟩ : ∃ k, k = cl_te.cls := ⟨_, rfl⟩
  have V_te : Arv s s.heap te k_te .byte (3 : Int32) [(.int (101 : Int32)), (.int (110 : Int32)), (.int (118 : Int32))] (.int (0 : Int32)) := by rw [ek_te]; exact Arv.start hfit Ar_te lt_te le_te (by decide) rfl ⟨el_te_0, el_te_1, el_te_2, trivial⟩
  obtain ⟨zc, ev_zc⟩ := is_v (Cond.before_iff.mp (hsets _ (List.mem_of_getElem? (i := 1) rfl)))
  have S_CS : Sta s s.heap "java/lang/String" "COMPACT_STRINGS" "Z" (.int zc) := Sta.start ev_zc (Or.inl (hsets _ (List.mem_of_getElem? (i := 0) rfl)))
  have hzc : ¬ zc = 0 := gotF (Cond.eq_ints ev_zc (Term.int_eval (0))) (not_v (Cond.before_iff.mp (hsets _ (List.mem_of_getElem? (i := 2) rfl))))
  obtain ⟨fm, ev_fm, hfm⟩ := isR_v (Cond.before_iff.mp (hsets _ (List.mem_of_getElem? (i := 8) rfl)))
  have S_FM : Sta s s.heap "jdk/internal/util/Preconditions" "SIOOBE_FORMATTER" "Ljava/util/function/BiFunction;" fm := Sta.start ev_fm (Or.inl (hsets _ (List.mem_of_getElem? (i := 7) rfl)))
  have hCH : CHv s EL1 s.vm s.heap := CHv.start (own_EL hw) (fun p hp => hcalls.1 p hp) (hsets _ (List.mem_of_getElem? (i := 2) rfl)) (own_w hw 23 rfl) (own_w hw 9 rfl)
  obtain ⟨n, o, h1, h2, h3, _, L, rfl, ⟨rfl, N⟩, -, hq⟩ := rm0 l s _ hw tables_1 i0 i1 i2 ck sn tn se te k_tn k_te zc fm s.heap s.heap.size (Nat.le_refl _) (Old.start s) S_CLOCK E_ck F_ck_name E_sn F_sn_coder F_sn_value F_ck_entity E_se F_se_coder F_se_value V_tn V_te S_CS hzc S_FM hfm p e ha hc hk s m _ below hf ((Spec.applies_iff_loose hf).mp happ).1 ⟨rfl, State.Warmed39.refl s, rfl, hCH⟩ trivial
  refine ⟨n, _, h1, h2, h3, hpost _ _ _ _ _ _ ⟨Cond.after_iff.mpr rfl, Cond.after_iff.mpr (eq_i res_at (Term.int_eval (1)) rfl), trivial⟩ ⟨hq.1, hq.2.1, hq.2.2.1, (hq.2.2.2.sift fun y hy => Or.inr (N y hy)).mono (ok rfl) (ok rfl)⟩⟩
theorem main_1_1 : Claimed_1_1 := comes_1 fun _ _ _ _ _ _ h hF => ⟨h.1, hF⟩
theorem main_1_2 : Claimed_1_2 := comes_1 fun _ _ _ _ _ _ h hF => ⟨h.2.1, hF⟩
end Jvm.Pilot.@@N@@
namespace Jvm.Pilot.@@N@@
open Jvm Jvm.ClassFile Sem Op Lib Jvm.Free Jvm.Stand Jvm.Pilot.@@N@@.Jvm.D
/-! MADE BY PROGRAM (witnessworld.py) out of the Statement's table words and the real class files: 22 classes; the members and pool entries that the words name. The judged class is class 1, her method 1. -/
namespace start1
open Jvm.ClassFile
def u (s : String) : CpInfo := .utf8 (stringToUtf16 s)
/-- a pool by its gaps: so many unusable entries, then the entry; so many at the end -/
def gap : Nat → List CpInfo → List CpInfo
  | 0, r => r
  | n + 1, r => .unusable :: gap n r
def poolList (es : List (Nat × CpInfo)) (last : Nat) : List CpInfo := es.foldr (fun e r => gap e.1 (e.2 :: r)) (gap last [])
def pool (es : List (Nat × CpInfo)) (last : Nat) : Array CpInfo := ⟨poolList es last⟩
def fileOf (pool : Array CpInfo) (this : Nat) (attrs : Array Attribute := #[]) (ms : Array MethodInfo := #[]) (fl : Nat := 33) (sup : Nat := 0) (ifs : Array Nat := #[]) (fds : Array FieldInfo := #[]) : ClassFile where
  minorVersion := 0
  majorVersion := 65
  constantPool := pool
  accessFlags := fl
  thisClass := this
  superClass := sup
  interfaces := ifs
  fields := fds
  methods := ms
  attributes := attrs
def plain (name : String) (sup : Option ClassId) : Class where
  name := name
  kind := .ordinary
  loader := none
  accessFlags := 33
  super := sup
  interfaces := #[]
  cf := none
  fields := #[]
  methods := #[]
  instanceTypes := #[]
  staticTypes := #[]
  resolved := #[]
  callSites := []
  init := .initialized
  statics := none
  mirror := none

def pool0 : Array CpInfo := pool [(5, u "<init>"), (0, u "()V"), (1, .class_ 10), (1, u "java/lang/Object")] 113

def k0c0 : Code := { maxStack := 0, maxLocals := 1, code := object_method_1_code, exceptionTable := #[], attributes := #[] }
def k0m0 : Method := { name := "<init>", desc := "()V", sig := { parameters := [], returnType := none }, accessFlags := 1, code := some k0c0 }
/-- java/lang/Object -/
def k0 : Class := { plain "java/lang/Object" none with
  accessFlags := 33
  interfaces := #[]
  cf := some (fileOf pool0 8 #[] #[{ accessFlags := 1, nameIndex := 5, descriptorIndex := 6, attributes := #[] }] 33 0 #[] #[])
  fields := #[]
  methods := #[k0m0]
  instanceTypes := #[]
  staticTypes := #[]
  resolved := Array.replicate 124 none
  statics := none }

def pool1 : Array CpInfo := pool [(2, .class_ 4), (1, u "java/lang/Object"), (0, u "<init>"), (0, u "()V"), (0, .methodref 8 9), (0, .class_ 10), (0, .nameAndType 11 12), (0, u "com/example/obligation/obligation/AttributesIsClockPinLaw"), (0, u "pick"), (0, u "(JIC)C"), (0, .methodref 8 14), (0, .nameAndType 15 16), (0, u "make"), (0, u "(CCCCI)Ljava/lang/String;"), (0, .methodref 18 19), (0, .class_ 20), (0, .nameAndType 21 22), (0, u "java/lang/String"), (0, u "length"), (0, u "()I"), (0, .methodref 18 24), (0, .nameAndType 25 26), (0, u "charAt"), (0, u "(I)C"), (0, .interfaceMethodref 28 29), (0, .class_ 30), (0, .nameAndType 31 32), (0, u "com/example/obligation/obligation/Attributes"), (0, u "isClock"), (0, u "(Ljava/lang/String;Ljava/lang/String;)Z"), (0, .long 255), (1, .methodref 18 36), (0, .nameAndType 5 37), (0, u "([C)V"), (2, u "law"), (0, u "(JJI)Z")] 3

def k1m0 : Method := { name := "<init>", desc := "()V", sig := { parameters := [], returnType := none }, accessFlags := 1, code := none }
def k1c1 : Code := { maxStack := 7, maxLocals := 12, code := code, exceptionTable := #[], attributes := #[] }
def k1m1 : Method := { name := "law", desc := "(JJI)Z", sig := { parameters := [.long, .long, .int], returnType := some .boolean }, accessFlags := 9, code := some k1c1 }
def k1c2 : Code := { maxStack := 4, maxLocals := 4, code := method_3_code, exceptionTable := #[], attributes := #[] }
def k1m2 : Method := { name := "pick", desc := "(JIC)C", sig := { parameters := [.long, .int, .char], returnType := some .char }, accessFlags := 10, code := some k1c2 }
def k1c3 : Code := { maxStack := 6, maxLocals := 5, code := method_4_code, exceptionTable := #[], attributes := #[] }
def k1m3 : Method := { name := "make", desc := "(CCCCI)Ljava/lang/String;", sig := { parameters := [.char, .char, .char, .char, .int], returnType := some (.object "java/lang/String") }, accessFlags := 10, code := some k1c3 }
/-- com/example/obligation/obligation/AttributesIsClockPinLaw -/
def k1 : Class := { plain "com/example/obligation/obligation/AttributesIsClockPinLaw" (some 0) with
  accessFlags := 49
  interfaces := #[]
  cf := some (fileOf pool1 8 #[] #[{ accessFlags := 1, nameIndex := 5, descriptorIndex := 6, attributes := #[] }, { accessFlags := 9, nameIndex := 40, descriptorIndex := 41, attributes := #[] }, { accessFlags := 10, nameIndex := 11, descriptorIndex := 12, attributes := #[] }, { accessFlags := 10, nameIndex := 15, descriptorIndex := 16, attributes := #[] }] 49 2 #[] #[])
  fields := #[]
  methods := #[k1m0, k1m1, k1m2, k1m3]
  instanceTypes := #[]
  staticTypes := #[]
  resolved := Array.replicate 45 none
  statics := none }

def pool2 : Array CpInfo := pool [(1, .class_ 2), (0, u "java/io/Serializable"), (0, .class_ 4), (0, u "java/lang/Object")] 2

/-- java/io/Serializable -/
def k2 : Class := { plain "java/io/Serializable" (some 0) with
  accessFlags := 1537
  interfaces := #[]
  cf := some (fileOf pool2 1 #[] #[] 1537 3 #[] #[])
  fields := #[]
  methods := #[]
  instanceTypes := #[]
  staticTypes := #[]
  resolved := Array.replicate 7 none
  statics := none }

def pool3 : Array CpInfo := pool [(1, .class_ 2), (0, u "java/lang/Comparable"), (0, .class_ 4), (0, u "java/lang/Object")] 7

/-- java/lang/Comparable -/
def k3 : Class := { plain "java/lang/Comparable" (some 0) with
  accessFlags := 1537
  interfaces := #[]
  cf := some (fileOf pool3 1 #[] #[] 1537 3 #[] #[])
  fields := #[]
  methods := #[]
  instanceTypes := #[]
  staticTypes := #[]
  resolved := Array.replicate 12 none
  statics := none }

def pool4 : Array CpInfo := pool [(2, .class_ 4), (1, u "java/lang/CharSequence"), (42, .class_ 48), (0, u "java/lang/CharSequence$1CodePointIterator"), (10, .class_ 60), (0, u "java/lang/CharSequence$1CharIterator"), (5, .class_ 67), (0, u "java/lang/Object")] 63

/-- java/lang/CharSequence -/
def k4 : Class := { plain "java/lang/CharSequence" (some 0) with
  accessFlags := 1537
  interfaces := #[]
  cf := some (fileOf pool4 2 #[.nestMembers #[47, 59]] #[] 1537 66 #[] #[])
  fields := #[]
  methods := #[]
  instanceTypes := #[]
  staticTypes := #[]
  resolved := Array.replicate 131 none
  statics := none }

def pool5 : Array CpInfo := pool [(1, .class_ 2), (0, u "java/lang/constant/Constable"), (0, .class_ 4), (0, u "java/lang/Object")] 6

/-- java/lang/constant/Constable -/
def k5 : Class := { plain "java/lang/constant/Constable" (some 0) with
  accessFlags := 1537
  interfaces := #[]
  cf := some (fileOf pool5 1 #[] #[] 1537 3 #[] #[])
  fields := #[]
  methods := #[]
  instanceTypes := #[]
  staticTypes := #[]
  resolved := Array.replicate 11 none
  statics := none }

def pool6 : Array CpInfo := pool [(1, .class_ 2), (0, u "java/lang/constant/ConstantDesc"), (0, .class_ 4), (0, u "java/lang/Object")] 32

/-- java/lang/constant/ConstantDesc -/
def k6 : Class := { plain "java/lang/constant/ConstantDesc" (some 0) with
  accessFlags := 1537
  interfaces := #[]
  cf := some (fileOf pool6 1 #[] #[] 1537 3 #[] #[])
  fields := #[]
  methods := #[]
  instanceTypes := #[]
  staticTypes := #[]
  resolved := Array.replicate 37 none
  statics := none }

def pool7 : Array CpInfo := pool [(1, .methodref 2 3), (0, .class_ 4), (0, .nameAndType 5 6), (0, u "java/lang/Object"), (0, u "<init>"), (0, u "()V"), (0, .string 8), (0, u ""), (0, .fieldref 10 11), (0, .class_ 12), (0, .nameAndType 13 14), (0, u "java/lang/String"), (0, u "value"), (0, u "[B"), (0, .fieldref 10 16), (0, .nameAndType 17 18), (0, u "coder"), (0, u "B"), (2, u "hash"), (0, u "I"), (2, u "hashIsZero"), (0, u "Z"), (0, .methodref 10 28), (0, .nameAndType 5 29), (0, u "([CIILjava/lang/Void;)V"), (8, .fieldref 10 39), (0, .nameAndType 40 26), (0, u "COMPACT_STRINGS"), (1, .class_ 44), (1, u "java/lang/StringUTF16"), (0, u "compress"), (1, .methodref 42 48), (0, .nameAndType 49 50), (0, u "coderFromArrayLen"), (0, u "([BI)B"), (56, .class_ 109), (1, u "java/lang/StringLatin1"), (32, u "()Z"), (34, .methodref 42 178), (0, .nameAndType 45 179), (0, u "([CII)[B"), (154, u "()I"), (0, .methodref 10 336), (0, .nameAndType 17 337), (0, u "()B"), (25, u "([BI)C"), (27, u "(II)V"), (35, u "(I)C"), (64, .methodref 10 493), (0, .nameAndType 494 142), (0, u "isLatin1"), (0, .methodref 107 496), (0, .nameAndType 497 363), (0, u "charAt"), (3, u "checkIndex"), (5, u "length"), (33, .methodref 107 542), (0, .nameAndType 543 544), (0, u "equals"), (0, u "([B[B)Z"), (28, u "(Ljava/lang/Object;)Z"), (1, .class_ 576), (0, u "java/lang/CharSequence"), (22, u "CASE_INSENSITIVE_ORDER"), (0, u "Ljava/util/Comparator;"), (409, u "([C)V"), (42, .fieldref 1054 1055), (0, .class_ 1056), (0, .nameAndType 1057 1058), (0, u "jdk/internal/util/Preconditions"), (0, u "SIOOBE_FORMATTER"), (0, u "Ljava/util/function/BiFunction;"), (0, .methodref 1054 1060), (0, .nameAndType 501 1061), (0, u "(IILjava/util/function/BiFunction;)I"), (39, u "serialPersistentFields"), (0, u "[Ljava/io/ObjectStreamField;"), (0, .class_ 1104), (0, u "java/lang/String$CaseInsensitiveComparator"), (1, .class_ 1107), (0, u "java/io/Serializable"), (0, .class_ 1109), (0, u "java/lang/Comparable"), (0, .class_ 1111), (0, u "java/lang/constant/Constable"), (0, .class_ 1113), (0, u "java/lang/constant/ConstantDesc"), (2, u "serialVersionUID"), (0, u "J"), (3, u "REPL"), (0, u "C"), (2, u "LATIN1"), (1, u "UTF16")] 323

def k7m0 : Method := { name := "<init>", desc := "()V", sig := { parameters := [], returnType := none }, accessFlags := 1, code := none }
def k7c1 : Code := { maxStack := 5, maxLocals := 2, code := jdk_42_method_3_code, exceptionTable := #[], attributes := #[] }
def k7m1 : Method := { name := "<init>", desc := "([C)V", sig := { parameters := [(.array .char)], returnType := none }, accessFlags := 1, code := some k7c1 }
def k7c2 : Code := { maxStack := 2, maxLocals := 1, code := jdk_42_method_54_code, exceptionTable := #[], attributes := #[] }
def k7m2 : Method := { name := "length", desc := "()I", sig := { parameters := [], returnType := some .int }, accessFlags := 1, code := some k7c2 }
def k7c3 : Code := { maxStack := 2, maxLocals := 2, code := jdk_42_method_56_code, exceptionTable := #[], attributes := #[] }
def k7m3 : Method := { name := "charAt", desc := "(I)C", sig := { parameters := [.int], returnType := some .char }, accessFlags := 1, code := some k7c3 }
def k7c4 : Code := { maxStack := 2, maxLocals := 3, code := jdk_42_method_66_code, exceptionTable := #[], attributes := #[] }
def k7m4 : Method := { name := "equals", desc := "(Ljava/lang/Object;)Z", sig := { parameters := [(.object "java/lang/Object")], returnType := some .boolean }, accessFlags := 1, code := some k7c4 }
def k7c5 : Code := { maxStack := 4, maxLocals := 6, code := jdk_42_method_149_code, exceptionTable := #[], attributes := #[] }
def k7m5 : Method := { name := "<init>", desc := "([CIILjava/lang/Void;)V", sig := { parameters := [(.array .char), .int, .int, (.object "java/lang/Void")], returnType := none }, accessFlags := 2, code := some k7c5 }
def k7c6 : Code := { maxStack := 1, maxLocals := 1, code := jdk_42_method_152_code, exceptionTable := #[], attributes := #[] }
def k7m6 : Method := { name := "coder", desc := "()B", sig := { parameters := [], returnType := some .byte }, accessFlags := 0, code := some k7c6 }
def k7c7 : Code := { maxStack := 1, maxLocals := 1, code := jdk_42_method_154_code, exceptionTable := #[], attributes := #[] }
def k7m7 : Method := { name := "isLatin1", desc := "()Z", sig := { parameters := [], returnType := some .boolean }, accessFlags := 0, code := some k7c7 }
def k7c8 : Code := { maxStack := 3, maxLocals := 2, code := jdk_42_method_155_code, exceptionTable := #[], attributes := #[] }
def k7m8 : Method := { name := "checkIndex", desc := "(II)V", sig := { parameters := [.int, .int], returnType := none }, accessFlags := 8, code := some k7c8 }
/-- java/lang/String -/
def k7 : Class := { plain "java/lang/String" (some 0) with
  accessFlags := 49
  interfaces := #[2, 3, 4, 5, 6]
  cf := some (fileOf pool7 10 #[.nestMembers #[1103]] #[{ accessFlags := 1, nameIndex := 5, descriptorIndex := 6, attributes := #[] }, { accessFlags := 1, nameIndex := 5, descriptorIndex := 1010, attributes := #[] }, { accessFlags := 1, nameIndex := 507, descriptorIndex := 334, attributes := #[] }, { accessFlags := 1, nameIndex := 497, descriptorIndex := 427, attributes := #[] }, { accessFlags := 1, nameIndex := 543, descriptorIndex := 573, attributes := #[] }, { accessFlags := 2, nameIndex := 5, descriptorIndex := 29, attributes := #[] }, { accessFlags := 0, nameIndex := 17, descriptorIndex := 337, attributes := #[] }, { accessFlags := 0, nameIndex := 494, descriptorIndex := 142, attributes := #[] }, { accessFlags := 8, nameIndex := 501, descriptorIndex := 391, attributes := #[] }] 49 2 #[1106, 1108, 575, 1110, 1112] #[{ accessFlags := 18, nameIndex := 13, descriptorIndex := 14, attributes := #[] }, { accessFlags := 18, nameIndex := 17, descriptorIndex := 18, attributes := #[] }, { accessFlags := 2, nameIndex := 21, descriptorIndex := 22, attributes := #[] }, { accessFlags := 2, nameIndex := 25, descriptorIndex := 26, attributes := #[] }, { accessFlags := 26, nameIndex := 1116, descriptorIndex := 1117, attributes := #[] }, { accessFlags := 24, nameIndex := 40, descriptorIndex := 26, attributes := #[] }, { accessFlags := 26, nameIndex := 1101, descriptorIndex := 1102, attributes := #[] }, { accessFlags := 26, nameIndex := 1121, descriptorIndex := 1122, attributes := #[] }, { accessFlags := 25, nameIndex := 599, descriptorIndex := 600, attributes := #[] }, { accessFlags := 24, nameIndex := 1125, descriptorIndex := 18, attributes := #[] }, { accessFlags := 24, nameIndex := 1127, descriptorIndex := 18, attributes := #[] }])
  fields := #[{ name := "value", type := (.array .byte), accessFlags := 18, slot := 0, constantValue := 0 }, { name := "coder", type := .byte, accessFlags := 18, slot := 1, constantValue := 0 }, { name := "hash", type := .int, accessFlags := 2, slot := 2, constantValue := 0 }, { name := "hashIsZero", type := .boolean, accessFlags := 2, slot := 3, constantValue := 0 }, { name := "serialVersionUID", type := .long, accessFlags := 26, slot := 0, constantValue := 0 }, { name := "COMPACT_STRINGS", type := .boolean, accessFlags := 24, slot := 1, constantValue := 0 }, { name := "serialPersistentFields", type := (.array (.object "java/io/ObjectStreamField")), accessFlags := 26, slot := 2, constantValue := 0 }, { name := "REPL", type := .char, accessFlags := 26, slot := 3, constantValue := 0 }, { name := "CASE_INSENSITIVE_ORDER", type := (.object "java/util/Comparator"), accessFlags := 25, slot := 4, constantValue := 0 }, { name := "LATIN1", type := .byte, accessFlags := 24, slot := 5, constantValue := 0 }, { name := "UTF16", type := .byte, accessFlags := 24, slot := 6, constantValue := 0 }]
  methods := #[k7m0, k7m1, k7m2, k7m3, k7m4, k7m5, k7m6, k7m7, k7m8]
  instanceTypes := #[(.array .byte), .byte, .int, .boolean]
  staticTypes := #[.long, .boolean, (.array (.object "java/io/ObjectStreamField")), .char, (.object "java/util/Comparator"), .byte, .byte]
  resolved := Array.replicate 1451 none
  statics := some 0 }

def pool8 : Array CpInfo := pool [(1, .class_ 2), (0, u "com/example/obligation/obligation/Attributes"), (2, .methodref 6 7), (0, .class_ 8), (0, .nameAndType 9 10), (0, u "java/lang/String"), (0, u "equals"), (0, u "(Ljava/lang/Object;)Z"), (4, u "isClock"), (0, u "(Ljava/lang/String;Ljava/lang/String;)Z"), (2, .fieldref 1 20), (0, .nameAndType 21 22), (0, u "CLOCK"), (0, u "Lcom/example/obligation/obligation/EntityAttribute;"), (0, .methodref 24 25), (0, .class_ 26), (0, .nameAndType 27 28), (0, u "com/example/obligation/obligation/EntityAttribute"), (0, u "name"), (0, u "()Ljava/lang/String;"), (0, .methodref 24 30), (0, .nameAndType 31 28), (0, u "entity"), (10, .class_ 43), (0, u "java/lang/Object"), (0, u "ID"), (0, u "Ljava/lang/String;")] 12

def k8c0 : Code := { maxStack := 2, maxLocals := 2, code := prog_4_method_3_code, exceptionTable := #[], attributes := #[] }
def k8m0 : Method := { name := "isClock", desc := "(Ljava/lang/String;Ljava/lang/String;)Z", sig := { parameters := [(.object "java/lang/String"), (.object "java/lang/String")], returnType := some .boolean }, accessFlags := 9, code := some k8c0 }
/-- com/example/obligation/obligation/Attributes -/
def k8 : Class := { plain "com/example/obligation/obligation/Attributes" (some 0) with
  accessFlags := 1536
  interfaces := #[]
  cf := some (fileOf pool8 1 #[] #[{ accessFlags := 9, nameIndex := 15, descriptorIndex := 16, attributes := #[] }] 1536 42 #[] #[{ accessFlags := 25, nameIndex := 44, descriptorIndex := 45, attributes := #[] }, { accessFlags := 25, nameIndex := 21, descriptorIndex := 22, attributes := #[] }])
  fields := #[{ name := "ID", type := (.object "java/lang/String"), accessFlags := 25, slot := 0, constantValue := 0 }, { name := "CLOCK", type := (.object "com/example/obligation/obligation/EntityAttribute"), accessFlags := 25, slot := 1, constantValue := 0 }]
  methods := #[k8m0]
  instanceTypes := #[]
  staticTypes := #[(.object "java/lang/String"), (.object "com/example/obligation/obligation/EntityAttribute")]
  resolved := Array.replicate 58 none
  statics := some 1 }

def pool9 : Array CpInfo := pool [(2, .class_ 4), (1, u "java/lang/Object"), (0, u "<init>"), (0, u "()V"), (0, .class_ 8), (0, u "java/lang/Record")] 13

def k9m0 : Method := { name := "<init>", desc := "()V", sig := { parameters := [], returnType := none }, accessFlags := 4, code := none }
/-- java/lang/Record -/
def k9 : Class := { plain "java/lang/Record" (some 0) with
  accessFlags := 1057
  interfaces := #[]
  cf := some (fileOf pool9 7 #[] #[{ accessFlags := 4, nameIndex := 5, descriptorIndex := 6, attributes := #[] }] 1057 2 #[] #[])
  fields := #[]
  methods := #[k9m0]
  instanceTypes := #[]
  staticTypes := #[]
  resolved := Array.replicate 22 none
  statics := none }

def pool10 : Array CpInfo := pool [(2, .class_ 4), (1, u "java/lang/Record"), (2, .fieldref 8 9), (0, .class_ 10), (0, .nameAndType 11 12), (0, u "com/example/obligation/obligation/EntityAttribute"), (0, u "entity"), (0, u "Ljava/lang/String;"), (0, .fieldref 8 14), (0, .nameAndType 15 12), (0, u "name"), (7, u "()Ljava/lang/String;")] 56

def k10c0 : Code := { maxStack := 1, maxLocals := 1, code := prog_8_method_6_code, exceptionTable := #[], attributes := #[] }
def k10m0 : Method := { name := "entity", desc := "()Ljava/lang/String;", sig := { parameters := [], returnType := some (.object "java/lang/String") }, accessFlags := 1, code := some k10c0 }
def k10c1 : Code := { maxStack := 1, maxLocals := 1, code := prog_8_method_7_code, exceptionTable := #[], attributes := #[] }
def k10m1 : Method := { name := "name", desc := "()Ljava/lang/String;", sig := { parameters := [], returnType := some (.object "java/lang/String") }, accessFlags := 1, code := some k10c1 }
/-- com/example/obligation/obligation/EntityAttribute -/
def k10 : Class := { plain "com/example/obligation/obligation/EntityAttribute" (some 9) with
  accessFlags := 48
  interfaces := #[]
  cf := some (fileOf pool10 8 #[] #[{ accessFlags := 1, nameIndex := 11, descriptorIndex := 23, attributes := #[] }, { accessFlags := 1, nameIndex := 15, descriptorIndex := 23, attributes := #[] }] 48 2 #[] #[{ accessFlags := 18, nameIndex := 11, descriptorIndex := 12, attributes := #[] }, { accessFlags := 18, nameIndex := 15, descriptorIndex := 12, attributes := #[] }])
  fields := #[{ name := "entity", type := (.object "java/lang/String"), accessFlags := 18, slot := 0, constantValue := 0 }, { name := "name", type := (.object "java/lang/String"), accessFlags := 18, slot := 1, constantValue := 0 }]
  methods := #[k10m0, k10m1]
  instanceTypes := #[(.object "java/lang/String"), (.object "java/lang/String")]
  staticTypes := #[]
  resolved := Array.replicate 80 none
  statics := none }

def pool11 : Array CpInfo := pool [(1, .class_ 2), (0, u "java/lang/String"), (1, .class_ 6), (1, u "java/lang/Object"), (0, u "<init>"), (0, u "()V"), (0, .methodref 1 10), (0, .nameAndType 11 12), (0, u "checkIndex"), (0, u "(II)V"), (1, .class_ 16), (1, u "java/lang/StringLatin1"), (36, u "([BI)C"), (67, u "$assertionsDisabled"), (0, u "Z"), (98, .class_ 223), (1, u "java/lang/StringLatin1$LinesSpliterator"), (28, u "charAt"), (28, u "equals"), (0, u "([B[B)Z"), (107, .class_ 391), (0, u "java/lang/StringLatin1$CharsSpliterator")] 3

def k11m0 : Method := { name := "<init>", desc := "()V", sig := { parameters := [], returnType := none }, accessFlags := 0, code := none }
def k11c1 : Code := { maxStack := 2, maxLocals := 2, code := jdk_43_method_2_code, exceptionTable := #[], attributes := #[] }
def k11m1 : Method := { name := "charAt", desc := "([BI)C", sig := { parameters := [(.array .byte), .int], returnType := some .char }, accessFlags := 9, code := some k11c1 }
def k11c2 : Code := { maxStack := 3, maxLocals := 3, code := jdk_43_method_13_code, exceptionTable := #[], attributes := #[] }
def k11m2 : Method := { name := "equals", desc := "([B[B)Z", sig := { parameters := [(.array .byte), (.array .byte)], returnType := some .boolean }, accessFlags := 9, code := some k11c2 }
/-- java/lang/StringLatin1 -/
def k11 : Class := { plain "java/lang/StringLatin1" (some 0) with
  accessFlags := 48
  interfaces := #[]
  cf := some (fileOf pool11 14 #[.nestMembers #[390, 221]] #[{ accessFlags := 0, nameIndex := 7, descriptorIndex := 8, attributes := #[] }, { accessFlags := 9, nameIndex := 252, descriptorIndex := 53, attributes := #[] }, { accessFlags := 9, nameIndex := 281, descriptorIndex := 282, attributes := #[] }] 48 4 #[] #[{ accessFlags := 4120, nameIndex := 121, descriptorIndex := 122, attributes := #[] }])
  fields := #[{ name := "$assertionsDisabled", type := .boolean, accessFlags := 4120, slot := 0, constantValue := 0 }]
  methods := #[k11m0, k11m1, k11m2]
  instanceTypes := #[]
  staticTypes := #[.boolean]
  resolved := Array.replicate 395 none
  statics := none }

def pool12 : Array CpInfo := pool [(6, .class_ 8), (1, u "java/lang/Object"), (0, u "<init>"), (0, u "()V"), (1, .class_ 14), (1, u "java/lang/StringUTF16"), (31, u "$assertionsDisabled"), (0, u "Z"), (13, u "HI_BYTE_SHIFT"), (0, u "I"), (2, u "LO_BYTE_SHIFT"), (49, .methodref 12 116), (0, .nameAndType 117 118), (0, u "compress"), (0, u "([CI[BII)I"), (3, u "([CII)[B"), (138, u "coderFromArrayLen"), (0, u "([BI)B"), (106, .class_ 371), (1, u "java/lang/StringUTF16$LinesSpliterator"), (58, u "MAX_LENGTH"), (196, .class_ 628), (0, u "java/lang/StringUTF16$CodePointsSpliterator"), (0, .class_ 630), (0, u "java/lang/StringUTF16$CharsSpliterator")] 4

def k12m0 : Method := { name := "<init>", desc := "()V", sig := { parameters := [], returnType := none }, accessFlags := 0, code := none }
def k12c1 : Code := { maxStack := 2, maxLocals := 2, code := jdk_52_method_15_code, exceptionTable := #[], attributes := #[] }
def k12m1 : Method := { name := "coderFromArrayLen", desc := "([BI)B", sig := { parameters := [(.array .byte), .int], returnType := some .byte }, accessFlags := 8, code := some k12c1 }
def k12c2 : Code := { maxStack := 5, maxLocals := 6, code := jdk_52_method_16_code, exceptionTable := #[], attributes := #[] }
def k12m2 : Method := { name := "compress", desc := "([CII)[B", sig := { parameters := [(.array .char), .int, .int], returnType := some (.array .byte) }, accessFlags := 9, code := some k12c2 }
def k12c3 : Code := { maxStack := 3, maxLocals := 7, code := jdk_52_method_21_code, exceptionTable := #[], attributes := #[] }
def k12m3 : Method := { name := "compress", desc := "([CI[BII)I", sig := { parameters := [(.array .char), .int, (.array .byte), .int, .int], returnType := some .int }, accessFlags := 9, code := some k12c3 }
/-- java/lang/StringUTF16 -/
def k12 : Class := { plain "java/lang/StringUTF16" (some 0) with
  accessFlags := 48
  interfaces := #[]
  cf := some (fileOf pool12 12 #[.nestMembers #[627, 629, 369]] #[{ accessFlags := 0, nameIndex := 9, descriptorIndex := 10, attributes := #[] }, { accessFlags := 8, nameIndex := 261, descriptorIndex := 262, attributes := #[] }, { accessFlags := 9, nameIndex := 117, descriptorIndex := 122, attributes := #[] }, { accessFlags := 9, nameIndex := 117, descriptorIndex := 118, attributes := #[] }] 48 6 #[] #[{ accessFlags := 26, nameIndex := 61, descriptorIndex := 62, attributes := #[] }, { accessFlags := 26, nameIndex := 65, descriptorIndex := 62, attributes := #[] }, { accessFlags := 24, nameIndex := 430, descriptorIndex := 62, attributes := #[] }, { accessFlags := 4120, nameIndex := 46, descriptorIndex := 47, attributes := #[] }])
  fields := #[{ name := "HI_BYTE_SHIFT", type := .int, accessFlags := 26, slot := 0, constantValue := 0 }, { name := "LO_BYTE_SHIFT", type := .int, accessFlags := 26, slot := 1, constantValue := 0 }, { name := "MAX_LENGTH", type := .int, accessFlags := 24, slot := 2, constantValue := 0 }, { name := "$assertionsDisabled", type := .boolean, accessFlags := 4120, slot := 3, constantValue := 0 }]
  methods := #[k12m0, k12m1, k12m2, k12m3]
  instanceTypes := #[]
  staticTypes := #[.int, .int, .int, .boolean]
  resolved := Array.replicate 635 none
  statics := none }

def pool13 : Array CpInfo := pool [(2, .class_ 4), (1, u "java/lang/Object"), (0, u "<init>"), (0, u "()V"), (17, .class_ 26), (1, u "jdk/internal/util/Preconditions"), (6, u "checkIndex"), (21, .class_ 56), (0, u "jdk/internal/util/Preconditions$4"), (57, .class_ 115), (0, u "jdk/internal/util/Preconditions$1"), (7, u "SIOOBE_FORMATTER"), (0, u "Ljava/util/function/BiFunction;"), (0, .class_ 126), (0, u "jdk/internal/util/Preconditions$2"), (3, u "AIOOBE_FORMATTER"), (0, .class_ 132), (0, u "jdk/internal/util/Preconditions$3"), (3, u "IOOBE_FORMATTER"), (41, u "(IILjava/util/function/BiFunction;)I")] 15

def k13m0 : Method := { name := "<init>", desc := "()V", sig := { parameters := [], returnType := none }, accessFlags := 1, code := none }
def k13c1 : Code := { maxStack := 3, maxLocals := 3, code := jdk_41_method_11_code, exceptionTable := #[], attributes := #[] }
def k13m1 : Method := { name := "checkIndex", desc := "(IILjava/util/function/BiFunction;)I", sig := { parameters := [.int, .int, (.object "java/util/function/BiFunction")], returnType := some .int }, accessFlags := 9, code := some k13c1 }
/-- jdk/internal/util/Preconditions -/
def k13 : Class := { plain "jdk/internal/util/Preconditions" (some 0) with
  accessFlags := 33
  interfaces := #[]
  cf := some (fileOf pool13 24 #[.nestMembers #[55, 131, 125, 114]] #[{ accessFlags := 1, nameIndex := 5, descriptorIndex := 6, attributes := #[] }, { accessFlags := 9, nameIndex := 33, descriptorIndex := 178, attributes := #[] }] 33 2 #[] #[{ accessFlags := 25, nameIndex := 123, descriptorIndex := 124, attributes := #[] }, { accessFlags := 25, nameIndex := 130, descriptorIndex := 124, attributes := #[] }, { accessFlags := 25, nameIndex := 136, descriptorIndex := 124, attributes := #[] }])
  fields := #[{ name := "SIOOBE_FORMATTER", type := (.object "java/util/function/BiFunction"), accessFlags := 25, slot := 0, constantValue := 0 }, { name := "AIOOBE_FORMATTER", type := (.object "java/util/function/BiFunction"), accessFlags := 25, slot := 1, constantValue := 0 }, { name := "IOOBE_FORMATTER", type := (.object "java/util/function/BiFunction"), accessFlags := 25, slot := 2, constantValue := 0 }]
  methods := #[k13m0, k13m1]
  instanceTypes := #[]
  staticTypes := #[(.object "java/util/function/BiFunction"), (.object "java/util/function/BiFunction"), (.object "java/util/function/BiFunction")]
  resolved := Array.replicate 194 none
  statics := some 2 }

def pool14 : Array CpInfo := pool [(9, u "<init>"), (6, .class_ 18), (1, u "java/lang/Object"), (0, u "()V"), (1, .class_ 23), (1, u "jdk/internal/util/ArraysSupport"), (0, u "LOG2_ARRAY_LONG_INDEX_SCALE"), (0, u "I"), (2, u "U"), (0, u "Ljdk/internal/misc/Unsafe;"), (8, u "BIG_ENDIAN"), (0, u "Z"), (8, u "LOG2_BYTE_BIT_SIZE"), (4, u "LOG2_ARRAY_INT_INDEX_SCALE"), (54, u "JLA"), (0, u "Ljdk/internal/access/JavaLangAccess;"), (11, u "LOG2_ARRAY_BOOLEAN_INDEX_SCALE"), (9, u "LOG2_ARRAY_BYTE_INDEX_SCALE"), (5, u "LOG2_ARRAY_CHAR_INDEX_SCALE"), (5, u "LOG2_ARRAY_SHORT_INDEX_SCALE"), (18, u "LOG2_ARRAY_FLOAT_INDEX_SCALE"), (24, u "LOG2_ARRAY_DOUBLE_INDEX_SCALE"), (89, u "T_BOOLEAN"), (2, u "T_CHAR"), (1, u "T_FLOAT"), (1, u "T_DOUBLE"), (1, u "T_BYTE"), (1, u "T_SHORT"), (1, u "T_INT"), (1, u "T_LONG"), (1, u "SOFT_MAX_ARRAY_LENGTH")] 83

def k14m0 : Method := { name := "<init>", desc := "()V", sig := { parameters := [], returnType := none }, accessFlags := 2, code := none }
/-- jdk/internal/util/ArraysSupport -/
def k14 : Class := { plain "jdk/internal/util/ArraysSupport" (some 0) with
  accessFlags := 33
  interfaces := #[]
  cf := some (fileOf pool14 21 #[] #[{ accessFlags := 2, nameIndex := 9, descriptorIndex := 19, attributes := #[] }] 33 16 #[] #[{ accessFlags := 24, nameIndex := 28, descriptorIndex := 29, attributes := #[] }, { accessFlags := 26, nameIndex := 38, descriptorIndex := 39, attributes := #[] }, { accessFlags := 25, nameIndex := 121, descriptorIndex := 25, attributes := #[] }, { accessFlags := 25, nameIndex := 131, descriptorIndex := 25, attributes := #[] }, { accessFlags := 25, nameIndex := 137, descriptorIndex := 25, attributes := #[] }, { accessFlags := 25, nameIndex := 143, descriptorIndex := 25, attributes := #[] }, { accessFlags := 25, nameIndex := 53, descriptorIndex := 25, attributes := #[] }, { accessFlags := 25, nameIndex := 24, descriptorIndex := 25, attributes := #[] }, { accessFlags := 25, nameIndex := 162, descriptorIndex := 25, attributes := #[] }, { accessFlags := 25, nameIndex := 187, descriptorIndex := 25, attributes := #[] }, { accessFlags := 26, nameIndex := 48, descriptorIndex := 25, attributes := #[] }, { accessFlags := 25, nameIndex := 277, descriptorIndex := 25, attributes := #[] }, { accessFlags := 25, nameIndex := 280, descriptorIndex := 25, attributes := #[] }, { accessFlags := 25, nameIndex := 282, descriptorIndex := 25, attributes := #[] }, { accessFlags := 25, nameIndex := 284, descriptorIndex := 25, attributes := #[] }, { accessFlags := 25, nameIndex := 286, descriptorIndex := 25, attributes := #[] }, { accessFlags := 25, nameIndex := 288, descriptorIndex := 25, attributes := #[] }, { accessFlags := 25, nameIndex := 290, descriptorIndex := 25, attributes := #[] }, { accessFlags := 25, nameIndex := 292, descriptorIndex := 25, attributes := #[] }, { accessFlags := 26, nameIndex := 108, descriptorIndex := 109, attributes := #[] }, { accessFlags := 25, nameIndex := 294, descriptorIndex := 25, attributes := #[] }])
  fields := #[{ name := "U", type := (.object "jdk/internal/misc/Unsafe"), accessFlags := 24, slot := 0, constantValue := 0 }, { name := "BIG_ENDIAN", type := .boolean, accessFlags := 26, slot := 1, constantValue := 0 }, { name := "LOG2_ARRAY_BOOLEAN_INDEX_SCALE", type := .int, accessFlags := 25, slot := 2, constantValue := 0 }, { name := "LOG2_ARRAY_BYTE_INDEX_SCALE", type := .int, accessFlags := 25, slot := 3, constantValue := 0 }, { name := "LOG2_ARRAY_CHAR_INDEX_SCALE", type := .int, accessFlags := 25, slot := 4, constantValue := 0 }, { name := "LOG2_ARRAY_SHORT_INDEX_SCALE", type := .int, accessFlags := 25, slot := 5, constantValue := 0 }, { name := "LOG2_ARRAY_INT_INDEX_SCALE", type := .int, accessFlags := 25, slot := 6, constantValue := 0 }, { name := "LOG2_ARRAY_LONG_INDEX_SCALE", type := .int, accessFlags := 25, slot := 7, constantValue := 0 }, { name := "LOG2_ARRAY_FLOAT_INDEX_SCALE", type := .int, accessFlags := 25, slot := 8, constantValue := 0 }, { name := "LOG2_ARRAY_DOUBLE_INDEX_SCALE", type := .int, accessFlags := 25, slot := 9, constantValue := 0 }, { name := "LOG2_BYTE_BIT_SIZE", type := .int, accessFlags := 26, slot := 10, constantValue := 0 }, { name := "T_BOOLEAN", type := .int, accessFlags := 25, slot := 11, constantValue := 0 }, { name := "T_CHAR", type := .int, accessFlags := 25, slot := 12, constantValue := 0 }, { name := "T_FLOAT", type := .int, accessFlags := 25, slot := 13, constantValue := 0 }, { name := "T_DOUBLE", type := .int, accessFlags := 25, slot := 14, constantValue := 0 }, { name := "T_BYTE", type := .int, accessFlags := 25, slot := 15, constantValue := 0 }, { name := "T_SHORT", type := .int, accessFlags := 25, slot := 16, constantValue := 0 }, { name := "T_INT", type := .int, accessFlags := 25, slot := 17, constantValue := 0 }, { name := "T_LONG", type := .int, accessFlags := 25, slot := 18, constantValue := 0 }, { name := "JLA", type := (.object "jdk/internal/access/JavaLangAccess"), accessFlags := 26, slot := 19, constantValue := 0 }, { name := "SOFT_MAX_ARRAY_LENGTH", type := .int, accessFlags := 25, slot := 20, constantValue := 0 }]
  methods := #[k14m0]
  instanceTypes := #[]
  staticTypes := #[(.object "jdk/internal/misc/Unsafe"), .boolean, .int, .int, .int, .int, .int, .int, .int, .int, .int, .int, .int, .int, .int, .int, .int, .int, .int, (.object "jdk/internal/access/JavaLangAccess"), .int]
  resolved := Array.replicate 378 none
  statics := none }

def pool15 : Array CpInfo := pool [(1, u "java/lang/Cloneable"), (0, .class_ 1), (0, u "java/lang/Object"), (0, .class_ 3)] 3

/-- java/lang/Cloneable -/
def k15 : Class := { plain "java/lang/Cloneable" (some 0) with
  accessFlags := 1537
  interfaces := #[]
  cf := some (fileOf pool15 2 #[] #[] 1537 4 #[] #[])
  fields := #[]
  methods := #[]
  instanceTypes := #[]
  staticTypes := #[]
  resolved := Array.replicate 8 none
  statics := none }

/-- the primitive byte -/
def k16 : Class := { plain "byte" none with kind := .primitive 'B', accessFlags := 0x411 }
/-- [B -/
def k17 : Class := { plain "[B" (some 0) with kind := .array 16 .byte, interfaces := #[15, 2], accessFlags := 1041 }

/-- the primitive char -/
def k18 : Class := { plain "char" none with kind := .primitive 'C', accessFlags := 0x411 }
/-- [C -/
def k19 : Class := { plain "[C" (some 0) with kind := .array 18 .char, interfaces := #[15, 2], accessFlags := 1041 }

/-- the primitive int -/
def k20 : Class := { plain "int" none with kind := .primitive 'I', accessFlags := 0x411 }
/-- [I -/
def k21 : Class := { plain "[I" (some 0) with kind := .array 20 .int, interfaces := #[15, 2], accessFlags := 1041 }

def heap : Heap := #[{ cls := 7, slots := #[.long 0, .int 1, .null, .int 0, .null, .int 0, .int 0], vm := .statics 7 },
  { cls := 8, slots := #[.null, .ref 3], vm := .statics 8 },
  { cls := 13, slots := #[.null, .null, .null], vm := .statics 13 },
  { cls := 10, slots := #[.ref 4, .ref 5], vm := .none },
  { cls := 7, slots := #[.ref 6, .int 0, .int 0, .int 0], vm := .none },
  { cls := 7, slots := #[.ref 7, .int 0, .int 0, .int 0], vm := .none },
  { cls := 17, slots := #[.int 101, .int 110, .int 118], vm := .none },
  { cls := 17, slots := #[.int 116, .int 105, .int 109, .int 101], vm := .none }]
def classes : Array Class := #[k0, k1, k2, k3, k4, k5, k6, k7, k8, k9, k10, k11, k12, k13, k14, k15, k16, k17, k18, k19, k20, k21]
def interned : List (Array UInt16 × Addr) := []
def slotsUsed : Nat := 29
def theMethod : MethodId := ⟨1, 1⟩
def args0 : Array Value := #[.long 3, .long 5, .int 1]
def aboutOver (below : List Frame) : State where
  vm := { classes := classes, interned := interned.toArray }
  heap := heap
  slotsUsed := slotsUsed
  threads := #[{ frames := .invoking theMethod args0 :: below }]
def below0 : List Frame := [.native { method := ⟨0, 0⟩, args := #[] }]
def about1 : State := aboutOver below0
def p0 : Program := .bare "" "" ""
def e0 : Env := launch0.env 0 0 0
theorem w_frames : about1.frames = Frame.invoking theMethod args0 :: below0 := rfl
set_option maxRecDepth 65536 in
theorem w_args : argsFit about1.vm theMethod args0 = true := by decide +kernel
set_option maxRecDepth 65536 in
theorem w_heap : heapFits about1 = true := by decide +kernel
set_option maxRecDepth 65536 in
theorem w_runnable : about1.curStatus? = some .runnable := by decide +kernel
set_option maxRecDepth 65536 in
theorem w_alone : about1.alone = true := by decide +kernel
set_option maxRecDepth 65536 in
theorem w_named : about1.methodNamed? x = some theMethod := by decide +kernel
set_option maxRecDepth 65536 in
theorem w_hears : about1.hears theMethod below0 = true := by decide +kernel
set_option maxRecDepth 65536 in
theorem w_ripe : about1.ripe theMethod args0 below0 = true := by decide +kernel
theorem w_running : about1.status = .running := rfl
set_option maxRecDepth 65536 in
theorem w_room : about1.hasRoom e0.platform room_1 = true :=
  launch0.hasRoom_least _ room_1 (by decide +kernel) (by decide +kernel) (by decide +kernel) (by decide +kernel) (by decide +kernel) (by decide +kernel)
theorem allAtoms_all (ts : List Jvm.Cond) (a : Array Jvm.Value) (st : Jvm.State) : (allAtoms ts).before a st = ts.all (fun c => c.before a st) := by
  induction ts with
  | nil => rfl
  | cons c t ih =>
    show (Jvm.Cond.and c (allAtoms t)).before a st = _
    rw [Jvm.Cond.before_and, ih, List.all_cons]
def words1 : List Jvm.Cond := Jvm.Cond.code x code maxLocals ret :: tables_1
/-- a 'code' word, met by the world's own term for the bytes: nothing is compared byte by byte -/
theorem code_word {y : MethodName} {bytes : ByteArray} {mx : Nat} {rt : Option FieldType} {a : Array Value} {s : State} {m : MethodId} {meth : Method} {c : Code} (h1 : s.methodNamed? y = some m) (h2 : s.vm.method? m = some meth) (h3 : meth.code = some c) (h4 : c.code = bytes)
    (h5 : (c.maxLocals == mx && c.exceptionTable.isEmpty && decide (c.maxStack ≤ mostOperands) && decide (meth.sig.returnType = rt) && !meth.locks && decide (parseMethodDescriptor y.desc = some meth.sig)) = true) : (Jvm.Cond.code y bytes mx rt).before a s = true := by
  simp only [Bool.and_eq_true, beq_iff_eq, Bool.not_eq_true', decide_eq_true_eq] at h5
  obtain ⟨⟨⟨⟨⟨g1, g2⟩, g3⟩, g4⟩, g5⟩, g6⟩ := h5
  simp [Cond.before, Cond.holds, Cond.value, h1, h2, h3, h4, g1, g2, g3, g4, g5, g6]
def isCode : Jvm.Cond → Bool
  | .code _ _ _ _ => true
  | _ => false
theorem all_split {L : List Jvm.Cond} {P : Jvm.Cond → Bool} (h1 : L.all (fun c => isCode c || P c) = true) (h2 : ∀ c ∈ L.filter isCode, P c = true) : L.all P = true := by
  refine List.all_eq_true.mpr fun c hc => ?_
  have h := List.all_eq_true.mp h1 c hc
  rcases Bool.eq_false_or_eq_true (isCode c) with hi | hi
  · exact h2 c (List.mem_filter.mpr ⟨hc, hi⟩)
  · simpa [hi] using h
set_option maxRecDepth 65536 in
theorem w_c0 : (Jvm.Cond.code x code maxLocals ret).before args0 about1 = true := code_word (m := ⟨1, 1⟩) (meth := k1m1) (c := k1c1) (by decide +kernel) rfl rfl rfl (by decide +kernel)
set_option maxRecDepth 65536 in
theorem w_c1 : (Jvm.Cond.code ({ cls := "com/example/obligation/obligation/AttributesIsClockPinLaw", name := "pick", desc := "(JIC)C" } : Jvm.MethodName) method_3_code (4 : Nat) (Option.some Jvm.ClassFile.FieldType.char)).before args0 about1 = true := code_word (m := ⟨1, 2⟩) (meth := k1m2) (c := k1c2) (by decide +kernel) rfl rfl rfl (by decide +kernel)
set_option maxRecDepth 65536 in
theorem w_c2 : (Jvm.Cond.code ({ cls := "com/example/obligation/obligation/AttributesIsClockPinLaw", name := "make", desc := "(CCCCI)Ljava/lang/String;" } : Jvm.MethodName) method_4_code (5 : Nat) (Option.some (Jvm.ClassFile.FieldType.object "java/lang/String"))).before args0 about1 = true := code_word (m := ⟨1, 3⟩) (meth := k1m3) (c := k1c3) (by decide +kernel) rfl rfl rfl (by decide +kernel)
set_option maxRecDepth 65536 in
theorem w_c3 : (Jvm.Cond.code ({ cls := "java/lang/String", name := "<init>", desc := "([C)V" } : Jvm.MethodName) jdk_42_method_3_code (2 : Nat) (Option.none : Option Jvm.ClassFile.FieldType)).before args0 about1 = true := code_word (m := ⟨7, 1⟩) (meth := k7m1) (c := k7c1) (by decide +kernel) rfl rfl rfl (by decide +kernel)
set_option maxRecDepth 65536 in
theorem w_c4 : (Jvm.Cond.code ({ cls := "java/lang/String", name := "<init>", desc := "([CIILjava/lang/Void;)V" } : Jvm.MethodName) jdk_42_method_149_code (6 : Nat) (Option.none : Option Jvm.ClassFile.FieldType)).before args0 about1 = true := code_word (m := ⟨7, 5⟩) (meth := k7m5) (c := k7c5) (by decide +kernel) rfl rfl rfl (by decide +kernel)
set_option maxRecDepth 65536 in
theorem w_c5 : (Jvm.Cond.code ({ cls := "java/lang/Object", name := "<init>", desc := "()V" } : Jvm.MethodName) object_method_1_code (1 : Nat) (Option.none : Option Jvm.ClassFile.FieldType)).before args0 about1 = true := code_word (m := ⟨0, 0⟩) (meth := k0m0) (c := k0c0) (by decide +kernel) rfl rfl rfl (by decide +kernel)
set_option maxRecDepth 65536 in
theorem w_c6 : (Jvm.Cond.code ({ cls := "java/lang/String", name := "length", desc := "()I" } : Jvm.MethodName) jdk_42_method_54_code (1 : Nat) (Option.some Jvm.ClassFile.FieldType.int)).before args0 about1 = true := code_word (m := ⟨7, 2⟩) (meth := k7m2) (c := k7c2) (by decide +kernel) rfl rfl rfl (by decide +kernel)
set_option maxRecDepth 65536 in
theorem w_c7 : (Jvm.Cond.code ({ cls := "java/lang/String", name := "coder", desc := "()B" } : Jvm.MethodName) jdk_42_method_152_code (1 : Nat) (Option.some Jvm.ClassFile.FieldType.byte)).before args0 about1 = true := code_word (m := ⟨7, 6⟩) (meth := k7m6) (c := k7c6) (by decide +kernel) rfl rfl rfl (by decide +kernel)
set_option maxRecDepth 65536 in
theorem w_c8 : (Jvm.Cond.code ({ cls := "com/example/obligation/obligation/Attributes", name := "isClock", desc := "(Ljava/lang/String;Ljava/lang/String;)Z" } : Jvm.MethodName) prog_4_method_3_code (2 : Nat) (Option.some Jvm.ClassFile.FieldType.boolean)).before args0 about1 = true := code_word (m := ⟨8, 0⟩) (meth := k8m0) (c := k8c0) (by decide +kernel) rfl rfl rfl (by decide +kernel)
set_option maxRecDepth 65536 in
theorem w_c9 : (Jvm.Cond.code ({ cls := "com/example/obligation/obligation/EntityAttribute", name := "name", desc := "()Ljava/lang/String;" } : Jvm.MethodName) prog_8_method_7_code (1 : Nat) (Option.some (Jvm.ClassFile.FieldType.object "java/lang/String"))).before args0 about1 = true := code_word (m := ⟨10, 1⟩) (meth := k10m1) (c := k10c1) (by decide +kernel) rfl rfl rfl (by decide +kernel)
set_option maxRecDepth 65536 in
theorem w_c10 : (Jvm.Cond.code ({ cls := "java/lang/String", name := "equals", desc := "(Ljava/lang/Object;)Z" } : Jvm.MethodName) jdk_42_method_66_code (3 : Nat) (Option.some Jvm.ClassFile.FieldType.boolean)).before args0 about1 = true := code_word (m := ⟨7, 4⟩) (meth := k7m4) (c := k7c4) (by decide +kernel) rfl rfl rfl (by decide +kernel)
set_option maxRecDepth 65536 in
theorem w_c11 : (Jvm.Cond.code ({ cls := "java/lang/StringLatin1", name := "equals", desc := "([B[B)Z" } : Jvm.MethodName) jdk_43_method_13_code (3 : Nat) (Option.some Jvm.ClassFile.FieldType.boolean)).before args0 about1 = true := code_word (m := ⟨11, 2⟩) (meth := k11m2) (c := k11c2) (by decide +kernel) rfl rfl rfl (by decide +kernel)
set_option maxRecDepth 65536 in
theorem w_c12 : (Jvm.Cond.code ({ cls := "java/lang/StringUTF16", name := "compress", desc := "([CII)[B" } : Jvm.MethodName) jdk_52_method_16_code (6 : Nat) (Option.some (Jvm.ClassFile.FieldType.array Jvm.ClassFile.FieldType.byte))).before args0 about1 = true := code_word (m := ⟨12, 2⟩) (meth := k12m2) (c := k12c2) (by decide +kernel) rfl rfl rfl (by decide +kernel)
set_option maxRecDepth 65536 in
theorem w_c13 : (Jvm.Cond.code ({ cls := "java/lang/StringUTF16", name := "compress", desc := "([CI[BII)I" } : Jvm.MethodName) jdk_52_method_21_code (7 : Nat) (Option.some Jvm.ClassFile.FieldType.int)).before args0 about1 = true := code_word (m := ⟨12, 3⟩) (meth := k12m3) (c := k12c3) (by decide +kernel) rfl rfl rfl (by decide +kernel)
set_option maxRecDepth 65536 in
theorem w_c14 : (Jvm.Cond.code ({ cls := "java/lang/StringUTF16", name := "coderFromArrayLen", desc := "([BI)B" } : Jvm.MethodName) jdk_52_method_15_code (2 : Nat) (Option.some Jvm.ClassFile.FieldType.byte)).before args0 about1 = true := code_word (m := ⟨12, 1⟩) (meth := k12m1) (c := k12c1) (by decide +kernel) rfl rfl rfl (by decide +kernel)
set_option maxRecDepth 65536 in
theorem w_c15 : (Jvm.Cond.code ({ cls := "java/lang/String", name := "charAt", desc := "(I)C" } : Jvm.MethodName) jdk_42_method_56_code (2 : Nat) (Option.some Jvm.ClassFile.FieldType.char)).before args0 about1 = true := code_word (m := ⟨7, 3⟩) (meth := k7m3) (c := k7c3) (by decide +kernel) rfl rfl rfl (by decide +kernel)
set_option maxRecDepth 65536 in
theorem w_c16 : (Jvm.Cond.code ({ cls := "java/lang/String", name := "isLatin1", desc := "()Z" } : Jvm.MethodName) jdk_42_method_154_code (1 : Nat) (Option.some Jvm.ClassFile.FieldType.boolean)).before args0 about1 = true := code_word (m := ⟨7, 7⟩) (meth := k7m7) (c := k7c7) (by decide +kernel) rfl rfl rfl (by decide +kernel)
set_option maxRecDepth 65536 in
theorem w_c17 : (Jvm.Cond.code ({ cls := "java/lang/StringLatin1", name := "charAt", desc := "([BI)C" } : Jvm.MethodName) jdk_43_method_2_code (2 : Nat) (Option.some Jvm.ClassFile.FieldType.char)).before args0 about1 = true := code_word (m := ⟨11, 1⟩) (meth := k11m1) (c := k11c1) (by decide +kernel) rfl rfl rfl (by decide +kernel)
set_option maxRecDepth 65536 in
theorem w_c18 : (Jvm.Cond.code ({ cls := "java/lang/String", name := "checkIndex", desc := "(II)V" } : Jvm.MethodName) jdk_42_method_155_code (2 : Nat) (Option.none : Option Jvm.ClassFile.FieldType)).before args0 about1 = true := code_word (m := ⟨7, 8⟩) (meth := k7m8) (c := k7c8) (by decide +kernel) rfl rfl rfl (by decide +kernel)
set_option maxRecDepth 65536 in
theorem w_c19 : (Jvm.Cond.code ({ cls := "jdk/internal/util/Preconditions", name := "checkIndex", desc := "(IILjava/util/function/BiFunction;)I" } : Jvm.MethodName) jdk_41_method_11_code (3 : Nat) (Option.some Jvm.ClassFile.FieldType.int)).before args0 about1 = true := code_word (m := ⟨13, 1⟩) (meth := k13m1) (c := k13c1) (by decide +kernel) rfl rfl rfl (by decide +kernel)
set_option maxRecDepth 65536 in
theorem w_c20 : (Jvm.Cond.code ({ cls := "com/example/obligation/obligation/EntityAttribute", name := "entity", desc := "()Ljava/lang/String;" } : Jvm.MethodName) prog_8_method_6_code (1 : Nat) (Option.some (Jvm.ClassFile.FieldType.object "java/lang/String"))).before args0 about1 = true := code_word (m := ⟨10, 0⟩) (meth := k10m0) (c := k10c0) (by decide +kernel) rfl rfl rfl (by decide +kernel)
def codes1 : List Jvm.Cond := [Jvm.Cond.code x code maxLocals ret, Jvm.Cond.code ({ cls := "com/example/obligation/obligation/AttributesIsClockPinLaw", name := "pick", desc := "(JIC)C" } : Jvm.MethodName) method_3_code (4 : Nat) (Option.some Jvm.ClassFile.FieldType.char), Jvm.Cond.code ({ cls := "com/example/obligation/obligation/AttributesIsClockPinLaw", name := "make", desc := "(CCCCI)Ljava/lang/String;" } : Jvm.MethodName) method_4_code (5 : Nat) (Option.some (Jvm.ClassFile.FieldType.object "java/lang/String")), Jvm.Cond.code ({ cls := "java/lang/String", name := "<init>", desc := "([C)V" } : Jvm.MethodName) jdk_42_method_3_code (2 : Nat) (Option.none : Option Jvm.ClassFile.FieldType), Jvm.Cond.code ({ cls := "java/lang/String", name := "<init>", desc := "([CIILjava/lang/Void;)V" } : Jvm.MethodName) jdk_42_method_149_code (6 : Nat) (Option.none : Option Jvm.ClassFile.FieldType), Jvm.Cond.code ({ cls := "java/lang/Object", name := "<init>", desc := "()V" } : Jvm.MethodName) object_method_1_code (1 : Nat) (Option.none : Option Jvm.ClassFile.FieldType), Jvm.Cond.code ({ cls := "java/lang/String", name := "length", desc := "()I" } : Jvm.MethodName) jdk_42_method_54_code (1 : Nat) (Option.some Jvm.ClassFile.FieldType.int), Jvm.Cond.code ({ cls := "java/lang/String", name := "coder", desc := "()B" } : Jvm.MethodName) jdk_42_method_152_code (1 : Nat) (Option.some Jvm.ClassFile.FieldType.byte), Jvm.Cond.code ({ cls := "com/example/obligation/obligation/Attributes", name := "isClock", desc := "(Ljava/lang/String;Ljava/lang/String;)Z" } : Jvm.MethodName) prog_4_method_3_code (2 : Nat) (Option.some Jvm.ClassFile.FieldType.boolean), Jvm.Cond.code ({ cls := "com/example/obligation/obligation/EntityAttribute", name := "name", desc := "()Ljava/lang/String;" } : Jvm.MethodName) prog_8_method_7_code (1 : Nat) (Option.some (Jvm.ClassFile.FieldType.object "java/lang/String")), Jvm.Cond.code ({ cls := "java/lang/String", name := "equals", desc := "(Ljava/lang/Object;)Z" } : Jvm.MethodName) jdk_42_method_66_code (3 : Nat) (Option.some Jvm.ClassFile.FieldType.boolean), Jvm.Cond.code ({ cls := "java/lang/StringLatin1", name := "equals", desc := "([B[B)Z" } : Jvm.MethodName) jdk_43_method_13_code (3 : Nat) (Option.some Jvm.ClassFile.FieldType.boolean), Jvm.Cond.code ({ cls := "java/lang/StringUTF16", name := "compress", desc := "([CII)[B" } : Jvm.MethodName) jdk_52_method_16_code (6 : Nat) (Option.some (Jvm.ClassFile.FieldType.array Jvm.ClassFile.FieldType.byte)), Jvm.Cond.code ({ cls := "java/lang/StringUTF16", name := "compress", desc := "([CI[BII)I" } : Jvm.MethodName) jdk_52_method_21_code (7 : Nat) (Option.some Jvm.ClassFile.FieldType.int), Jvm.Cond.code ({ cls := "java/lang/StringUTF16", name := "coderFromArrayLen", desc := "([BI)B" } : Jvm.MethodName) jdk_52_method_15_code (2 : Nat) (Option.some Jvm.ClassFile.FieldType.byte), Jvm.Cond.code ({ cls := "java/lang/String", name := "charAt", desc := "(I)C" } : Jvm.MethodName) jdk_42_method_56_code (2 : Nat) (Option.some Jvm.ClassFile.FieldType.char), Jvm.Cond.code ({ cls := "java/lang/String", name := "isLatin1", desc := "()Z" } : Jvm.MethodName) jdk_42_method_154_code (1 : Nat) (Option.some Jvm.ClassFile.FieldType.boolean), Jvm.Cond.code ({ cls := "java/lang/StringLatin1", name := "charAt", desc := "([BI)C" } : Jvm.MethodName) jdk_43_method_2_code (2 : Nat) (Option.some Jvm.ClassFile.FieldType.char), Jvm.Cond.code ({ cls := "java/lang/String", name := "checkIndex", desc := "(II)V" } : Jvm.MethodName) jdk_42_method_155_code (2 : Nat) (Option.none : Option Jvm.ClassFile.FieldType), Jvm.Cond.code ({ cls := "jdk/internal/util/Preconditions", name := "checkIndex", desc := "(IILjava/util/function/BiFunction;)I" } : Jvm.MethodName) jdk_41_method_11_code (3 : Nat) (Option.some Jvm.ClassFile.FieldType.int), Jvm.Cond.code ({ cls := "com/example/obligation/obligation/EntityAttribute", name := "entity", desc := "()Ljava/lang/String;" } : Jvm.MethodName) prog_8_method_6_code (1 : Nat) (Option.some (Jvm.ClassFile.FieldType.object "java/lang/String"))]
set_option maxRecDepth 65536 in
theorem codes_eq : words1.filter isCode = codes1 := rfl
theorem w_codes : ∀ c ∈ words1.filter isCode, c.before args0 about1 = true := by
  rw [codes_eq]
  intro c hc
  simp only [codes1, List.mem_cons, List.not_mem_nil, or_false] at hc
  rcases hc with rfl | rfl | rfl | rfl | rfl | rfl | rfl | rfl | rfl | rfl | rfl | rfl | rfl | rfl | rfl | rfl | rfl | rfl | rfl | rfl | rfl
  · exact w_c0
  · exact w_c1
  · exact w_c2
  · exact w_c3
  · exact w_c4
  · exact w_c5
  · exact w_c6
  · exact w_c7
  · exact w_c8
  · exact w_c9
  · exact w_c10
  · exact w_c11
  · exact w_c12
  · exact w_c13
  · exact w_c14
  · exact w_c15
  · exact w_c16
  · exact w_c17
  · exact w_c18
  · exact w_c19
  · exact w_c20
set_option maxRecDepth 65536 in
theorem w_t1 : (words1.take 24).all (fun c => isCode c || c.before args0 about1) = true := by decide +kernel
set_option maxRecDepth 65536 in
theorem w_t2 : ((words1.drop 24).take 24).all (fun c => isCode c || c.before args0 about1) = true := by decide +kernel
set_option maxRecDepth 65536 in
theorem w_t3 : (((words1.drop 24).drop 24).take 24).all (fun c => isCode c || c.before args0 about1) = true := by decide +kernel
set_option maxRecDepth 65536 in
theorem w_t4 : ((((words1.drop 24).drop 24).drop 24).take 24).all (fun c => isCode c || c.before args0 about1) = true := by decide +kernel
set_option maxRecDepth 65536 in
theorem w_t5 : ((((words1.drop 24).drop 24).drop 24).drop 24).all (fun c => isCode c || c.before args0 about1) = true := by decide +kernel
theorem w_tables : (allAtoms (Jvm.Cond.code x code maxLocals ret :: tables_1)).before args0 about1 = true := by
  rw [allAtoms_all]
  show words1.all (fun c => c.before args0 about1) = true
  refine all_split ?_ w_codes
  rw [← List.take_append_drop 24 words1, List.all_append, w_t1, ← List.take_append_drop 24 (words1.drop 24), List.all_append, w_t2, ← List.take_append_drop 24 ((words1.drop 24).drop 24), List.all_append, w_t3, ← List.take_append_drop 24 (((words1.drop 24).drop 24).drop 24), List.all_append, w_t4, w_t5]
  rfl
set_option maxRecDepth 65536 in
theorem w_rest : rest_1_c.before args0 about1 = true := by decide +kernel
set_option maxRecDepth 65536 in
theorem w_case : (Jvm.Cond.and given_1 narrow_1).before args0 about1 = true := by decide +kernel
set_option maxRecDepth 65536 in
theorem w_consts : constsHeld consts_1 about1 := Jvm.Lit.constsHeldB_iff.mp (by decide +kernel)
theorem w_applies : (headSpec (Jvm.Cond.code x code maxLocals ret :: tables_1) room_1).applies x e0.platform about1 = true :=
  (Spec.applies_iff w_frames).mpr ⟨w_running, w_runnable, w_alone, w_named, w_hears, w_ripe, w_room, w_tables⟩
theorem atStart : AtStart classFile x code maxLocals ret World_1 tables_1 room_1 Calls_1 rest_1 Pre_1 launch0 p0 e0 about1 theMethod args0 below0 :=
  ⟨lists_1, trivial, launch0.admits_env _ _ _, launch0.least_env, fairChoices_fair.cas, fairChoices_fair.clock, w_frames, w_args, w_heap, w_applies, ⟨w_consts, trivial⟩, w_rest, w_case⟩
end start1
theorem witness_1 : WitnessClaimed_1 := ⟨start1.p0, start1.e0, start1.about1, start1.theMethod, start1.args0, start1.below0, start1.atStart⟩
end Jvm.Pilot.@@N@@
