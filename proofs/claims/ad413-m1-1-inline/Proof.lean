import JvmDerived
import JvmDerived.Pilot.@@N@@Statement
import JvmDerived.Pilot.@@N@@Code
set_option linter.unusedVariables false
set_option linter.unusedSimpArgs false
namespace Jvm.RoadKit
open Sem ClassFile Op Lib Jvm.Stand Jvm.Free Jvm.LawKit
section New
variable {p : Program} {l : Launch} {e : Env} {R : Room} {s : State} {m : MethodId} {args : Array Value} {below : List Frame} {meth : Method} {c : Code} {T : State} {locs : List Loc} {cells slots : Nat}
theorem retI (X : Stand p l e R s m args below meth c T locs cells slots) (hx : p.tables.exec = Jvm.exec) {pc : Nat} {Ls : Array Slot} {z : Int32} {rest : List Value} (hret : meth.sig.returnType = some .int) (hd : decode c.code pc = .ok (.ireturn, 1)) {fs : List Frame}
    (hl : ∀ (f : JFrame) (acts : List Action), f.method = m → f.locked = none → f.entered = [] → (doReturn e (T.setTop f) acts (some (.int z))).1 = T.setFrames fs) : Steps p.tables e below (T.setTop (mkF m pc Ls (.int z :: rest))) (T.setFrames fs) := by
  have hm' : T.vm.method? m = some meth := X.method'
  have hn : narrow .int (.int z) = .int z := rfl
  show Steps p.tables e below (T.setTop { method := m, pc := pc, locals := Ls, stack := _ :: rest, locked := none }) _
  jvm_step X.here [X.here.top, hx, hd, hm', hret, hn]
  first | (intro acts; rw [hl _ acts rfl rfl rfl]) | rw [hl _ _ rfl rfl rfl]
  exact Steps.refl _
end New
end Jvm.RoadKit
namespace Jvm.RoadKit
open Sem ClassFile Op Lib Jvm.Stand Jvm.Free Jvm.LawKit
section Own
variable {p : Program} {l : Launch} {e : Env} {R : Room} {s : State} {m : MethodId} {args : Array Value} {below : List Frame} {meth : Method} {c : Code} {T T' : State} {locs : List Loc} {cells slots : Nat} {Q : Option Value → Heap → List Loc → Prop} {F : Option Value → State → Prop} {kc ks : Nat} {g g' : JFrame} {Z : State} {a0 : Array Value} {h : Heap}
/-- the body that stands at T with the frame g comes to its end, and leaves what F says -/
def Goes (p : Program) (e : Env) (below : List Frame) (F : Option Value → State → Prop) (T : State) (g : JFrame) : Prop :=
  ∃ s₂ o, Steps p.tables e below (T.setTop g) s₂ ∧ s₂.status = .running ∧ Ended s₂ below o ∧ ∃ v, o = .returned v ∧ F v s₂
def EndQ (s : State) (Q : Option Value → Heap → List Loc → Prop) (kc ks : Nat) (v : Option Value) (t : State) : Prop := ∃ L, Q v t.heap L ∧ FrameEnd s (.returned v) t L kc ks
theorem Goes.give (h : Goes p e below (EndQ s Q kc ks) T g) : ∃ s₂ o, Steps p.tables e below (T.setTop g) s₂ ∧ s₂.status = .running ∧ Ended s₂ below o ∧ ∃ v L, o = .returned v ∧ Q v s₂.heap L ∧ FrameEnd s o s₂ L kc ks := by
  obtain ⟨s2, o, h1, h2, h3, v, rfl, L, h4, h5⟩ := h
  exact ⟨s2, _, h1, h2, h3, v, L, rfl, h4, h5⟩
theorem Goes.step (k : ∀ t, Steps p.tables e below (T'.setTop g') t → Steps p.tables e below (T.setTop g) t) (h : Goes p e below F T' g') : Goes p e below F T g := by
  obtain ⟨s2, o, h1, r⟩ := h
  exact ⟨s2, o, k _ h1, r⟩
theorem Goes.out {v : Option Value} (X : Stand p l e R s m args below meth c T locs cells slots) (hlk : meth.locks = false) (hv : meth.sig.returnType = none → v = none) (hq : Q v T.heap locs) (hc : cells ≤ kc) (hs : slots ≤ ks)
    (k : ∀ fs, (∀ (f : JFrame) (acts : List Action), f.method = m → f.locked = none → f.entered = [] → (doReturn e (T.setTop f) acts v).1 = T.setFrames fs) → Steps p.tables e below (T.setTop g) (T.setFrames fs)) : Goes p e below (EndQ s Q kc ks) T g := by
  obtain ⟨fs, hr, hrun, hended, hW, hsame⟩ := X.leave (v := v) hv hlk
  exact ⟨_, _, k fs hr, hrun, hended, _, rfl, _, hq, ⟨_, rfl⟩, hW, hsame.mono hc hs⟩
theorem Goes.retI (X : Stand p l e R s m args below meth c T locs cells slots) (hx : p.tables.exec = Jvm.exec) (hlk : meth.locks = false) {pc : Nat} {Ls : Array Slot} {z : Int32} {rest : List Value} (hret : meth.sig.returnType = some .int) (hd : decode c.code pc = .ok (.ireturn, 1))
    (hc : cells ≤ kc) (hs : slots ≤ ks) (hq : Q (some (.int z)) T.heap locs) : Goes p e below (EndQ s Q kc ks) T (mkF m pc Ls (.int z :: rest)) :=
  Goes.out X hlk (fun h => by rw [hret] at h; cases h) hq hc hs fun fs hr => RoadKit.retI X hx hret hd hr
theorem Goes.retN (X : Stand p l e R s m args below meth c T locs cells slots) (hx : p.tables.exec = Jvm.exec) (hlk : meth.locks = false) {pc : Nat} {Ls : Array Slot} {z : Int32} {t : FieldType} {rest : List Value} (hret : meth.sig.returnType = some t) (ht : t = .boolean ∨ t = .byte ∨ t = .char ∨ t = .short) (hd : decode c.code pc = .ok (.ireturn, 1))
    (hc : cells ≤ kc) (hs : slots ≤ ks) (hq : Q (some (.int (nar t z))) T.heap locs) : Goes p e below (EndQ s Q kc ks) T (mkF m pc Ls (.int z :: rest)) :=
  Goes.out X hlk (fun h => by rw [hret] at h; cases h) hq hc hs fun fs hr => RoadKit.retN X hx hret ht hd hr
theorem Goes.retA (X : Stand p l e R s m args below meth c T locs cells slots) (hx : p.tables.exec = Jvm.exec) (hlk : meth.locks = false) {pc : Nat} {Ls : Array Slot} {w : Value} {t : FieldType} {rest : List Value} (hret : meth.sig.returnType = some t) (ht : t.isReference = true) (hw : w.isRef = true) (hd : decode c.code pc = .ok (.areturn, 1))
    (hc : cells ≤ kc) (hs : slots ≤ ks) (hq : Q (some w) T.heap locs) : Goes p e below (EndQ s Q kc ks) T (mkF m pc Ls (w :: rest)) :=
  Goes.out X hlk (fun h => by rw [hret] at h; cases h) hq hc hs fun fs hr => RoadKit.retOut X hx hret (by cases w <;> cases t <;> first | rfl | (simp [FieldType.isReference] at ht) | (simp [Value.isRef] at hw)) (Or.inr (Or.inr (Or.inr (Or.inr ⟨rfl, ht, hw⟩)))) hd hr
theorem Goes.retJ (X : Stand p l e R s m args below meth c T locs cells slots) (hx : p.tables.exec = Jvm.exec) (hlk : meth.locks = false) {pc : Nat} {Ls : Array Slot} {z : Int64} {rest : List Value} (hret : meth.sig.returnType = some .long) (hd : decode c.code pc = .ok (.lreturn, 1))
    (hc : cells ≤ kc) (hs : slots ≤ ks) (hq : Q (some (.long z)) T.heap locs) : Goes p e below (EndQ s Q kc ks) T (mkF m pc Ls (.long z :: rest)) :=
  Goes.out X hlk (fun h => by rw [hret] at h; cases h) hq hc hs fun fs hr => RoadKit.retOut X hx hret rfl (Or.inr (Or.inl ⟨rfl, rfl, _, rfl⟩)) hd hr
theorem Goes.retV (X : Stand p l e R s m args below meth c T locs cells slots) (hx : p.tables.exec = Jvm.exec) (hlk : meth.locks = false) {pc : Nat} {Ls : Array Slot} (hret : meth.sig.returnType = none) (hd : decode c.code pc = .ok (.return_, 1))
    (hc : cells ≤ kc) (hs : slots ≤ ks) (hq : Q none T.heap locs) : Goes p e below (EndQ s Q kc ks) T (mkF m pc Ls []) :=
  Goes.out X hlk (fun _ => rfl) hq hc hs fun fs hr => X.returnOut hx hret hd hr
/-- a static call, by its callee's contract -/
theorem Goes.callS (X : Stand p l e R s m args below meth c T locs cells slots) (hx : p.tables.exec = Jvm.exec) {own : String} {index : Nat} {y : MethodName} {bytes : ByteArray} {maxL : Nat} {ret : Option FieldType}
    (hown : s.vm.findClass own = some m.cls) (hlink : (Cond.methodLink own index y).before args s = true) (hstat : (Cond.static y).before args s = true) (hinit : (Cond.initialized y.cls).before args s = true)
    (hcode : (Cond.code y bytes maxL ret).before args s = true) (hy : y.cls ≠ "java/lang/invoke/MethodHandle" ∧ y.cls ≠ "java/lang/invoke/VarHandle")
    {W : Nat} {as' : Array Value} {Qc : Option Value → Heap → List Loc → Prop} {kc' ks' : Nat}
    (hK : Back l R p e below s args y 3 W (fun A a => a = as' ∧ A.U.heap = h ∧ A.cells + kc' ≤ R.cells ∧ A.slots + ks' ≤ R.slots) (fun A _ v B => ∃ L, Qc v B.U.heap L ∧ B.locs = A.locs ++ L ∧ B.cells = A.cells + kc' ∧ B.slots = A.slots + ks'))
    (hg : g.method = m) (hsize : g.locals.size = c.maxLocals) {argsL rest : List Value} (hlen : ∀ sig, parseMethodDescriptor y.desc = some sig → argsL.length = sig.parameters.length)
    (hstack : g.stack = argsL.reverse ++ rest) (hW : 2 * g.monitorRoom + (rest.map fun v => v.category).sum ≤ W) (hdg : decode c.code g.pc = .ok (.invokestatic index, 3)) (ha : argsL.toArray = as') (eT : T.heap = h) (hc : cells + kc' ≤ R.cells) (hs : slots + ks' ≤ R.slots)
    (k : ∀ (v : Option Value) (T' : State) (L : List Loc), Qc v T'.heap L → Stand p l e R s m args below meth c T' (locs ++ L) (cells + kc') (slots + ks') → Goes p e below F T' { g with pc := g.pc + 3, stack := v.toList ++ rest }) : Goes p e below F T g := by
  obtain ⟨v, vm₁, ⟨T', L', k', n'⟩, -, X', ⟨L, hQ, h1, h2, h3⟩, st⟩ := Jvm.LawKit.callS X hx hown hlink hstat hinit hcode hy hK hg hsize hlen hstack hW hdg (fun _ _ => ⟨ha, eT, hc, hs⟩)
  dsimp only [Pt.U, Pt.locs, Pt.cells, Pt.slots] at X' h1 h2 h3 st hQ
  subst h1 h2 h3
  exact Goes.step st (k v T' L hQ X')
/-- a constructor, by its contract -/
theorem Goes.callC (X : Stand p l e R s m args below meth c T locs cells slots) (hx : p.tables.exec = Jvm.exec) {own : String} {index : Nat} {y : MethodName} {bytes : ByteArray} {maxL : Nat} (hy1 : y.name = "<init>")
    (hown : s.vm.findClass own = some m.cls) (hlink : (Cond.methodLink own index y).before args s = true) (hinst : (Cond.instanceMethod y).before args s = true) (hcode : (Cond.code y bytes maxL none).before args s = true)
    (hy : y.cls ≠ "java/lang/invoke/MethodHandle" ∧ y.cls ≠ "java/lang/invoke/VarHandle")
    {W : Nat} {as' : Array Value} {Qc : Option Value → Heap → List Loc → Prop} {kc' ks' : Nat}
    (hK : Back l R p e below s args y 3 W (fun A a => a = as' ∧ A.U.heap = h ∧ A.cells + kc' ≤ R.cells ∧ A.slots + ks' ≤ R.slots) (fun A _ v B => ∃ L, Qc v B.U.heap L ∧ B.locs = A.locs ++ L ∧ B.cells = A.cells + kc' ∧ B.slots = A.slots + ks'))
    (hg : g.method = m) (hsize : g.locals.size = c.maxLocals) {a : Addr} {argsL rest : List Value} (hlen : ∀ sig, parseMethodDescriptor y.desc = some sig → argsL.length = sig.parameters.length)
    (hstack : g.stack = argsL.reverse ++ .ref a :: rest) (hW : 2 * g.monitorRoom + (rest.map fun v => v.category).sum ≤ W) (hdg : decode c.code g.pc = .ok (.invokespecial index, 3)) (ha : (.ref a :: argsL).toArray = as') (eT : T.heap = h) (hc : cells + kc' ≤ R.cells) (hs : slots + ks' ≤ R.slots)
    (k : ∀ (v : Option Value) (T' : State) (L : List Loc), Qc v T'.heap L → Stand p l e R s m args below meth c T' (locs ++ L) (cells + kc') (slots + ks') → Goes p e below F T' { g with pc := g.pc + 3, stack := v.toList ++ rest }) : Goes p e below F T g := by
  obtain ⟨v, vm₁, ⟨T', L', k', n'⟩, -, X', ⟨L, hQ, h1, h2, h3⟩, st⟩ := X.specialBack hx hy1 hown hlink hinst hcode hy hK hg hsize (Steps.refl _) hlen hstack hW hdg (fun _ _ => ⟨ha, eT, hc, hs⟩)
  dsimp only [Pt.U, Pt.locs, Pt.cells, Pt.slots] at X' h1 h2 h3 st hQ
  subst h1 h2 h3
  exact Goes.step (fun t q => st.trans q) (k v T' L hQ X')
/-- an instance method, by the contract of the body that is selected -/
theorem Goes.callV (X : Stand p l e R s m args below meth c T locs cells slots) (hx : p.tables.exec = Jvm.exec) (hZ : Z.Warmed39 s.vm) {own C : String} {index : Nat} {y z : MethodName}
    (hown : s.vm.findClass own = some m.cls) (hlink : (Cond.methodLink own index y).before args s = true) (hdecl : (Cond.declares y).before args s = true) (hnf : NotFace s y)
    (hsel : (Cond.selects C y z).before args s = true) (hinst : (Cond.instanceMethod z).before args s = true)
    (hy : y.cls ≠ "java/lang/invoke/MethodHandle" ∧ y.cls ≠ "java/lang/invoke/VarHandle")
    {W : Nat} {as' : Array Value} {Qc : Option Value → Heap → List Loc → Prop} {kc' ks' : Nat}
    (hK : Back l R p e below s args z 3 W (fun A a => a = as' ∧ A.U.heap = h ∧ A.cells + kc' ≤ R.cells ∧ A.slots + ks' ≤ R.slots) (fun A _ v B => ∃ L, Qc v B.U.heap L ∧ B.locs = A.locs ++ L ∧ B.cells = A.cells + kc' ∧ B.slots = A.slots + ks'))
    {b : Addr} (eT : T.heap = h) (E : Exa Z h b C)
    (hg : g.method = m) (hsize : g.locals.size = c.maxLocals) {argsL rest : List Value} (hlen : ∀ sig, parseMethodDescriptor y.desc = some sig → argsL.length = sig.parameters.length)
    (hstack : g.stack = argsL.reverse ++ .ref b :: rest) (hW : 2 * g.monitorRoom + (rest.map fun v => v.category).sum ≤ W) (hdg : decode c.code g.pc = .ok (.invokevirtual index, 3)) (ha : (.ref b :: argsL).toArray = as') (hc : cells + kc' ≤ R.cells) (hs : slots + ks' ≤ R.slots)
    (k : ∀ (v : Option Value) (T' : State) (L : List Loc), Qc v T'.heap L → Stand p l e R s m args below meth c T' (locs ++ L) (cells + kc') (slots + ks') → Goes p e below F T' { g with pc := g.pc + 3, stack := v.toList ++ rest }) : Goes p e below F T g := by
  obtain ⟨cq, kq, qa, qb, qc⟩ := isOf hZ eT E
  obtain ⟨v, vm₁, ⟨T', L', k', n'⟩, -, X', ⟨L, hQ, h1, h2, h3⟩, st⟩ := X.virtualBack hx hown hlink hdecl hnf hsel hinst hy hK qa qc hg hsize (Steps.refl _) hlen hstack hW hdg (fun _ _ => ⟨ha, eT, hc, hs⟩)
  dsimp only [Pt.U, Pt.locs, Pt.cells, Pt.slots] at X' h1 h2 h3 st hQ
  subst h1 h2 h3
  exact Goes.step (fun t q => st.trans q) (k v T' L hQ X')
/-- a private method called by invokevirtual -/
theorem Goes.callP (X : Stand p l e R s m args below meth c T locs cells slots) (hx : p.tables.exec = Jvm.exec) {own C : String} {index : Nat} {y : MethodName} {bytes : ByteArray} {maxL : Nat} {ret : Option FieldType}
    (hown : s.vm.findClass own = some m.cls) (hlink : (Cond.methodLink own index y).before args s = true) (hinst : (Cond.instanceMethod y).before args s = true) (hsel : (Cond.selects y.cls y y).before args s = true)
    (hpriv : s.PrivateAt y) (hcode : (Cond.code y bytes maxL ret).before args s = true)
    (hy : y.cls ≠ "java/lang/invoke/MethodHandle" ∧ y.cls ≠ "java/lang/invoke/VarHandle")
    {W : Nat} {as' : Array Value} {Qc : Option Value → Heap → List Loc → Prop} {kc' ks' : Nat}
    (hK : Back l R p e below s args y 3 W (fun A a => a = as' ∧ A.U.heap = h ∧ A.cells + kc' ≤ R.cells ∧ A.slots + ks' ≤ R.slots) (fun A _ v B => ∃ L, Qc v B.U.heap L ∧ B.locs = A.locs ++ L ∧ B.cells = A.cells + kc' ∧ B.slots = A.slots + ks'))
    {b : Addr} (eT : T.heap = h) (E : Exa Z h b C)
    (hg : g.method = m) (hsize : g.locals.size = c.maxLocals) {argsL rest : List Value} (hlen : ∀ sig, parseMethodDescriptor y.desc = some sig → argsL.length = sig.parameters.length)
    (hstack : g.stack = argsL.reverse ++ .ref b :: rest) (hW : 2 * g.monitorRoom + (rest.map fun v => v.category).sum ≤ W) (hdg : decode c.code g.pc = .ok (.invokevirtual index, 3)) (ha : (.ref b :: argsL).toArray = as') (hc : cells + kc' ≤ R.cells) (hs : slots + ks' ≤ R.slots)
    (k : ∀ (v : Option Value) (T' : State) (L : List Loc), Qc v T'.heap L → Stand p l e R s m args below meth c T' (locs ++ L) (cells + kc') (slots + ks') → Goes p e below F T' { g with pc := g.pc + 3, stack := v.toList ++ rest }) : Goes p e below F T g := by
  obtain ⟨cq, q1, q2⟩ := E.cell
  obtain ⟨v, vm₁, ⟨T', L', k', n'⟩, -, X', ⟨L, hQ, h1, h2, h3⟩, st⟩ := X.privateBack hx hown hlink hinst hsel hpriv hcode hy hK hg hsize (Steps.refl _) (by rw [eT]; exact q1) q2 hlen hstack hW hdg (fun _ _ => ⟨ha, eT, hc, hs⟩)
  dsimp only [Pt.U, Pt.locs, Pt.cells, Pt.slots] at X' h1 h2 h3 st hQ
  subst h1 h2 h3
  exact Goes.step (fun t q => st.trans q) (k v T' L hQ X')
/-- clone() of an array whose elements are known -/
theorem cloneV {a : Addr} {ty : FieldType} (X : Stand p l e R s m args below meth c T locs cells slots) (hx : p.tables.exec = Jvm.exec) (hZ : Z.Warmed39 s.vm) {own ad : String} {index : Nat} (hown : s.vm.findClass own = some m.cls)
    (w1 : (Cond.methodLink own index ⟨ad, "clone", "()Ljava/lang/Object;"⟩).before a0 Z = true) (w2 : (Cond.sameMethod ad "java/lang/Object" "clone" "()Ljava/lang/Object;").before a0 Z = true) (w3 : (Cond.native ⟨"java/lang/Object", "clone", "()Ljava/lang/Object;"⟩).before a0 Z = true)
    (w4 : (Cond.instanceMethod ⟨"java/lang/Object", "clone", "()Ljava/lang/Object;"⟩).before a0 Z = true) (w5 : (Cond.selects ad ⟨ad, "clone", "()Ljava/lang/Object;"⟩ ⟨"java/lang/Object", "clone", "()Ljava/lang/Object;"⟩).before a0 Z = true) (w6 : (Cond.castable ad "java/lang/Cloneable").before a0 Z = true)
    (eT : T.heap = h) {k : ClassId} {z : Int32} {vs : List Value} {dv : Value} (FA : Arv Z h a k ty z vs dv) (E : Exa Z h a ad) {g : JFrame} (hg : g.method = m) (hsize : g.locals.size = c.maxLocals) {rest : List Value} (hst : g.stack = .ref a :: rest) (hd : decode c.code g.pc = .ok (.invokevirtual index, 3))
    (hf : 1 ≤ R.frames) {W cap : Nat} (hW : 2 * g.monitorRoom + (rest.map fun v => v.category).sum ≤ W) (hl : W + 14 ≤ R.locals) (hcap : z.toNatClampNeg ≤ cap) (hc : cells + 1 ≤ R.cells) (hsl : slots + cap ≤ R.slots) :
    ∃ T' h', Stand p l e R s m args below meth c T' locs (cells + 1) (slots + cap) ∧ T'.heap = h' ∧ Ext h h' ∧ Arv Z h' h.size k ty z vs dv ∧ Exa Z h' h.size ad ∧
      ∀ target, Steps p.tables e below (T'.setTop { g with pc := g.pc + 3, stack := .ref h.size :: rest }) target → Steps p.tables e below (T.setTop g) target := by
  obtain ⟨cl, A, q1, S, q3, H, G⟩ := FA
  have FC : FitC Z cl := fitC_of A fun i hi v hv => by rw [H i hi] at hv; cases hv; exact G i hi
  obtain ⟨T', h', X', e', ex, A', E', st⟩ := cloneA X hx hZ hown w1 w2 w3 w4 w5 w6 eT A E FC hg hsize hst hd hf hW hl (by rw [S]; exact hcap) hc hsl
  exact ⟨T', h', X', e', ex, ⟨cloneOf cl, A', q1, S, q3, H, G⟩, E', st⟩
end Own
end Jvm.RoadKit
namespace Jvm.RoadKit
open Sem ClassFile Op Lib Jvm.Stand Jvm.Free Jvm.LawKit
namespace P1
section P1
variable {p : Program} {e : Env} {below : List Frame} {F : Option Value → State → Prop} {T : State} {m : MethodId} {c : Code} {pc : Nat} {Ls : Array Slot} {S : List Value}
theorem aloadN (h : At T m c below) (hx : p.tables.exec = Jvm.exec) {k : Fin 4} {v : Value} (hd : decode c.code pc = .ok (.aload_n k, 1)) (hl : Ls[k.val]? = some (.val v)) (hv : v.isRef = true) (hr : Goes p e below F T (mkF m (pc + 1) Ls (v :: S))) : Goes p e below F T (mkF m pc Ls (S)) := Goes.step (fun t k => XS.aloadN h hx rfl hd hl hv k) hr
theorem aload (h : At T m c below) (hx : p.tables.exec = Jvm.exec) {k : Nat} {v : Value} (hd : decode c.code pc = .ok (.aload k, 2)) (hl : Ls[k]? = some (.val v)) (hv : v.isRef = true) (hr : Goes p e below F T (mkF m (pc + 2) Ls (v :: S))) : Goes p e below F T (mkF m pc Ls (S)) := Goes.step (fun t k => XS.aload h hx rfl hd hl hv k) hr
theorem iloadN (h : At T m c below) (hx : p.tables.exec = Jvm.exec) {k : Fin 4} {v : Int32} (hd : decode c.code pc = .ok (.iload_n k, 1)) (hl : Ls[k.val]? = some (.val (.int v))) (hr : Goes p e below F T (mkF m (pc + 1) Ls ((.int v) :: S))) : Goes p e below F T (mkF m pc Ls (S)) := Goes.step (fun t k => XS.iloadN h hx rfl hd hl k) hr
theorem iload (h : At T m c below) (hx : p.tables.exec = Jvm.exec) {k : Nat} {v : Int32} (hd : decode c.code pc = .ok (.iload k, 2)) (hl : Ls[k]? = some (.val (.int v))) (hr : Goes p e below F T (mkF m (pc + 2) Ls ((.int v) :: S))) : Goes p e below F T (mkF m pc Ls (S)) := Goes.step (fun t k => XS.iload h hx rfl hd hl k) hr
theorem lloadN (h : At T m c below) (hx : p.tables.exec = Jvm.exec) {k : Fin 4} {v : Int64} (hd : decode c.code pc = .ok (.lload_n k, 1)) (hl : Ls[k.val]? = some (.val (.long v))) (hr : Goes p e below F T (mkF m (pc + 1) Ls ((.long v) :: S))) : Goes p e below F T (mkF m pc Ls (S)) := Goes.step (fun t k => XS.lloadN h hx rfl hd hl k) hr
theorem lload (h : At T m c below) (hx : p.tables.exec = Jvm.exec) {k : Nat} {v : Int64} (hd : decode c.code pc = .ok (.lload k, 2)) (hl : Ls[k]? = some (.val (.long v))) (hr : Goes p e below F T (mkF m (pc + 2) Ls ((.long v) :: S))) : Goes p e below F T (mkF m pc Ls (S)) := Goes.step (fun t k => XS.lload h hx rfl hd hl k) hr
theorem astoreN (h : At T m c below) (hx : p.tables.exec = Jvm.exec) {k : Fin 4} {x : Value} (l' : Array Slot) (hd : decode c.code pc = .ok (.astore_n k, 1)) (hv : x.isRef = true) (hl : storeLocals Ls k.val x = some l') (hr : Goes p e below F T (mkF m (pc + 1) l' (S))) : Goes p e below F T (mkF m pc Ls (x :: S)) := Goes.step (fun t k => XS.astoreN h hx rfl hd rfl hv hl k) hr
theorem astore (h : At T m c below) (hx : p.tables.exec = Jvm.exec) {k : Nat} {x : Value} (l' : Array Slot) (hd : decode c.code pc = .ok (.astore k, 2)) (hv : x.isRef = true) (hl : storeLocals Ls k x = some l') (hr : Goes p e below F T (mkF m (pc + 2) l' (S))) : Goes p e below F T (mkF m pc Ls (x :: S)) := Goes.step (fun t k => XS.astore h hx rfl hd rfl hv hl k) hr
theorem istoreN (h : At T m c below) (hx : p.tables.exec = Jvm.exec) {k : Fin 4} {x : Int32} (l' : Array Slot) (hd : decode c.code pc = .ok (.istore_n k, 1)) (hl : storeLocals Ls k.val (.int x) = some l') (hr : Goes p e below F T (mkF m (pc + 1) l' (S))) : Goes p e below F T (mkF m pc Ls ((.int x) :: S)) := Goes.step (fun t k => XS.istoreN h hx rfl hd rfl hl k) hr
theorem istore (h : At T m c below) (hx : p.tables.exec = Jvm.exec) {k : Nat} {x : Int32} (l' : Array Slot) (hd : decode c.code pc = .ok (.istore k, 2)) (hl : storeLocals Ls k (.int x) = some l') (hr : Goes p e below F T (mkF m (pc + 2) l' (S))) : Goes p e below F T (mkF m pc Ls ((.int x) :: S)) := Goes.step (fun t k => XS.istore h hx rfl hd rfl hl k) hr
theorem lstoreN (h : At T m c below) (hx : p.tables.exec = Jvm.exec) {k : Fin 4} {x : Int64} (l' : Array Slot) (hd : decode c.code pc = .ok (.lstore_n k, 1)) (hl : storeLocals Ls k.val (.long x) = some l') (hr : Goes p e below F T (mkF m (pc + 1) l' (S))) : Goes p e below F T (mkF m pc Ls ((.long x) :: S)) := Goes.step (fun t k => XS.lstoreN h hx rfl hd rfl hl k) hr
theorem lstore (h : At T m c below) (hx : p.tables.exec = Jvm.exec) {k : Nat} {x : Int64} (l' : Array Slot) (hd : decode c.code pc = .ok (.lstore k, 2)) (hl : storeLocals Ls k (.long x) = some l') (hr : Goes p e below F T (mkF m (pc + 2) l' (S))) : Goes p e below F T (mkF m pc Ls ((.long x) :: S)) := Goes.step (fun t k => XS.lstore h hx rfl hd rfl hl k) hr
theorem iconst (h : At T m c below) (hx : p.tables.exec = Jvm.exec) (z : Int32) {i : Int} (hd : decode c.code pc = .ok (.iconst i, 1)) (hz : Int32.ofInt i = z) (hr : Goes p e below F T (mkF m (pc + 1) Ls (.int z :: S))) : Goes p e below F T (mkF m pc Ls S) := by subst hz; exact Goes.step (fun t k => XS.iconst h hx rfl hd k) hr
theorem bipush (h : At T m c below) (hx : p.tables.exec = Jvm.exec) (z : Int32) {i : Int} (hd : decode c.code pc = .ok (.bipush i, 2)) (hz : (Int8.ofInt i).toInt32 = z) (hr : Goes p e below F T (mkF m (pc + 2) Ls (.int z :: S))) : Goes p e below F T (mkF m pc Ls S) := by subst hz; exact Goes.step (fun t k => XS.bipush h hx rfl hd k) hr
theorem sipush (h : At T m c below) (hx : p.tables.exec = Jvm.exec) (z : Int32) {i : Int} (hd : decode c.code pc = .ok (.sipush i, 3)) (hz : (Int16.ofInt i).toInt32 = z) (hr : Goes p e below F T (mkF m (pc + 3) Ls (.int z :: S))) : Goes p e below F T (mkF m pc Ls S) := by subst hz; exact Goes.step (fun t k => XS.sipush h hx rfl hd k) hr
theorem aconstNull (h : At T m c below) (hx : p.tables.exec = Jvm.exec)  (hd : decode c.code pc = .ok (.aconst_null, 1)) (hr : Goes p e below F T (mkF m (pc + 1) Ls (.null :: S))) : Goes p e below F T (mkF m pc Ls (S)) := Goes.step (fun t k => XS.aconstNull h hx rfl hd k) hr
theorem dup (h : At T m c below) (hx : p.tables.exec = Jvm.exec) {x : Value} (hd : decode c.code pc = .ok (.dup, 1)) (hc : x.category = 1) (hr : Goes p e below F T (mkF m (pc + 1) Ls (x :: x :: S))) : Goes p e below F T (mkF m pc Ls (x :: S)) := Goes.step (fun t k => XS.dup h hx rfl hd rfl hc k) hr
theorem pop (h : At T m c below) (hx : p.tables.exec = Jvm.exec) {x : Value} (hd : decode c.code pc = .ok (.pop, 1)) (hc : x.category = 1) (hr : Goes p e below F T (mkF m (pc + 1) Ls (S))) : Goes p e below F T (mkF m pc Ls (x :: S)) := Goes.step (fun t k => XS.pop h hx rfl hd rfl hc k) hr
theorem goto (h : At T m c below) (hx : p.tables.exec = Jvm.exec) {o : Int} (pc' : Nat) (hd : decode c.code pc = .ok (.goto o, 3)) (ho : 0 ≤ (pc : Int) + o) (hp : ((pc : Int) + o).toNat = pc') (hr : Goes p e below F T (mkF m pc' Ls (S))) : Goes p e below F T (mkF m pc Ls (S)) := Goes.step (fun t k => XS.goto h hx rfl (pc0 := pc) rfl hd ho hp k) hr
theorem iadd (h : At T m c below) (hx : p.tables.exec = Jvm.exec) {x y : Int32} (hd : decode c.code pc = .ok (.iadd, 1)) (hr : Goes p e below F T (mkF m (pc + 1) Ls (.int (x + y) :: S))) : Goes p e below F T (mkF m pc Ls (.int y :: .int x :: S)) := Goes.step (fun t k => XS.iadd h hx rfl hd rfl k) hr
theorem isub (h : At T m c below) (hx : p.tables.exec = Jvm.exec) {x y : Int32} (hd : decode c.code pc = .ok (.isub, 1)) (hr : Goes p e below F T (mkF m (pc + 1) Ls (.int (x - y) :: S))) : Goes p e below F T (mkF m pc Ls (.int y :: .int x :: S)) := Goes.step (fun t k => XS.isub h hx rfl hd rfl k) hr
theorem imul (h : At T m c below) (hx : p.tables.exec = Jvm.exec) {x y : Int32} (hd : decode c.code pc = .ok (.imul, 1)) (hr : Goes p e below F T (mkF m (pc + 1) Ls (.int (x * y) :: S))) : Goes p e below F T (mkF m pc Ls (.int y :: .int x :: S)) := Goes.step (fun t k => XS.imul h hx rfl hd rfl k) hr
theorem iand (h : At T m c below) (hx : p.tables.exec = Jvm.exec) {x y : Int32} (hd : decode c.code pc = .ok (.iand, 1)) (hr : Goes p e below F T (mkF m (pc + 1) Ls (.int (x &&& y) :: S))) : Goes p e below F T (mkF m pc Ls (.int y :: .int x :: S)) := Goes.step (fun t k => XS.iand h hx rfl hd rfl k) hr
theorem ior (h : At T m c below) (hx : p.tables.exec = Jvm.exec) {x y : Int32} (hd : decode c.code pc = .ok (.ior, 1)) (hr : Goes p e below F T (mkF m (pc + 1) Ls (.int (x ||| y) :: S))) : Goes p e below F T (mkF m pc Ls (.int y :: .int x :: S)) := Goes.step (fun t k => XS.ior h hx rfl hd rfl k) hr
theorem ixor (h : At T m c below) (hx : p.tables.exec = Jvm.exec) {x y : Int32} (hd : decode c.code pc = .ok (.ixor, 1)) (hr : Goes p e below F T (mkF m (pc + 1) Ls (.int (x ^^^ y) :: S))) : Goes p e below F T (mkF m pc Ls (.int y :: .int x :: S)) := Goes.step (fun t k => XS.ixor h hx rfl hd rfl k) hr
theorem icmpNo (h : At T m c below) (hx : p.tables.exec = Jvm.exec) {cd : ClassFile.Cond} {o : Int} {x y : Int32} (hd : decode c.code pc = .ok (.if_icmp cd o, 3)) (hc : if_icmp.holds cd x y = false) (hr : Goes p e below F T (mkF m (pc + 3) Ls (S))) : Goes p e below F T (mkF m pc Ls (.int y :: .int x :: S)) := Goes.step (fun t k => XS.icmpNo h hx rfl hd rfl hc k) hr
theorem icmpYes (h : At T m c below) (hx : p.tables.exec = Jvm.exec) {cd : ClassFile.Cond} {o : Int} {x y : Int32} (pc' : Nat) (hd : decode c.code pc = .ok (.if_icmp cd o, 3)) (hc : if_icmp.holds cd x y = true) (ho : 0 ≤ (pc : Int) + o) (hp : ((pc : Int) + o).toNat = pc') (hr : Goes p e below F T (mkF m pc' Ls (S))) : Goes p e below F T (mkF m pc Ls (.int y :: .int x :: S)) := Goes.step (fun t k => XS.icmpYes h hx rfl (pc0 := pc) rfl hd rfl hc ho hp k) hr
theorem ifNo (h : At T m c below) (hx : p.tables.exec = Jvm.exec) {cd : ClassFile.Cond} {o : Int} {x : Int32} (hd : decode c.code pc = .ok (.ifCond cd o, 3)) (hc : ifCond.holds cd x = false) (hr : Goes p e below F T (mkF m (pc + 3) Ls (S))) : Goes p e below F T (mkF m pc Ls (.int x :: S)) := Goes.step (fun t k => XS.ifNo h hx rfl hd rfl hc k) hr
theorem ifYes (h : At T m c below) (hx : p.tables.exec = Jvm.exec) {cd : ClassFile.Cond} {o : Int} {x : Int32} (pc' : Nat) (hd : decode c.code pc = .ok (.ifCond cd o, 3)) (hc : ifCond.holds cd x = true) (ho : 0 ≤ (pc : Int) + o) (hp : ((pc : Int) + o).toNat = pc') (hr : Goes p e below F T (mkF m pc' Ls (S))) : Goes p e below F T (mkF m pc Ls (.int x :: S)) := Goes.step (fun t k => XS.ifYes h hx rfl (pc0 := pc) rfl hd rfl hc ho hp k) hr
theorem ifnullNo (h : At T m c below) (hx : p.tables.exec = Jvm.exec) {o : Int} {b : Addr} (hd : decode c.code pc = .ok (.ifnull o, 3)) (hr : Goes p e below F T (mkF m (pc + 3) Ls (S))) : Goes p e below F T (mkF m pc Ls (.ref b :: S)) := Goes.step (fun t k => XS.ifnullNo h hx rfl hd rfl k) hr
theorem ifnullYes (h : At T m c below) (hx : p.tables.exec = Jvm.exec) {o : Int} (pc' : Nat) (hd : decode c.code pc = .ok (.ifnull o, 3)) (ho : 0 ≤ (pc : Int) + o) (hp : ((pc : Int) + o).toNat = pc') (hr : Goes p e below F T (mkF m pc' Ls (S))) : Goes p e below F T (mkF m pc Ls (.null :: S)) := Goes.step (fun t k => XS.ifnullYes h hx rfl (pc0 := pc) rfl hd rfl ho hp k) hr
theorem ifnonnullNo (h : At T m c below) (hx : p.tables.exec = Jvm.exec) {o : Int} (hd : decode c.code pc = .ok (.ifnonnull o, 3)) (hr : Goes p e below F T (mkF m (pc + 3) Ls (S))) : Goes p e below F T (mkF m pc Ls (.null :: S)) := Goes.step (fun t k => XS.ifnonnullNo h hx rfl hd rfl k) hr
theorem ifnonnullYes (h : At T m c below) (hx : p.tables.exec = Jvm.exec) {o : Int} {b : Addr} (pc' : Nat) (hd : decode c.code pc = .ok (.ifnonnull o, 3)) (ho : 0 ≤ (pc : Int) + o) (hp : ((pc : Int) + o).toNat = pc') (hr : Goes p e below F T (mkF m pc' Ls (S))) : Goes p e below F T (mkF m pc Ls (.ref b :: S)) := Goes.step (fun t k => XS.ifnonnullYes h hx rfl (pc0 := pc) rfl hd rfl ho hp k) hr
end P1
end P1
end Jvm.RoadKit
namespace Jvm.RoadKit
open Sem ClassFile Op Lib Jvm.Stand Jvm.Free Jvm.LawKit
section OwnStart
variable {Z : State} {args : Array Value} {t u : Term} {a : Addr} {cl : Cell} {ty : FieldType} {v : Value}
theorem own_eqV (h : (Cond.eq t u).value args Z none Z [] = some true) (hu : u.eval args Z none [] Z = some v) (hv : (∃ z, v = .int z) ∨ v.isRef = true) : t.eval args Z none [] Z = some v := by
  cases ht : t.eval args Z none [] Z with
  | none => simp [Cond.value, ht] at h
  | some x =>
    rcases hv with ⟨z, rfl⟩ | hv
    · cases x <;> simp_all [Cond.value, Value.isRef]
    · cases x <;> cases v <;> simp_all [Cond.value, Value.isRef]
theorem own_len {n : Int32} (A : Arr Z Z.heap a cl ty) (ev : t.eval args Z none [] Z = some (.ref a)) (h : (Cond.eq (.length t) (.int n)).value args Z none Z [] = some true) : cl.slots.size < 2 ^ 31 ∧ cl.slots.size.toInt32 = n := by
  have q := own_eqV h (Term.int_eval n) (Or.inl ⟨_, rfl⟩)
  have harr := Arr.fin (U := Z) (Vm.Alike.refl _) A
  by_cases hl : cl.slots.size < 2 ^ 31
  · rw [len_f ev harr hl] at q
    exact ⟨hl, Value.int.inj (Option.some.inj q)⟩
  · simp [Term.eval, ev, harr, hl] at q
theorem own_elem {j : Int32} (A : Arr Z Z.heap a cl ty) (ev : t.eval args Z none [] Z = some (.ref a)) (h : (Term.elem t (.int j)).eval args Z none [] Z = some v) : cl.slots[j.toNatClampNeg]? = some v := (elem_in h ev (Term.int_eval j) A.1).2
theorem own_fld {C n d : String} (ev : t.eval args Z none [] Z = some (.ref a)) (h : (Term.field t C n d).eval args Z none [] Z = some v) : Fld Z Z.heap a C n d v := Fld.start ((fld_at ev).symm.trans h)
end OwnStart
end Jvm.RoadKit
namespace Jvm.RoadKit
open Sem ClassFile Op Lib Jvm.Stand Jvm.Free Jvm.LawKit
/-- a room by its four figures -/
abbrev rR (f c s l : Nat) : Room := { frames := f, cells := c, slots := s, locals := l }
/-- the law of a body: from these arguments and this heap it returns, and Q tells what -/
abbrev OwnLaw (l : Launch) (y : MethodName) (bytes : ByteArray) (maxL : Nat) (ret : Option FieldType) (ws : List Cond) (R : Room) (as : Array Value) (Z : State) (h0 : Heap) (Q : Option Value → Heap → List Loc → Prop) : Prop :=
  MetFree l y (head1 (Cond.code y bytes maxL ret :: ws) R) (fun aa U => aa = as ∧ Z.Warmed39 U.vm ∧ U.heap = h0) (fun _ _ _ _ _ => True) (fun _ U oo U' => ∃ vv LL, oo = .returned vv ∧ Q vv U'.heap LL ∧ FrameEnd U oo U' LL R.cells R.slots)
theorem own_enter {l : Launch} {y : MethodName} {bytes : ByteArray} {maxL : Nat} {ret : Option FieldType} {ws : List Cond} {R : Room} {as : Array Value} {Z : State} {h0 : Heap} {Q : Option Value → Heap → List Loc → Prop} {Ls : Array Slot} (pf : plainFor y = true) (ef : ∀ m, entryFrame m as maxL = mkF m 0 Ls [])
    (k : ∀ (p : Program) (e : Env) (s : State) (m : MethodId) (below : List Frame) (meth : Method) (c : Code) (T : State), BodyLoose p l y (head1 (Cond.code y bytes maxL ret :: ws) R) bytes maxL ret e s m as below meth c T → p.tables.exec = Jvm.exec → c.code = bytes → c.maxLocals = maxL → Z.Warmed39 s.vm → s.vm.findClass y.cls = some m.cls → Stand p l e R s m as below meth c T [] 0 0 → T.heap = h0 → Goes p e below (EndQ s Q R.cells R.slots) T (mkF m 0 Ls [])) : OwnLaw l y bytes maxL ret ws R as Z h0 Q := by
  refine MetFree.of_bodySF pf hisR ?_
  intro p e s m args below meth c s₁ Bd hml hP hK
  obtain ⟨rfl, hZ, hh⟩ := hP
  refine Goes.give ?_
  rw [ef m]
  exact k p e s m below meth c s₁ Bd Bd.exec Bd.bytes hml hZ (findClass_of_methodNamed Bd.named) (Stand.of_body Bd) (by rw [← hh, Bd.state]; rfl)
end Jvm.RoadKit
namespace Jvm.RoadKit
open Sem ClassFile Op Lib Jvm.Stand Jvm.Free Jvm.LawKit
section OwnW
variable {p : Program} {l : Launch} {e : Env} {R : Room} {s : State} {m : MethodId} {args : Array Value} {below : List Frame} {meth : Method} {c : Code} {T T' : State} {locs : List Loc} {cells slots : Nat} {Q : Option Value → Heap → List Loc → Prop} {F : Option Value → State → Prop} {kc ks : Nat} {g g' : JFrame} {Z : State} {a0 : Array Value} {h : Heap} {EL : List (String × Nat)} {vm0 : Vm} {k0 : Nat}
/-- the end of a body that may have interned constants of EL -/
def EndW (s Z : State) (EL : List (String × Nat)) (Q : Option Value → Heap → List Loc → Prop) (kc ks : Nat) (v : Option Value) (t : State) : Prop := ∃ L, Q v t.heap L ∧ CHr Z EL s.vm s.heap t.vm t.heap ∧ ReturnedEndW s (.returned v) t L kc ks
theorem Goes.giveW (h : Goes p e below (EndW s Z EL Q kc ks) T g) : ∃ s₂ o, Steps p.tables e below (T.setTop g) s₂ ∧ s₂.status = .running ∧ Ended s₂ below o ∧ ∃ v L, o = .returned v ∧ Q v s₂.heap L ∧ CHr Z EL s.vm s.heap s₂.vm s₂.heap ∧ ReturnedEndW s o s₂ L kc ks := by
  obtain ⟨s2, o, h1, h2, h3, v, rfl, L, h4, h5, h6⟩ := h
  exact ⟨s2, _, h1, h2, h3, v, L, rfl, h4, h5, h6⟩
theorem Goes.outW {v : Option Value} (X : Stand p l e R (s.setVm vm0) m args below meth c T locs cells slots) (hS : s.Since vm0 k0) (hk : k0 ≤ h.size) (hZ : Z.Warmed39 vm0) (hEL : EW Z a0 EL) (hC : CHr Z EL s.vm s.heap vm0 h) (eT : T.heap = h) (hlk : meth.locks = false) (hv : meth.sig.returnType = none → v = none) (hc : cells ≤ kc) (hs : slots ≤ ks) (hq : Q v h locs)
    (k : ∀ fs, (∀ (f : JFrame) (acts : List Action), f.method = m → f.locked = none → f.entered = [] → (doReturn e (T.setTop f) acts v).1 = T.setFrames fs) → Steps p.tables e below (T.setTop g) (T.setFrames fs)) : Goes p e below (EndW s Z EL Q kc ks) T g := by
  subst eT
  obtain ⟨fs, hr, hrun, hended, hE⟩ := X.leaveW hS hk (v := v) hv hlk
  have hC2 : CHr Z EL s.vm s.heap (T.setFrames fs).vm (T.setFrames fs).heap := hC.trans (show CHr Z EL vm0 T.heap T.vm T.heap from CHv.at X hZ hEL hC.1)
  exact ⟨_, _, k fs hr, hrun, hended, _, rfl, _, hq, hC2, ⟨hE.1, hE.2.1, hE.2.2.1, hE.2.2.2.mono hc hs⟩⟩
theorem Goes.retIW (X : Stand p l e R (s.setVm vm0) m args below meth c T locs cells slots) (hx : p.tables.exec = Jvm.exec) (hlk : meth.locks = false) (hS : s.Since vm0 k0) (hk : k0 ≤ h.size) (hZ : Z.Warmed39 vm0) (hEL : EW Z a0 EL) (hC : CHr Z EL s.vm s.heap vm0 h) (eT : T.heap = h) {pc : Nat} {Ls : Array Slot} {z : Int32} {rest : List Value} (hret : meth.sig.returnType = some .int) (hd : decode c.code pc = .ok (.ireturn, 1))
    (hc : cells ≤ kc) (hs : slots ≤ ks) (hq : Q (some (.int z)) h locs) : Goes p e below (EndW s Z EL Q kc ks) T (mkF m pc Ls (.int z :: rest)) :=
  Goes.outW X hS hk hZ hEL hC eT hlk (fun h => by rw [hret] at h; cases h) hc hs hq fun fs hr => RoadKit.retI X hx hret hd hr
theorem Goes.retNW (X : Stand p l e R (s.setVm vm0) m args below meth c T locs cells slots) (hx : p.tables.exec = Jvm.exec) (hlk : meth.locks = false) (hS : s.Since vm0 k0) (hk : k0 ≤ h.size) (hZ : Z.Warmed39 vm0) (hEL : EW Z a0 EL) (hC : CHr Z EL s.vm s.heap vm0 h) (eT : T.heap = h) {pc : Nat} {Ls : Array Slot} {z : Int32} {t : FieldType} {rest : List Value} (hret : meth.sig.returnType = some t) (ht : t = .boolean ∨ t = .byte ∨ t = .char ∨ t = .short) (hd : decode c.code pc = .ok (.ireturn, 1))
    (hc : cells ≤ kc) (hs : slots ≤ ks) (hq : Q (some (.int (nar t z))) h locs) : Goes p e below (EndW s Z EL Q kc ks) T (mkF m pc Ls (.int z :: rest)) :=
  Goes.outW X hS hk hZ hEL hC eT hlk (fun h => by rw [hret] at h; cases h) hc hs hq fun fs hr => RoadKit.retN X hx hret ht hd hr
theorem Goes.retAW (X : Stand p l e R (s.setVm vm0) m args below meth c T locs cells slots) (hx : p.tables.exec = Jvm.exec) (hlk : meth.locks = false) (hS : s.Since vm0 k0) (hk : k0 ≤ h.size) (hZ : Z.Warmed39 vm0) (hEL : EW Z a0 EL) (hC : CHr Z EL s.vm s.heap vm0 h) (eT : T.heap = h) {pc : Nat} {Ls : Array Slot} {w : Value} {t : FieldType} {rest : List Value} (hret : meth.sig.returnType = some t) (ht : t.isReference = true) (hw : w.isRef = true) (hd : decode c.code pc = .ok (.areturn, 1))
    (hc : cells ≤ kc) (hs : slots ≤ ks) (hq : Q (some w) h locs) : Goes p e below (EndW s Z EL Q kc ks) T (mkF m pc Ls (w :: rest)) :=
  Goes.outW X hS hk hZ hEL hC eT hlk (fun h => by rw [hret] at h; cases h) hc hs hq fun fs hr => RoadKit.retOut X hx hret (by cases w <;> cases t <;> first | rfl | (simp [FieldType.isReference] at ht) | (simp [Value.isRef] at hw)) (Or.inr (Or.inr (Or.inr (Or.inr ⟨rfl, ht, hw⟩)))) hd hr
theorem Goes.retVW (X : Stand p l e R (s.setVm vm0) m args below meth c T locs cells slots) (hx : p.tables.exec = Jvm.exec) (hlk : meth.locks = false) (hS : s.Since vm0 k0) (hk : k0 ≤ h.size) (hZ : Z.Warmed39 vm0) (hEL : EW Z a0 EL) (hC : CHr Z EL s.vm s.heap vm0 h) (eT : T.heap = h) {pc : Nat} {Ls : Array Slot} (hret : meth.sig.returnType = none) (hd : decode c.code pc = .ok (.return_, 1))
    (hc : cells ≤ kc) (hs : slots ≤ ks) (hq : Q none h locs) : Goes p e below (EndW s Z EL Q kc ks) T (mkF m pc Ls []) :=
  Goes.outW X hS hk hZ hEL hC eT hlk (fun _ => rfl) hc hs hq fun fs hr => X.returnOut hx hret hd hr
/-- what stands behind a call that may have interned -/
def AfterW (p : Program) (l : Launch) (e : Env) (R : Room) (s : State) (m : MethodId) (args : Array Value) (below : List Frame) (meth : Method) (c : Code) (Z : State) (EL : List (String × Nat)) (vm0 : Vm) (h : Heap) (own : String) (T' : State) (locs : List Loc) (cells slots : Nat) : Prop :=
  Stand p l e R (s.setVm T'.vm) m args below meth c T' locs cells slots ∧ s.Since T'.vm T'.heap.size ∧ Z.Warmed39 T'.vm ∧ T'.vm.findClass own = some m.cls ∧ CHr Z EL vm0 h T'.vm T'.heap
theorem AfterW.of {own : String} (hS : s.Since vm0 k0) (hk : k0 ≤ h.size) (eT : T.heap = h) (hZ : Z.Warmed39 vm0) (hown : vm0.findClass own = some m.cls) (X' : Stand p l e R ((s.setVm vm0).setVm T'.vm) m args below meth c T' locs cells slots) (hS' : (s.setVm vm0).Since T'.vm T'.heap.size) (hg : T.heap.size ≤ T'.heap.size) (hC : CHr Z EL vm0 h T'.vm T'.heap) : AfterW p l e R s m args below meth c Z EL vm0 h own T' locs cells slots := by
  subst eT
  exact ⟨X', hS.trans hS' (Nat.le_trans hk hg), State.Warmed39.trans (t := s.setVm vm0) hZ hS'.1, by rw [hS'.1.alike.findClass]; exact hown, hC⟩
/-- a static call of a callee that may intern -/
theorem Goes.callSW (X : Stand p l e R (s.setVm vm0) m args below meth c T locs cells slots) (hx : p.tables.exec = Jvm.exec) {own : String} {index : Nat} {y : MethodName} {bytes : ByteArray} {maxL : Nat} {ret : Option FieldType} (hS : s.Since vm0 k0) (hk : k0 ≤ h.size) (hZ : Z.Warmed39 vm0)
    (hown : vm0.findClass own = some m.cls) (hlink : (Cond.methodLink own index y).before args (s.setVm vm0) = true) (hstat : (Cond.static y).before args (s.setVm vm0) = true) (hinit : (Cond.initialized y.cls).before args (s.setVm vm0) = true)
    (hcode : (Cond.code y bytes maxL ret).before args (s.setVm vm0) = true) (hy : y.cls ≠ "java/lang/invoke/MethodHandle" ∧ y.cls ≠ "java/lang/invoke/VarHandle")
    {W : Nat} {as' : Array Value} {Qc : Option Value → Heap → List Loc → Prop} {kc' ks' : Nat}
    (hK : BackS l R p e below (s.setVm vm0) args y 3 W (fun A a => a = as' ∧ A.U.heap = h ∧ A.cells + kc' ≤ R.cells ∧ A.slots + ks' ≤ R.slots) (fun A _ v B => ∃ L, Qc v B.U.heap L ∧ B.locs = A.locs ++ L ∧ B.cells = A.cells + kc' ∧ B.slots = A.slots + ks' ∧ CHr Z EL vm0 h B.U.vm B.U.heap))
    (hg : g.method = m) (hsize : g.locals.size = c.maxLocals) {argsL rest : List Value} (hlen : ∀ sig, parseMethodDescriptor y.desc = some sig → argsL.length = sig.parameters.length)
    (hstack : g.stack = argsL.reverse ++ rest) (hW : 2 * g.monitorRoom + (rest.map fun v => v.category).sum ≤ W) (hdg : decode c.code g.pc = .ok (.invokestatic index, 3)) (ha : argsL.toArray = as') (eT : T.heap = h) (hc : cells + kc' ≤ R.cells) (hs : slots + ks' ≤ R.slots)
    (k : ∀ (v : Option Value) (T' : State) (L : List Loc), Qc v T'.heap L → AfterW p l e R s m args below meth c Z EL vm0 h own T' (locs ++ L) (cells + kc') (slots + ks') → Goes p e below F T' { g with pc := g.pc + 3, stack := v.toList ++ rest }) : Goes p e below F T g := by
  obtain ⟨v, vm₁, ⟨T', L', k', n'⟩, -, X', hS', hgr, ⟨L, hQ, h1, h2, h3, hC⟩, st⟩ := callSS X hx hown hlink hstat hinit hcode hy hK hg hsize hlen hstack hW hdg (fun _ _ => ⟨ha, eT, hc, hs⟩)
  dsimp only [Pt.U, Pt.locs, Pt.cells, Pt.slots] at X' h1 h2 h3 st hQ hS' hgr hC
  subst h1 h2 h3
  exact Goes.step (fun t q => st.trans q) (k v T' L hQ (AfterW.of hS hk eT hZ hown X' hS' hgr hC))
/-- a constructor that may intern -/
theorem Goes.callCW (X : Stand p l e R (s.setVm vm0) m args below meth c T locs cells slots) (hx : p.tables.exec = Jvm.exec) {own : String} {index : Nat} {y : MethodName} {bytes : ByteArray} {maxL : Nat} (hS : s.Since vm0 k0) (hk : k0 ≤ h.size) (hZ : Z.Warmed39 vm0) (hy1 : y.name = "<init>")
    (hown : vm0.findClass own = some m.cls) (hlink : (Cond.methodLink own index y).before args (s.setVm vm0) = true) (hinst : (Cond.instanceMethod y).before args (s.setVm vm0) = true) (hcode : (Cond.code y bytes maxL none).before args (s.setVm vm0) = true)
    (hy : y.cls ≠ "java/lang/invoke/MethodHandle" ∧ y.cls ≠ "java/lang/invoke/VarHandle")
    {W : Nat} {as' : Array Value} {Qc : Option Value → Heap → List Loc → Prop} {kc' ks' : Nat}
    (hK : BackS l R p e below (s.setVm vm0) args y 3 W (fun A a => a = as' ∧ A.U.heap = h ∧ A.cells + kc' ≤ R.cells ∧ A.slots + ks' ≤ R.slots) (fun A _ v B => ∃ L, Qc v B.U.heap L ∧ B.locs = A.locs ++ L ∧ B.cells = A.cells + kc' ∧ B.slots = A.slots + ks' ∧ CHr Z EL vm0 h B.U.vm B.U.heap))
    (hg : g.method = m) (hsize : g.locals.size = c.maxLocals) {a : Addr} {argsL rest : List Value} (hlen : ∀ sig, parseMethodDescriptor y.desc = some sig → argsL.length = sig.parameters.length)
    (hstack : g.stack = argsL.reverse ++ .ref a :: rest) (hW : 2 * g.monitorRoom + (rest.map fun v => v.category).sum ≤ W) (hdg : decode c.code g.pc = .ok (.invokespecial index, 3)) (ha : (.ref a :: argsL).toArray = as') (eT : T.heap = h) (hc : cells + kc' ≤ R.cells) (hs : slots + ks' ≤ R.slots)
    (k : ∀ (v : Option Value) (T' : State) (L : List Loc), Qc v T'.heap L → AfterW p l e R s m args below meth c Z EL vm0 h own T' (locs ++ L) (cells + kc') (slots + ks') → Goes p e below F T' { g with pc := g.pc + 3, stack := v.toList ++ rest }) : Goes p e below F T g := by
  obtain ⟨v, vm₁, ⟨T', L', k', n'⟩, -, X', hS', hgr, ⟨L, hQ, h1, h2, h3, hC⟩, st⟩ := X.specialBackS hx hy1 hown hlink hinst hcode hy hK hg hsize (Steps.refl _) hlen hstack hW hdg (fun _ _ => ⟨ha, eT, hc, hs⟩)
  dsimp only [Pt.U, Pt.locs, Pt.cells, Pt.slots] at X' h1 h2 h3 st hQ hS' hgr hC
  subst h1 h2 h3
  exact Goes.step (fun t q => st.trans q) (k v T' L hQ (AfterW.of hS hk eT hZ hown X' hS' hgr hC))
/-- an instance method that may intern -/
theorem Goes.callVW (X : Stand p l e R (s.setVm vm0) m args below meth c T locs cells slots) (hx : p.tables.exec = Jvm.exec) {own C : String} {index : Nat} {y z : MethodName} (hS : s.Since vm0 k0) (hk : k0 ≤ h.size) (hZ : Z.Warmed39 vm0)
    (hown : vm0.findClass own = some m.cls) (hlink : (Cond.methodLink own index y).before args (s.setVm vm0) = true) (hdecl : (Cond.declares y).before args (s.setVm vm0) = true) (hnf : NotFace (s.setVm vm0) y)
    (hsel : (Cond.selects C y z).before args (s.setVm vm0) = true) (hinst : (Cond.instanceMethod z).before args (s.setVm vm0) = true)
    (hy : y.cls ≠ "java/lang/invoke/MethodHandle" ∧ y.cls ≠ "java/lang/invoke/VarHandle")
    {W : Nat} {as' : Array Value} {Qc : Option Value → Heap → List Loc → Prop} {kc' ks' : Nat}
    (hK : BackS l R p e below (s.setVm vm0) args z 3 W (fun A a => a = as' ∧ A.U.heap = h ∧ A.cells + kc' ≤ R.cells ∧ A.slots + ks' ≤ R.slots) (fun A _ v B => ∃ L, Qc v B.U.heap L ∧ B.locs = A.locs ++ L ∧ B.cells = A.cells + kc' ∧ B.slots = A.slots + ks' ∧ CHr Z EL vm0 h B.U.vm B.U.heap))
    {b : Addr} (eT : T.heap = h) (E : Exa Z h b C)
    (hg : g.method = m) (hsize : g.locals.size = c.maxLocals) {argsL rest : List Value} (hlen : ∀ sig, parseMethodDescriptor y.desc = some sig → argsL.length = sig.parameters.length)
    (hstack : g.stack = argsL.reverse ++ .ref b :: rest) (hW : 2 * g.monitorRoom + (rest.map fun v => v.category).sum ≤ W) (hdg : decode c.code g.pc = .ok (.invokevirtual index, 3)) (ha : (.ref b :: argsL).toArray = as') (hc : cells + kc' ≤ R.cells) (hs : slots + ks' ≤ R.slots)
    (k : ∀ (v : Option Value) (T' : State) (L : List Loc), Qc v T'.heap L → AfterW p l e R s m args below meth c Z EL vm0 h own T' (locs ++ L) (cells + kc') (slots + ks') → Goes p e below F T' { g with pc := g.pc + 3, stack := v.toList ++ rest }) : Goes p e below F T g := by
  obtain ⟨cq, kq, qa, qb, qc⟩ := isOf (s := s.setVm vm0) hZ eT E
  obtain ⟨v, vm₁, ⟨T', L', k', n'⟩, -, X', hS', hgr, ⟨L, hQ, h1, h2, h3, hC⟩, st⟩ := X.virtualBackS hx hown hlink hdecl hnf hsel hinst hy hK qa qc hg hsize (Steps.refl _) hlen hstack hW hdg (fun _ _ => ⟨ha, eT, hc, hs⟩)
  dsimp only [Pt.U, Pt.locs, Pt.cells, Pt.slots] at X' h1 h2 h3 st hQ hS' hgr hC
  subst h1 h2 h3
  exact Goes.step (fun t q => st.trans q) (k v T' L hQ (AfterW.of hS hk eT hZ hown X' hS' hgr hC))
end OwnW
end Jvm.RoadKit
namespace Jvm.RoadKit
open Sem ClassFile Op Lib Jvm.Stand Jvm.Free Jvm.LawKit
section Own2
variable {p : Program} {l : Launch} {e : Env} {R : Room} {s : State} {m : MethodId} {args : Array Value} {below : List Frame} {meth : Method} {c : Code} {T T' : State} {locs : List Loc} {cells slots : Nat} {F : Option Value → State → Prop} {g : JFrame} {Z : State} {a0 : Array Value} {h : Heap}
theorem own_declares {y : MethodName} {bytes : ByteArray} {mx : Nat} {rt : Option FieldType} (wi : (Cond.instanceMethod y).before a0 Z = true) (wc : (Cond.code y bytes mx rt).before a0 Z = true) : (Cond.declares y).before a0 Z = true := by
  obtain ⟨mk, methM, hnamed, hmethM, hst, -⟩ := Cond.instanceMethod_spec wi
  obtain ⟨m2, cM, q1, -, -, -, -, -, -, hsig⟩ := Cond.code_spec hnamed wc
  cases hmethM.symm.trans q1
  simp [Cond.before, Cond.holds, Cond.value, hnamed, hmethM, hst, hsig]
/-- a class that a selected method stands in is no interface -/
theorem own_noFace {C : String} {y z : MethodName} (w : (Cond.selects C y z).before a0 Z = true) {cz : ClassId} (hz : Z.vm.findClass z.cls = some cz) : ∃ k, Z.vm.classes[cz]? = some k ∧ k.isInterface = false := by
  obtain ⟨c2, r2, m2, q1, q2, q3, q4, kP, hkP, hkPi⟩ := Cond.selects_spec w
  have := findClass_of_methodNamed q3
  cases hz.symm.trans this
  exact ⟨kP, hkP, hkPi⟩
theorem own_sameMethod {C : String} {y y' z' : MethodName} (wi : (Cond.instanceMethod y).before a0 Z = true) (w : (Cond.selects C y' z').before a0 Z = true) (hc : z'.cls = y.cls) (hy : y.cls ≠ "java/lang/invoke/MethodHandle" ∧ y.cls ≠ "java/lang/invoke/VarHandle") : (Cond.sameMethod y.cls y.cls y.name y.desc).before a0 Z = true := by
  obtain ⟨mk, methM, hnamed, hmethM, hst, -⟩ := Cond.instanceMethod_spec wi
  have hf := State.methodFound?_of_named hnamed hy
  have hcl := findClass_of_methodNamed hnamed
  obtain ⟨k, hk, hni⟩ := own_noFace w (hc ▸ hcl)
  have hnamed' : Z.methodNamed? ⟨y.cls, y.name, y.desc⟩ = some mk := hnamed
  simp [Cond.before, Cond.holds, Cond.value, hcl, hf, hnamed', hk, hni]
theorem own_notFace {C : String} {y y' z' : MethodName} (w : (Cond.selects C y' z').before a0 s = true) (hc : z'.cls = y.cls) : NotFace s y := fun r0 h0 => by
  obtain ⟨k, hk, hni⟩ := own_noFace w (hc ▸ findClass_of_methodNamed h0)
  exact ⟨k, hk, hni⟩
theorem own_ne_arv {a b : Addr} {C : String} {kk : Nat} {k : ClassId} {ty : FieldType} {z : Int32} {vs : List Value} {dv : Value} (E : Exa Z h a C) (wi : (Cond.instantiable C kk).before a0 Z = true) (V : Arv Z h b k ty z vs dv) : a ≠ b := by
  obtain ⟨cl, A, -⟩ := V
  exact ne_arr E wi A
/-- super.m(..), by its contract -/
theorem Goes.callSup (X : Stand p l e R s m args below meth c T locs cells slots) (hx : p.tables.exec = Jvm.exec) (hZ : Z.Warmed39 s.vm) {own K : String} {index : Nat} {y : MethodName} {bytes : ByteArray} {maxL : Nat} {ret : Option FieldType}
    (hown : s.vm.findClass own = some m.cls) (w1 : (Cond.methodLink own index y).before a0 Z = true) (w2 : (Cond.sameMethod y.cls y.cls y.name y.desc).before a0 Z = true) (w3 : (Cond.instanceMethod y).before a0 Z = true) (w4 : (Cond.superclass own y.cls).before a0 Z = true) (hn : y.name ≠ "<init>")
    {W : Nat} {as' : Array Value} {Qc : Option Value → Heap → List Loc → Prop} {kc' ks' : Nat}
    (hK : Back l R p e below s args y 3 W (fun A a => a = as' ∧ A.U.heap = h ∧ A.cells + kc' ≤ R.cells ∧ A.slots + ks' ≤ R.slots) (fun A _ v B => ∃ L, Qc v B.U.heap L ∧ B.locs = A.locs ++ L ∧ B.cells = A.cells + kc' ∧ B.slots = A.slots + ks'))
    {a : Addr} (eT : T.heap = h) (FI : Ins Z h a K true) (wc : (Cond.code y bytes maxL ret).before a0 Z = true)
    (hg : g.method = m) (hsize : g.locals.size = c.maxLocals) {argsL rest : List Value} (hlen : ∀ sig, parseMethodDescriptor y.desc = some sig → argsL.length = sig.parameters.length)
    (hstack : g.stack = argsL.reverse ++ .ref a :: rest) (hW : 2 * g.monitorRoom + (rest.map fun v => v.category).sum ≤ W) (hdg : decode c.code g.pc = .ok (.invokespecial index, 3)) (ha : (.ref a :: argsL).toArray = as') (hc : cells + kc' ≤ R.cells) (hs : slots + ks' ≤ R.slots)
    (k : ∀ (v : Option Value) (T' : State) (L : List Loc), Qc v T'.heap L → Stand p l e R s m args below meth c T' (locs ++ L) (cells + kc') (slots + ks') → Goes p e below F T' { g with pc := g.pc + 3, stack := v.toList ++ rest }) : Goes p e below F T g := by
  obtain ⟨v, vm₁, ⟨T', L', k', n'⟩, -, X', ⟨L, hQ, h1, h2, h3⟩, st⟩ := superBack X hx hZ hown w1 w2 w3 w4 hn hK eT FI hg hsize wc hlen hstack hW hdg (fun _ _ => ⟨ha, eT, hc, hs⟩)
  dsimp only [Pt.U, Pt.locs, Pt.cells, Pt.slots] at X' h1 h2 h3 st hQ
  subst h1 h2 h3
  exact Goes.step (fun t q => st.trans q) (k v T' L hQ X')
end Own2
end Jvm.RoadKit
namespace Jvm.RoadKit
open Sem ClassFile Op Lib Jvm.Stand Jvm.Free Jvm.LawKit
theorem own_and255 (x : Int32) : ¬ (x &&& 255) < 0 ∧ ¬ (255 : Int32) < (x &&& 255) := by
  have t : ∀ k : Fin 256, ¬ (Int32.ofNat k.val) < 0 ∧ ¬ (255 : Int32) < (Int32.ofNat k.val) := by decide +kernel
  have h : (x &&& 255).toBitVec.toNat < 256 := by
    simp only [Int32.toBitVec_and, BitVec.toNat_and]
    exact Nat.lt_succ_of_le Nat.and_le_right
  have e : (x &&& 255) = Int32.ofNat (x &&& 255).toBitVec.toNat := by
    apply Int32.toBitVec_inj.mp
    show _ = BitVec.ofNat 32 _
    rw [BitVec.ofNat_toNat]; simp
  rw [e]
  exact t ⟨_, h⟩
theorem own_byteOf {c : Int32} (h : ¬ c < 0 ∧ ¬ (255 : Int32) < c) : ∃ k : Fin 256, c = Int32.ofNat k.val := by
  obtain ⟨h1, h2⟩ := h
  rw [Int32.lt_iff_toInt_lt] at h1 h2
  have e0 : (0 : Int32).toInt = 0 := rfl
  have e1 : (255 : Int32).toInt = 255 := rfl
  refine ⟨⟨c.toInt.toNat, by omega⟩, ?_⟩
  apply Int32.toInt_inj.mp
  show c.toInt = (Int32.ofNat c.toInt.toNat).toInt
  rw [Int32.toInt_ofNat_of_lt (by omega)]
  omega
theorem own_nar {c : Int32} (h : ¬ c < 0 ∧ ¬ (255 : Int32) < c) : nar .char c = c := by
  have t : ∀ k : Fin 256, nar .char (Int32.ofNat k.val) = Int32.ofNat k.val := by decide +kernel
  obtain ⟨k, rfl⟩ := own_byteOf h
  exact t k
theorem own_i2c {c : Int32} (h : ¬ c < 0 ∧ ¬ (255 : Int32) < c) : c.toUInt32.toUInt16.toUInt32.toInt32 = c := own_nar h
end Jvm.RoadKit
namespace Jvm.RoadKit
open Sem ClassFile Op Lib Jvm.Stand Jvm.Free Jvm.LawKit
theorem own_and3 (x : Int32) : ((1 : Int32) + (x &&& (3 : Int32))) = 1 ∨ ((1 : Int32) + (x &&& (3 : Int32))) = 2 ∨ ((1 : Int32) + (x &&& (3 : Int32))) = 3 ∨ ((1 : Int32) + (x &&& (3 : Int32))) = 4 := by
  have t : ∀ k : Fin 4, ((1 : Int32) + Int32.ofNat k.val) = 1 ∨ ((1 : Int32) + Int32.ofNat k.val) = 2 ∨ ((1 : Int32) + Int32.ofNat k.val) = 3 ∨ ((1 : Int32) + Int32.ofNat k.val) = 4 := by decide +kernel
  have h : (x &&& 3).toBitVec.toNat < 4 := by
    simp only [Int32.toBitVec_and, BitVec.toNat_and]
    exact Nat.lt_succ_of_le Nat.and_le_right
  have e : (x &&& 3) = Int32.ofNat (x &&& 3).toBitVec.toNat := by
    apply Int32.toBitVec_inj.mp
    show _ = BitVec.ofNat 32 _
    rw [BitVec.ofNat_toNat]; simp
  rw [e]
  exact t ⟨_, h⟩
end Jvm.RoadKit
namespace Jvm.RoadKit
open Sem ClassFile Op Lib Jvm.Stand Jvm.Free Jvm.LawKit
/-- .. of a body that may intern constants of EL -/
abbrev OwnLawW (l : Launch) (y : MethodName) (bytes : ByteArray) (maxL : Nat) (ret : Option FieldType) (ws : List Cond) (R : Room) (as : Array Value) (Z : State) (EL : List (String × Nat)) (h0 : Heap) (Q : Option Value → Heap → List Loc → Prop) : Prop :=
  MetFree l y (head1 (Cond.code y bytes maxL ret :: ws) R) (fun aa U => aa = as ∧ Z.Warmed39 U.vm ∧ U.heap = h0 ∧ CHv Z EL U.vm h0) (fun _ _ _ _ _ => True) (fun _ U oo U' => ∃ vv LL, oo = .returned vv ∧ Q vv U'.heap LL ∧ CHr Z EL U.vm U.heap U'.vm U'.heap ∧ ReturnedEndW U oo U' LL R.cells R.slots)
theorem own_enterW {l : Launch} {y : MethodName} {bytes : ByteArray} {maxL : Nat} {ret : Option FieldType} {ws : List Cond} {R : Room} {as : Array Value} {Z : State} {EL : List (String × Nat)} {h0 : Heap} {Q : Option Value → Heap → List Loc → Prop} {Ls : Array Slot} (pf : plainFor y = true) (ef : ∀ m, entryFrame m as maxL = mkF m 0 Ls [])
    (k : ∀ (p : Program) (e : Env) (s : State) (m : MethodId) (below : List Frame) (meth : Method) (c : Code) (T : State), BodyLoose p l y (head1 (Cond.code y bytes maxL ret :: ws) R) bytes maxL ret e s m as below meth c T → p.tables.exec = Jvm.exec → c.code = bytes → c.maxLocals = maxL → Z.Warmed39 s.vm → s.vm.findClass y.cls = some m.cls → Stand p l e R (s.setVm s.vm) m as below meth c T [] 0 0 → T.heap = h0 → s.heap = h0 → s.Since s.vm h0.size → CHr Z EL s.vm h0 s.vm h0 → Goes p e below (EndW s Z EL Q R.cells R.slots) T (mkF m 0 Ls [])) : OwnLawW l y bytes maxL ret ws R as Z EL h0 Q := by
  refine MetFree.of_bodySF pf hisR ?_
  intro p e s m args below meth c s₁ Bd hml hP hK
  obtain ⟨rfl, hZ, hh, hCH⟩ := hP
  refine Goes.giveW ?_
  rw [ef m]
  exact k p e s m below meth c s₁ Bd Bd.exec Bd.bytes hml hZ (findClass_of_methodNamed Bd.named) (Stand.of_body Bd) (by rw [← hh, Bd.state]; rfl) hh ((State.WarmedH.refl s).since _) (CHr.refl hCH)
end Jvm.RoadKit
/- laws to paste: Road.backV, Road.lenW, Road.chN, Road.empW, Road.codOf (cut by pick.py; bodies as the Statement names them) -/
namespace Jvm.Pilot.@@N@@
namespace StrChars
open Jvm Sem ClassFile Op Lib Jvm.Stand Jvm.Free.XT Jvm.Free.ALB Jvm.Free.JM Jvm.Free
open Jvm.Lib.Cold (StaticIs)
/-- a char array whose places are chars -/
def Ch (a : Addr) (A : Cell) (U : State) : Prop := Arr .char a A U ∧ Typed .char A
theorem Ch.mv {a : Addr} {A : Cell} {U U' : State} (h : Ch a A U) (hal : U.vm.Alike U'.vm) (hh : U'.heap = U.heap) : Ch a A U' := ⟨h.1.mv hal hh, h.2⟩
theorem Ch.keep {a : Addr} {A : Cell} {U U' : State} (h : Ch a A U) (hal : U.vm.Alike U'.vm) (hk : U'.heap[a]? = some A) : Ch a A U' := ⟨h.1.keep hal hk, h.2⟩
/-- what place i of a char[]'s cell holds -/
def cv (A : Cell) (i : Nat) : Int32 := match A.slots[i]? with | some (.int x) => x | _ => 0
theorem Ch.get {a : Addr} {A : Cell} {U : State} (h : Ch a A U) {i : Nat} (hi : i < A.slots.size) : A.slots[i]? = some (.int (cv A i)) := by
  have e := Array.getElem?_eq_getElem hi
  have f := h.2 i _ e
  unfold cv; rw [e]
  generalize A.slots[i] = v at f
  cases v <;> simp [fits] at f ⊢
/-- the byte that i2b leaves of a char -/
def lo8 (x : Int32) : Int32 := x.toInt8.toInt32
theorem fits_lo8 (y : Int32) : fits .byte (.int (lo8 y)) = true := by
  have h1 := y.toInt8.le_toInt
  have h2 := y.toInt8.toInt_lt
  simp only [lo8, fits, Bool.and_eq_true, decide_eq_true_eq, Int32.le_iff_toInt_le, Int8.toInt_toInt32, show (-128 : Int32).toInt = -128 from by decide, show (127 : Int32).toInt = 127 from by decide]
  omega
/-- A' is A but that each place j of lo .. hi - 1 holds f j -/
def Laid (A A' : Cell) (lo hi : Nat) (f : Nat → Value) : Prop := A'.cls = A.cls ∧ A'.vm = A.vm ∧ A'.slots.size = A.slots.size ∧ ∀ i, A'.slots[i]? = if lo ≤ i ∧ i < hi then some (f i) else A.slots[i]?
theorem Laid.zero (A : Cell) (lo : Nat) (f : Nat → Value) : Laid A A lo (lo + 0) f := ⟨rfl, rfl, rfl, fun i => by rw [if_neg (by omega)]⟩
theorem Laid.step {A Ak : Cell} {lo k : Nat} {f : Nat → Value} {v : Value} (h : Laid A Ak lo k f) (hlo : lo ≤ k) (hk : k < Ak.slots.size) (hv : v = f k) : Laid A (Ak.setSlot k v) lo (k + 1) f := by
  refine ⟨h.1, h.2.1, by simpa [Cell.setSlot] using h.2.2.1, fun i => ?_⟩
  by_cases e : k = i
  · subst e; rw [Cell.slots_setSlot_self v hk, if_pos (by omega), hv]
  · rw [Cell.slots_setSlot_ne v e, h.2.2.2 i]
    by_cases q : lo ≤ i ∧ i < k
    · rw [if_pos q, if_pos (by omega)]
    · rw [if_neg q, if_neg (by omega)]
def U16 : String := "java/lang/StringUTF16"
namespace Cmp5
def yN : MethodName := ⟨"java/lang/StringUTF16", "compress", "([CI[BII)I"⟩
abbrev yB : ByteArray := jdk_52_method_21_code
theorem d0 : decode yB 0 = .ok (.iconst 0, 1) := by decide +kernel
theorem d1 : decode yB 1 = .ok (.istore 5, 2) := by decide +kernel
theorem d3 : decode yB 3 = .ok (.iload 5, 2) := by decide +kernel
theorem d5 : decode yB 5 = .ok (.iload 4, 2) := by decide +kernel
theorem d7 : decode yB 7 = .ok (.if_icmp (.ge) 37, 3) := by decide +kernel
theorem d10 : decode yB 10 = .ok (.aload_n 0, 1) := by decide +kernel
theorem d11 : decode yB 11 = .ok (.iload_n 1, 1) := by decide +kernel
theorem d12 : decode yB 12 = .ok (.caload, 1) := by decide +kernel
theorem d13 : decode yB 13 = .ok (.istore 6, 2) := by decide +kernel
theorem d15 : decode yB 15 = .ok (.iload 6, 2) := by decide +kernel
theorem d17 : decode yB 17 = .ok (.sipush 255, 3) := by decide +kernel
theorem d20 : decode yB 20 = .ok (.if_icmp (.le) 6, 3) := by decide +kernel
theorem d26 : decode yB 26 = .ok (.aload_n 2, 1) := by decide +kernel
theorem d27 : decode yB 27 = .ok (.iload_n 3, 1) := by decide +kernel
theorem d28 : decode yB 28 = .ok (.iload 6, 2) := by decide +kernel
theorem d30 : decode yB 30 = .ok (.i2b, 1) := by decide +kernel
theorem d31 : decode yB 31 = .ok (.bastore, 1) := by decide +kernel
theorem d32 : decode yB 32 = .ok (.iinc 1 1, 3) := by decide +kernel
theorem d35 : decode yB 35 = .ok (.iinc 3 1, 3) := by decide +kernel
theorem d38 : decode yB 38 = .ok (.iinc 5 1, 3) := by decide +kernel
theorem d41 : decode yB 41 = .ok (.goto (-38), 3) := by decide +kernel
theorem d44 : decode yB 44 = .ok (.iload 4, 2) := by decide +kernel
theorem d46 : decode yB 46 = .ok (.ireturn, 1) := by decide +kernel
def site : List Cond := []
def tab : Cond := tabOf yN yB 7 (some .int) site
def P (b : Addr) (A : Cell) (d : Addr) (B : Cell) (o q len : Nat) (args : Array Value) (s : State) : Prop := args = #[.ref b, .int (Int32.ofNat o), .ref d, .int (Int32.ofNat q), .int (Int32.ofNat len)] ∧ Ch b A s ∧ Arr .byte d B s ∧ b ≠ d ∧ o + len ≤ A.slots.size ∧ q + len ≤ B.slots.size ∧ ∀ i, i < len → ¬ 255 < cv A (o + i)
def E (b : Addr) (A : Cell) (d : Addr) (B : Cell) (o q len : Nat) (r : Option Value) (s u : State) : Prop := r = some (.int (Int32.ofNat len)) ∧ ∃ B', Put d B' s u ∧ Laid B B' q (q + len) (fun j => Value.int (lo8 (cv A (o + (j - q)))))
/-- no char of the range above 255: len; the places written hold each char's low byte -/
theorem law (l : Launch) (b : Addr) (A : Cell) (d : Addr) (B : Cell) (o q len : Nat) : Law l yN 5 5 0 0 yB 7 (some .int) site (P b A d B o q len) (E b A d B o q len) (copyLocs d q len) 0 0 := by
  refine Law.of_walk (plainFor_of_name (by decide +kernel)) (by decide +kernel) (by decide +kernel) (by decide) (fun _ _ h => by rw [h.1]; rfl) (fun _ U U' hal hh h => ⟨h.1, h.2.1.mv hal hh, h.2.2.1.mv hal hh, h.2.2.2⟩) (fun r U U' V V' h1 hal h2 h => ⟨h.1, h.2.elim fun B' q => ⟨B', q.1.mv h1 h2, q.2⟩⟩) ?_
  intro p e s m args below meth c s₁ X0 hexec hbytes hml hret hlk hnm hown hh0 W hP
  obtain ⟨rfl, hA, hB, hne, l1, l2, hp⟩ := hP
  have c1 : Steps p.tables e below (s₁.setTop (entryFrame m #[.ref b, .int (Int32.ofNat o), .ref d, .int (Int32.ofNat q), .int (Int32.ofNat len)] 7)) (s₁.setTop (mkF m 0 #[.val (.ref b), .val (.int (Int32.ofNat o)), .val (.ref d), .val (.int (Int32.ofNat q)), .val (.int (Int32.ofNat len)), .unset, .unset] [])) := entry rfl
  have hA0 := hA.1.mv X0.warmed.alike hh0
  have hB0 := hB.mv X0.warmed.alike hh0
  have a31 := hA.1.2.2.2
  have c2 : Steps p.tables e below (s₁.setTop (entryFrame m #[.ref b, .int (Int32.ofNat o), .ref d, .int (Int32.ofNat q), .int (Int32.ofNat len)] 7)) (s₁.setTop (mkF m 3 #[.val (.ref b), .val (.int (Int32.ofNat o)), .val (.ref d), .val (.int (Int32.ofNat q)), .val (.int (Int32.ofNat len)), .val (.int 0), .unset] [])) := c1.trans (by
    refine iconstV X0.here hexec rfl 0 (hb hbytes d0) (by decide) ?_
    refine XS.istore X0.here hexec rfl (hb hbytes d1) rfl rfl ?_
    exact Steps.refl _)
  have loop : ∀ (r i : Nat), i + r = len → ∀ (z : Slot), (z = .unset ∨ ∃ w, z = .val w ∧ w.category = 1) → ∀ (Tl : State) (Bk : Cell), Stand p l e { frames := 0, locals := 0, cells := 0, slots := 0 } s m #[.ref b, .int (Int32.ofNat o), .ref d, .int (Int32.ofNat q), .int (Int32.ofNat len)] below meth c Tl ([] ++ copyLocs d q i) 0 0 → Put d Bk s₁ Tl → Laid B Bk q (q + i) (fun j => Value.int (lo8 (cv A (o + (j - q))))) →
      Steps p.tables e below (s₁.setTop (entryFrame m #[.ref b, .int (Int32.ofNat o), .ref d, .int (Int32.ofNat q), .int (Int32.ofNat len)] 7)) (Tl.setTop (mkF m 3 #[.val (.ref b), .val (.int (Int32.ofNat (o + i))), .val (.ref d), .val (.int (Int32.ofNat (q + i))), .val (.int (Int32.ofNat len)), .val (.int (Int32.ofNat i)), z] [])) → ∃ (T' : State) (B' : Cell) (z' : Slot), Stand p l e { frames := 0, locals := 0, cells := 0, slots := 0 } s m #[.ref b, .int (Int32.ofNat o), .ref d, .int (Int32.ofNat q), .int (Int32.ofNat len)] below meth c T' ([] ++ copyLocs d q len) 0 0 ∧ Put d B' s₁ T' ∧ Laid B B' q (q + len) (fun j => Value.int (lo8 (cv A (o + (j - q))))) ∧
      Steps p.tables e below (s₁.setTop (entryFrame m #[.ref b, .int (Int32.ofNat o), .ref d, .int (Int32.ofNat q), .int (Int32.ofNat len)] 7)) (T'.setTop (mkF m 3 #[.val (.ref b), .val (.int (Int32.ofNat (o + len))), .val (.ref d), .val (.int (Int32.ofNat (q + len))), .val (.int (Int32.ofNat len)), .val (.int (Int32.ofNat len)), z'] [])) := by
    intro r
    induction r with
    | zero =>
      intro i hi z hz Tl Bk Xl pl fl cl
      have hil : i = len := by omega
      rw [hil] at Xl fl cl
      exact ⟨Tl, Bk, z, Xl, pl, fl, cl⟩
    | succ r ih =>
      intro i hi z hz Tl Bk Xl pl fl cl
      have all := X0.warmed.alike.symm.trans Xl.warmed.alike
      have hAl := hA0.keep all (pl.other hne hA0.1)
      have hBk := hB0.like all pl.1 fl.1 fl.2.1 fl.2.2.1
      have hlt : q + i < Bk.slots.size := by rw [fl.2.2.1]; omega
      have c3 : Steps p.tables e below (s₁.setTop (entryFrame m #[.ref b, .int (Int32.ofNat o), .ref d, .int (Int32.ofNat q), .int (Int32.ofNat len)] 7)) (Tl.setTop (mkF m 12 #[.val (.ref b), .val (.int (Int32.ofNat (o + i))), .val (.ref d), .val (.int (Int32.ofNat (q + i))), .val (.int (Int32.ofNat len)), .val (.int (Int32.ofNat i)), z] [.int (Int32.ofNat (o + i)), .ref b])) := cl.trans (by
        refine XS.iload Xl.here hexec rfl (hb hbytes d3) rfl ?_
        refine XS.iload Xl.here hexec rfl (hb hbytes d5) rfl ?_
        refine XS.icmpNo Xl.here hexec rfl (hb hbytes d7) rfl (ii_ge_f (lt32 (by omega) (by omega))) ?_
        refine XS.aloadN Xl.here hexec rfl (hb hbytes d10) rfl rfl ?_
        refine XS.iloadN Xl.here hexec rfl (hb hbytes d11) rfl ?_
        exact Steps.refl _)
      have c4 : Steps p.tables e below (s₁.setTop (entryFrame m #[.ref b, .int (Int32.ofNat o), .ref d, .int (Int32.ofNat q), .int (Int32.ofNat len)] 7)) (Tl.setTop (mkF m 13 #[.val (.ref b), .val (.int (Int32.ofNat (o + i))), .val (.ref d), .val (.int (Int32.ofNat (q + i))), .val (.int (Int32.ofNat len)), .val (.int (Int32.ofNat i)), z] [.int (cv A (o + i))])) := c3.trans (by
        refine Xl.aget hexec hAl rfl (hA.get (i := o + i) (by omega)) rfl rfl (hb hbytes d12) ?_
        exact Steps.refl _)
      have c5 : Steps p.tables e below (s₁.setTop (entryFrame m #[.ref b, .int (Int32.ofNat o), .ref d, .int (Int32.ofNat q), .int (Int32.ofNat len)] 7)) (Tl.setTop (mkF m 15 #[.val (.ref b), .val (.int (Int32.ofNat (o + i))), .val (.ref d), .val (.int (Int32.ofNat (q + i))), .val (.int (Int32.ofNat len)), .val (.int (Int32.ofNat i)), .val (.int (cv A (o + i)))] [])) := c4.trans (by
        refine XS.istoreS Xl.here hexec rfl (hb hbytes d13) rfl rfl hz ?_
        exact Steps.refl _)
      have c6 : Steps p.tables e below (s₁.setTop (entryFrame m #[.ref b, .int (Int32.ofNat o), .ref d, .int (Int32.ofNat q), .int (Int32.ofNat len)] 7)) (Tl.setTop (mkF m 31 #[.val (.ref b), .val (.int (Int32.ofNat (o + i))), .val (.ref d), .val (.int (Int32.ofNat (q + i))), .val (.int (Int32.ofNat len)), .val (.int (Int32.ofNat i)), .val (.int (cv A (o + i)))] [.int (lo8 (cv A (o + i))), .int (Int32.ofNat (q + i)), .ref d])) := c5.trans (by
        refine XS.iload Xl.here hexec rfl (hb hbytes d15) rfl ?_
        refine sipushV Xl.here hexec rfl 255 (hb hbytes d17) (by decide) ?_
        refine XS.icmpYes Xl.here hexec rfl (pc0 := 20) rfl (hb hbytes d20) rfl (ii_le_t (hp i (by omega))) (by decide) rfl ?_
        refine XS.aloadN Xl.here hexec rfl (hb hbytes d26) rfl rfl ?_
        refine XS.iloadN Xl.here hexec rfl (hb hbytes d27) rfl ?_
        refine XS.iload Xl.here hexec rfl (hb hbytes d28) rfl ?_
        refine i2b Xl.here hexec rfl (hb hbytes d30) rfl ?_
        exact Steps.refl _)
      obtain ⟨T7, X7, p7, st7⟩ := Xl.aput hexec hBk rfl hlt rfl (fits_lo8 (cv A (o + i))) (g := (mkF m 31 #[.val (.ref b), .val (.int (Int32.ofNat (o + i))), .val (.ref d), .val (.int (Int32.ofNat (q + i))), .val (.int (Int32.ofNat len)), .val (.int (Int32.ofNat i)), .val (.int (cv A (o + i)))] [.int (lo8 (cv A (o + i))), .int (Int32.ofNat (q + i)), .ref d])) rfl (rest := []) rfl (hb hbytes d31)
      have c8 : Steps p.tables e below (s₁.setTop (entryFrame m #[.ref b, .int (Int32.ofNat o), .ref d, .int (Int32.ofNat q), .int (Int32.ofNat len)] 7)) (T7.setTop (mkF m 32 #[.val (.ref b), .val (.int (Int32.ofNat (o + i))), .val (.ref d), .val (.int (Int32.ofNat (q + i))), .val (.int (Int32.ofNat len)), .val (.int (Int32.ofNat i)), .val (.int (cv A (o + i)))] [])) := c6.trans (st7 _ (Steps.refl _))
      have c9 : Steps p.tables e below (s₁.setTop (entryFrame m #[.ref b, .int (Int32.ofNat o), .ref d, .int (Int32.ofNat q), .int (Int32.ofNat len)] 7)) (T7.setTop (mkF m 3 #[.val (.ref b), .val (.int (Int32.ofNat (o + i) + 1)), .val (.ref d), .val (.int (Int32.ofNat (q + i) + 1)), .val (.int (Int32.ofNat len)), .val (.int (Int32.ofNat i + 1)), .val (.int (cv A (o + i)))] [])) := c8.trans (by
        refine iincV X7.here hexec rfl 1 (hb hbytes d32) (by decide) rfl rfl ?_
        refine iincV X7.here hexec rfl 1 (hb hbytes d35) (by decide) rfl rfl ?_
        refine iincV X7.here hexec rfl 1 (hb hbytes d38) (by decide) rfl rfl ?_
        refine XS.goto X7.here hexec rfl (pc0 := 41) rfl (hb hbytes d41) (by decide) rfl ?_
        exact Steps.refl _)
      have c10 : Steps p.tables e below (s₁.setTop (entryFrame m #[.ref b, .int (Int32.ofNat o), .ref d, .int (Int32.ofNat q), .int (Int32.ofNat len)] 7)) (T7.setTop (mkF m 3 #[.val (.ref b), .val (.int (Int32.ofNat (o + (i + 1)))), .val (.ref d), .val (.int (Int32.ofNat (q + (i + 1)))), .val (.int (Int32.ofNat len)), .val (.int (Int32.ofNat (i + 1))), .val (.int (cv A (o + i)))] [])) := by
        have := c9
        rw [succ32, succ32, succ32] at this
        exact this
      exact ih (i + 1) (by omega) _ (Or.inr ⟨_, rfl, rfl⟩) T7 _ (by rw [copyLocs_step, ← List.append_assoc]; exact X7) (pl.trans p7) (fl.step (by omega) hlt (by simp)) c10
  obtain ⟨T9, B9, z9, X9, p9, f9, g9⟩ := loop len 0 (by omega) .unset (Or.inl rfl) s₁ B (by simpa [copyLocs] using X0) ⟨hB0.1, fun _ _ => rfl, rfl⟩ (Laid.zero _ _ _) c2
  have c11 : Steps p.tables e below (s₁.setTop (entryFrame m #[.ref b, .int (Int32.ofNat o), .ref d, .int (Int32.ofNat q), .int (Int32.ofNat len)] 7)) (T9.setTop (mkF m 46 #[.val (.ref b), .val (.int (Int32.ofNat (o + len))), .val (.ref d), .val (.int (Int32.ofNat (q + len))), .val (.int (Int32.ofNat len)), .val (.int (Int32.ofNat len)), z9] [.int (Int32.ofNat len)])) := g9.trans (by
    refine XS.iload X9.here hexec rfl (hb hbytes d3) rfl ?_
    refine XS.iload X9.here hexec rfl (hb hbytes d5) rfl ?_
    refine XS.icmpYes X9.here hexec rfl (pc0 := 7) rfl (hb hbytes d7) rfl (ii_ge_t (nlt32 (by omega) (Nat.le_refl _))) (by decide) rfl ?_
    refine XS.iload X9.here hexec rfl (hb hbytes d44) rfl ?_
    exact Steps.refl _)
  exact ⟨T9, some (.int (Int32.ofNat len)), _, _, _, X9, by simp, rfl, rfl, (fun h => by cases h), ⟨rfl, B9, p9.from hh0, f9⟩, fun fs hl => c11.trans (X9.ireturnOut hexec hret rfl (Or.inl rfl) (hb hbytes d46) hl)⟩
end Cmp5
namespace Cmp3
def yN : MethodName := ⟨"java/lang/StringUTF16", "compress", "([CII)[B"⟩
abbrev yB : ByteArray := jdk_52_method_16_code
theorem d0 : decode yB 0 = .ok (.iload_n 2, 1) := by decide +kernel
theorem d1 : decode yB 1 = .ok (.newarray .byte, 2) := by decide +kernel
theorem d3 : decode yB 3 = .ok (.astore_n 3, 1) := by decide +kernel
theorem d4 : decode yB 4 = .ok (.aload_n 0, 1) := by decide +kernel
theorem d5 : decode yB 5 = .ok (.iload_n 1, 1) := by decide +kernel
theorem d6 : decode yB 6 = .ok (.aload_n 3, 1) := by decide +kernel
theorem d7 : decode yB 7 = .ok (.iconst 0, 1) := by decide +kernel
theorem d8 : decode yB 8 = .ok (.iload_n 2, 1) := by decide +kernel
theorem d9 : decode yB 9 = .ok (.invokestatic 115, 3) := by decide +kernel
theorem d12 : decode yB 12 = .ok (.istore 4, 2) := by decide +kernel
theorem d14 : decode yB 14 = .ok (.iload 4, 2) := by decide +kernel
theorem d16 : decode yB 16 = .ok (.iload_n 2, 1) := by decide +kernel
theorem d17 : decode yB 17 = .ok (.if_icmp (.eq) 40, 3) := by decide +kernel
theorem d57 : decode yB 57 = .ok (.aload_n 3, 1) := by decide +kernel
theorem d58 : decode yB 58 = .ok (.areturn, 1) := by decide +kernel
def site : List Cond := [.arrayClass .byte, Cmp5.tab] ++ staticW U16 115 Cmp5.yN
def tab : Cond := tabOf yN yB 6 (some (.array .byte)) site
def P (b : Addr) (A : Cell) (o len : Nat) (args : Array Value) (s : State) : Prop := args = #[.ref b, .int (Int32.ofNat o), .int (Int32.ofNat len)] ∧ Ch b A s ∧ o + len ≤ A.slots.size ∧ len ≤ 536870912 ∧ ∀ i, i < len → ¬ 255 < cv A (o + i)
def E (b : Addr) (A : Cell) (o len : Nat) (r : Option Value) (s u : State) : Prop := NewArr .byte "[B" len (fun j => .int (lo8 (cv A (o + j)))) r s u ∧ u.heap.size = s.heap.size + 1
/-- no char of the range above 255: a new byte[] of their low bytes -/
theorem law (l : Launch) (b : Addr) (A : Cell) (o len : Nat) : Law l yN 3 3 1 18 yB 6 (some (.array .byte)) site (P b A o len) (E b A o len) [] 1 len := by
  refine Law.of_walk (plainFor_of_name (by decide +kernel)) (by decide +kernel) (by decide +kernel) (by decide) (fun _ _ h => by rw [h.1]; rfl) (fun _ U U' hal hh h => ⟨h.1, h.2.1.mv hal hh, h.2.2⟩) (fun r U U' V V' h1 hal h2 h => ⟨NewArr.mv r U U' V V' h1 hal h2 h.1, by rw [h1, h2]; exact h.2⟩) ?_
  intro p e s m args below meth c s₁ X0 hexec hbytes hml hret hlk hnm hown hh0 W hP
  obtain ⟨rfl, hA, l1, l2, hp⟩ := hP
  have a31 := hA.1.2.2.2
  have c1 : Steps p.tables e below (s₁.setTop (entryFrame m #[.ref b, .int (Int32.ofNat o), .int (Int32.ofNat len)] 6)) (s₁.setTop (mkF m 0 #[.val (.ref b), .val (.int (Int32.ofNat o)), .val (.int (Int32.ofNat len)), .unset, .unset, .unset] [])) := entry rfl
  have c2 : Steps p.tables e below (s₁.setTop (entryFrame m #[.ref b, .int (Int32.ofNat o), .int (Int32.ofNat len)] 6)) (s₁.setTop (mkF m 1 #[.val (.ref b), .val (.int (Int32.ofNat o)), .val (.int (Int32.ofNat len)), .unset, .unset, .unset] [.int (Int32.ofNat len)])) := c1.trans (by
    refine XS.iloadN X0.here hexec rfl (hb hbytes d0) rfl ?_
    exact Steps.refl _)
  obtain ⟨T3, B3, X3, ba3, bs3, bv3, bh3, bf3, st3⟩ := X0.anew hexec (atype := .byte) (wk W (.arrayClass .byte)) rfl (by show len * 1 ≤ _; omega) (by omega) (g := (mkF m 1 #[.val (.ref b), .val (.int (Int32.ofNat o)), .val (.int (Int32.ofNat len)), .unset, .unset, .unset] [.int (Int32.ofNat len)])) rfl (hb hbytes d1) (rest := []) rfl (Nat.le_refl _) (by show 0 + len ≤ len; omega)
  rw [hh0] at ba3 st3
  have kp3 : XT.Kept s T3 := (XT.Kept.of_eq hh0).push bh3
  have hA3 := hA.keep X3.warmed.alike (kp3 _ _ hA.1.1)
  have hne : b ≠ s.heap.size := hA.1.ne
  have c4 : Steps p.tables e below (s₁.setTop (entryFrame m #[.ref b, .int (Int32.ofNat o), .int (Int32.ofNat len)] 6)) (T3.setTop (mkF m 3 #[.val (.ref b), .val (.int (Int32.ofNat o)), .val (.int (Int32.ofNat len)), .unset, .unset, .unset] [.ref s.heap.size])) := c2.trans (st3 _ (Steps.refl _))
  have c5 : Steps p.tables e below (s₁.setTop (entryFrame m #[.ref b, .int (Int32.ofNat o), .int (Int32.ofNat len)] 6)) (T3.setTop (mkF m 9 #[.val (.ref b), .val (.int (Int32.ofNat o)), .val (.int (Int32.ofNat len)), .val (.ref s.heap.size), .unset, .unset] [.int (Int32.ofNat len), .int 0, .ref s.heap.size, .int (Int32.ofNat o), .ref b])) := c4.trans (by
    refine XS.astoreN X3.here hexec rfl (hb hbytes d3) rfl rfl rfl ?_
    refine XS.aloadN X3.here hexec rfl (hb hbytes d4) rfl rfl ?_
    refine XS.iloadN X3.here hexec rfl (hb hbytes d5) rfl ?_
    refine XS.aloadN X3.here hexec rfl (hb hbytes d6) rfl rfl ?_
    refine iconstV X3.here hexec rfl 0 (hb hbytes d7) (by decide) ?_
    refine XS.iloadN X3.here hexec rfl (hb hbytes d8) rfl ?_
    exact Steps.refl _)
  obtain ⟨v6, T6, X6, E6, g6⟩ := X3.callS hexec (Cmp5.law l b A s.heap.size B3 o 0 len) hown (wks W (staticW U16 115 Cmp5.yN)) (wk W Cmp5.tab) (W := 0) (Nat.le_of_ble_eq_true rfl) (Nat.le_of_ble_eq_true rfl) (Nat.le_refl _) (by show 0 + len + 0 ≤ len; omega) (g := (mkF m 9 #[.val (.ref b), .val (.int (Int32.ofNat o)), .val (.int (Int32.ofNat len)), .val (.ref s.heap.size), .unset, .unset] [.int (Int32.ofNat len), .int (Int32.ofNat 0), .ref s.heap.size, .int (Int32.ofNat o), .ref b])) rfl (by rw [hml]; rfl) c5 (argsL := [.ref b, .int (Int32.ofNat o), .ref s.heap.size, .int (Int32.ofNat 0), .int (Int32.ofNat len)]) (rest := []) rfl rfl (by show 2 * 0 + 0 ≤ _; decide) (hb hbytes d9) (⟨rfl, hA3, ba3, hne, l1, by rw [bs3]; simp, hp⟩)
  obtain ⟨rfl, B6, p6, f6⟩ := E6
  have c7 : Steps p.tables e below (s₁.setTop (entryFrame m #[.ref b, .int (Int32.ofNat o), .int (Int32.ofNat len)] 6)) (T6.setTop (mkF m 12 #[.val (.ref b), .val (.int (Int32.ofNat o)), .val (.int (Int32.ofNat len)), .val (.ref s.heap.size), .unset, .unset] [.int (Int32.ofNat len)])) := g6
  have c8 : Steps p.tables e below (s₁.setTop (entryFrame m #[.ref b, .int (Int32.ofNat o), .int (Int32.ofNat len)] 6)) (T6.setTop (mkF m 58 #[.val (.ref b), .val (.int (Int32.ofNat o)), .val (.int (Int32.ofNat len)), .val (.ref s.heap.size), .val (.int (Int32.ofNat len)), .unset] [.ref s.heap.size])) := c7.trans (by
    refine XS.istore X6.here hexec rfl (hb hbytes d12) rfl rfl ?_
    refine XS.iload X6.here hexec rfl (hb hbytes d14) rfl ?_
    refine XS.iloadN X6.here hexec rfl (hb hbytes d16) rfl ?_
    refine XS.icmpYes X6.here hexec rfl (pc0 := 17) rfl (hb hbytes d17) rfl (ii_eq_t rfl) (by decide) rfl ?_
    refine XS.aloadN X6.here hexec rfl (hb hbytes d57) rfl rfl ?_
    exact Steps.refl _)
  have X8 := X6.wide (L' := []) (cells' := 1) (slots' := len) (fun x hx hlt => by
    simp only [List.nil_append, copyLocs, List.mem_map, List.mem_range] at hx
    obtain ⟨i, -, rfl⟩ := hx
    exact absurd hlt (Nat.lt_irrefl _)) (Nat.le_refl _) (by omega)
  exact ⟨T6, some (.ref s.heap.size), _, _, _, X8, rfl, rfl, rfl, (fun h => by cases h), ⟨⟨rfl, B6, ba3.like (X3.warmed.alike.symm.trans X6.warmed.alike) p6.1 f6.1 f6.2.1 f6.2.2.1, f6.2.1.trans bv3, by rw [X6.warmed.alike.findClass, f6.1]; exact bf3, by rw [f6.2.2.1, bs3]; simp, fun j hj => by rw [f6.2.2.2 j, if_pos (by omega)]; rfl, kp3.put p6 (Nat.le_refl _)⟩, by rw [p6.2.2, bh3, hh0]; simp⟩, fun fs hl => c8.trans (X8.areturnOut hexec rfl hret rfl (hb hbytes d58) hl)⟩
end Cmp3
namespace CodL
def yN : MethodName := ⟨"java/lang/StringUTF16", "coderFromArrayLen", "([BI)B"⟩
abbrev yB : ByteArray := jdk_52_method_15_code
theorem d0 : decode yB 0 = .ok (.iload_n 1, 1) := by decide +kernel
theorem d1 : decode yB 1 = .ok (.aload_n 0, 1) := by decide +kernel
theorem d2 : decode yB 2 = .ok (.arraylength, 1) := by decide +kernel
theorem d3 : decode yB 3 = .ok (.isub, 1) := by decide +kernel
theorem d4 : decode yB 4 = .ok (.bipush 31, 2) := by decide +kernel
theorem d6 : decode yB 6 = .ok (.iushr, 1) := by decide +kernel
theorem d7 : decode yB 7 = .ok (.i2b, 1) := by decide +kernel
theorem d8 : decode yB 8 = .ok (.ireturn, 1) := by decide +kernel
def site : List Cond := []
def tab : Cond := tabOf yN yB 2 (some .byte) site
def P (d : Addr) (B : Cell) (args : Array Value) (s : State) : Prop := args = #[.ref d, .int (Int32.ofNat B.slots.size)] ∧ Arr .byte d B s
def E (r : Option Value) (s u : State) : Prop := XT.PureE (some (.int 0)) r s u
/-- an array as long as the number of chars: LATIN1 -/
theorem law (l : Launch) (d : Addr) (B : Cell) : Law l yN 2 2 0 0 yB 2 (some .byte) site (P d B) E [] 0 0 := by
  refine Law.of_walk (plainFor_of_name (by decide +kernel)) (by decide +kernel) (by decide +kernel) (by decide) (fun _ _ h => by rw [h.1]; rfl) (fun _ U U' hal hh h => ⟨h.1, h.2.mv hal hh⟩) (fun r U U' V V' h1 hal h2 h => XT.PureE.mv r U U' V V' h1 hal h2 h) ?_
  intro p e s m args below meth c s₁ X0 hexec hbytes hml hret hlk hnm hown hh0 W hP
  obtain ⟨rfl, hB⟩ := hP
  have hB0 := hB.mv X0.warmed.alike hh0
  have c1 : Steps p.tables e below (s₁.setTop (entryFrame m #[.ref d, .int (Int32.ofNat B.slots.size)] 2)) (s₁.setTop (mkF m 0 #[.val (.ref d), .val (.int (Int32.ofNat B.slots.size))] [])) := entry rfl
  have c2 : Steps p.tables e below (s₁.setTop (entryFrame m #[.ref d, .int (Int32.ofNat B.slots.size)] 2)) (s₁.setTop (mkF m 2 #[.val (.ref d), .val (.int (Int32.ofNat B.slots.size))] [.ref d, .int (Int32.ofNat B.slots.size)])) := c1.trans (by
    refine XS.iloadN X0.here hexec rfl (hb hbytes d0) rfl ?_
    refine XS.aloadN X0.here hexec rfl (hb hbytes d1) rfl rfl ?_
    exact Steps.refl _)
  have c3 : Steps p.tables e below (s₁.setTop (entryFrame m #[.ref d, .int (Int32.ofNat B.slots.size)] 2)) (s₁.setTop (mkF m 8 #[.val (.ref d), .val (.int (Int32.ofNat B.slots.size))] [.int (lo8 (ushr (Int32.ofNat B.slots.size - Int32.ofNat B.slots.size) 31))])) := c2.trans (by
    refine X0.alen hexec hB0 rfl rfl (hb hbytes d2) ?_
    refine XS.isub X0.here hexec rfl (hb hbytes d3) rfl ?_
    refine bipushV X0.here hexec rfl 31 (hb hbytes d4) (by decide) ?_
    refine iushr X0.here hexec rfl (hb hbytes d6) rfl ?_
    refine i2b X0.here hexec rfl (hb hbytes d7) rfl ?_
    exact Steps.refl _)
  have e0 : lo8 (ushr (Int32.ofNat B.slots.size - Int32.ofNat B.slots.size) 31) = 0 := by rw [Int32.sub_self]; decide
  rw [e0] at c3
  exact ⟨s₁, some (.int 0), _, _, _, X0, rfl, rfl, rfl, (fun h => by cases h), ⟨rfl, hh0⟩, fun fs hl => c3.trans (X0.ireturnOut hexec hret rfl (Or.inr (Or.inr (Or.inl rfl))) (hb hbytes d8) hl)⟩
end CodL
/-- the String at a is Latin-1 over a new byte[] (the heap's one new cell): the low bytes of the len chars of A from o on; every cell but a is kept -/
def Got (a : Addr) (D : Cell) (fV fC : Field) (A : Cell) (o len : Nat) (r : Option Value) (s u : State) : Prop := r = none ∧ ∃ D' V : Cell, Blank "java/lang/String" a D' u ∧ Same D D' [fV.slot, fC.slot] ∧ D'.slots[fV.slot]? = some (.ref s.heap.size) ∧ D'.slots[fC.slot]? = some (.int 0) ∧ Arr .byte s.heap.size V u ∧ V.vm = .none ∧ u.vm.findClass "[B" = some V.cls ∧ V.slots.size = len ∧ (∀ j, j < len → V.slots[j]? = some (.int (lo8 (cv A (o + j))))) ∧ (∀ (y : Addr) (c : Cell), y ≠ a → s.heap[y]? = some c → u.heap[y]? = some c) ∧ u.heap.size = s.heap.size + 1
theorem Got.mv {a : Addr} {D A : Cell} {fV fC : Field} {o len : Nat} : ∀ r (U U' V V' : State), U'.heap = U.heap → V.vm.Alike V'.vm → V'.heap = V.heap → Got a D fV fC A o len r U V → Got a D fV fC A o len r U' V' :=
  fun r U U' V V' h1 hal h2 ⟨e0, D', X, a1, a2, a3, a4, a5, a6, a7, a8, a9, a10, a11⟩ => ⟨e0, D', X, a1.mv hal h2, a2, by rw [h1]; exact a3, a4, by rw [h1]; exact a5.mv hal h2, a6, by rw [hal.findClass]; exact a7, a8, a9, by rw [h1, h2]; exact a10, by rw [h1, h2]; exact a11⟩
namespace New4
def yN : MethodName := ⟨"java/lang/String", "<init>", "([CIILjava/lang/Void;)V"⟩
abbrev yB : ByteArray := jdk_42_method_149_code
theorem d0 : decode yB 0 = .ok (.aload_n 0, 1) := by decide +kernel
theorem d1 : decode yB 1 = .ok (.invokespecial 1, 3) := by decide +kernel
theorem d4 : decode yB 4 = .ok (.iload_n 3, 1) := by decide +kernel
theorem d5 : decode yB 5 = .ok (.ifCond (.ne) 22, 3) := by decide +kernel
theorem d27 : decode yB 27 = .ok (.getstatic 38, 3) := by decide +kernel
theorem d30 : decode yB 30 = .ok (.ifCond (.eq) 28, 3) := by decide +kernel
theorem d33 : decode yB 33 = .ok (.aload_n 1, 1) := by decide +kernel
theorem d34 : decode yB 34 = .ok (.iload_n 2, 1) := by decide +kernel
theorem d35 : decode yB 35 = .ok (.iload_n 3, 1) := by decide +kernel
theorem d36 : decode yB 36 = .ok (.invokestatic 177, 3) := by decide +kernel
theorem d39 : decode yB 39 = .ok (.astore 5, 2) := by decide +kernel
theorem d41 : decode yB 41 = .ok (.aload_n 0, 1) := by decide +kernel
theorem d42 : decode yB 42 = .ok (.aload 5, 2) := by decide +kernel
theorem d44 : decode yB 44 = .ok (.iload_n 3, 1) := by decide +kernel
theorem d45 : decode yB 45 = .ok (.invokestatic 47, 3) := by decide +kernel
theorem d48 : decode yB 48 = .ok (.putfield 15, 3) := by decide +kernel
theorem d51 : decode yB 51 = .ok (.aload_n 0, 1) := by decide +kernel
theorem d52 : decode yB 52 = .ok (.aload 5, 2) := by decide +kernel
theorem d54 : decode yB 54 = .ok (.putfield 9, 3) := by decide +kernel
theorem d57 : decode yB 57 = .ok (.return_, 1) := by decide +kernel
def site : List Cond := [.fieldLink "java/lang/String" 38 "java/lang/String" "COMPACT_STRINGS" "Z", Cmp3.tab, CodL.tab, .laysFinal "java/lang/String" "java/lang/String" "value" "[B", .fieldLink "java/lang/String" 9 "java/lang/String" "value" "[B", .laysFinal "java/lang/String" "java/lang/String" "coder" "B", .fieldLink "java/lang/String" 15 "java/lang/String" "coder" "B"] ++ objW "java/lang/String" 1 ++ staticW "java/lang/String" 177 Cmp3.yN ++ staticW "java/lang/String" 47 CodL.yN
def tab : Cond := tabOf yN yB 6 none site
def P (a : Addr) (D : Cell) (fV fC : Field) (b : Addr) (A : Cell) (z : Int32) (o len : Nat) (args : Array Value) (s : State) : Prop := args = #[.ref a, .ref b, .int (Int32.ofNat o), .int (Int32.ofNat len), .null] ∧ Blank "java/lang/String" a D s ∧ Found "java/lang/String" "value" "[B" fV s ∧ Found "java/lang/String" "coder" "B" fC s ∧ Ch b A s ∧ StaticIs s "java/lang/String" "COMPACT_STRINGS" "Z" (.int z) ∧ ¬ z = 0 ∧ 0 < len ∧ o + len ≤ A.slots.size ∧ len ≤ 536870912 ∧ ∀ i, i < len → ¬ 255 < cv A (o + i)
def E (a : Addr) (D : Cell) (fV fC : Field) (A : Cell) (o len : Nat) (r : Option Value) (s u : State) : Prop := Got a D fV fC A o len r s u
/-- len > 0, no char of the range above 255: a Latin-1 String of their low bytes -/
theorem law (l : Launch) (a : Addr) (D : Cell) (fV fC : Field) (b : Addr) (A : Cell) (z : Int32) (o len : Nat) : Law l yN 5 4 2 35 yB 6 none site (P a D fV fC b A z o len) (E a D fV fC A o len) [⟨a, fC.slot⟩, ⟨a, fV.slot⟩] 1 len := by
  refine Law.of_walk (plainFor_of_name (by decide +kernel)) (by decide +kernel) (by decide +kernel) (by decide) (fun _ _ h => by rw [h.1]; rfl) (fun _ U U' hal hh h => ⟨h.1, h.2.1.mv hal hh, h.2.2.1.al hal, h.2.2.2.1.al hal, h.2.2.2.2.1.mv hal hh, h.2.2.2.2.2.1.there hal hh, h.2.2.2.2.2.2⟩) (fun r U U' V V' h1 hal h2 h => Got.mv r U U' V V' h1 hal h2 h) ?_
  intro p e s m args below meth c s₁ X0 hexec hbytes hml hret hlk hnm hown hh0 W hP
  obtain ⟨rfl, hB, f1, f2, hA, s1, hz, l0, l1, l2, hp⟩ := hP
  have a31 := hA.1.2.2.2
  have c1 : Steps p.tables e below (s₁.setTop (entryFrame m #[.ref a, .ref b, .int (Int32.ofNat o), .int (Int32.ofNat len), .null] 6)) (s₁.setTop (mkF m 0 #[.val (.ref a), .val (.ref b), .val (.int (Int32.ofNat o)), .val (.int (Int32.ofNat len)), .val .null, .unset] [])) := entry rfl
  have c2 : Steps p.tables e below (s₁.setTop (entryFrame m #[.ref a, .ref b, .int (Int32.ofNat o), .int (Int32.ofNat len), .null] 6)) (s₁.setTop (mkF m 1 #[.val (.ref a), .val (.ref b), .val (.int (Int32.ofNat o)), .val (.int (Int32.ofNat len)), .val .null, .unset] [.ref a])) := c1.trans (by
    refine XS.aloadN X0.here hexec rfl (hb hbytes d0) rfl rfl ?_
    exact Steps.refl _)
  obtain ⟨T3, X3, q3, st3⟩ := X0.oinit hexec hown (wks W (objW "java/lang/String" 1)) (g := (mkF m 1 #[.val (.ref a), .val (.ref b), .val (.int (Int32.ofNat o)), .val (.int (Int32.ofNat len)), .val .null, .unset] [.ref a])) rfl (by rw [hml]; rfl) (rest := []) rfl (hb hbytes d1) (W := 0) (by show 2 * 0 + 0 ≤ _; decide) (Nat.le_of_ble_eq_true rfl) (Nat.le_of_ble_eq_true rfl)
  have hh3 := q3.trans hh0
  have c4 : Steps p.tables e below (s₁.setTop (entryFrame m #[.ref a, .ref b, .int (Int32.ofNat o), .int (Int32.ofNat len), .null] 6)) (T3.setTop (mkF m 27 #[.val (.ref a), .val (.ref b), .val (.int (Int32.ofNat o)), .val (.int (Int32.ofNat len)), .val .null, .unset] [])) := (c2.trans (st3 _ (Steps.refl _))).trans (by
    refine XS.iloadN X3.here hexec rfl (hb hbytes d4) rfl ?_
    refine XS.ifYes X3.here hexec rfl (pc0 := 5) rfl (hb hbytes d5) rfl (i0_ne_t (nz32 (by omega) l0)) (by decide) rfl ?_
    exact Steps.refl _)
  obtain ⟨T5, X5, q5, st5⟩ := X3.sget hexec hown (wk W (.fieldLink "java/lang/String" 38 "java/lang/String" "COMPACT_STRINGS" "Z")) s1 (fun _ _ h => by rw [hh3]; exact h) (g := (mkF m 27 #[.val (.ref a), .val (.ref b), .val (.int (Int32.ofNat o)), .val (.int (Int32.ofNat len)), .val .null, .unset] [])) rfl (hb hbytes d27)
  have hh5 := q5.trans hh3
  have c6 : Steps p.tables e below (s₁.setTop (entryFrame m #[.ref a, .ref b, .int (Int32.ofNat o), .int (Int32.ofNat len), .null] 6)) (T5.setTop (mkF m 30 #[.val (.ref a), .val (.ref b), .val (.int (Int32.ofNat o)), .val (.int (Int32.ofNat len)), .val .null, .unset] [.int z])) := c4.trans (st5 _ (Steps.refl _))
  have c7 : Steps p.tables e below (s₁.setTop (entryFrame m #[.ref a, .ref b, .int (Int32.ofNat o), .int (Int32.ofNat len), .null] 6)) (T5.setTop (mkF m 36 #[.val (.ref a), .val (.ref b), .val (.int (Int32.ofNat o)), .val (.int (Int32.ofNat len)), .val .null, .unset] [.int (Int32.ofNat len), .int (Int32.ofNat o), .ref b])) := c6.trans (by
    refine XS.ifNo X5.here hexec rfl (hb hbytes d30) rfl (i0_eq_f hz) ?_
    refine XS.aloadN X5.here hexec rfl (hb hbytes d33) rfl rfl ?_
    refine XS.iloadN X5.here hexec rfl (hb hbytes d34) rfl ?_
    refine XS.iloadN X5.here hexec rfl (hb hbytes d35) rfl ?_
    exact Steps.refl _)
  obtain ⟨v8, T8, X8, E8, g8⟩ := X5.callS hexec (Cmp3.law l b A o len) hown (wks W (staticW "java/lang/String" 177 Cmp3.yN)) (wk W Cmp3.tab) (W := 0) (Nat.le_of_ble_eq_true rfl) (Nat.le_of_ble_eq_true rfl) (Nat.le_refl _) (by show 0 + len ≤ len; omega) (g := (mkF m 36 #[.val (.ref a), .val (.ref b), .val (.int (Int32.ofNat o)), .val (.int (Int32.ofNat len)), .val .null, .unset] [.int (Int32.ofNat len), .int (Int32.ofNat o), .ref b])) rfl (by rw [hml]; rfl) c7 (argsL := [.ref b, .int (Int32.ofNat o), .int (Int32.ofNat len)]) (rest := []) rfl rfl (by show 2 * 0 + 0 ≤ _; decide) (hb hbytes d36) (⟨rfl, hA.mv X5.warmed.alike hh5, l1, l2, hp⟩)
  obtain ⟨e8, z8⟩ := E8
  obtain ⟨rfl, N, n1, n2, n3, n4, n5, n6⟩ := NewArr.mv _ T5 s _ _ hh5.symm (Vm.Alike.refl _) rfl e8
  rw [hh5] at z8
  have hB1 := hB.keep X8.warmed.alike (n6 _ _ hB.1)
  have hne : s.heap.size ≠ a := (Nat.ne_of_lt (Array.getElem?_eq_some_iff.mp hB.1).1).symm
  have c9 : Steps p.tables e below (s₁.setTop (entryFrame m #[.ref a, .ref b, .int (Int32.ofNat o), .int (Int32.ofNat len), .null] 6)) (T8.setTop (mkF m 39 #[.val (.ref a), .val (.ref b), .val (.int (Int32.ofNat o)), .val (.int (Int32.ofNat len)), .val .null, .unset] [.ref s.heap.size])) := g8
  have c10 : Steps p.tables e below (s₁.setTop (entryFrame m #[.ref a, .ref b, .int (Int32.ofNat o), .int (Int32.ofNat len), .null] 6)) (T8.setTop (mkF m 45 #[.val (.ref a), .val (.ref b), .val (.int (Int32.ofNat o)), .val (.int (Int32.ofNat len)), .val .null, .val (.ref s.heap.size)] [.int (Int32.ofNat N.slots.size), .ref s.heap.size, .ref a])) := by
    have hc : Steps p.tables e below (s₁.setTop (entryFrame m #[.ref a, .ref b, .int (Int32.ofNat o), .int (Int32.ofNat len), .null] 6)) (T8.setTop (mkF m 45 #[.val (.ref a), .val (.ref b), .val (.int (Int32.ofNat o)), .val (.int (Int32.ofNat len)), .val .null, .val (.ref s.heap.size)] [.int (Int32.ofNat len), .ref s.heap.size, .ref a])) := c9.trans (by
      refine XS.astore X8.here hexec rfl (hb hbytes d39) rfl rfl rfl ?_
      refine XS.aloadN X8.here hexec rfl (hb hbytes d41) rfl rfl ?_
      refine XS.aload X8.here hexec rfl (hb hbytes d42) rfl rfl ?_
      refine XS.iloadN X8.here hexec rfl (hb hbytes d44) rfl ?_
      exact Steps.refl _)
    rw [n4]; exact hc
  obtain ⟨v11, T11, X11, E11, g11⟩ := X8.callS hexec (CodL.law l s.heap.size N) hown (wks W (staticW "java/lang/String" 47 CodL.yN)) (wk W CodL.tab) (W := 1) (Nat.le_of_ble_eq_true rfl) (Nat.le_of_ble_eq_true rfl) (Nat.le_refl _) (by show 0 + len + 0 ≤ len; omega) (g := (mkF m 45 #[.val (.ref a), .val (.ref b), .val (.int (Int32.ofNat o)), .val (.int (Int32.ofNat len)), .val .null, .val (.ref s.heap.size)] [.int (Int32.ofNat N.slots.size), .ref s.heap.size, .ref a])) rfl (by rw [hml]; rfl) c10 (argsL := [.ref s.heap.size, .int (Int32.ofNat N.slots.size)]) (rest := [.ref a]) rfl rfl (by show 2 * 0 + (1 + 0) ≤ _; decide) (hb hbytes d45) (⟨rfl, n1⟩)
  obtain ⟨rfl, q11⟩ := E11
  have hB11 := hB1.mv (X8.warmed.alike.symm.trans X11.warmed.alike) q11
  have c12 : Steps p.tables e below (s₁.setTop (entryFrame m #[.ref a, .ref b, .int (Int32.ofNat o), .int (Int32.ofNat len), .null] 6)) (T11.setTop (mkF m 48 #[.val (.ref a), .val (.ref b), .val (.int (Int32.ofNat o)), .val (.int (Int32.ofNat len)), .val .null, .val (.ref s.heap.size)] [.int 0, .ref a])) := g11
  obtain ⟨T13, X13, p13, bl13, sl13, st13⟩ := X11.finit hexec hown (wk W (.fieldLink "java/lang/String" 15 "java/lang/String" "coder" "B")) (Or.inr ⟨_, (wk W (.laysFinal "java/lang/String" "java/lang/String" "coder" "B"))⟩) (Or.inl ⟨rfl, hnm⟩) f2 (Or.inl rfl) hB11 (t := .byte) (by decide +kernel) rfl (g := (mkF m 48 #[.val (.ref a), .val (.ref b), .val (.int (Int32.ofNat o)), .val (.int (Int32.ofNat len)), .val .null, .val (.ref s.heap.size)] [.int 0, .ref a])) rfl (rest := []) rfl (hb hbytes d48)
  have c14 : Steps p.tables e below (s₁.setTop (entryFrame m #[.ref a, .ref b, .int (Int32.ofNat o), .int (Int32.ofNat len), .null] 6)) (T13.setTop (mkF m 54 #[.val (.ref a), .val (.ref b), .val (.int (Int32.ofNat o)), .val (.int (Int32.ofNat len)), .val .null, .val (.ref s.heap.size)] [.ref s.heap.size, .ref a])) := (c12.trans (st13 _ (Steps.refl _))).trans (by
    refine XS.aloadN X13.here hexec rfl (hb hbytes d51) rfl rfl ?_
    refine XS.aload X13.here hexec rfl (hb hbytes d52) rfl rfl ?_
    exact Steps.refl _)
  obtain ⟨T15, X15, p15, bl15, sl15, st15⟩ := X13.finit hexec hown (wk W (.fieldLink "java/lang/String" 9 "java/lang/String" "value" "[B")) (Or.inr ⟨_, (wk W (.laysFinal "java/lang/String" "java/lang/String" "value" "[B"))⟩) (Or.inl ⟨rfl, hnm⟩) f1 (Or.inl rfl) bl13 (t := (.array .byte)) (by decide +kernel) rfl (g := (mkF m 54 #[.val (.ref a), .val (.ref b), .val (.int (Int32.ofNat o)), .val (.int (Int32.ofNat len)), .val .null, .val (.ref s.heap.size)] [.ref s.heap.size, .ref a])) rfl (rest := []) rfl (hb hbytes d54)
  have c16 : Steps p.tables e below (s₁.setTop (entryFrame m #[.ref a, .ref b, .int (Int32.ofNat o), .int (Int32.ofNat len), .null] 6)) (T15.setTop (mkF m 57 #[.val (.ref a), .val (.ref b), .val (.int (Int32.ofNat o)), .val (.int (Int32.ofNat len)), .val .null, .val (.ref s.heap.size)] [])) := c14.trans (st15 _ (Steps.refl _))
  have ap := apart (Or.inr ⟨_, (wk W (.laysFinal "java/lang/String" "java/lang/String" "value" "[B"))⟩) (Or.inr ⟨_, (wk W (.laysFinal "java/lang/String" "java/lang/String" "coder" "B"))⟩) f1 f2 (t₁ := .array .byte) (t₂ := .byte) (by decide +kernel) (by decide +kernel) (by decide)
  have al := X8.warmed.alike.symm.trans X15.warmed.alike
  have n7 : T11.heap[s.heap.size]? = some N := by rw [q11]; exact n1.1
  exact ⟨T15, none, _, _, _, X15, by simp, rfl, by omega, (fun _ => rfl), ⟨rfl, _, N, bl15, ((Same.refl D _).set _ (by simp)).set _ (by simp), sl15, (Cell.slots_setSlot_ne _ ap).trans sl13, n1.keep al (p15.other hne (p13.other hne n7)), n2, by rw [al.findClass]; exact n3, n4, n5, fun y c h1 h2 => p15.other h1 (p13.other h1 (by rw [q11]; exact n6 y c h2)), by rw [p15.2.2, p13.2.2, q11]; exact z8⟩, fun fs hl => c16.trans (X15.returnOut hexec hret (hb hbytes d57) hl)⟩
end New4
namespace New1
def yN : MethodName := ⟨"java/lang/String", "<init>", "([C)V"⟩
abbrev yB : ByteArray := jdk_42_method_3_code
theorem d0 : decode yB 0 = .ok (.aload_n 0, 1) := by decide +kernel
theorem d1 : decode yB 1 = .ok (.aload_n 1, 1) := by decide +kernel
theorem d2 : decode yB 2 = .ok (.iconst 0, 1) := by decide +kernel
theorem d3 : decode yB 3 = .ok (.aload_n 1, 1) := by decide +kernel
theorem d4 : decode yB 4 = .ok (.arraylength, 1) := by decide +kernel
theorem d5 : decode yB 5 = .ok (.aconst_null, 1) := by decide +kernel
theorem d6 : decode yB 6 = .ok (.invokespecial 27, 3) := by decide +kernel
theorem d9 : decode yB 9 = .ok (.return_, 1) := by decide +kernel
def site : List Cond := [New4.tab] ++ initW "java/lang/String" 27 New4.yN
def tab : Cond := tabOf yN yB 2 none site
def P (a : Addr) (D : Cell) (fV fC : Field) (b : Addr) (A : Cell) (z : Int32) (args : Array Value) (s : State) : Prop := args = #[.ref a, .ref b] ∧ Blank "java/lang/String" a D s ∧ Found "java/lang/String" "value" "[B" fV s ∧ Found "java/lang/String" "coder" "B" fC s ∧ Ch b A s ∧ StaticIs s "java/lang/String" "COMPACT_STRINGS" "Z" (.int z) ∧ ¬ z = 0 ∧ 0 < A.slots.size ∧ A.slots.size ≤ 536870912 ∧ ∀ i, i < A.slots.size → ¬ 255 < cv A i
def E (a : Addr) (D : Cell) (fV fC : Field) (A : Cell) (r : Option Value) (s u : State) : Prop := Got a D fV fC A 0 A.slots.size r s u
/-- new String(chars), not empty, no char above 255: a Latin-1 String of their low bytes -/
theorem law (l : Launch) (a : Addr) (D : Cell) (fV fC : Field) (b : Addr) (A : Cell) (z : Int32) : Law l yN 2 1 3 52 yB 2 none site (P a D fV fC b A z) (E a D fV fC A) [⟨a, fC.slot⟩, ⟨a, fV.slot⟩] 1 A.slots.size := by
  refine Law.of_walk (plainFor_of_name (by decide +kernel)) (by decide +kernel) (by decide +kernel) (by decide) (fun _ _ h => by rw [h.1]; rfl) (fun _ U U' hal hh h => ⟨h.1, h.2.1.mv hal hh, h.2.2.1.al hal, h.2.2.2.1.al hal, h.2.2.2.2.1.mv hal hh, h.2.2.2.2.2.1.there hal hh, h.2.2.2.2.2.2⟩) (fun r U U' V V' h1 hal h2 h => Got.mv r U U' V V' h1 hal h2 h) ?_
  intro p e s m args below meth c s₁ X0 hexec hbytes hml hret hlk hnm hown hh0 W hP
  obtain ⟨rfl, hB, f1, f2, hA, s1, hz, l0, l2, hp⟩ := hP
  have c1 : Steps p.tables e below (s₁.setTop (entryFrame m #[.ref a, .ref b] 2)) (s₁.setTop (mkF m 0 #[.val (.ref a), .val (.ref b)] [])) := entry rfl
  have c2 : Steps p.tables e below (s₁.setTop (entryFrame m #[.ref a, .ref b] 2)) (s₁.setTop (mkF m 6 #[.val (.ref a), .val (.ref b)] [.null, .int (Int32.ofNat A.slots.size), .int 0, .ref b, .ref a])) := c1.trans (by
    refine XS.aloadN X0.here hexec rfl (hb hbytes d0) rfl rfl ?_
    refine XS.aloadN X0.here hexec rfl (hb hbytes d1) rfl rfl ?_
    refine iconstV X0.here hexec rfl 0 (hb hbytes d2) (by decide) ?_
    refine XS.aloadN X0.here hexec rfl (hb hbytes d3) rfl rfl ?_
    refine X0.alen hexec (hA.1.mv X0.warmed.alike hh0) rfl rfl (hb hbytes d4) ?_
    refine XS.aconstNull X0.here hexec rfl (hb hbytes d5) ?_
    exact Steps.refl _)
  obtain ⟨v3, T3, X3, E3, g3⟩ := X0.callN hexec (New4.law l a D fV fC b A z 0 A.slots.size) rfl hown (wks W (initW "java/lang/String" 27 New4.yN)) (W New4.tab (by simp only [site, List.mem_cons, List.mem_append, true_or, or_true])) (W := 0) (Nat.le_of_ble_eq_true rfl) (Nat.le_of_ble_eq_true rfl) (Nat.le_refl _) (by show 0 + A.slots.size ≤ A.slots.size; omega) (g := (mkF m 6 #[.val (.ref a), .val (.ref b)] [.null, .int (Int32.ofNat A.slots.size), .int (Int32.ofNat 0), .ref b, .ref a])) rfl (by rw [hml]; rfl) c2 (argsL := [.ref b, .int (Int32.ofNat 0), .int (Int32.ofNat A.slots.size), .null]) (rest := []) rfl rfl (by show 2 * 0 + 0 ≤ _; decide) (hb hbytes d6) (⟨rfl, hB.mv X0.warmed.alike hh0, f1.al X0.warmed.alike, f2.al X0.warmed.alike, hA.mv X0.warmed.alike hh0, s1.there X0.warmed.alike hh0, hz, l0, by omega, l2, fun i hi => by rw [Nat.zero_add]; exact hp i hi⟩)
  have e0 := Got.mv _ s₁ s _ _ hh0.symm (Vm.Alike.refl _) rfl E3
  obtain rfl := e0.1
  have c4 : Steps p.tables e below (s₁.setTop (entryFrame m #[.ref a, .ref b] 2)) (T3.setTop (mkF m 9 #[.val (.ref a), .val (.ref b)] [])) := g3
  exact ⟨T3, none, _, _, _, X3, by simp, rfl, by omega, (fun _ => rfl), e0, fun fs hl => c4.trans (X3.returnOut hexec hret (hb hbytes d9) hl)⟩
theorem pays {l : Launch} {R : Room} {p : Program} {e : Env} {below : List Frame} {s : State} {sargs : Array Value} {len W : Nat} (a : Addr) (D : Cell) (fV fC : Field) (b : Addr) (A : Cell) (z : Int32) (htab : tab.before sargs s = true) (hfr : 4 ≤ R.frames) (hlo : W + 65 ≤ R.locals) :
    Back l R p e below s sargs yN len W (fun A₁ a₁ => A₁.cells + 1 ≤ R.cells ∧ A₁.slots + A.slots.size ≤ R.slots ∧ P a D fV fC b A z a₁ A₁.U) (fun A₁ _ v₁ B₁ => E a D fV fC A v₁ A₁.U B₁.U ∧ B₁.locs = A₁.locs ++ [⟨a, fC.slot⟩, ⟨a, fV.slot⟩] ∧ B₁.cells = A₁.cells + 1 ∧ B₁.slots = A₁.slots + A.slots.size) :=
  (law l a D fV fC b A z).pays htab hfr (by omega)
end New1
/-- the byte, read back as charAt reads it, is the char -/
theorem lo8_mask {x : Int32} (h0 : ¬ x < 0) (h1 : ¬ 255 < x) : lo8 x &&& 255 = x := by
  have t : ∀ k : Fin 256, lo8 (Int32.ofNat k.val) &&& 255 = Int32.ofNat k.val := by decide +kernel
  rw [Int32.lt_iff_toInt_lt] at h0 h1
  have e0 : (0 : Int32).toInt = 0 := rfl
  have e1 : (255 : Int32).toInt = 255 := rfl
  obtain ⟨k, hk⟩ : ∃ k : Nat, x.toInt = k := ⟨x.toInt.toNat, by omega⟩
  have hx : x = Int32.ofNat k := Int32.toInt_inj.mp (by rw [hk, Int32.toInt_ofNat_small (by omega)])
  rw [hx]
  exact t ⟨k, by omega⟩
end StrChars
namespace StrChars.Road
open Jvm Sem ClassFile Op Lib Jvm.Stand Jvm.Free Jvm.Free.XT
open Jvm.Lib.Cold (StaticIs)
abbrev ST : String := "java/lang/String"
/-- every table word that New1's law asks, flat -/
abbrev words : List Jvm.Cond := [.code New1.yN New1.yB 2 none, .initialized ST, .methodLink ST 27 New4.yN, .instanceMethod New4.yN,
  .code New4.yN New4.yB 6 none, .fieldLink ST 38 ST "COMPACT_STRINGS" "Z", .laysFinal ST ST "value" "[B", .fieldLink ST 9 ST "value" "[B", .laysFinal ST ST "coder" "B", .fieldLink ST 15 ST "coder" "B",
  .methodLink ST 1 Lib.objectInit, .instanceMethod Lib.objectInit, .code Lib.objectInit ⟨#[0xb1]⟩ 1 none, .methodLink ST 177 Cmp3.yN, .static Cmp3.yN, .methodLink ST 47 CodL.yN, .static CodL.yN,
  .code Cmp3.yN Cmp3.yB 6 (some (.array .byte)), .initialized U16, .arrayClass .byte, .methodLink U16 115 Cmp5.yN, .static Cmp5.yN, .code Cmp5.yN Cmp5.yB 7 (some .int), .code CodL.yN CodL.yB 2 (some .byte)]
theorem tab_of {a : Array Value} {s : State} (h : ∀ w ∈ words, w.before a s = true) : New1.tab.before a s = true := by
  have h5 : Cmp5.tab.before a s = true := unparts (wk h (.code Cmp5.yN Cmp5.yB 7 (some .int))) (wks h (.initialized Cmp5.yN.cls :: Cmp5.site))
  have hc : CodL.tab.before a s = true := unparts (wk h (.code CodL.yN CodL.yB 2 (some .byte))) (wks h (.initialized CodL.yN.cls :: CodL.site))
  have q5 : ∀ w ∈ Cmp5.tab :: words, w.before a s = true := fun w hw => (List.mem_cons.mp hw).elim (fun e => e ▸ h5) (h w)
  have h3 : Cmp3.tab.before a s = true := unparts (wk q5 (.code Cmp3.yN Cmp3.yB 6 (some (.array .byte)))) (wks q5 (.initialized Cmp3.yN.cls :: Cmp3.site))
  have q3 : ∀ w ∈ Cmp3.tab :: CodL.tab :: words, w.before a s = true := fun w hw => (List.mem_cons.mp hw).elim (fun e => e ▸ h3) fun hw => (List.mem_cons.mp hw).elim (fun e => e ▸ hc) (h w)
  have h4 : New4.tab.before a s = true := unparts (wk q3 (.code New4.yN New4.yB 6 none)) (wks q3 (.initialized New4.yN.cls :: New4.site))
  have q4 : ∀ w ∈ New4.tab :: words, w.before a s = true := fun w hw => (List.mem_cons.mp hw).elim (fun e => e ▸ h4) (h w)
  exact unparts (wk q4 (.code New1.yN New1.yB 2 none)) (wks q4 (.initialized New1.yN.cls :: New1.site))
/-- the words ride from the start Z to the walk's own state -/
theorem moved {Z s : State} {a0 args : Array Value} (hZ : Z.Warmed39 s.vm) (hw : ∀ d ∈ words, d.before a0 Z = true) : ∀ d ∈ words, d.before args s = true := fun d hd => by
  have q := hw d hd
  have t : ∀ d ∈ words, d = .arrayClass .byte ∨ (d.onTables && d.keepsFace) = true := by decide +kernel
  rcases t d hd with rfl | t
  · exact RoadKit.mvA hZ q
  · exact RoadKit.mv hZ q t
/-- WHAT COMES BACK, over the tables of the start Z: h the heap at the call, h' behind it -/
def Q (Z : State) (x : Addr) (A : Cell) (h : Heap) (v : Option Value) (h' : Heap) (L : List Loc) : Prop := v = none ∧ (∀ y ∈ L, y.base = x) ∧ RoadKit.Keep h h' [x] ∧ h'.size = h.size + 1 ∧ RoadKit.Exa Z h' x ST ∧ RoadKit.Fld Z h' x ST "value" "[B" (.ref h.size) ∧ RoadKit.Fld Z h' x ST "coder" "B" (.int 0) ∧
  (∃ V : Cell, RoadKit.Arr Z h' h.size V .byte ∧ V.vm = .none ∧ Z.vm.findClass "[B" = some V.cls ∧ V.slots.size = A.slots.size ∧ ∀ j, j < A.slots.size → V.slots[j]? = some (.int (lo8 (cv A j)))) ∧
  ∀ (O n d : String) (w : Value), RoadKit.Fld Z h x O n d w → RoadKit.slotOf Z O n d ≠ RoadKit.slotOf Z ST "value" "[B" → RoadKit.slotOf Z O n d ≠ RoadKit.slotOf Z ST "coder" "B" → RoadKit.Fld Z h' x O n d w
/-- **new String(chars) AT A CALL, IN THE ROAD'S FORM**: for specialBack behind newO: x the fresh String, b the char[] with the cell A -/
theorem back {p : Program} {l : Launch} {e : Env} {R : Room} {s : State} {args : Array Value} {below : List Frame} {len W : Nat} {Z : State} {a0 : Array Value} {h : Heap} (hZ : Z.Warmed39 s.vm) (hw : ∀ d ∈ words, d.before a0 Z = true) {kI : Nat} (wi : (Jvm.Cond.instantiable ST kI).before a0 Z = true)
    {x b : Addr} {A : Cell} {z : Int32} {v0 c0 : Value} (E : RoadKit.Exa Z h x ST) (V : RoadKit.Fld Z h x ST "value" "[B" v0) (C : RoadKit.Fld Z h x ST "coder" "B" c0) (K : RoadKit.Arr Z h b A .char) (hty : Typed .char A) (S : RoadKit.Sta Z h ST "COMPACT_STRINGS" "Z" (.int z)) (hz : ¬ z = 0)
    (l0 : 0 < A.slots.size) (l2 : A.slots.size ≤ 536870912) (hp : ∀ i, i < A.slots.size → ¬ 255 < cv A i) (hfr : 4 ≤ R.frames) (hlo : W + 65 ≤ R.locals) :
    Back l R p e below s args New1.yN len W (fun P a => a = #[.ref x, .ref b] ∧ P.U.heap = h ∧ P.cells + 1 ≤ R.cells ∧ P.slots + A.slots.size ≤ R.slots)
      (fun P _ v B => ∃ L, Q Z x A h v B.U.heap L ∧ B.locs = P.locs ++ L ∧ B.cells = P.cells + 1 ∧ B.slots = P.slots + A.slots.size) := by
  intro m meth c P g ig mk a X hg hsize hdg hW hn hp'
  obtain ⟨rfl, rfl, r1, r2⟩ := hp'
  have al : Z.vm.Alike P.U.vm := hZ.alike.trans X.warmed.alike
  obtain ⟨D, cfV, kV, iV, fV, hD, gV, stV, knV, obV, asV, slV⟩ := id V
  obtain ⟨D', cfC, kC, iC, fC, hD', gC, stC, -, -, asC, slC⟩ := id C
  cases hD.symm.trans hD'
  obtain ⟨D2, kD, e1, e2, e3, e4, e5⟩ := id E
  cases hD.symm.trans e1
  obtain ⟨c2, k2, i1, i2, i3, -⟩ := Cond.instantiable_spec wi
  cases e2.symm.trans i1
  cases e3.symm.trans i2
  obtain ⟨kU, u1, u2⟩ := al.2.2 _ _ e3
  have hB : Blank ST x D P.U := ⟨hD, ⟨knV, fun q hq => by rw [hq] at obV; cases obV⟩, by rw [al.findClass]; exact e2, kU, u1, by rw [u2]; exact i3, by rw [u2]; exact e5 i3⟩
  have F1 : Found ST "value" "[B" fV P.U := ⟨SBG.found_only al ⟨cfV, kV, iV, gV⟩, stV⟩
  have F2 : Found ST "coder" "B" fC P.U := ⟨SBG.found_only al ⟨cfC, kC, iC, gC⟩, stC⟩
  have hA : Ch b A P.U := ⟨⟨K.1, State.isArrayOf_alike al K.2.1, K.2.2, by omega⟩, hty⟩
  have hS : StaticIs P.U ST "COMPACT_STRINGS" "Z" (.int z) := by
    obtain ⟨cfS, iS, kS, fS, st, cS, t1, t2, t3, t4, t5, t6, t7⟩ := S
    exact StaticIs.there (s := { Z with heap := P.U.heap }) ⟨cfS, iS, kS, fS, st, cS, t1, t2, t3, t4, t5, (fun q => by rw [q] at t6; cases t6), t7⟩ al rfl
  obtain ⟨v, B, X', ⟨⟨hv, E', V', q1, q2, q3, q4, q5, q6, q7, q8, q9, q10, q11⟩, hl, hc, hs⟩, st⟩ := New1.pays x D fV fC b A z (tab_of (moved hZ hw)) hfr hlo m meth c P g ig mk _ X hg hsize hdg hW hn ⟨r1, r2, rfl, hB, F1, F2, hA, hS, hz, l0, l2, hp⟩
  have al' : Z.vm.Alike B.U.vm := hZ.alike.trans X'.warmed.alike
  have hsz : E'.slots.size = D.slots.size := by
    obtain ⟨-, -, -, kB, w1, w2, w3⟩ := q1
    obtain ⟨kB', y1, y2⟩ := al'.2.2 _ _ e3
    rw [q2.2.1] at w1
    cases w1.symm.trans y1
    rw [w3, e5 i3, y2]
  refine ⟨v, B, X', ⟨_, ⟨hv, ?_, ⟨by omega, fun y cy hy hn' => q10 y cy (by simpa using hn') hy, fun y cy hy => ?_⟩, q11, ⟨E', _, q1.1, by rw [q2.2.1]; exact e2, by rw [q2.2.1]; exact e3, by rw [q2.1]; exact obV, fun _ => by rw [hsz]; exact e5 i3⟩,
    ⟨E', cfV, kV, iV, fV, q1.1, gV, stV, by rw [q2.1]; exact knV, by rw [q2.1]; exact obV, by rw [q2.2.1]; exact asV, q3⟩, ⟨E', cfC, kC, iC, fC, q1.1, gC, stC, by rw [q2.1]; exact knV, by rw [q2.1]; exact obV, by rw [q2.2.1]; exact asC, q4⟩,
    ⟨V', ⟨q5.1, State.isArrayOf_alike al'.symm q5.2.1, q5.2.2.1⟩, q6, by rw [← al'.findClass]; exact q7, q8, fun j hj => by have := q9 j hj; rwa [Nat.zero_add] at this⟩, fun O n d w F n1 n2 => ?_⟩, hl, hc, hs⟩, st⟩
  · intro y hy
    simp only [List.mem_cons, List.not_mem_nil, or_false] at hy
    rcases hy with rfl | rfl <;> rfl
  · by_cases q : y = x
    · subst q
      cases hD.symm.trans hy
      exact ⟨E', q1.1, q2.2.1, q2.1, hsz⟩
    · exact ⟨cy, q10 y cy q hy, rfl, rfl, rfl⟩
  · obtain ⟨D3, cf, k, i, f, g1, g2, g3, g4, g5, g6, g7⟩ := F
    cases hD.symm.trans g1
    simp only [RoadKit.slotOf, g2, gV, gC, Option.map_some, Option.getD_some] at n1 n2
    exact ⟨E', cf, k, i, f, q1.1, g2, g3, by rw [q2.1]; exact g4, by rw [q2.1]; exact g5, by rw [q2.2.1]; exact g6, by rw [q2.2.2 f.slot (by simp [n1, n2])]; exact g7⟩
end StrChars.Road
namespace StrChars.Road
open Jvm Sem ClassFile Op Lib Jvm.Stand Jvm.Free Jvm.Free.XT
/-- WHAT COMES BACK, the byte[] as a list of values -/
def QA (Z : State) (x : Addr) (zn : Int32) (cs : List Int32) (h : Heap) (v : Option Value) (h' : Heap) (L : List Loc) : Prop := v = none ∧ (∀ y ∈ L, y.base = x) ∧ RoadKit.Keep h h' [x] ∧ h'.size = h.size + 1 ∧ RoadKit.Exa Z h' x ST ∧ RoadKit.Fld Z h' x ST "value" "[B" (.ref h.size) ∧ RoadKit.Fld Z h' x ST "coder" "B" (.int 0) ∧
  (∃ kb, Z.vm.findClass "[B" = some kb ∧ RoadKit.Arv Z h' h.size kb .byte zn (cs.map fun c => .int (lo8 c)) (.int 0)) ∧
  ∀ (O n d : String) (w : Value), RoadKit.Fld Z h x O n d w → RoadKit.slotOf Z O n d ≠ RoadKit.slotOf Z ST "value" "[B" → RoadKit.slotOf Z O n d ≠ RoadKit.slotOf Z ST "coder" "B" → RoadKit.Fld Z h' x O n d w
/-- **new String(chars) AT A CALL, THE ARRAYS AS LISTS**: the char[] at b holds cs, not empty, no char above 255 -/
theorem backArv {p : Program} {l : Launch} {e : Env} {R : Room} {s : State} {args : Array Value} {below : List Frame} {len W : Nat} {Z : State} {a0 : Array Value} {h : Heap} (hZ : Z.Warmed39 s.vm) (hw : ∀ d ∈ words, d.before a0 Z = true) {kI : Nat} (wi : (Jvm.Cond.instantiable ST kI).before a0 Z = true)
    {x b : Addr} {k : ClassId} {zn z : Int32} {cs : List Int32} {dv v0 c0 : Value} (E : RoadKit.Exa Z h x ST) (V : RoadKit.Fld Z h x ST "value" "[B" v0) (C : RoadKit.Fld Z h x ST "coder" "B" c0) (K : RoadKit.Arv Z h b k .char zn (cs.map Value.int) dv) (S : RoadKit.Sta Z h ST "COMPACT_STRINGS" "Z" (.int z)) (hz : ¬ z = 0)
    (hlen : zn.toNatClampNeg = cs.length) (h0 : 0 < cs.length) (hbig : cs.length ≤ 536870912) (hall : ∀ c ∈ cs, ¬ 255 < c) (hfr : 4 ≤ R.frames) (hlo : W + 65 ≤ R.locals) :
    Back l R p e below s args New1.yN len W (fun P a => a = #[.ref x, .ref b] ∧ P.U.heap = h ∧ P.cells + 1 ≤ R.cells ∧ P.slots + cs.length ≤ R.slots)
      (fun P _ v B => ∃ L, QA Z x zn cs h v B.U.heap L ∧ B.locs = P.locs ++ L ∧ B.cells = P.cells + 1 ∧ B.slots = P.slots + cs.length) := by
  obtain ⟨A, K1, K2, K3, K4, K5, K6⟩ := K
  have e : A.slots.size = cs.length := K3.trans hlen
  have hat : ∀ (i : Nat) (hi : i < cs.length), A.slots[i]? = some (.int cs[i]) := fun i hi => by rw [K5 i (by omega)]; simp [List.getD_eq_getElem?_getD, hi]
  have hcv : ∀ (i : Nat) (hi : i < cs.length), cv A i = cs[i] := fun i hi => by unfold cv; rw [hat i hi]
  have hty : Typed .char A := fun i v hv => by
    have hi : i < A.slots.size := (Array.getElem?_eq_some_iff.mp hv).1
    have q := K5 i hi
    rw [hv] at q
    rw [Option.some.inj q]
    exact K6 i hi
  refine Back.mono (back hZ hw wi E V C K1 hty S hz (by omega) (by omega) (fun i hi => by rw [hcv i (by omega)]; exact hall _ (List.getElem_mem _)) hfr hlo) (fun P a hp => ⟨hp.1, hp.2.1, hp.2.2.1, by rw [e]; exact hp.2.2.2⟩) (fun P a v B hp hq => ?_)
  obtain ⟨L, ⟨q1, q2, q3, q4, q5, q6, q7, ⟨V', v1, v2, v3, v4, v5⟩, q9⟩, hl, hc, hs⟩ := hq
  refine ⟨L, ⟨q1, q2, q3, q4, q5, q6, q7, ⟨V'.cls, v3, V', v1, rfl, by rw [v4, e, hlen], K4, fun i hi => ?_, fun i hi => ?_⟩, q9⟩, hl, hc, by rw [hs, e]⟩
  · have hi' : i < cs.length := by omega
    rw [v5 i (by omega), hcv i hi']; simp [List.getD_eq_getElem?_getD, hi']
  · have hi' : i < cs.length := by omega
    simp only [List.getD_eq_getElem?_getD, List.getElem?_map, List.getElem?_eq_getElem hi', Option.map_some, Option.getD_some]
    exact fits_lo8 _
end StrChars.Road
namespace StrChars.Road
open Jvm Sem ClassFile Op Lib Jvm.Stand Jvm.Free Jvm.Free.XT
/-- WHAT COMES BACK, in the writer's own shape -/
def QV (Z : State) (x : Addr) (N : Int32) (bs : List Int32) (h : Heap) (n0 : Nat) (v : Option Value) (h' : Heap) (L : List Loc) : Prop := v = none ∧ RoadKit.Fr n0 L ∧ RoadKit.Keep h h' [x] ∧ RoadKit.Exa Z h' x ST ∧ RoadKit.Fld Z h' x ST "coder" "B" (.int 0) ∧
  ∃ (t : Addr) (kb : ClassId), n0 ≤ t ∧ h.size ≤ t ∧ ¬ t = x ∧ RoadKit.Fld Z h' x ST "value" "[B" (.ref t) ∧ RoadKit.Arv Z h' t kb .byte N (bs.map Value.int) (.int 0)
/-- **new String(chars) AT A CALL, FOR THE WRITER**: a char[] of n known ints, each 0 to 255 -/
theorem backV {p : Program} {l : Launch} {e : Env} {R : Room} {s : State} {args : Array Value} {below : List Frame} {len W : Nat} {Z : State} {a0 : Array Value} {h : Heap} (hZ : Z.Warmed39 s.vm) (hw : ∀ d ∈ words, d.before a0 Z = true) {kI : Nat} (wi : (Jvm.Cond.instantiable ST kI).before a0 Z = true)
    {x b : Addr} {kC : ClassId} {cs bs : List Int32} {d v0 c0 : Value} {z N : Int32} {n n0 : Nat} (hx0 : n0 ≤ x) (hh0 : n0 ≤ h.size) (E : RoadKit.Exa Z h x ST) (V : RoadKit.Fld Z h x ST "value" "[B" v0) (C : RoadKit.Fld Z h x ST "coder" "B" c0) (K : RoadKit.Arv Z h b kC .char N (cs.map Value.int) d) (S : RoadKit.Sta Z h ST "COMPACT_STRINGS" "Z" (.int z)) (hz : ¬ z = 0)
    (hn : cs.length = n) (hN : N = Int32.ofNat n) (l0 : 0 < n) (l2 : n ≤ 4000) (hp : ∀ c ∈ cs, ¬ c < 0 ∧ ¬ (255 : Int32) < c) (hb : bs = cs.map (fun c => c.toInt8.toInt32)) (hfr : 4 ≤ R.frames) (hlo : W + 65 ≤ R.locals) :
    Back l R p e below s args (⟨"java/lang/String", "<init>", "([C)V"⟩ : MethodName) len W (fun P a => a = #[.ref x, .ref b] ∧ P.U.heap = h ∧ P.cells + 1 ≤ R.cells ∧ P.slots + n ≤ R.slots)
      (fun P _ v B => ∃ L, QV Z x N bs h n0 v B.U.heap L ∧ B.locs = P.locs ++ L ∧ B.cells = P.cells + 1 ∧ B.slots = P.slots + n) := by
  subst hn hN hb
  refine Back.mono (backArv hZ hw wi E V C K S hz (n32 (by omega)) l0 (by omega) (fun c hc => (hp c hc).2) hfr hlo) (fun P a hp => hp) (fun P a v B hp hq => ?_)
  obtain ⟨L, ⟨q1, q2, q3, q4, q5, q6, q7, ⟨kb, v1, v2⟩, q9⟩, hl, hc, hs⟩ := hq
  exact ⟨L, ⟨q1, fun y hy => by rw [q2 y hy]; exact hx0, q3, q5, q7, h.size, kb, hh0, Nat.le_refl _, Nat.ne_of_gt E.lt, q6, by rw [List.map_map]; exact v2⟩, hl, hc, hs⟩
end StrChars.Road
namespace StrChars
open Jvm Sem ClassFile Op Lib Jvm.Stand Jvm.Free.XT Jvm.Free.ALB Jvm.Free.JM Jvm.Free
open Jvm.Lib.Cold (StaticIs)
def hi8 (x : Int32) : Int32 := lo8 (x >>> ((8 : Int32) &&& 31))
/-- what StringUTF16.getChar makes of two bytes -/
def pairCh (u v : Int32) : Int32 := (((u &&& 255) <<< ((0 : Int32) &&& 31)) ||| ((v &&& 255) <<< ((8 : Int32) &&& 31))).toUInt32.toUInt16.toUInt32.toInt32
theorem shr0 (c : Int32) : c >>> ((0 : Int32) &&& 31) = c := by
  have e : ((0 : Int32) &&& 31) = 0 := by decide
  rw [e]
  apply Int32.toBitVec_inj.mp
  rw [Int32.toBitVec_shiftRight]
  have e1 : ((0 : Int32).toBitVec.smod 32) = 0#32 := by decide
  rw [e1, BitVec.sshiftRight_eq']
  exact BitVec.sshiftRight_zero
theorem lo8_and (x : Int32) : (lo8 x &&& 255).toBitVec.toNat = x.toBitVec.toNat % 256 := by
  have h : (lo8 x).toBitVec = (x.toBitVec.signExtend 8).signExtend 32 := by rw [lo8, Int8.toBitVec_toInt32, Int32.toBitVec_toInt8]
  rw [Int32.toBitVec_and, BitVec.toNat_and, h]
  have e : ((x.toBitVec.signExtend 8).signExtend 32).toNat % 256 = x.toBitVec.toNat % 256 := by
    rw [BitVec.toNat_signExtend]
    have hlt := x.toBitVec.isLt
    simp only [BitVec.toNat_setWidth, BitVec.toNat_signExtend]
    split <;> split <;> omega
  rw [← e]
  exact Nat.and_two_pow_sub_one_eq_mod _ 8
theorem pair_says {c : Int32} (h0 : ¬ c < 0) (h1 : ¬ 65535 < c) : pairCh (lo8 c) (hi8 c) = c := by
  rw [Int32.lt_iff_toInt_lt] at h0 h1
  have e0 : (0 : Int32).toInt = 0 := rfl
  have e1 : (65535 : Int32).toInt = 65535 := rfl
  have hc : c.toInt = c.toBitVec.toNat := by
    have := c.toBitVec.isLt
    have e : c.toInt = c.toBitVec.toInt := rfl
    rw [e] at h0 h1
    rw [e]
    rw [BitVec.toInt_eq_toNat_cond] at h0 h1 ⊢
    split at h0 <;> split <;> omega
  have hn : c.toBitVec.toNat < 65536 := by omega
  have a1 := lo8_and c
  have a2 : (hi8 c &&& 255).toBitVec.toNat = c.toBitVec.toNat / 256 := by
    rw [hi8, lo8_and]
    have e : ((8 : Int32) &&& 31) = 8 := by decide
    rw [e, Int32.toBitVec_shiftRight]
    have e2 : ((8 : Int32).toBitVec.smod 32) = 8#32 := by decide
    rw [e2, BitVec.sshiftRight_eq', BitVec.toNat_sshiftRight_of_msb_false (by rw [BitVec.msb_eq_false_iff_two_mul_lt]; omega)]
    show c.toBitVec.toNat >>> 8 % 256 = _
    rw [Nat.shiftRight_eq_div_pow]
    omega
  unfold pairCh
  apply Int32.toBitVec_inj.mp
  apply BitVec.eq_of_toNat_eq
  have f0 : ((0 : Int32) &&& 31) = 0 := by decide
  have f8 : ((8 : Int32) &&& 31) = 8 := by decide
  rw [f0, f8]
  have g : (((lo8 c &&& 255) <<< (0 : Int32)) ||| ((hi8 c &&& 255) <<< (8 : Int32))).toBitVec.toNat = c.toBitVec.toNat := by
    rw [Int32.toBitVec_or, Int32.toBitVec_shiftLeft, Int32.toBitVec_shiftLeft]
    have s0 : ((0 : Int32).toBitVec.smod 32) = 0#32 := by decide
    have s8 : ((8 : Int32).toBitVec.smod 32) = 8#32 := by decide
    rw [s0, s8, BitVec.toNat_or]
    simp only [BitVec.shiftLeft_eq', BitVec.toNat_shiftLeft, a1, a2]
    show (c.toBitVec.toNat % 256) <<< 0 % 2 ^ 32 ||| (c.toBitVec.toNat / 256) <<< 8 % 2 ^ 32 = _
    rw [Nat.shiftLeft_zero, Nat.mod_eq_of_lt (show c.toBitVec.toNat % 256 < 2 ^ 32 by omega), Nat.mod_eq_of_lt (show (c.toBitVec.toNat / 256) <<< 8 < 2 ^ 32 by rw [Nat.shiftLeft_eq]; omega), Nat.or_comm, ← Nat.shiftLeft_add_eq_or_of_lt (by omega), Nat.shiftLeft_eq]
    omega
  show BitVec.toNat (((((lo8 c &&& 255) <<< (0 : Int32)) ||| ((hi8 c &&& 255) <<< (8 : Int32))).toBitVec.setWidth 16).setWidth 32) = _
  rw [BitVec.toNat_setWidth, BitVec.toNat_setWidth, g]
  omega
end StrChars
namespace StrChars
open Jvm Sem ClassFile Op Lib Jvm.Stand Jvm.Free.XT Jvm.Free.ALB Jvm.Free.JM Jvm.Free
open Jvm.Lib.Cold (StaticIs)
theorem shr1 {n : Nat} (h : 2 * n < 2 ^ 31) : Int32.ofNat (2 * n) >>> ((1 : Int32) &&& 31) = Int32.ofNat n := by
  have e : ((1 : Int32) &&& 31) = 1 := by decide
  rw [e]
  apply Int32.toBitVec_inj.mp
  rw [Int32.toBitVec_shiftRight]
  have e1 : ((1 : Int32).toBitVec.smod 32) = 1#32 := by decide
  have hm : (BitVec.ofNat 32 (2 * n)).toNat = 2 * n := by rw [BitVec.toNat_ofNat, Nat.mod_eq_of_lt (by omega)]
  rw [e1, BitVec.sshiftRight_eq']
  apply BitVec.eq_of_toNat_eq
  show ((BitVec.ofNat 32 (2 * n)).sshiftRight 1).toNat = (BitVec.ofNat 32 n).toNat
  rw [BitVec.toNat_sshiftRight_of_msb_false (by rw [BitVec.msb_eq_false_iff_two_mul_lt, hm]; omega), hm, BitVec.toNat_ofNat, Nat.shiftRight_eq_div_pow]
  omega
/-- charAt's cast of a byte read back -/
def chr8 (u : Int32) : Int32 := (u &&& 255).toUInt32.toUInt16.toUInt32.toInt32
theorem chr8_lo8 {c : Int32} (h0 : ¬ c < 0) (h1 : ¬ 255 < c) : chr8 (lo8 c) = c := by
  have t : ∀ k : Fin 256, (Int32.ofNat k.val).toUInt32.toUInt16.toUInt32.toInt32 = Int32.ofNat k.val := by decide +kernel
  unfold chr8
  rw [lo8_mask h0 h1]
  rw [Int32.lt_iff_toInt_lt] at h0 h1
  have e0 : (0 : Int32).toInt = 0 := rfl
  have e1 : (255 : Int32).toInt = 255 := rfl
  obtain ⟨k, hk⟩ : ∃ k : Nat, c.toInt = k := ⟨c.toInt.toNat, by omega⟩
  have hx : c = Int32.ofNat k := Int32.toInt_inj.mp (by rw [hk, Int32.toInt_ofNat_small (by omega)])
  rw [hx]
  exact t ⟨k, by omega⟩
theorem narrow_ch {c : Int32} (h0 : ¬ c < 0) (h1 : ¬ 65535 < c) : narrow .char (.int c) = .int c := by
  have q : narrow .char (.int (pairCh (lo8 c) (hi8 c))) = .int (pairCh (lo8 c) (hi8 c)) := narrow_c _
  rwa [pair_says h0 h1] at q
/-- the array's cell V codes the n chars f 0 .. f (n - 1) by the coder cd, as the JDK does: coder 1 just where some char is above 255 -/
def Cod (cd : Int32) (n : Nat) (f : Nat → Int32) (V : Cell) : Prop := (cd = 0 ∧ V.slots.size = n ∧ ∀ j, j < n → V.slots[j]? = some (.int (lo8 (f j))) ∧ ¬ 255 < f j) ∨ (cd = 1 ∧ V.slots.size = 2 * n ∧ (∀ j, j < n → V.slots[2 * j]? = some (.int (lo8 (f j))) ∧ V.slots[2 * j + 1]? = some (.int (hi8 (f j)))) ∧ ∃ j, j < n ∧ 255 < f j)
theorem Cod.cd {cd : Int32} {n : Nat} {f : Nat → Int32} {V : Cell} (h : Cod cd n f V) : cd = 0 ∨ cd = 1 := h.imp (fun q => q.1) fun q => q.1
theorem Cod.len {cd : Int32} {n : Nat} {f : Nat → Int32} {V : Cell} (h : Cod cd n f V) (hs : V.slots.size < 2 ^ 31) : Int32.ofNat V.slots.size >>> (cd &&& 31) = Int32.ofNat n := by
  rcases h with ⟨rfl, h, -⟩ | ⟨rfl, h, -⟩
  · rw [shr0, h]
  · rw [h, shr1 (by omega)]
/-- **x is a String of the n chars f 0 .. f (n - 1)**, Latin-1 or UTF-16; its array at t has the cell V -/
def Txt (x t : Addr) (V : Cell) (cd : Int32) (n : Nat) (f : Nat → Int32) (U : State) : Prop := Exact "java/lang/String" x U ∧ Has x "java/lang/String" "value" "[B" (.ref t) U ∧ Has x "java/lang/String" "coder" "B" (.int cd) U ∧ XT.Arr .byte t V U ∧ Cod cd n f V ∧ ∀ j, j < n → ¬ f j < 0 ∧ ¬ 65535 < f j
theorem Txt.mv {x t : Addr} {V : Cell} {cd : Int32} {n : Nat} {f : Nat → Int32} {U U' : State} (h : Txt x t V cd n f U) (hal : U.vm.Alike U'.vm) (hh : U'.heap = U.heap) : Txt x t V cd n f U' := ⟨h.1.mv hal hh, h.2.1.mv hal hh, h.2.2.1.mv hal hh, h.2.2.2.1.mv hal hh, h.2.2.2.2⟩
namespace Cdr
def yN : MethodName := ⟨"java/lang/String", "coder", "()B"⟩
abbrev yB : ByteArray := jdk_42_method_152_code
theorem d0 : decode yB 0 = .ok (.getstatic 38, 3) := by decide +kernel
theorem d3 : decode yB 3 = .ok (.ifCond (.eq) 10, 3) := by decide +kernel
theorem d6 : decode yB 6 = .ok (.aload_n 0, 1) := by decide +kernel
theorem d7 : decode yB 7 = .ok (.getfield 15, 3) := by decide +kernel
theorem d10 : decode yB 10 = .ok (.goto 4, 3) := by decide +kernel
theorem d14 : decode yB 14 = .ok (.ireturn, 1) := by decide +kernel
def site : List Cond := [.fieldLink "java/lang/String" 38 "java/lang/String" "COMPACT_STRINGS" "Z", .fieldLink "java/lang/String" 15 "java/lang/String" "coder" "B"]
def tab : Cond := tabOf yN yB 1 (some .byte) site
def P (x : Addr) (cd z : Int32) (args : Array Value) (s : State) : Prop := args = #[.ref x] ∧ Has x "java/lang/String" "coder" "B" (.int cd) s ∧ (cd = 0 ∨ cd = 1) ∧ StaticIs s "java/lang/String" "COMPACT_STRINGS" "Z" (.int z) ∧ ¬ z = 0
def E (cd : Int32) (r : Option Value) (s u : State) : Prop := XT.PureE (some (.int cd)) r s u
theorem law (l : Launch) (x : Addr) (cd z : Int32) : Law l yN 1 0 0 0 yB 1 (some .byte) site (P x cd z) (E cd) [] 0 0 := by
  refine Law.of_walk (plainFor_of_name (by decide +kernel)) (by decide +kernel) (by decide +kernel) (by decide) (fun _ _ h => by rw [h.1]; rfl) (fun _ U U' hal hh h => ⟨h.1, h.2.1.mv hal hh, h.2.2.1, h.2.2.2.1.there hal hh, h.2.2.2.2⟩) (fun r U U' V V' h1 hal h2 h => XT.PureE.mv r U U' V V' h1 hal h2 h) ?_
  intro p e s m args below meth c s₁ X0 hexec hbytes hml hret hlk hnm hown hh0 W hP
  obtain ⟨rfl, hx, hc, s1, hz⟩ := hP
  have c1 : Steps p.tables e below (s₁.setTop (entryFrame m #[.ref x] 1)) (s₁.setTop (mkF m 0 #[.val (.ref x)] [])) := entry rfl
  obtain ⟨T2, X2, q2, st2⟩ := X0.sget hexec hown (wk W (.fieldLink "java/lang/String" 38 "java/lang/String" "COMPACT_STRINGS" "Z")) s1 (fun _ _ h => by rw [hh0]; exact h) (g := (mkF m 0 #[.val (.ref x)] [])) rfl (hb hbytes d0)
  have hh2 := q2.trans hh0
  have c3 : Steps p.tables e below (s₁.setTop (entryFrame m #[.ref x] 1)) (T2.setTop (mkF m 7 #[.val (.ref x)] [.ref x])) := (c1.trans (st2 _ (Steps.refl _))).trans (by
    refine XS.ifNo X2.here hexec rfl (hb hbytes d3) rfl (i0_eq_f hz) ?_
    refine XS.aloadN X2.here hexec rfl (hb hbytes d6) rfl rfl ?_
    exact Steps.refl _)
  obtain ⟨T4, X4, q4, st4⟩ := X2.hget hexec hown (wk W (.fieldLink "java/lang/String" 15 "java/lang/String" "coder" "B")) (hx.mv X2.warmed.alike hh2) (g := (mkF m 7 #[.val (.ref x)] [.ref x])) rfl (rest := []) rfl (hb hbytes d7)
  have c5 : Steps p.tables e below (s₁.setTop (entryFrame m #[.ref x] 1)) (T4.setTop (mkF m 14 #[.val (.ref x)] [.int cd])) := (c3.trans (st4 _ (Steps.refl _))).trans (by
    refine XS.goto X4.here hexec rfl (pc0 := 10) rfl (hb hbytes d10) (by decide) rfl ?_
    exact Steps.refl _)
  exact ⟨T4, some (.int cd), _, _, _, X4, rfl, rfl, rfl, (fun h => by cases h), ⟨rfl, q4.trans hh2⟩, fun fs hl => c5.trans (X4.ireturnOut hexec hret (by rcases hc with rfl | rfl <;> rfl) (Or.inr (Or.inr (Or.inl rfl))) (hb hbytes d14) hl)⟩
end Cdr
namespace Len
def yN : MethodName := ⟨"java/lang/String", "length", "()I"⟩
abbrev yB : ByteArray := jdk_42_method_54_code
theorem d0 : decode yB 0 = .ok (.aload_n 0, 1) := by decide +kernel
theorem d1 : decode yB 1 = .ok (.getfield 9, 3) := by decide +kernel
theorem d4 : decode yB 4 = .ok (.arraylength, 1) := by decide +kernel
theorem d5 : decode yB 5 = .ok (.aload_n 0, 1) := by decide +kernel
theorem d6 : decode yB 6 = .ok (.invokevirtual 335, 3) := by decide +kernel
theorem d9 : decode yB 9 = .ok (.ishr, 1) := by decide +kernel
theorem d10 : decode yB 10 = .ok (.ireturn, 1) := by decide +kernel
def site : List Cond := [.fieldLink "java/lang/String" 9 "java/lang/String" "value" "[B", Cdr.tab] ++ virtW "java/lang/String" 335 "java/lang/String" Cdr.yN Cdr.yN
def tab : Cond := tabOf yN yB 1 (some .int) site
def P (x t : Addr) (V : Cell) (cd : Int32) (n : Nat) (f : Nat → Int32) (z : Int32) (args : Array Value) (s : State) : Prop := args = #[.ref x] ∧ Txt x t V cd n f s ∧ StaticIs s "java/lang/String" "COMPACT_STRINGS" "Z" (.int z) ∧ ¬ z = 0
def E (n : Nat) (r : Option Value) (s u : State) : Prop := XT.PureE (some (.int (Int32.ofNat n))) r s u
/-- length() of a String of n chars, in either coding -/
theorem law (l : Launch) (x t : Addr) (V : Cell) (cd : Int32) (n : Nat) (f : Nat → Int32) (z : Int32) : Law l yN 1 0 1 13 yB 1 (some .int) site (P x t V cd n f z) (E n) [] 0 0 := by
  refine Law.of_walk (plainFor_of_name (by decide +kernel)) (by decide +kernel) (by decide +kernel) (by decide) (fun _ _ h => by rw [h.1]; rfl) (fun _ U U' hal hh h => ⟨h.1, h.2.1.mv hal hh, h.2.2.1.there hal hh, h.2.2.2⟩) (fun r U U' V V' h1 hal h2 h => XT.PureE.mv r U U' V V' h1 hal h2 h) ?_
  intro p e s m args below meth c s₁ X0 hexec hbytes hml hret hlk hnm hown hh0 W hP
  obtain ⟨rfl, hx, s1, hz⟩ := hP
  have v31 := hx.2.2.2.1.2.2.2
  have c1 : Steps p.tables e below (s₁.setTop (entryFrame m #[.ref x] 1)) (s₁.setTop (mkF m 1 #[.val (.ref x)] [.ref x])) := Steps.trans (entry rfl) (by
    show Steps p.tables e below (s₁.setTop (mkF m 0 #[.val (.ref x)] [])) _
    refine XS.aloadN X0.here hexec rfl (hb hbytes d0) rfl rfl ?_
    exact Steps.refl _)
  obtain ⟨T2, X2, q2, st2⟩ := X0.hget hexec hown (wk W (.fieldLink "java/lang/String" 9 "java/lang/String" "value" "[B")) (hx.mv X0.warmed.alike hh0).2.1 (g := (mkF m 1 #[.val (.ref x)] [.ref x])) rfl (rest := []) rfl (hb hbytes d1)
  have hh2 := q2.trans hh0
  have hx2 := hx.mv X2.warmed.alike hh2
  have c3 : Steps p.tables e below (s₁.setTop (entryFrame m #[.ref x] 1)) (T2.setTop (mkF m 6 #[.val (.ref x)] [.ref x, .int (Int32.ofNat V.slots.size)])) := (c1.trans (st2 _ (Steps.refl _))).trans (by
    refine X2.alen hexec hx2.2.2.2.1 rfl rfl (hb hbytes d4) ?_
    refine XS.aloadN X2.here hexec rfl (hb hbytes d5) rfl rfl ?_
    exact Steps.refl _)
  obtain ⟨v4, T4, X4, E4, g4⟩ := X2.callV hexec (Cdr.law l x cd z) hown (wks W (virtW "java/lang/String" 335 "java/lang/String" Cdr.yN Cdr.yN)) rfl (by decide) (wk W Cdr.tab) (W := 1) (Nat.le_of_ble_eq_true rfl) (Nat.le_of_ble_eq_true rfl) (Nat.le_refl _) (Nat.le_refl _) (hx2.1.fc X2.warmed.alike) hx2.1.is (g := (mkF m 6 #[.val (.ref x)] [.ref x, .int (Int32.ofNat V.slots.size)])) rfl (by rw [hml]; rfl) c3 (argsL := []) (rest := [.int (Int32.ofNat V.slots.size)]) rfl rfl (by show 2 * 0 + (1 + 0) ≤ _; decide) (hb hbytes d6) (⟨rfl, hx2.2.2.1, hx.2.2.2.2.1.cd, s1.there X2.warmed.alike hh2, hz⟩)
  obtain ⟨rfl, q4⟩ := E4
  have c5 : Steps p.tables e below (s₁.setTop (entryFrame m #[.ref x] 1)) (T4.setTop (mkF m 10 #[.val (.ref x)] [.int (Int32.ofNat V.slots.size >>> (cd &&& 31))])) := Steps.trans g4 (by
    refine ishr X4.here hexec rfl (hb hbytes d9) rfl ?_
    exact Steps.refl _)
  rw [hx.2.2.2.2.1.len v31] at c5
  exact ⟨T4, some (.int (Int32.ofNat n)), _, _, _, X4, rfl, rfl, rfl, (fun h => by cases h), ⟨rfl, q4.trans hh2⟩, fun fs hl => c5.trans (X4.ireturnOut hexec hret rfl (Or.inl rfl) (hb hbytes d10) hl)⟩
theorem pays {l : Launch} {R : Room} {p : Program} {e : Env} {below : List Frame} {s : State} {sargs : Array Value} {len W : Nat} (x t : Addr) (V : Cell) (cd : Int32) (n : Nat) (f : Nat → Int32) (z : Int32) (htab : tab.before sargs s = true) (hfr : 2 ≤ R.frames) (hlo : W + 25 ≤ R.locals) :
    Back l R p e below s sargs yN len W (fun A₁ a₁ => A₁.cells + 0 ≤ R.cells ∧ A₁.slots + 0 ≤ R.slots ∧ P x t V cd n f z a₁ A₁.U) (fun A₁ _ v₁ B₁ => E n v₁ A₁.U B₁.U ∧ B₁.locs = A₁.locs ++ [] ∧ B₁.cells = A₁.cells + 0 ∧ B₁.slots = A₁.slots + 0) :=
  (law l x t V cd n f z).pays htab hfr (by omega)
end Len
namespace IsL
def yN : MethodName := ⟨"java/lang/String", "isLatin1", "()Z"⟩
abbrev yB : ByteArray := jdk_42_method_154_code
theorem d0 : decode yB 0 = .ok (.getstatic 38, 3) := by decide +kernel
theorem d3 : decode yB 3 = .ok (.ifCond (.eq) 14, 3) := by decide +kernel
theorem d6 : decode yB 6 = .ok (.aload_n 0, 1) := by decide +kernel
theorem d7 : decode yB 7 = .ok (.getfield 15, 3) := by decide +kernel
theorem d10 : decode yB 10 = .ok (.ifCond (.ne) 7, 3) := by decide +kernel
theorem d13 : decode yB 13 = .ok (.iconst 1, 1) := by decide +kernel
theorem d14 : decode yB 14 = .ok (.goto 4, 3) := by decide +kernel
theorem d17 : decode yB 17 = .ok (.iconst 0, 1) := by decide +kernel
theorem d18 : decode yB 18 = .ok (.ireturn, 1) := by decide +kernel
def site : List Cond := [.fieldLink "java/lang/String" 38 "java/lang/String" "COMPACT_STRINGS" "Z", .fieldLink "java/lang/String" 15 "java/lang/String" "coder" "B"]
def tab : Cond := tabOf yN yB 1 (some .boolean) site
def P (x : Addr) (cd z : Int32) (args : Array Value) (s : State) : Prop := args = #[.ref x] ∧ Has x "java/lang/String" "coder" "B" (.int cd) s ∧ (cd = 0 ∨ cd = 1) ∧ StaticIs s "java/lang/String" "COMPACT_STRINGS" "Z" (.int z) ∧ ¬ z = 0
def E (cd : Int32) (r : Option Value) (s u : State) : Prop := XT.PureE (some (.int (1 - cd))) r s u
theorem law (l : Launch) (x : Addr) (cd z : Int32) : Law l yN 1 0 0 0 yB 1 (some .boolean) site (P x cd z) (E cd) [] 0 0 := by
  refine Law.of_walk (plainFor_of_name (by decide +kernel)) (by decide +kernel) (by decide +kernel) (by decide) (fun _ _ h => by rw [h.1]; rfl) (fun _ U U' hal hh h => ⟨h.1, h.2.1.mv hal hh, h.2.2.1, h.2.2.2.1.there hal hh, h.2.2.2.2⟩) (fun r U U' V V' h1 hal h2 h => XT.PureE.mv r U U' V V' h1 hal h2 h) ?_
  intro p e s m args below meth c s₁ X0 hexec hbytes hml hret hlk hnm hown hh0 W hP
  obtain ⟨rfl, hx, hc, s1, hz⟩ := hP
  have c1 : Steps p.tables e below (s₁.setTop (entryFrame m #[.ref x] 1)) (s₁.setTop (mkF m 0 #[.val (.ref x)] [])) := entry rfl
  obtain ⟨T2, X2, q2, st2⟩ := X0.sget hexec hown (wk W (.fieldLink "java/lang/String" 38 "java/lang/String" "COMPACT_STRINGS" "Z")) s1 (fun _ _ h => by rw [hh0]; exact h) (g := (mkF m 0 #[.val (.ref x)] [])) rfl (hb hbytes d0)
  have hh2 := q2.trans hh0
  have c3 : Steps p.tables e below (s₁.setTop (entryFrame m #[.ref x] 1)) (T2.setTop (mkF m 7 #[.val (.ref x)] [.ref x])) := (c1.trans (st2 _ (Steps.refl _))).trans (by
    refine XS.ifNo X2.here hexec rfl (hb hbytes d3) rfl (i0_eq_f hz) ?_
    refine XS.aloadN X2.here hexec rfl (hb hbytes d6) rfl rfl ?_
    exact Steps.refl _)
  obtain ⟨T4, X4, q4, st4⟩ := X2.hget hexec hown (wk W (.fieldLink "java/lang/String" 15 "java/lang/String" "coder" "B")) (hx.mv X2.warmed.alike hh2) (g := (mkF m 7 #[.val (.ref x)] [.ref x])) rfl (rest := []) rfl (hb hbytes d7)
  have c5 : Steps p.tables e below (s₁.setTop (entryFrame m #[.ref x] 1)) (T4.setTop (mkF m 10 #[.val (.ref x)] [.int cd])) := c3.trans (st4 _ (Steps.refl _))
  have c6 : Steps p.tables e below (s₁.setTop (entryFrame m #[.ref x] 1)) (T4.setTop (mkF m 18 #[.val (.ref x)] [.int (1 - cd)])) := by
    rcases hc with rfl | rfl
    · exact c5.trans (by
        refine XS.ifNo X4.here hexec rfl (hb hbytes d10) rfl (i0_ne_f rfl) ?_
        refine iconstV X4.here hexec rfl 1 (hb hbytes d13) (by decide) ?_
        refine XS.goto X4.here hexec rfl (pc0 := 14) rfl (hb hbytes d14) (by decide) rfl ?_
        exact Steps.refl _)
    · exact c5.trans (by
        refine XS.ifYes X4.here hexec rfl (pc0 := 10) rfl (hb hbytes d10) rfl (i0_ne_t (by decide)) (by decide) rfl ?_
        refine iconstV X4.here hexec rfl 0 (hb hbytes d17) (by decide) ?_
        exact Steps.refl _)
  exact ⟨T4, some (.int (1 - cd)), _, _, _, X4, rfl, rfl, rfl, (fun h => by cases h), ⟨rfl, q4.trans hh2⟩, fun fs hl => c6.trans (X4.ireturnOut hexec hret (by rcases hc with rfl | rfl <;> rfl) (Or.inr (Or.inl rfl)) (hb hbytes d18) hl)⟩
end IsL
namespace LChA
def yN : MethodName := ⟨"java/lang/StringLatin1", "charAt", "([BI)C"⟩
abbrev yB : ByteArray := jdk_43_method_2_code
theorem d0 : decode yB 0 = .ok (.iload_n 1, 1) := by decide +kernel
theorem d1 : decode yB 1 = .ok (.aload_n 0, 1) := by decide +kernel
theorem d2 : decode yB 2 = .ok (.arraylength, 1) := by decide +kernel
theorem d3 : decode yB 3 = .ok (.invokestatic 9, 3) := by decide +kernel
theorem d6 : decode yB 6 = .ok (.aload_n 0, 1) := by decide +kernel
theorem d7 : decode yB 7 = .ok (.iload_n 1, 1) := by decide +kernel
theorem d8 : decode yB 8 = .ok (.baload, 1) := by decide +kernel
theorem d9 : decode yB 9 = .ok (.sipush 255, 3) := by decide +kernel
theorem d12 : decode yB 12 = .ok (.iand, 1) := by decide +kernel
theorem d13 : decode yB 13 = .ok (.i2c, 1) := by decide +kernel
theorem d14 : decode yB 14 = .ok (.ireturn, 1) := by decide +kernel
def site : List Cond := [JO.Str_checkIndex.tab] ++ staticW "java/lang/StringLatin1" 9 JO.Str_checkIndex.yN
def tab : Cond := tabOf yN yB 2 (some .char) site
def P (t : Addr) (V : Cell) (i : Nat) (u : Int32) (fm : Value) (args : Array Value) (s : State) : Prop := args = #[.ref t, .int (Int32.ofNat i)] ∧ XT.Arr .byte t V s ∧ V.slots[i]? = some (.int u) ∧ (StaticIs s "jdk/internal/util/Preconditions" "SIOOBE_FORMATTER" "Ljava/util/function/BiFunction;" fm ∧ fm.isRef = true)
def E (u : Int32) (r : Option Value) (s w : State) : Prop := XT.PureE (some (.int (chr8 u))) r s w
theorem law (l : Launch) (t : Addr) (V : Cell) (i : Nat) (u : Int32) (fm : Value) : Law l yN 2 2 2 27 yB 2 (some .char) site (P t V i u fm) (E u) [] 0 0 := by
  refine Law.of_walk (plainFor_of_name (by decide +kernel)) (by decide +kernel) (by decide +kernel) (by decide) (fun _ _ h => by rw [h.1]; rfl) (fun _ U U' hal hh h => ⟨h.1, h.2.1.mv hal hh, h.2.2.1, h.2.2.2.1.there hal hh, h.2.2.2.2⟩) (fun r U U' V V' h1 hal h2 h => XT.PureE.mv r U U' V V' h1 hal h2 h) ?_
  intro p e s m args below meth c s₁ X0 hexec hbytes hml hret hlk hnm hown hh0 W hP
  obtain ⟨rfl, hV, hu, s1, rf⟩ := hP
  have v31 := hV.2.2.2
  have hi : i < V.slots.size := (Array.getElem?_eq_some_iff.mp hu).1
  have c1 : Steps p.tables e below (s₁.setTop (entryFrame m #[.ref t, .int (Int32.ofNat i)] 2)) (s₁.setTop (mkF m 0 #[.val (.ref t), .val (.int (Int32.ofNat i))] [])) := entry rfl
  have c2 : Steps p.tables e below (s₁.setTop (entryFrame m #[.ref t, .int (Int32.ofNat i)] 2)) (s₁.setTop (mkF m 3 #[.val (.ref t), .val (.int (Int32.ofNat i))] [.int (Int32.ofNat V.slots.size), .int (Int32.ofNat i)])) := c1.trans (by
    refine XS.iloadN X0.here hexec rfl (hb hbytes d0) rfl ?_
    refine XS.aloadN X0.here hexec rfl (hb hbytes d1) rfl rfl ?_
    refine X0.alen hexec (hV.mv X0.warmed.alike hh0) rfl rfl (hb hbytes d2) ?_
    exact Steps.refl _)
  obtain ⟨v3, T3, X3, E3, g3⟩ := X0.callS hexec (JO.Str_checkIndex.law l (Int32.ofNat i) (Int32.ofNat V.slots.size) fm) hown (wks W (staticW "java/lang/StringLatin1" 9 JO.Str_checkIndex.yN)) (wk W JO.Str_checkIndex.tab) (W := 0) (Nat.le_of_ble_eq_true rfl) (Nat.le_of_ble_eq_true rfl) (Nat.le_refl _) (Nat.le_refl _) (g := (mkF m 3 #[.val (.ref t), .val (.int (Int32.ofNat i))] [.int (Int32.ofNat V.slots.size), .int (Int32.ofNat i)])) rfl (by rw [hml]; rfl) c2 (argsL := [.int (Int32.ofNat i), .int (Int32.ofNat V.slots.size)]) (rest := []) rfl rfl (by show 2 * 0 + 0 ≤ _; decide) (hb hbytes d3) (⟨rfl, rf, s1.there X0.warmed.alike hh0, Int32.ofNat_not_neg (by omega), lt32 v31 hi⟩)
  obtain ⟨rfl, q3⟩ := E3
  have hh3 := q3.trans hh0
  have c4 : Steps p.tables e below (s₁.setTop (entryFrame m #[.ref t, .int (Int32.ofNat i)] 2)) (T3.setTop (mkF m 14 #[.val (.ref t), .val (.int (Int32.ofNat i))] [.int (chr8 u)])) := Steps.trans g3 (by
    refine XS.aloadN X3.here hexec rfl (hb hbytes d6) rfl rfl ?_
    refine XS.iloadN X3.here hexec rfl (hb hbytes d7) rfl ?_
    refine X3.aget hexec (hV.mv X3.warmed.alike hh3) rfl hu rfl rfl (hb hbytes d8) ?_
    refine sipushV X3.here hexec rfl 255 (hb hbytes d9) (by decide) ?_
    refine XS.iand X3.here hexec rfl (hb hbytes d12) rfl ?_
    refine i2c X3.here hexec rfl (hb hbytes d13) rfl ?_
    exact Steps.refl _)
  exact ⟨T3, some (.int (chr8 u)), _, _, _, X3, rfl, rfl, rfl, (fun h => by cases h), ⟨rfl, hh3⟩, fun fs hl => c4.trans (X3.ireturnOut hexec hret (narrow_c _) (Or.inr (Or.inr (Or.inr (Or.inl rfl)))) (hb hbytes d14) hl)⟩
end LChA
end StrChars
namespace StrChars.Road
open Jvm Sem ClassFile Op Lib Jvm.Stand Jvm.Free Jvm.Free.XT
open Jvm.Lib.Cold (StaticIs)
theorem consq {a : Array Value} {s : State} {c : Jvm.Cond} {L : List Jvm.Cond} (h0 : c.before a s = true) (h : ∀ w ∈ L, w.before a s = true) : ∀ w ∈ c :: L, w.before a s = true := fun w hw => (List.mem_cons.mp hw).elim (fun e => e ▸ h0) (h w)
/-- the words of String.length(), either coding -/
abbrev wordsLen : List Jvm.Cond := [.code Len.yN Len.yB 1 (some .int), .initialized ST, .fieldLink ST 9 ST "value" "[B", .fieldLink ST 38 ST "COMPACT_STRINGS" "Z", .fieldLink ST 15 ST "coder" "B", .code Cdr.yN Cdr.yB 1 (some .byte), .methodLink ST 335 Cdr.yN, .declares Cdr.yN, .selects ST Cdr.yN Cdr.yN, .instanceMethod Cdr.yN]
theorem tabLen_of {a : Array Value} {s : State} (h : ∀ w ∈ wordsLen, w.before a s = true) : Len.tab.before a s = true := by
  have hc : Cdr.tab.before a s = true := unparts (wk h (.code Cdr.yN Cdr.yB 1 (some .byte))) (wks h (.initialized Cdr.yN.cls :: Cdr.site))
  have q := consq hc h
  exact unparts (wk q (.code Len.yN Len.yB 1 (some .int))) (wks q (.initialized Len.yN.cls :: Len.site))
theorem movedLen {Z s : State} {a0 args : Array Value} (hZ : Z.Warmed39 s.vm) (hw : ∀ d ∈ wordsLen, d.before a0 Z = true) : ∀ d ∈ wordsLen, d.before args s = true := fun d hd => by
  have q := hw d hd
  have t : ∀ d ∈ wordsLen, d = .arrayClass .byte ∨ (d.onTables && d.keepsFace) = true := by decide +kernel
  rcases t d hd with rfl | t
  · exact RoadKit.mvA hZ q
  · exact RoadKit.mv hZ q t
/-- the bytes of the chars cs, low before high -/
def wideBytes : List Int32 → List Value
  | [] => []
  | c :: cs => .int (lo8 c) :: .int (hi8 c) :: wideBytes cs
theorem wide_lo (d : Value) : ∀ (cs : List Int32) (j : Nat), j < cs.length → (wideBytes cs).getD (2 * j) d = .int (lo8 (cs.getD j 0))
  | [], j, h => absurd h (Nat.not_lt_zero j)
  | c :: cs, 0, _ => rfl
  | c :: cs, j + 1, h => by
    have q := wide_lo d cs j (by simpa using h)
    rw [show 2 * (j + 1) = 2 * j + 1 + 1 from by omega]
    simpa [wideBytes] using q
theorem wide_hi (d : Value) : ∀ (cs : List Int32) (j : Nat), j < cs.length → (wideBytes cs).getD (2 * j + 1) d = .int (hi8 (cs.getD j 0))
  | [], j, h => absurd h (Nat.not_lt_zero j)
  | c :: cs, 0, _ => rfl
  | c :: cs, j + 1, h => by
    have q := wide_hi d cs j (by simpa using h)
    rw [show 2 * (j + 1) + 1 = 2 * j + 1 + 1 + 1 from by omega]
    simpa [wideBytes] using q
theorem low_at (d : Value) (cs : List Int32) (j : Nat) (h : j < cs.length) : (cs.map fun c => Value.int (lo8 c)).getD j d = .int (lo8 (cs.getD j 0)) := by
  simp [List.getD_eq_getElem?_getD, h]
/-- an array of N2 bytes vs codes the chars cs by the coder cd -/
def CodA (cs : List Int32) (cd N2 : Int32) (vs : List Value) : Prop := (cd = 0 ∧ N2 = Int32.ofNat cs.length ∧ vs = (cs.map fun c => Value.int (lo8 c)) ∧ ∀ c ∈ cs, ¬ 255 < c) ∨ (cd = 1 ∧ N2 = Int32.ofNat (2 * cs.length) ∧ vs = wideBytes cs ∧ ∃ c ∈ cs, 255 < c)
theorem CodA.cod {cs : List Int32} {cd N2 : Int32} {vs : List Value} {V : Cell} (h : CodA cs cd N2 vs) (hn : 2 * cs.length < 2 ^ 31) (hs : V.slots.size = N2.toNatClampNeg) (hv : RoadKit.Has V vs (.int 0)) : Cod cd cs.length (fun j => cs.getD j 0) V := by
  rcases h with ⟨rfl, rfl, rfl, h⟩ | ⟨rfl, rfl, rfl, c, hc, hw⟩
  · rw [n32 (by omega)] at hs
    exact Or.inl ⟨rfl, hs, fun j hj => ⟨by rw [hv j (by omega), low_at _ _ _ hj], by
      have e : cs.getD j 0 = cs[j] := by simp [List.getD_eq_getElem?_getD, hj]
      show ¬ 255 < cs.getD j 0
      rw [e]; exact h _ (List.getElem_mem _)⟩⟩
  · rw [n32 (by omega)] at hs
    obtain ⟨j, hj, rfl⟩ := List.getElem_of_mem hc
    exact Or.inr ⟨rfl, hs, fun j hj => ⟨by rw [hv _ (by omega), wide_lo _ _ _ hj], by rw [hv _ (by omega), wide_hi _ _ _ hj]⟩, j, hj, by
      have e : cs.getD j 0 = cs[j] := by simp [List.getD_eq_getElem?_getD, hj]
      show 255 < cs.getD j 0
      rw [e]; exact hw⟩
/-- an object of exactly java/lang/String, its two fields found: as the laws ask it -/
theorem strObj {Z U : State} {a0 : Array Value} {kI : Nat} (wi : (Jvm.Cond.instantiable ST kI).before a0 Z = true) (al : Z.vm.Alike U.vm) {x : Addr} {v0 c0 : Value} (E : RoadKit.Exa Z U.heap x ST) (V : RoadKit.Fld Z U.heap x ST "value" "[B" v0) (C : RoadKit.Fld Z U.heap x ST "coder" "B" c0) :
    ∃ (D : Cell) (fV fC : Field), Blank ST x D U ∧ Found ST "value" "[B" fV U ∧ Found ST "coder" "B" fC U ∧ D.slots[fV.slot]? = some v0 ∧ D.slots[fC.slot]? = some c0 ∧ RoadKit.slotOf Z ST "value" "[B" = fV.slot ∧ RoadKit.slotOf Z ST "coder" "B" = fC.slot := by
  obtain ⟨D, cfV, kV, iV, fV, hD, gV, stV, knV, obV, asV, slV⟩ := V
  obtain ⟨D', cfC, kC, iC, fC, hD', gC, stC, -, -, asC, slC⟩ := C
  cases hD.symm.trans hD'
  obtain ⟨D2, kD, e1, e2, e3, e4, e5⟩ := E
  cases hD.symm.trans e1
  obtain ⟨c2, k2, i1, i2, i3, -⟩ := Cond.instantiable_spec wi
  cases e2.symm.trans i1
  cases e3.symm.trans i2
  obtain ⟨kU, u1, u2⟩ := al.2.2 _ _ e3
  exact ⟨D, fV, fC, ⟨hD, ⟨knV, fun q hq => by rw [hq] at obV; cases obV⟩, by rw [al.findClass]; exact e2, kU, u1, by rw [u2]; exact i3, by rw [u2]; exact e5 i3⟩, ⟨SBG.found_only al ⟨cfV, kV, iV, gV⟩, stV⟩, ⟨SBG.found_only al ⟨cfC, kC, iC, gC⟩, stC⟩, slV, slC, by simp [RoadKit.slotOf, gV], by simp [RoadKit.slotOf, gC]⟩
theorem sta_is {Z U : State} (al : Z.vm.Alike U.vm) {C n d : String} {v : Value} (S : RoadKit.Sta Z U.heap C n d v) : StaticIs U C n d v := by
  obtain ⟨cfS, iS, kS, fS, st, cS, t1, t2, t3, t4, t5, t6, t7⟩ := S
  exact StaticIs.there (s := { Z with heap := U.heap }) ⟨cfS, iS, kS, fS, st, cS, t1, t2, t3, t4, t5, (fun q => by rw [q] at t6; cases t6), t7⟩ al rfl
/-- **length() OF SUCH A STRING** -/
theorem lenW {p : Program} {l : Launch} {e : Env} {R : Room} {s : State} {args : Array Value} {below : List Frame} {len W : Nat} {Z : State} {a0 : Array Value} {h : Heap} (hZ : Z.Warmed39 s.vm) (hw : ∀ d ∈ wordsLen, d.before a0 Z = true) {kI : Nat} (wi : (Jvm.Cond.instantiable ST kI).before a0 Z = true)
    {x t : Addr} {kb : ClassId} {cs : List Int32} {cd N2 z : Int32} {vs : List Value} (E : RoadKit.Exa Z h x ST) (V : RoadKit.Fld Z h x ST "value" "[B" (.ref t)) (C : RoadKit.Fld Z h x ST "coder" "B" (.int cd)) (K : RoadKit.Arv Z h t kb .byte N2 vs (.int 0)) (hc : CodA cs cd N2 vs) (hb : ∀ c ∈ cs, ¬ c < 0 ∧ ¬ (65535 : Int32) < c)
    (S : RoadKit.Sta Z h ST "COMPACT_STRINGS" "Z" (.int z)) (hz : ¬ z = 0) (l2 : cs.length ≤ 4000) (hfr : 2 ≤ R.frames) (hlo : W + 25 ≤ R.locals) :
    Back l R p e below s args (⟨"java/lang/String", "length", "()I"⟩ : MethodName) len W (fun P a => a = #[.ref x] ∧ P.U.heap = h ∧ P.cells + 0 ≤ R.cells ∧ P.slots + 0 ≤ R.slots)
      (fun P _ v B => ∃ L, (v = some (.int (Int32.ofNat cs.length)) ∧ L = [] ∧ B.U.heap = h) ∧ B.locs = P.locs ++ L ∧ B.cells = P.cells + 0 ∧ B.slots = P.slots + 0) := by
  obtain ⟨A, K1, K2, K3, K4, K5, K6⟩ := K
  have hcod := hc.cod (by omega) K3 K5
  intro m meth c P g ig mk a X hg hsize hdg hW hn hp'
  obtain ⟨rfl, rfl, r1, r2⟩ := hp'
  have al : Z.vm.Alike P.U.vm := hZ.alike.trans X.warmed.alike
  obtain ⟨D, fV, fC, hB, F1, F2, g1, g2, -, -⟩ := strObj wi al E V C
  have hx : Txt x t A cd cs.length (fun j => cs.getD j 0) P.U := ⟨⟨_, hB.2.2.1, D, hB.1, rfl, by cases q : D.vm <;> first | rfl | exact absurd q (hB.2.1.2 _)⟩, Has.of hB F1 g1, Has.of hB F2 g2, ⟨K1.1, State.isArrayOf_alike al K1.2.1, K1.2.2, by rcases hcod with ⟨-, q, -⟩ | ⟨-, q, -⟩ <;> omega⟩, hcod, fun j hj => by
    have e : cs.getD j 0 = cs[j] := by simp [List.getD_eq_getElem?_getD, hj]
    show ¬ cs.getD j 0 < 0 ∧ ¬ 65535 < cs.getD j 0
    rw [e]; exact hb _ (List.getElem_mem _)⟩
  obtain ⟨v, B, X', ⟨⟨hv, hh⟩, hl, hk, hs⟩, st⟩ := Len.pays x t A cd cs.length (fun j => cs.getD j 0) z (tabLen_of (movedLen hZ hw)) hfr hlo m meth c P g ig mk _ X hg hsize hdg hW hn ⟨r1, r2, rfl, hx, sta_is al S, hz⟩
  exact ⟨v, B, X', ⟨[], ⟨hv, rfl, hh⟩, hl, hk, hs⟩, st⟩
end StrChars.Road
namespace StrChars
open Jvm Sem ClassFile Op Lib Jvm.Stand Jvm.Free.XT Jvm.Free.ALB Jvm.Free.JM Jvm.Free
open Jvm.Lib.Cold (StaticIs)
namespace Emp
def yN : MethodName := ⟨"java/lang/String", "isEmpty", "()Z"⟩
abbrev yB : ByteArray := jdk_42_method_55_code
theorem d0 : decode yB 0 = .ok (.aload_n 0, 1) := by decide +kernel
theorem d1 : decode yB 1 = .ok (.getfield 9, 3) := by decide +kernel
theorem d4 : decode yB 4 = .ok (.arraylength, 1) := by decide +kernel
theorem d5 : decode yB 5 = .ok (.ifCond (.ne) 7, 3) := by decide +kernel
theorem d8 : decode yB 8 = .ok (.iconst 1, 1) := by decide +kernel
theorem d9 : decode yB 9 = .ok (.goto 4, 3) := by decide +kernel
theorem d12 : decode yB 12 = .ok (.iconst 0, 1) := by decide +kernel
theorem d13 : decode yB 13 = .ok (.ireturn, 1) := by decide +kernel
def site : List Cond := [.fieldLink "java/lang/String" 9 "java/lang/String" "value" "[B"]
def tab : Cond := tabOf yN yB 1 (some .boolean) site
def P (x t : Addr) (V : Cell) (cd : Int32) (n : Nat) (f : Nat → Int32) (args : Array Value) (s : State) : Prop := args = #[.ref x] ∧ Txt x t V cd n f s
def E (n : Nat) (r : Option Value) (s u : State) : Prop := XT.PureE (some (.int (if n = 0 then 1 else 0))) r s u
/-- isEmpty() of a String of n chars -/
theorem law (l : Launch) (x t : Addr) (V : Cell) (cd : Int32) (n : Nat) (f : Nat → Int32) : Law l yN 1 0 0 0 yB 1 (some .boolean) site (P x t V cd n f) (E n) [] 0 0 := by
  refine Law.of_walk (plainFor_of_name (by decide +kernel)) (by decide +kernel) (by decide +kernel) (by decide) (fun _ _ h => by rw [h.1]; rfl) (fun _ U U' hal hh h => ⟨h.1, h.2.mv hal hh⟩) (fun r U U' V V' h1 hal h2 h => XT.PureE.mv r U U' V V' h1 hal h2 h) ?_
  intro p e s m args below meth c s₁ X0 hexec hbytes hml hret hlk hnm hown hh0 W hP
  obtain ⟨rfl, hx⟩ := hP
  have v31 := hx.2.2.2.1.2.2.2
  have c1 : Steps p.tables e below (s₁.setTop (entryFrame m #[.ref x] 1)) (s₁.setTop (mkF m 1 #[.val (.ref x)] [.ref x])) := Steps.trans (entry rfl) (by
    show Steps p.tables e below (s₁.setTop (mkF m 0 #[.val (.ref x)] [])) _
    refine XS.aloadN X0.here hexec rfl (hb hbytes d0) rfl rfl ?_
    exact Steps.refl _)
  obtain ⟨T2, X2, q2, st2⟩ := X0.hget hexec hown (wk W (.fieldLink "java/lang/String" 9 "java/lang/String" "value" "[B")) (hx.mv X0.warmed.alike hh0).2.1 (g := (mkF m 1 #[.val (.ref x)] [.ref x])) rfl (rest := []) rfl (hb hbytes d1)
  have hh2 := q2.trans hh0
  have hx2 := hx.mv X2.warmed.alike hh2
  have c3 : Steps p.tables e below (s₁.setTop (entryFrame m #[.ref x] 1)) (T2.setTop (mkF m 5 #[.val (.ref x)] [.int (Int32.ofNat V.slots.size)])) := (c1.trans (st2 _ (Steps.refl _))).trans (by
    refine X2.alen hexec hx2.2.2.2.1 rfl rfl (hb hbytes d4) ?_
    exact Steps.refl _)
  have hz : V.slots.size = 0 ↔ n = 0 := by
    rcases hx.2.2.2.2.1 with ⟨-, q, -⟩ | ⟨-, q, -⟩ <;> omega
  by_cases h0 : n = 0
  · have c4 : Steps p.tables e below (s₁.setTop (entryFrame m #[.ref x] 1)) (T2.setTop (mkF m 13 #[.val (.ref x)] [.int 1])) := c3.trans (by
      refine XS.ifNo X2.here hexec rfl (hb hbytes d5) rfl (i0_ne_f (by rw [hz.mpr h0]; rfl)) ?_
      refine iconstV X2.here hexec rfl 1 (hb hbytes d8) (by decide) ?_
      refine XS.goto X2.here hexec rfl (pc0 := 9) rfl (hb hbytes d9) (by decide) rfl ?_
      exact Steps.refl _)
    exact ⟨T2, some (.int 1), _, _, _, X2, rfl, rfl, rfl, (fun h => by cases h), ⟨by rw [if_pos h0], hh2⟩, fun fs hl => c4.trans (X2.ireturnOut hexec hret rfl (Or.inr (Or.inl rfl)) (hb hbytes d13) hl)⟩
  · have c4 : Steps p.tables e below (s₁.setTop (entryFrame m #[.ref x] 1)) (T2.setTop (mkF m 13 #[.val (.ref x)] [.int 0])) := c3.trans (by
      refine XS.ifYes X2.here hexec rfl (pc0 := 5) rfl (hb hbytes d5) rfl (i0_ne_t (nz32 v31 (by omega))) (by decide) rfl ?_
      refine iconstV X2.here hexec rfl 0 (hb hbytes d12) (by decide) ?_
      exact Steps.refl _)
    exact ⟨T2, some (.int 0), _, _, _, X2, rfl, rfl, rfl, (fun h => by cases h), ⟨by rw [if_neg h0], hh2⟩, fun fs hl => c4.trans (X2.ireturnOut hexec hret rfl (Or.inr (Or.inl rfl)) (hb hbytes d13) hl)⟩
theorem pays {l : Launch} {R : Room} {p : Program} {e : Env} {below : List Frame} {s : State} {sargs : Array Value} {len W : Nat} (x t : Addr) (V : Cell) (cd : Int32) (n : Nat) (f : Nat → Int32) (htab : tab.before sargs s = true) (hfr : 1 ≤ R.frames) (hlo : W + 12 ≤ R.locals) :
    Back l R p e below s sargs yN len W (fun A₁ a₁ => A₁.cells + 0 ≤ R.cells ∧ A₁.slots + 0 ≤ R.slots ∧ P x t V cd n f a₁ A₁.U) (fun A₁ _ v₁ B₁ => E n v₁ A₁.U B₁.U ∧ B₁.locs = A₁.locs ++ [] ∧ B₁.cells = A₁.cells + 0 ∧ B₁.slots = A₁.slots + 0) :=
  (law l x t V cd n f).pays htab hfr (by omega)
end Emp
end StrChars
namespace StrChars.Road
open Jvm Sem ClassFile Op Lib Jvm.Stand Jvm.Free Jvm.Free.XT
open Jvm.Lib.Cold (StaticIs)
/-- the words of String.isEmpty() -/
abbrev wordsEmp : List Jvm.Cond := [.code Emp.yN Emp.yB 1 (some .boolean), .initialized ST, .fieldLink ST 9 ST "value" "[B"]
theorem tabEmp_of {a : Array Value} {s : State} (h : ∀ w ∈ wordsEmp, w.before a s = true) : Emp.tab.before a s = true := unparts (wk h (.code Emp.yN Emp.yB 1 (some .boolean))) (wks h (.initialized Emp.yN.cls :: Emp.site))
theorem movedEmp {Z s : State} {a0 args : Array Value} (hZ : Z.Warmed39 s.vm) (hw : ∀ d ∈ wordsEmp, d.before a0 Z = true) : ∀ d ∈ wordsEmp, d.before args s = true := fun d hd => by
  have t : ∀ d ∈ wordsEmp, (d.onTables && d.keepsFace) = true := by decide +kernel
  exact RoadKit.mv hZ (hw d hd) (t d hd)
/-- the road's facts of a String, as the laws ask it -/
theorem txt_of {Z U : State} {a0 : Array Value} {kI : Nat} (wi : (Jvm.Cond.instantiable ST kI).before a0 Z = true) (al : Z.vm.Alike U.vm) {x t : Addr} {kb : ClassId} {cs : List Int32} {cd N2 : Int32} {vs : List Value} (E : RoadKit.Exa Z U.heap x ST) (V : RoadKit.Fld Z U.heap x ST "value" "[B" (.ref t)) (C : RoadKit.Fld Z U.heap x ST "coder" "B" (.int cd)) (K : RoadKit.Arv Z U.heap t kb .byte N2 vs (.int 0)) (hc : CodA cs cd N2 vs) (hb : ∀ c ∈ cs, ¬ c < 0 ∧ ¬ (65535 : Int32) < c) (l2 : cs.length ≤ 4000) :
    ∃ A, Txt x t A cd cs.length (fun j => cs.getD j 0) U := by
  obtain ⟨A, K1, K2, K3, K4, K5, K6⟩ := K
  have hcod := hc.cod (by omega) K3 K5
  obtain ⟨D, fV, fC, hB, F1, F2, g1, g2, -, -⟩ := strObj wi al E V C
  exact ⟨A, ⟨_, hB.2.2.1, D, hB.1, rfl, by cases q : D.vm <;> first | rfl | exact absurd q (hB.2.1.2 _)⟩, Has.of hB F1 g1, Has.of hB F2 g2, ⟨K1.1, State.isArrayOf_alike al K1.2.1, K1.2.2, by rcases hcod with ⟨-, q, -⟩ | ⟨-, q, -⟩ <;> omega⟩, hcod, fun j hj => by
    have e : cs.getD j 0 = cs[j] := by simp [List.getD_eq_getElem?_getD, hj]
    show ¬ cs.getD j 0 < 0 ∧ ¬ 65535 < cs.getD j 0
    rw [e]; exact hb _ (List.getElem_mem _)⟩
/-- **isEmpty() OF SUCH A STRING** -/
theorem empW {p : Program} {l : Launch} {e : Env} {R : Room} {s : State} {args : Array Value} {below : List Frame} {len W : Nat} {Z : State} {a0 : Array Value} {h : Heap} (hZ : Z.Warmed39 s.vm) (hw : ∀ d ∈ wordsEmp, d.before a0 Z = true) {kI : Nat} (wi : (Jvm.Cond.instantiable ST kI).before a0 Z = true)
    {x t : Addr} {kb : ClassId} {cs : List Int32} {cd N2 : Int32} {vs : List Value} (E : RoadKit.Exa Z h x ST) (V : RoadKit.Fld Z h x ST "value" "[B" (.ref t)) (C : RoadKit.Fld Z h x ST "coder" "B" (.int cd)) (K : RoadKit.Arv Z h t kb .byte N2 vs (.int 0)) (hc : CodA cs cd N2 vs) (hb : ∀ c ∈ cs, ¬ c < 0 ∧ ¬ (65535 : Int32) < c) (l2 : cs.length ≤ 4000) (hfr : 1 ≤ R.frames) (hlo : W + 12 ≤ R.locals) :
    Back l R p e below s args (⟨"java/lang/String", "isEmpty", "()Z"⟩ : MethodName) len W (fun P a => a = #[.ref x] ∧ P.U.heap = h ∧ P.cells + 0 ≤ R.cells ∧ P.slots + 0 ≤ R.slots)
      (fun P _ v B => ∃ L, (v = some (.int (if cs.length = 0 then 1 else 0)) ∧ L = [] ∧ B.U.heap = h) ∧ B.locs = P.locs ++ L ∧ B.cells = P.cells + 0 ∧ B.slots = P.slots + 0) := by
  intro m meth c P g ig mk a X hg hsize hdg hW hn hp'
  obtain ⟨rfl, rfl, r1, r2⟩ := hp'
  have al : Z.vm.Alike P.U.vm := hZ.alike.trans X.warmed.alike
  obtain ⟨A, hx⟩ := txt_of wi al E V C K hc hb l2
  obtain ⟨v, B, X', ⟨⟨hv, hh⟩, hl, hk, hs⟩, st⟩ := Emp.pays x t A cd cs.length (fun j => cs.getD j 0) (tabEmp_of (movedEmp hZ hw)) hfr hlo m meth c P g ig mk _ X hg hsize hdg hW hn ⟨r1, r2, rfl, hx⟩
  exact ⟨v, B, X', ⟨[], ⟨hv, rfl, hh⟩, hl, hk, hs⟩, st⟩
end StrChars.Road
namespace StrChars
open Jvm Sem ClassFile Op Lib Jvm.Stand Jvm.Free.XT Jvm.Free.ALB Jvm.Free.JM Jvm.Free
open Jvm.Lib.Cold (StaticIs)
namespace ChN
def yN : MethodName := ⟨"java/lang/String", "charAt", "(I)C"⟩
abbrev yB : ByteArray := jdk_42_method_56_code
theorem d0 : decode yB 0 = .ok (.aload_n 0, 1) := by decide +kernel
theorem d1 : decode yB 1 = .ok (.invokevirtual 492, 3) := by decide +kernel
theorem d4 : decode yB 4 = .ok (.ifCond (.eq) 12, 3) := by decide +kernel
theorem d7 : decode yB 7 = .ok (.aload_n 0, 1) := by decide +kernel
theorem d8 : decode yB 8 = .ok (.getfield 9, 3) := by decide +kernel
theorem d11 : decode yB 11 = .ok (.iload_n 1, 1) := by decide +kernel
theorem d12 : decode yB 12 = .ok (.invokestatic 495, 3) := by decide +kernel
theorem d15 : decode yB 15 = .ok (.ireturn, 1) := by decide +kernel
def site : List Cond := [.fieldLink "java/lang/String" 9 "java/lang/String" "value" "[B", IsL.tab, LChA.tab] ++ virtW "java/lang/String" 492 "java/lang/String" IsL.yN IsL.yN ++ staticW "java/lang/String" 495 LChA.yN
def tab : Cond := tabOf yN yB 2 (some .char) site
def P (x t : Addr) (V : Cell) (n : Nat) (f : Nat → Int32) (z : Int32) (fm : Value) (i : Nat) (args : Array Value) (s : State) : Prop := args = #[.ref x, .int (Int32.ofNat i)] ∧ Txt x t V 0 n f s ∧ i < n ∧ StaticIs s "java/lang/String" "COMPACT_STRINGS" "Z" (.int z) ∧ ¬ z = 0 ∧ StaticIs s "jdk/internal/util/Preconditions" "SIOOBE_FORMATTER" "Ljava/util/function/BiFunction;" fm ∧ fm.isRef = true
def E (f : Nat → Int32) (i : Nat) (r : Option Value) (s u : State) : Prop := XT.PureE (some (.int (f i))) r s u
/-- charAt(i) of a Latin-1 String of n chars, i < n: f i -/
theorem law (l : Launch) (x t : Addr) (V : Cell) (n : Nat) (f : Nat → Int32) (z : Int32) (fm : Value) (i : Nat) : Law l yN 2 1 3 40 yB 2 (some .char) site (P x t V n f z fm i) (E f i) [] 0 0 := by
  refine Law.of_walk (plainFor_of_name (by decide +kernel)) (by decide +kernel) (by decide +kernel) (by decide) (fun _ _ h => by rw [h.1]; rfl) (fun _ U U' hal hh h => ⟨h.1, h.2.1.mv hal hh, h.2.2.1, h.2.2.2.1.there hal hh, h.2.2.2.2.1, h.2.2.2.2.2.1.there hal hh, h.2.2.2.2.2.2⟩) (fun r U U' V V' h1 hal h2 h => XT.PureE.mv r U U' V V' h1 hal h2 h) ?_
  intro p e s m args below meth c s₁ X0 hexec hbytes hml hret hlk hnm hown hh0 W hP
  obtain ⟨rfl, hx, hi, s1, hz, s3, rf⟩ := hP
  have v31 := hx.2.2.2.1.2.2.2
  have hr := hx.2.2.2.2.2 i hi
  have hx0 := hx.mv X0.warmed.alike hh0
  have c1 : Steps p.tables e below (s₁.setTop (entryFrame m #[.ref x, .int (Int32.ofNat i)] 2)) (s₁.setTop (mkF m 1 #[.val (.ref x), .val (.int (Int32.ofNat i))] [.ref x])) := Steps.trans (entry rfl) (by
    show Steps p.tables e below (s₁.setTop (mkF m 0 #[.val (.ref x), .val (.int (Int32.ofNat i))] [])) _
    refine XS.aloadN X0.here hexec rfl (hb hbytes d0) rfl rfl ?_
    exact Steps.refl _)
  obtain ⟨v2, T2, X2, E2, g2⟩ := X0.callV hexec (IsL.law l x 0 z) hown (wks W (virtW "java/lang/String" 492 "java/lang/String" IsL.yN IsL.yN)) rfl (by decide) (wk W IsL.tab) (W := 0) (Nat.le_of_ble_eq_true rfl) (Nat.le_of_ble_eq_true rfl) (Nat.le_refl _) (Nat.le_refl _) (hx0.1.fc X0.warmed.alike) hx0.1.is (g := (mkF m 1 #[.val (.ref x), .val (.int (Int32.ofNat i))] [.ref x])) rfl (by rw [hml]; rfl) c1 (argsL := []) (rest := []) rfl rfl (by show 2 * 0 + 0 ≤ _; decide) (hb hbytes d1) (⟨rfl, hx0.2.2.1, hx.2.2.2.2.1.cd, s1.there X0.warmed.alike hh0, hz⟩)
  obtain ⟨rfl, q2⟩ := E2
  have hh2 := q2.trans hh0
  have hx2 := hx.mv X2.warmed.alike hh2
  obtain ⟨-, k1, k2⟩ | ⟨k0, -⟩ := hx.2.2.2.2.1
  · have c3 : Steps p.tables e below (s₁.setTop (entryFrame m #[.ref x, .int (Int32.ofNat i)] 2)) (T2.setTop (mkF m 8 #[.val (.ref x), .val (.int (Int32.ofNat i))] [.ref x])) := Steps.trans g2 (by
      refine XS.ifNo X2.here hexec rfl (hb hbytes d4) rfl (i0_eq_f (by decide)) ?_
      refine XS.aloadN X2.here hexec rfl (hb hbytes d7) rfl rfl ?_
      exact Steps.refl _)
    obtain ⟨T4, X4, q4, st4⟩ := X2.hget hexec hown (wk W (.fieldLink "java/lang/String" 9 "java/lang/String" "value" "[B")) hx2.2.1 (g := (mkF m 8 #[.val (.ref x), .val (.int (Int32.ofNat i))] [.ref x])) rfl (rest := []) rfl (hb hbytes d8)
    have hh4 := q4.trans hh2
    have c5 : Steps p.tables e below (s₁.setTop (entryFrame m #[.ref x, .int (Int32.ofNat i)] 2)) (T4.setTop (mkF m 12 #[.val (.ref x), .val (.int (Int32.ofNat i))] [.int (Int32.ofNat i), .ref t])) := (c3.trans (st4 _ (Steps.refl _))).trans (by
      refine XS.iloadN X4.here hexec rfl (hb hbytes d11) rfl ?_
      exact Steps.refl _)
    obtain ⟨v6, T6, X6, E6, g6⟩ := X4.callS hexec (LChA.law l t V i (lo8 (f i)) fm) hown (wks W (staticW "java/lang/String" 495 LChA.yN)) (wk W LChA.tab) (W := 0) (Nat.le_of_ble_eq_true rfl) (Nat.le_of_ble_eq_true rfl) (Nat.le_refl _) (Nat.le_refl _) (g := (mkF m 12 #[.val (.ref x), .val (.int (Int32.ofNat i))] [.int (Int32.ofNat i), .ref t])) rfl (by rw [hml]; rfl) c5 (argsL := [.ref t, .int (Int32.ofNat i)]) (rest := []) rfl rfl (by show 2 * 0 + 0 ≤ _; decide) (hb hbytes d12) (⟨rfl, hx.2.2.2.1.mv X4.warmed.alike hh4, (k2 i hi).1, s3.there X4.warmed.alike hh4, rf⟩)
    obtain ⟨rfl, q6⟩ := E6
    rw [chr8_lo8 hr.1 (k2 i hi).2] at g6
    exact ⟨T6, some (.int (f i)), _, _, _, X6, rfl, rfl, rfl, (fun h => by cases h), ⟨rfl, q6.trans hh4⟩, fun fs hl => Steps.trans g6 (X6.ireturnOut hexec hret (narrow_ch hr.1 hr.2) (Or.inr (Or.inr (Or.inr (Or.inl rfl)))) (hb hbytes d15) hl)⟩
  · exact absurd k0 (by decide)
theorem pays {l : Launch} {R : Room} {p : Program} {e : Env} {below : List Frame} {s : State} {sargs : Array Value} {len W : Nat} (x t : Addr) (V : Cell) (n : Nat) (f : Nat → Int32) (z : Int32) (fm : Value) (i : Nat) (htab : tab.before sargs s = true) (hfr : 4 ≤ R.frames) (hlo : W + 53 ≤ R.locals) :
    Back l R p e below s sargs yN len W (fun A₁ a₁ => A₁.cells + 0 ≤ R.cells ∧ A₁.slots + 0 ≤ R.slots ∧ P x t V n f z fm i a₁ A₁.U) (fun A₁ _ v₁ B₁ => E f i v₁ A₁.U B₁.U ∧ B₁.locs = A₁.locs ++ [] ∧ B₁.cells = A₁.cells + 0 ∧ B₁.slots = A₁.slots + 0) :=
  (law l x t V n f z fm i).pays htab hfr (by omega)
end ChN
end StrChars
namespace StrChars.Road
open Jvm Sem ClassFile Op Lib Jvm.Stand Jvm.Free Jvm.Free.XT
open Jvm.Lib.Cold (StaticIs)
/-- the words of String.charAt(int), the Latin-1 road alone -/
abbrev wordsChN : List Jvm.Cond := [.code ChN.yN ChN.yB 2 (some .char), .initialized ST, .fieldLink ST 9 ST "value" "[B", .fieldLink ST 38 ST "COMPACT_STRINGS" "Z", .fieldLink ST 15 ST "coder" "B", .code IsL.yN IsL.yB 1 (some .boolean), .methodLink ST 492 IsL.yN, .declares IsL.yN, .selects ST IsL.yN IsL.yN, .instanceMethod IsL.yN,
  .methodLink ST 495 LChA.yN, .static LChA.yN, .code LChA.yN LChA.yB 2 (some .char), .initialized "java/lang/StringLatin1", .methodLink "java/lang/StringLatin1" 9 JO.Str_checkIndex.yN, .static JO.Str_checkIndex.yN, .code JO.Str_checkIndex.yN JO.Str_checkIndex.yB 2 none,
  .fieldLink ST 1053 "jdk/internal/util/Preconditions" "SIOOBE_FORMATTER" "Ljava/util/function/BiFunction;", .methodLink ST 1059 JC.PreCheck.yN, .static JC.PreCheck.yN, .code JC.PreCheck.yN JC.PreCheck.yB 3 (some .int), .initialized "jdk/internal/util/Preconditions"]
theorem tabChN_of {a : Array Value} {s : State} (h : ∀ w ∈ wordsChN, w.before a s = true) : ChN.tab.before a s = true := by
  have hp : JC.PreCheck.tab.before a s = true := unparts (wk h (.code JC.PreCheck.yN JC.PreCheck.yB 3 (some .int))) (wks h (.initialized JC.PreCheck.yN.cls :: JC.PreCheck.site))
  have qk := consq hp h
  have hk : JO.Str_checkIndex.tab.before a s = true := unparts (wk qk (.code JO.Str_checkIndex.yN JO.Str_checkIndex.yB 2 none)) (wks qk (.initialized JO.Str_checkIndex.yN.cls :: JO.Str_checkIndex.site))
  have ql := consq hk h
  have hl : LChA.tab.before a s = true := unparts (wk ql (.code LChA.yN LChA.yB 2 (some .char))) (wks ql (.initialized LChA.yN.cls :: LChA.site))
  have hi : IsL.tab.before a s = true := unparts (wk h (.code IsL.yN IsL.yB 1 (some .boolean))) (wks h (.initialized IsL.yN.cls :: IsL.site))
  have q := consq hi (consq hl h)
  exact unparts (wk q (.code ChN.yN ChN.yB 2 (some .char))) (wks q (.initialized ChN.yN.cls :: ChN.site))
theorem movedChN {Z s : State} {a0 args : Array Value} (hZ : Z.Warmed39 s.vm) (hw : ∀ d ∈ wordsChN, d.before a0 Z = true) : ∀ d ∈ wordsChN, d.before args s = true := fun d hd => by
  have t : ∀ d ∈ wordsChN, (d.onTables && d.keepsFace) = true := by decide +kernel
  exact RoadKit.mv hZ (hw d hd) (t d hd)
/-- **charAt(i) OF A LATIN-1 STRING**, i < n: the char -/
theorem chN {p : Program} {l : Launch} {e : Env} {R : Room} {s : State} {args : Array Value} {below : List Frame} {len W : Nat} {Z : State} {a0 : Array Value} {h : Heap} (hZ : Z.Warmed39 s.vm) (hw : ∀ d ∈ wordsChN, d.before a0 Z = true) {kI : Nat} (wi : (Jvm.Cond.instantiable ST kI).before a0 Z = true)
    {x t : Addr} {kb : ClassId} {cs : List Int32} {N2 z : Int32} {vs : List Value} {fm : Value} {i : Nat} {j : Int32} (E : RoadKit.Exa Z h x ST) (V : RoadKit.Fld Z h x ST "value" "[B" (.ref t)) (C : RoadKit.Fld Z h x ST "coder" "B" (.int 0)) (K : RoadKit.Arv Z h t kb .byte N2 vs (.int 0)) (hc : CodA cs 0 N2 vs) (hb : ∀ c ∈ cs, ¬ c < 0 ∧ ¬ (65535 : Int32) < c)
    (S : RoadKit.Sta Z h ST "COMPACT_STRINGS" "Z" (.int z)) (hz : ¬ z = 0) (F : RoadKit.Sta Z h "jdk/internal/util/Preconditions" "SIOOBE_FORMATTER" "Ljava/util/function/BiFunction;" fm) (rf : fm.isRef = true) (l2 : cs.length ≤ 4000) (hi : i < cs.length) (hj : j = Int32.ofNat i) (hfr : 4 ≤ R.frames) (hlo : W + 53 ≤ R.locals) :
    Back l R p e below s args (⟨"java/lang/String", "charAt", "(I)C"⟩ : MethodName) len W (fun P a => a = #[.ref x, .int j] ∧ P.U.heap = h ∧ P.cells + 0 ≤ R.cells ∧ P.slots + 0 ≤ R.slots)
      (fun P _ v B => ∃ L, (v = some (.int (cs.getD i 0)) ∧ L = [] ∧ B.U.heap = h) ∧ B.locs = P.locs ++ L ∧ B.cells = P.cells + 0 ∧ B.slots = P.slots + 0) := by
  subst hj
  intro m meth c P g ig mk a X hg hsize hdg hW hn hp'
  obtain ⟨rfl, rfl, r1, r2⟩ := hp'
  have al : Z.vm.Alike P.U.vm := hZ.alike.trans X.warmed.alike
  obtain ⟨A, hx⟩ := txt_of wi al E V C K hc hb l2
  obtain ⟨v, B, X', ⟨⟨hv, hh⟩, hl, hk, hs⟩, st⟩ := ChN.pays x t A cs.length (fun j => cs.getD j 0) z fm i (tabChN_of (movedChN hZ hw)) hfr hlo m meth c P g ig mk _ X hg hsize hdg hW hn ⟨r1, r2, rfl, hx, hi, sta_is al S, hz, sta_is al F, rf⟩
  exact ⟨v, B, X', ⟨[], ⟨hv, rfl, hh⟩, hl, hk, hs⟩, st⟩
/-- what backV says of its String, as the contracts of this text ask it: cs's low bytes, coder 0 -/
theorem codOf {cs : List Int32} {n : Nat} (hn : cs.length = n) (hb : ∀ c ∈ cs, ¬ 255 < c) : CodA cs 0 (Int32.ofNat n) ((cs.map lo8).map Value.int) := Or.inl ⟨rfl, by rw [hn], by simp [List.map_map, Function.comp_def], hb⟩
end StrChars.Road
end Jvm.Pilot.@@N@@

namespace Jvm.Pilot.@@N@@
open Jvm Jvm.ClassFile Sem Op Lib Jvm.Free Jvm.Stand Jvm.LawKit Jvm.RoadKit Bundle Jvm.Pilot.@@N@@.Jvm.D
theorem own_w {Z : State} {a0 : Array Value} (hw : ∀ d ∈ tables_1, d.before a0 Z = true) (i : Nat) {d : Jvm.Cond} (h : tables_1[i]? = some d) : d.before a0 Z = true := hw d (List.mem_of_getElem? h)
theorem ok {a b : Nat} (h : Nat.ble a b = true) : a ≤ b := Nat.le_of_ble_eq_true h
abbrev y0_ : MethodName := ⟨"com/example/mutx/mutx/redis/RedisNames", "lockKey", "(Ljava/lang/String;)Ljava/lang/String;"⟩
abbrev y2_ : MethodName := ⟨"java/lang/AbstractStringBuilder", "append", "(Ljava/lang/String;)Ljava/lang/AbstractStringBuilder;"⟩
abbrev y3_ : MethodName := ⟨"java/lang/AbstractStringBuilder", "ensureCapacityInternal", "(I)V"⟩
abbrev y4_ : MethodName := ⟨"java/lang/AbstractStringBuilder", "getValue", "()[B"⟩
abbrev y5_ : MethodName := ⟨"java/lang/AbstractStringBuilder", "inflateIfNeededFor", "(Ljava/lang/String;)V"⟩
abbrev y6_ : MethodName := ⟨"java/lang/AbstractStringBuilder", "isLatin1", "()Z"⟩
abbrev y7_ : MethodName := ⟨"java/lang/AbstractStringBuilder", "length", "()I"⟩
abbrev y8_ : MethodName := ⟨"java/lang/AbstractStringBuilder", "putStringAt", "(ILjava/lang/String;)V"⟩
abbrev y9_ : MethodName := ⟨"java/lang/Math", "min", "(II)I"⟩
abbrev y10_ : MethodName := ⟨"java/lang/String", "<init>", "(Ljava/lang/AbstractStringBuilder;Ljava/lang/Void;)V"⟩
abbrev y11_ : MethodName := ⟨"java/lang/String", "<init>", "(Ljava/lang/StringBuilder;)V"⟩
abbrev y12_ : MethodName := ⟨"java/lang/String", "<init>", "([C)V"⟩
abbrev y13_ : MethodName := ⟨"java/lang/String", "charAt", "(I)C"⟩
abbrev y14_ : MethodName := ⟨"java/lang/String", "coder", "()B"⟩
abbrev y15_ : MethodName := ⟨"java/lang/String", "getBytes", "([BIB)V"⟩
abbrev y16_ : MethodName := ⟨"java/lang/String", "isEmpty", "()Z"⟩
abbrev y17_ : MethodName := ⟨"java/lang/String", "length", "()I"⟩
abbrev y18_ : MethodName := ⟨"java/lang/StringBuilder", "<init>", "()V"⟩
abbrev y19_ : MethodName := ⟨"java/lang/StringBuilder", "append", "(Ljava/lang/String;)Ljava/lang/StringBuilder;"⟩
abbrev y20_ : MethodName := ⟨"java/lang/StringBuilder", "length", "()I"⟩
abbrev y21_ : MethodName := ⟨"java/lang/StringBuilder", "toString", "()Ljava/lang/String;"⟩
abbrev y22_ : MethodName := ⟨"java/util/Arrays", "checkLength", "(II)V"⟩
abbrev y23_ : MethodName := ⟨"java/util/Arrays", "copyOfRange", "([BII)[B"⟩
abbrev y24_ : MethodName := ⟨"java/util/Arrays", "copyOfRangeByte", "([BII)[B"⟩
theorem own_up {cs : List Int32} (h : ∀ c ∈ cs, ¬ c < 0 ∧ ¬ (255 : Int32) < c) : ∀ c ∈ cs, ¬ c < 0 ∧ ¬ (65535 : Int32) < c := fun c hc => ⟨(h c hc).1, fun q => (h c hc).2 (by rw [Int32.lt_iff_toInt_lt] at q ⊢; have e1 : (65535 : Int32).toInt = 65535 := rfl; have e2 : (255 : Int32).toInt = 255 := rfl; omega)⟩
def EL1 : List (String × Nat) := consts_1
theorem own_EL {Z : State} {a0 : Array Value} (hw : ∀ d ∈ tables_1, d.before a0 Z = true) : EW Z a0 EL1 := (EW.cons (own_w hw 57 rfl) (by decide) (EW.cons (own_w hw 107 rfl) (by decide) EW.nil))
theorem in_atoms : ∀ d ∈ Bundle.stringAtoms, d ∈ tables_1 := by decide +kernel
theorem d10_0 : decode jdk_68_method_2_code 0 = .ok (.aload_n 0, 1) := by decide +kernel
theorem d10_1 : decode jdk_68_method_2_code 1 = .ok (.invokespecial 3, 3) := by decide +kernel
theorem d10_4 : decode jdk_68_method_2_code 4 = .ok (.getstatic 18, 3) := by decide +kernel
theorem d10_7 : decode jdk_68_method_2_code 7 = .ok (.ifCond .eq 18, 3) := by decide +kernel
theorem d10_10 : decode jdk_68_method_2_code 10 = .ok (.aload_n 0, 1) := by decide +kernel
theorem d10_11 : decode jdk_68_method_2_code 11 = .ok (.iload_n 1, 1) := by decide +kernel
theorem d10_12 : decode jdk_68_method_2_code 12 = .ok (.newarray .byte, 2) := by decide +kernel
theorem d10_14 : decode jdk_68_method_2_code 14 = .ok (.putfield 15, 3) := by decide +kernel
theorem d10_17 : decode jdk_68_method_2_code 17 = .ok (.aload_n 0, 1) := by decide +kernel
theorem d10_18 : decode jdk_68_method_2_code 18 = .ok (.iconst 0, 1) := by decide +kernel
theorem d10_19 : decode jdk_68_method_2_code 19 = .ok (.putfield 22, 3) := by decide +kernel
theorem d10_22 : decode jdk_68_method_2_code 22 = .ok (.goto 16, 3) := by decide +kernel
theorem d10_25 : decode jdk_68_method_2_code 25 = .ok (.aload_n 0, 1) := by decide +kernel
theorem d10_26 : decode jdk_68_method_2_code 26 = .ok (.iload_n 1, 1) := by decide +kernel
theorem d10_27 : decode jdk_68_method_2_code 27 = .ok (.invokestatic 26, 3) := by decide +kernel
theorem d10_30 : decode jdk_68_method_2_code 30 = .ok (.putfield 15, 3) := by decide +kernel
theorem d10_33 : decode jdk_68_method_2_code 33 = .ok (.aload_n 0, 1) := by decide +kernel
theorem d10_34 : decode jdk_68_method_2_code 34 = .ok (.iconst 1, 1) := by decide +kernel
theorem d10_35 : decode jdk_68_method_2_code 35 = .ok (.putfield 22, 3) := by decide +kernel
theorem d10_38 : decode jdk_68_method_2_code 38 = .ok (.return_, 1) := by decide +kernel
theorem pn_java_lang_AbstractStringBuilder : plainName "java/lang/AbstractStringBuilder" = true := by first | (simp [plainName, overriddenIn]; done) | decide +kernel
theorem efAI (x : Addr) (m : MethodId) : entryFrame m #[(.ref x), (.int (16 : Int32))] 2 = mkF m 0 #[.val (.ref x), .val (.int (16 : Int32))] [] := by first | (simp [entryFrame, mkF, argsToLocals, Value.category]; done) | rfl
def QAI (Z : State) (x : Addr) (zc : Int32) (fm : Value) (h0 : Heap) (n0 : Nat) (v : Option Value) (h : Heap) (L : List Loc) : Prop := ∃ t kt, v = none ∧ Fr n0 L ∧ Keep h0 h [x] ∧ h0.size ≤ t ∧ Exa Z h x "java/lang/StringBuilder" ∧ Fld Z h x "java/lang/AbstractStringBuilder" "value" "[B" (.ref t) ∧ Fld Z h x "java/lang/AbstractStringBuilder" "coder" "B" (.int (0 : Int32)) ∧ Fld Z h x "java/lang/AbstractStringBuilder" "count" "I" (.int (0 : Int32)) ∧ Arv Z h t kt .byte (16 : Int32) [] (.int (0 : Int32))
set_option maxRecDepth 65536 in
set_option maxHeartbeats 40000000 in
theorem rmAI (l : Launch) (Z : State) (a0 : Array Value) (hw : ∀ d ∈ tables_1, d.before a0 Z = true) (ws : List Jvm.Cond) (x : Addr) (zc : Int32) (fm : Value) (h0 : Heap) (n0 : Nat) (Z0 : n0 ≤ h0.size) (O0 : Old Z n0 h0) (S_CS : Sta Z Z.heap "java/lang/String" "COMPACT_STRINGS" "Z" (.int zc)) (hzc : ¬ zc = 0) (S_FM : Sta Z Z.heap "jdk/internal/util/Preconditions" "SIOOBE_FORMATTER" "Ljava/util/function/BiFunction;" fm) (hfm : fm.isRef = true) (gx : n0 ≤ x) (Ex : Exa Z h0 x "java/lang/StringBuilder") (Fv : Fld Z h0 x "java/lang/AbstractStringBuilder" "value" "[B" .null) (Fc : Fld Z h0 x "java/lang/AbstractStringBuilder" "coder" "B" (.int (0 : Int32))) (Fn : Fld Z h0 x "java/lang/AbstractStringBuilder" "count" "I" (.int (0 : Int32))) :
    OwnLaw l (⟨"java/lang/AbstractStringBuilder", "<init>", "(I)V"⟩ : MethodName) jdk_68_method_2_code 2 none ws (rR 1 1 16 12) #[(.ref x), (.int (16 : Int32))] Z h0 (QAI Z x zc fm h0 n0) := by
  refine own_enter (plainFor_of_name pn_java_lang_AbstractStringBuilder) (efAI x) ?_
  intro p e s m below meth c s₁ Bd hx hby hml hZ hown X0 e0
  have N0 := Fr.nil n0
  have K0 : Keep h0 h0 [] := Keep.refl _ _
  have K0 : Keep h0 h0 [x] := Keep.refl _ _
  refine P1.aloadN X0.here hx (hb hby d10_0) rfl rfl ?_
  obtain ⟨T1, X1, e1, st1⟩ := initO X0 hx hZ hown (own_w hw 51 rfl) (own_w hw 12 rfl) (own_w hw 13 rfl) e0 (g := (mkF m 1 #[.val (.ref x), .val (.int (16 : Int32))] [(.ref x)])) rfl (by rw [hml]; rfl) rfl (hb hby d10_1) (by decide) (W := 0) (by show 2 * 0 + _ ≤ _; exact Nat.le_of_eq rfl) (by decide)
  refine Goes.step (T' := T1) (g' := (mkF m 4 #[.val (.ref x), .val (.int (16 : Int32))] [])) st1 ?_
  obtain ⟨T2, X2, e2, st2⟩ := getS2 X1 hx hZ hown (host := "") (Or.inl (own_w hw 52 rfl)) Via.refl e1 (S_CS.ext O0.2) (g := (mkF m 4 #[.val (.ref x), .val (.int (16 : Int32))] [])) rfl (hb hby d10_4)
  refine Goes.step (T' := T2) (g' := (mkF m 7 #[.val (.ref x), .val (.int (16 : Int32))] [(.int zc)])) st2 ?_
  refine P1.ifNo X2.here hx (hb hby d10_7) ((if0 _ _).trans (feq (hzc : ¬ (zc = (0 : Int32)))).1) ?_
  refine P1.aloadN X2.here hx (hb hby d10_10) rfl rfl ?_
  refine P1.iloadN X2.here hx (hb hby d10_11) rfl ?_
  obtain ⟨T3, h3, k3, X3, e3, E3, A3, st3⟩ := newP X2 hx hZ (own_w hw 19 rfl) e2 (g := (mkF m 12 #[.val (.ref x), .val (.int (16 : Int32))] [(.int (16 : Int32)), (.ref x)])) rfl (hb hby d10_12) rfl (by decide) (cap := 16) (ok rfl) (ok rfl) (ok rfl) (ok rfl)
  obtain ⟨b3, g3⟩ : ∃ z, z = h0.size := ⟨_, rfl⟩
  rw [← g3] at A3 st3
  have ge_b3 : n0 ≤ b3 := Nat.le_trans Z0 (Nat.le_of_eq g3.symm)
  have sz_b3 : h0.size ≤ b3 := Nat.le_trans K0.1 (Nat.le_of_eq g3.symm)
  have V3 : Arv Z h3 b3 k3 .byte (16 : Int32) [] (.int (0 : Int32)) := Arv.new A3 (by decide)
  refine Goes.step (T' := T3) (g' := (mkF m 14 #[.val (.ref x), .val (.int (16 : Int32))] [(.ref b3), (.ref x)])) st3 ?_
  have F4 : Fld Z h3 x "java/lang/AbstractStringBuilder" "value" "[B" .null := Fv.ext E3
  have E5 : Exa Z h3 x "java/lang/StringBuilder" := Ex.ext E3
  obtain ⟨T6, h6, X6, e6, W6, st6⟩ := putF X3 hx hZ hown (host := "") (Or.inl (own_w hw 53 rfl)) Via.refl e3 F4 E5 (Or.inl (own_w hw 54 rfl)) (own_w hw 40 rfl) (ty := (.array .byte)) (by decide) rfl rfl (g := (mkF m 14 #[.val (.ref x), .val (.int (16 : Int32))] [(.ref b3), (.ref x)])) rfl rfl (hb hby d10_14)
  have Fw6 : Fld Z h6 x "java/lang/AbstractStringBuilder" "value" "[B" (.ref b3) := F4.same W6
  have N6 := Fr.snoc X6 N0 gx
  refine Goes.step (T' := T6) (g' := (mkF m 17 #[.val (.ref x), .val (.int (16 : Int32))] [])) st6 ?_
  refine P1.aloadN X6.here hx (hb hby d10_17) rfl rfl ?_
  refine P1.iconst X6.here hx (0 : Int32) (hb hby d10_18) rfl ?_
  have F7 : Fld Z h3 x "java/lang/AbstractStringBuilder" "coder" "B" (.int (0 : Int32)) := Fc.ext E3
  have F8 : Fld Z h6 x "java/lang/AbstractStringBuilder" "coder" "B" (.int (0 : Int32)) := F7.other W6 (Or.inr (slot_ne (Or.inl (own_w hw 56 rfl)) (Or.inl (own_w hw 54 rfl)) (by decide) (t := .byte) (t' := (.array .byte)) (by decide) (by decide)))
  have E9 : Exa Z h6 x "java/lang/StringBuilder" := E5.wr W6
  obtain ⟨T10, h10, X10, e10, W10, st10⟩ := putFN X6 hx hZ hown (own_w hw 55 rfl) Via.refl e6 F8 E9 (Or.inl (own_w hw 56 rfl)) (own_w hw 40 rfl) (ty := .byte) (v' := (.int (0 : Int32))) (by decide) rfl (by decide) (g := (mkF m 19 #[.val (.ref x), .val (.int (16 : Int32))] [(.int (0 : Int32)), (.ref x)])) rfl rfl (hb hby d10_19)
  have Fw10 : Fld Z h10 x "java/lang/AbstractStringBuilder" "coder" "B" (.int (0 : Int32)) := F8.same W10
  have N10 := Fr.snoc X10 N6 gx
  refine Goes.step (T' := T10) (g' := (mkF m 22 #[.val (.ref x), .val (.int (16 : Int32))] [])) st10 ?_
  refine P1.goto X10.here hx 38 (hb hby d10_22) (by decide) (by decide) ?_
  refine Goes.retV X10 hx Bd.notSynchronized Bd.returns (hb hby d10_38) (ok rfl) (ok rfl) ?_
  rw [e10]
  have K11 : Keep h0 h3 [x] := K0.ext E3
  have K12 : Keep h0 h6 [x] := K11.wr W6 (Or.inl (by simp))
  have K13 : Keep h0 h10 [x] := K12.wr W10 (Or.inl (by simp))
  have E14 : Exa Z h10 x "java/lang/StringBuilder" := E9.wr W10
  have F15 : Fld Z h10 x "java/lang/AbstractStringBuilder" "value" "[B" (.ref b3) := Fw6.other W10 (Or.inr (slot_ne (Or.inl (own_w hw 54 rfl)) (Or.inl (own_w hw 56 rfl)) (by decide) (t := (.array .byte)) (t' := .byte) (by decide) (by decide)))
  have F16 : Fld Z h3 x "java/lang/AbstractStringBuilder" "count" "I" (.int (0 : Int32)) := Fn.ext E3
  have F17 : Fld Z h6 x "java/lang/AbstractStringBuilder" "count" "I" (.int (0 : Int32)) := F16.other W6 (Or.inr (slot_ne (Or.inl (own_w hw 81 rfl)) (Or.inl (own_w hw 54 rfl)) (by decide) (t := .int) (t' := (.array .byte)) (by decide) (by decide)))
  have F18 : Fld Z h10 x "java/lang/AbstractStringBuilder" "count" "I" (.int (0 : Int32)) := F17.other W10 (Or.inr (slot_ne (Or.inl (own_w hw 81 rfl)) (Or.inl (own_w hw 56 rfl)) (by decide) (t := .int) (t' := .byte) (by decide) (by decide)))
  have ne19 : x ≠ b3 := Nat.ne_of_lt (Nat.lt_of_lt_of_le Ex.lt (Nat.le_of_eq g3.symm))
  have V20 : Arv Z h6 b3 k3 .byte (16 : Int32) [] (.int (0 : Int32)) := V3.other W6 (Ne.symm ne19)
  have V21 : Arv Z h10 b3 k3 .byte (16 : Int32) [] (.int (0 : Int32)) := V20.other W10 (Ne.symm ne19)
  exact ⟨b3, k3, rfl, N10, K13, sz_b3, E14, F15, Fw10, F18, V21⟩
theorem d9_0 : decode jdk_67_method_1_code 0 = .ok (.aload_n 0, 1) := by decide +kernel
theorem d9_1 : decode jdk_67_method_1_code 1 = .ok (.bipush 16, 2) := by decide +kernel
theorem d9_3 : decode jdk_67_method_1_code 3 = .ok (.invokespecial 1, 3) := by decide +kernel
theorem d9_6 : decode jdk_67_method_1_code 6 = .ok (.return_, 1) := by decide +kernel
theorem pn_java_lang_StringBuilder : plainName "java/lang/StringBuilder" = true := by first | (simp [plainName, overriddenIn]; done) | decide +kernel
theorem pd_653 : parseMethodDescriptor "(I)V" = some ⟨[.int], none⟩ := by decide +kernel
theorem efBI (x : Addr) (m : MethodId) : entryFrame m #[(.ref x)] 1 = mkF m 0 #[.val (.ref x)] [] := by first | (simp [entryFrame, mkF, argsToLocals, Value.category]; done) | rfl
def QBI (Z : State) (x : Addr) (zc : Int32) (fm : Value) (h0 : Heap) (n0 : Nat) (v : Option Value) (h : Heap) (L : List Loc) : Prop := ∃ t kt, v = none ∧ Fr n0 L ∧ Keep h0 h [x] ∧ h0.size ≤ t ∧ Exa Z h x "java/lang/StringBuilder" ∧ Fld Z h x "java/lang/AbstractStringBuilder" "value" "[B" (.ref t) ∧ Fld Z h x "java/lang/AbstractStringBuilder" "coder" "B" (.int (0 : Int32)) ∧ Fld Z h x "java/lang/AbstractStringBuilder" "count" "I" (.int (0 : Int32)) ∧ Arv Z h t kt .byte (16 : Int32) [] (.int (0 : Int32))
set_option maxRecDepth 65536 in
set_option maxHeartbeats 40000000 in
theorem rmBI (l : Launch) (Z : State) (a0 : Array Value) (hw : ∀ d ∈ tables_1, d.before a0 Z = true) (ws : List Jvm.Cond) (x : Addr) (zc : Int32) (fm : Value) (h0 : Heap) (n0 : Nat) (Z0 : n0 ≤ h0.size) (O0 : Old Z n0 h0) (S_CS : Sta Z Z.heap "java/lang/String" "COMPACT_STRINGS" "Z" (.int zc)) (hzc : ¬ zc = 0) (S_FM : Sta Z Z.heap "jdk/internal/util/Preconditions" "SIOOBE_FORMATTER" "Ljava/util/function/BiFunction;" fm) (hfm : fm.isRef = true) (gx : n0 ≤ x) (Ex : Exa Z h0 x "java/lang/StringBuilder") (Fv : Fld Z h0 x "java/lang/AbstractStringBuilder" "value" "[B" .null) (Fc : Fld Z h0 x "java/lang/AbstractStringBuilder" "coder" "B" (.int (0 : Int32))) (Fn : Fld Z h0 x "java/lang/AbstractStringBuilder" "count" "I" (.int (0 : Int32))) :
    OwnLaw l y18_ jdk_67_method_1_code 1 none ws (rR 2 1 16 25) #[(.ref x)] Z h0 (QBI Z x zc fm h0 n0) := by
  refine own_enter (plainFor_of_name pn_java_lang_StringBuilder) (efBI x) ?_
  intro p e s m below meth c s₁ Bd hx hby hml hZ hown X0 e0
  have N0 := Fr.nil n0
  have K0 : Keep h0 h0 [] := Keep.refl _ _
  have K0 : Keep h0 h0 [x] := Keep.refl _ _
  refine P1.aloadN X0.here hx (hb hby d9_0) rfl rfl ?_
  refine P1.bipush X0.here hx (16 : Int32) (hb hby d9_1) rfl ?_
  refine Goes.callC X0 hx (y := (⟨"java/lang/AbstractStringBuilder", "<init>", "(I)V"⟩ : MethodName)) rfl hown (mvT hZ (own_w hw 45 rfl)) (mvT hZ (own_w hw 46 rfl)) (mvT hZ (own_w hw 50 rfl)) (by decide) (kc' := 1) (ks' := 16) (backOf (W := 0) (rmAI l Z a0 hw [] x zc fm h0 n0 Z0 O0 S_CS hzc S_FM hfm gx Ex Fv Fc Fn) hZ (own_w hw 50 rfl) (own_w hw 49 rfl) (ok rfl) (ok rfl)) (g := (mkF m 3 #[.val (.ref x)] [(.int (16 : Int32)), (.ref x)])) (a := x) rfl (by rw [hml]; rfl) (argsL := [(.int (16 : Int32))]) (rest := []) (lenOf pd_653 rfl) rfl (by show 2 * 0 + _ ≤ _; exact Nat.le_of_eq rfl) (hb hby d9_3) rfl e0 (ok rfl) (ok rfl) ?_
  intro v22 T22 L22 q22 X22
  obtain ⟨t22, kt22, rfl, N22q, K22, szt22, g22E, g22v, g22c, g22n, g22V⟩ := q22
  have ge_t22 : n0 ≤ t22 := Nat.le_trans Z0 szt22
  have sz_t22 : h0.size ≤ t22 := Nat.le_trans K0.1 szt22
  have N22 := Fr.app N0 N22q
  show Goes p e below _ T22 (mkF m 6 #[.val (.ref x)] [])
  refine Goes.retV X22 hx Bd.notSynchronized Bd.returns (hb hby d9_6) (ok rfl) (ok rfl) ?_
  have K23 : Keep h0 T22.heap [x] := K0.trans K22 (allS (Or.inl (by simp)) all0)
  exact ⟨t22, kt22, rfl, N22, K23, sz_t22, g22E, g22v, g22c, g22n, g22V⟩
theorem d14_0 : decode jdk_42_method_152_code 0 = .ok (.getstatic 38, 3) := by decide +kernel
theorem d14_3 : decode jdk_42_method_152_code 3 = .ok (.ifCond .eq 10, 3) := by decide +kernel
theorem d14_6 : decode jdk_42_method_152_code 6 = .ok (.aload_n 0, 1) := by decide +kernel
theorem d14_7 : decode jdk_42_method_152_code 7 = .ok (.getfield 15, 3) := by decide +kernel
theorem d14_10 : decode jdk_42_method_152_code 10 = .ok (.goto 4, 3) := by decide +kernel
theorem d14_13 : decode jdk_42_method_152_code 13 = .ok (.iconst 1, 1) := by decide +kernel
theorem d14_14 : decode jdk_42_method_152_code 14 = .ok (.ireturn, 1) := by decide +kernel
theorem pn_java_lang_String : plainName "java/lang/String" = true := by first | (simp [plainName, overriddenIn]; done) | decide +kernel
theorem efCod (a : Addr) (m : MethodId) : entryFrame m #[(.ref a)] 1 = mkF m 0 #[.val (.ref a)] [] := by first | (simp [entryFrame, mkF, argsToLocals, Value.category]; done) | rfl
def QCod (Z : State) (a : Addr) (zc : Int32) (fm : Value) (h0 : Heap) (n0 : Nat) (v : Option Value) (h : Heap) (L : List Loc) : Prop := v = some (.int 0) ∧ Fr n0 L ∧ h = h0
set_option maxRecDepth 65536 in
set_option maxHeartbeats 40000000 in
theorem rmCod (l : Launch) (Z : State) (a0 : Array Value) (hw : ∀ d ∈ tables_1, d.before a0 Z = true) (ws : List Jvm.Cond) (a : Addr) (zc : Int32) (fm : Value) (h0 : Heap) (n0 : Nat) (Z0 : n0 ≤ h0.size) (O0 : Old Z n0 h0) (S_CS : Sta Z Z.heap "java/lang/String" "COMPACT_STRINGS" "Z" (.int zc)) (hzc : ¬ zc = 0) (S_FM : Sta Z Z.heap "jdk/internal/util/Preconditions" "SIOOBE_FORMATTER" "Ljava/util/function/BiFunction;" fm) (hfm : fm.isRef = true) (Fa : Fld Z h0 a "java/lang/String" "coder" "B" (.int (0 : Int32))) :
    OwnLaw l y14_ jdk_42_method_152_code 1 (some .byte) ws (rR 0 0 0 0) #[(.ref a)] Z h0 (QCod Z a zc fm h0 n0) := by
  refine own_enter (plainFor_of_name pn_java_lang_String) (efCod a) ?_
  intro p e s m below meth c s₁ Bd hx hby hml hZ hown X0 e0
  have N0 := Fr.nil n0
  have K0 : Keep h0 h0 [] := Keep.refl _ _
  obtain ⟨T24, X24, e24, st24⟩ := getS2 X0 hx hZ hown (host := "") (Or.inl (own_w hw 14 rfl)) Via.refl e0 (S_CS.ext O0.2) (g := (mkF m 0 #[.val (.ref a)] [])) rfl (hb hby d14_0)
  refine Goes.step (T' := T24) (g' := (mkF m 3 #[.val (.ref a)] [(.int zc)])) st24 ?_
  refine P1.ifNo X24.here hx (hb hby d14_3) ((if0 _ _).trans (feq (hzc : ¬ (zc = (0 : Int32)))).1) ?_
  refine P1.aloadN X24.here hx (hb hby d14_6) rfl rfl ?_
  obtain ⟨T25, X25, e25, st25⟩ := getF X24 hx hZ hown (host := "") (Or.inl (own_w hw 26 rfl)) Via.refl e24 Fa (g := (mkF m 7 #[.val (.ref a)] [(.ref a)])) rfl rfl (hb hby d14_7)
  refine Goes.step (T' := T25) (g' := (mkF m 10 #[.val (.ref a)] [(.int (0 : Int32))])) st25 ?_
  refine P1.goto X25.here hx 14 (hb hby d14_10) (by decide) (by decide) ?_
  refine Goes.retN X25 hx Bd.notSynchronized (t := .byte) Bd.returns (by simp) (hb hby d14_14) (ok rfl) (ok rfl) ?_
  rw [e25]
  exact ⟨rfl, N0, rfl⟩
theorem d18_0 : decode jdk_42_method_147_code 0 = .ok (.aload_n 0, 1) := by decide +kernel
theorem d18_1 : decode jdk_42_method_147_code 1 = .ok (.invokevirtual 335, 3) := by decide +kernel
theorem d18_4 : decode jdk_42_method_147_code 4 = .ok (.iload_n 3, 1) := by decide +kernel
theorem d18_5 : decode jdk_42_method_147_code 5 = .ok (.if_icmp .ne 23, 3) := by decide +kernel
theorem d18_8 : decode jdk_42_method_147_code 8 = .ok (.aload_n 0, 1) := by decide +kernel
theorem d18_9 : decode jdk_42_method_147_code 9 = .ok (.getfield 9, 3) := by decide +kernel
theorem d18_12 : decode jdk_42_method_147_code 12 = .ok (.iconst 0, 1) := by decide +kernel
theorem d18_13 : decode jdk_42_method_147_code 13 = .ok (.aload_n 1, 1) := by decide +kernel
theorem d18_14 : decode jdk_42_method_147_code 14 = .ok (.iload_n 2, 1) := by decide +kernel
theorem d18_15 : decode jdk_42_method_147_code 15 = .ok (.iload_n 3, 1) := by decide +kernel
theorem d18_16 : decode jdk_42_method_147_code 16 = .ok (.ishl, 1) := by decide +kernel
theorem d18_17 : decode jdk_42_method_147_code 17 = .ok (.aload_n 0, 1) := by decide +kernel
theorem d18_18 : decode jdk_42_method_147_code 18 = .ok (.getfield 9, 3) := by decide +kernel
theorem d18_21 : decode jdk_42_method_147_code 21 = .ok (.arraylength, 1) := by decide +kernel
theorem d18_22 : decode jdk_42_method_147_code 22 = .ok (.invokestatic 212, 3) := by decide +kernel
theorem d18_25 : decode jdk_42_method_147_code 25 = .ok (.goto 18, 3) := by decide +kernel
theorem d18_28 : decode jdk_42_method_147_code 28 = .ok (.aload_n 0, 1) := by decide +kernel
theorem d18_29 : decode jdk_42_method_147_code 29 = .ok (.getfield 9, 3) := by decide +kernel
theorem d18_32 : decode jdk_42_method_147_code 32 = .ok (.iconst 0, 1) := by decide +kernel
theorem d18_33 : decode jdk_42_method_147_code 33 = .ok (.aload_n 1, 1) := by decide +kernel
theorem d18_34 : decode jdk_42_method_147_code 34 = .ok (.iload_n 2, 1) := by decide +kernel
theorem d18_35 : decode jdk_42_method_147_code 35 = .ok (.aload_n 0, 1) := by decide +kernel
theorem d18_36 : decode jdk_42_method_147_code 36 = .ok (.getfield 9, 3) := by decide +kernel
theorem d18_39 : decode jdk_42_method_147_code 39 = .ok (.arraylength, 1) := by decide +kernel
theorem d18_40 : decode jdk_42_method_147_code 40 = .ok (.invokestatic 106, 3) := by decide +kernel
theorem d18_43 : decode jdk_42_method_147_code 43 = .ok (.return_, 1) := by decide +kernel
theorem pd_320 : parseMethodDescriptor "()B" = some ⟨[], some .byte⟩ := by decide +kernel
theorem efGb0_6 (y t : Addr) (m : MethodId) : entryFrame m #[(.ref y), (.ref t), (.int (0 : Int32)), (.int (0 : Int32))] 4 = mkF m 0 #[.val (.ref y), .val (.ref t), .val (.int (0 : Int32)), .val (.int (0 : Int32))] [] := by first | (simp [entryFrame, mkF, argsToLocals, Value.category]; done) | rfl
def QGb0_6 (Z : State) (t : Addr) (kt : ClassId) (y ty : Addr) (ky : ClassId) (c0 c1 c2 c3 c4 c5 zc : Int32) (fm : Value) (h0 : Heap) (n0 : Nat) (v : Option Value) (h : Heap) (L : List Loc) : Prop := v = none ∧ Fr n0 L ∧ Keep h0 h [t] ∧ Arv Z h t kt .byte (16 : Int32) [(.int c0), (.int c1), (.int c2), (.int c3), (.int c4), (.int c5)] (.int (0 : Int32))
set_option maxRecDepth 65536 in
set_option maxHeartbeats 40000000 in
theorem rmGb0_6 (l : Launch) (Z : State) (a0 : Array Value) (hw : ∀ d ∈ tables_1, d.before a0 Z = true) (ws : List Jvm.Cond) (t : Addr) (kt : ClassId) (y ty : Addr) (ky : ClassId) (c0 c1 c2 c3 c4 c5 zc : Int32) (fm : Value) (h0 : Heap) (n0 : Nat) (Z0 : n0 ≤ h0.size) (O0 : Old Z n0 h0) (S_CS : Sta Z Z.heap "java/lang/String" "COMPACT_STRINGS" "Z" (.int zc)) (hzc : ¬ zc = 0) (S_FM : Sta Z Z.heap "jdk/internal/util/Preconditions" "SIOOBE_FORMATTER" "Ljava/util/function/BiFunction;" fm) (hfm : fm.isRef = true) (gt : n0 ≤ t) (Vt : Arv Z h0 t kt .byte (16 : Int32) [] (.int (0 : Int32))) (Ey : Exa Z h0 y "java/lang/String") (Vy : Fld Z h0 y "java/lang/String" "value" "[B" (.ref ty)) (Cy : Fld Z h0 y "java/lang/String" "coder" "B" (.int (0 : Int32))) (Ky : Arv Z h0 ty ky .byte (6 : Int32) [(.int c0), (.int c1), (.int c2), (.int c3), (.int c4), (.int c5)] (.int (0 : Int32))) (nety : ty ≠ t) :
    OwnLaw l y15_ jdk_42_method_147_code 4 none ws (rR 1 0 0 18) #[(.ref y), (.ref t), (.int (0 : Int32)), (.int (0 : Int32))] Z h0 (QGb0_6 Z t kt y ty ky c0 c1 c2 c3 c4 c5 zc fm h0 n0) := by
  refine own_enter (plainFor_of_name pn_java_lang_String) (efGb0_6 y t) ?_
  intro p e s m below meth c s₁ Bd hx hby hml hZ hown X0 e0
  have N0 := Fr.nil n0
  have K0 : Keep h0 h0 [] := Keep.refl _ _
  have K0 : Keep h0 h0 [t] := Keep.refl _ _
  refine P1.aloadN X0.here hx (hb hby d18_0) rfl rfl ?_
  refine Goes.callV X0 hx hZ (y := y14_) (z := y14_) hown (mvT hZ (own_w hw 75 rfl)) (mvT hZ (own_w hw 76 rfl)) (notFace_of_selects (args := #[]) (mvT hZ (own_w hw 78 rfl))) (mvT hZ (own_w hw 78 rfl)) (mvT hZ (own_w hw 77 rfl)) (by decide) (kc' := 0) (ks' := 0) (backOf (W := 0) (rmCod l Z a0 hw [] y zc fm h0 n0 Z0 O0 S_CS hzc S_FM hfm Cy) hZ (own_w hw 79 rfl) (own_w hw 2 rfl) (ok rfl) (ok rfl)) (b := y) e0 Ey (g := (mkF m 1 #[.val (.ref y), .val (.ref t), .val (.int (0 : Int32)), .val (.int (0 : Int32))] [(.ref y)])) rfl (by rw [hml]; rfl) (argsL := []) (rest := []) (lenOf pd_320 rfl) rfl (by show 2 * 0 + _ ≤ _; exact Nat.le_of_eq rfl) (hb hby d18_1) rfl (ok rfl) (ok rfl) ?_
  intro v26 T26 L26 q26 X26
  obtain ⟨rfl, N26q, hE26⟩ := q26
  have N26 := Fr.app N0 N26q
  show Goes p e below _ T26 (mkF m 4 #[.val (.ref y), .val (.ref t), .val (.int (0 : Int32)), .val (.int (0 : Int32))] [(.int (0 : Int32))])
  refine P1.iloadN X26.here hx (hb hby d18_4) rfl ?_
  refine P1.icmpNo X26.here hx (hb hby d18_5) (teq (by decide : (0 : Int32) = (0 : Int32))).2 ?_
  refine P1.aloadN X26.here hx (hb hby d18_8) rfl rfl ?_
  obtain ⟨T27, X27, e27, st27⟩ := getF X26 hx hZ hown (host := "") (Or.inl (own_w hw 28 rfl)) Via.refl hE26 Vy (g := (mkF m 9 #[.val (.ref y), .val (.ref t), .val (.int (0 : Int32)), .val (.int (0 : Int32))] [(.ref y)])) rfl rfl (hb hby d18_9)
  refine Goes.step (T' := T27) (g' := (mkF m 12 #[.val (.ref y), .val (.ref t), .val (.int (0 : Int32)), .val (.int (0 : Int32))] [(.ref ty)])) st27 ?_
  refine P1.iconst X27.here hx (0 : Int32) (hb hby d18_12) rfl ?_
  refine P1.aloadN X27.here hx (hb hby d18_13) rfl rfl ?_
  refine P1.iloadN X27.here hx (hb hby d18_14) rfl ?_
  refine P1.iloadN X27.here hx (hb hby d18_15) rfl ?_
  refine Goes.step (T' := T27) (g' := (mkF m 17 #[.val (.ref y), .val (.ref t), .val (.int (0 : Int32)), .val (.int (0 : Int32))] [(.int ((0 : Int32) <<< ((0 : Int32) &&& 31))), (.ref t), (.int (0 : Int32)), (.ref ty)])) (fun t_ k_ => XS.ishl X27.here hx rfl (hb hby d18_16) rfl k_) ?_
  have rw28 : ((0 : Int32) <<< ((0 : Int32) &&& 31)) = (0 : Int32) := by decide
  rw [rw28]
  refine P1.aloadN X27.here hx (hb hby d18_17) rfl rfl ?_
  obtain ⟨T29, X29, e29, st29⟩ := getF X27 hx hZ hown (host := "") (Or.inl (own_w hw 28 rfl)) Via.refl e27 Vy (g := (mkF m 18 #[.val (.ref y), .val (.ref t), .val (.int (0 : Int32)), .val (.int (0 : Int32))] [(.ref y), (.int (0 : Int32)), (.ref t), (.int (0 : Int32)), (.ref ty)])) rfl rfl (hb hby d18_18)
  refine Goes.step (T' := T29) (g' := (mkF m 21 #[.val (.ref y), .val (.ref t), .val (.int (0 : Int32)), .val (.int (0 : Int32))] [(.ref ty), (.int (0 : Int32)), (.ref t), (.int (0 : Int32)), (.ref ty)])) st29 ?_
  obtain ⟨cl30, Ar30, qk30, sl30, nz30, ha30, fi30⟩ := id Ky
  have al31 : cl30.slots.size.toInt32 = (6 : Int32) := len_of sl30 nz30
  refine Goes.step (T' := T29) (g' := (mkF m 22 #[.val (.ref y), .val (.ref t), .val (.int (0 : Int32)), .val (.int (0 : Int32))] [(.int (6 : Int32)), (.int (0 : Int32)), (.ref t), (.int (0 : Int32)), (.ref ty)])) (fun t_ k_ => X29.arraylength hx (by rw [e29]; exact Ar30.1) (State.isArrayOf_alike hZ.alike Ar30.2.1) (g := (mkF m 21 #[.val (.ref y), .val (.ref t), .val (.int (0 : Int32)), .val (.int (0 : Int32))] [(.ref ty), (.int (0 : Int32)), (.ref t), (.int (0 : Int32)), (.ref ty)])) rfl rfl (hb hby d18_21) _ <| by rw [al31]; exact k_) ?_
  have V32 : Arv Z h0 t kt .byte (16 : Int32) [(.int (0 : Int32)), (.int (0 : Int32)), (.int (0 : Int32)), (.int (0 : Int32)), (.int (0 : Int32)), (.int (0 : Int32))] (.int (0 : Int32)) := Vt.pad (pad_rep [] (.int (0 : Int32)) 6)
  obtain ⟨T33, h33, L33, X33, e33, N33, K33, Va33, st33⟩ := cpA X29 hx hZ hown (own_w hw 103 rfl) (own_w hw 106 rfl) (own_w hw 104 rfl) (own_w hw 105 rfl) e29 Ky V32 (us := [(.int c0), (.int c1), (.int c2), (.int c3), (.int c4), (.int c5)]) (Or.inl ⟨rfl, rfl⟩) (by decide) (by decide) (by decide) (ok rfl) (ok rfl) rfl (ok rfl) N26 gt (g := (mkF m 22 #[.val (.ref y), .val (.ref t), .val (.int (0 : Int32)), .val (.int (0 : Int32))] [(.int (6 : Int32)), (.int (0 : Int32)), (.ref t), (.int (0 : Int32)), (.ref ty)])) rfl (by rw [hml]; rfl) rfl (hb hby d18_22) (ok rfl) (W := 0) (by show 2 * 0 + _ ≤ _; exact Nat.le_of_eq rfl) (ok rfl)
  have V33 : Arv Z h33 t kt .byte (16 : Int32) [(.int c0), (.int c1), (.int c2), (.int c3), (.int c4), (.int c5)] (.int (0 : Int32)) := Va33
  refine Goes.step (T' := T33) (g' := (mkF m 25 #[.val (.ref y), .val (.ref t), .val (.int (0 : Int32)), .val (.int (0 : Int32))] [])) st33 ?_
  refine P1.goto X33.here hx 43 (hb hby d18_25) (by decide) (by decide) ?_
  refine Goes.retV X33 hx Bd.notSynchronized Bd.returns (hb hby d18_43) (ok rfl) (ok rfl) ?_
  rw [e33]
  have K34 : Keep h0 h33 [t] := K0.trans K33 (allS (Or.inl (by simp)) all0)
  exact ⟨rfl, N33, K34, V33⟩
theorem d17_0 : decode jdk_68_method_71_code 0 = .ok (.getstatic 18, 3) := by decide +kernel
theorem d17_3 : decode jdk_68_method_71_code 3 = .ok (.ifCond .eq 18, 3) := by decide +kernel
theorem d17_6 : decode jdk_68_method_71_code 6 = .ok (.aload_n 0, 1) := by decide +kernel
theorem d17_7 : decode jdk_68_method_71_code 7 = .ok (.getfield 22, 3) := by decide +kernel
theorem d17_10 : decode jdk_68_method_71_code 10 = .ok (.aload_n 1, 1) := by decide +kernel
theorem d17_11 : decode jdk_68_method_71_code 11 = .ok (.invokevirtual 40, 3) := by decide +kernel
theorem d17_14 : decode jdk_68_method_71_code 14 = .ok (.if_icmp .eq 7, 3) := by decide +kernel
theorem d17_17 : decode jdk_68_method_71_code 17 = .ok (.aload_n 0, 1) := by decide +kernel
theorem d17_18 : decode jdk_68_method_71_code 18 = .ok (.invokevirtual 195, 3) := by decide +kernel
theorem d17_21 : decode jdk_68_method_71_code 21 = .ok (.return_, 1) := by decide +kernel
theorem efInf (x y : Addr) (m : MethodId) : entryFrame m #[(.ref x), (.ref y)] 2 = mkF m 0 #[.val (.ref x), .val (.ref y)] [] := by first | (simp [entryFrame, mkF, argsToLocals, Value.category]; done) | rfl
def QInf (Z : State) (x y : Addr) (zc : Int32) (fm : Value) (h0 : Heap) (n0 : Nat) (v : Option Value) (h : Heap) (L : List Loc) : Prop := v = none ∧ Fr n0 L ∧ h = h0
set_option maxRecDepth 65536 in
set_option maxHeartbeats 40000000 in
theorem rmInf (l : Launch) (Z : State) (a0 : Array Value) (hw : ∀ d ∈ tables_1, d.before a0 Z = true) (ws : List Jvm.Cond) (x y : Addr) (zc : Int32) (fm : Value) (h0 : Heap) (n0 : Nat) (Z0 : n0 ≤ h0.size) (O0 : Old Z n0 h0) (S_CS : Sta Z Z.heap "java/lang/String" "COMPACT_STRINGS" "Z" (.int zc)) (hzc : ¬ zc = 0) (S_FM : Sta Z Z.heap "jdk/internal/util/Preconditions" "SIOOBE_FORMATTER" "Ljava/util/function/BiFunction;" fm) (hfm : fm.isRef = true) (Fc : Fld Z h0 x "java/lang/AbstractStringBuilder" "coder" "B" (.int (0 : Int32))) (Ey : Exa Z h0 y "java/lang/String") (Cy : Fld Z h0 y "java/lang/String" "coder" "B" (.int (0 : Int32))) :
    OwnLaw l y5_ jdk_68_method_71_code 2 none ws (rR 1 0 0 13) #[(.ref x), (.ref y)] Z h0 (QInf Z x y zc fm h0 n0) := by
  refine own_enter (plainFor_of_name pn_java_lang_AbstractStringBuilder) (efInf x y) ?_
  intro p e s m below meth c s₁ Bd hx hby hml hZ hown X0 e0
  have N0 := Fr.nil n0
  have K0 : Keep h0 h0 [] := Keep.refl _ _
  obtain ⟨T35, X35, e35, st35⟩ := getS2 X0 hx hZ hown (host := "") (Or.inl (own_w hw 52 rfl)) Via.refl e0 (S_CS.ext O0.2) (g := (mkF m 0 #[.val (.ref x), .val (.ref y)] [])) rfl (hb hby d17_0)
  refine Goes.step (T' := T35) (g' := (mkF m 3 #[.val (.ref x), .val (.ref y)] [(.int zc)])) st35 ?_
  refine P1.ifNo X35.here hx (hb hby d17_3) ((if0 _ _).trans (feq (hzc : ¬ (zc = (0 : Int32)))).1) ?_
  refine P1.aloadN X35.here hx (hb hby d17_6) rfl rfl ?_
  obtain ⟨T36, X36, e36, st36⟩ := getF X35 hx hZ hown (host := "") (Or.inl (own_w hw 55 rfl)) Via.refl e35 Fc (g := (mkF m 7 #[.val (.ref x), .val (.ref y)] [(.ref x)])) rfl rfl (hb hby d17_7)
  refine Goes.step (T' := T36) (g' := (mkF m 10 #[.val (.ref x), .val (.ref y)] [(.int (0 : Int32))])) st36 ?_
  refine P1.aloadN X36.here hx (hb hby d17_10) rfl rfl ?_
  refine Goes.callV X36 hx hZ (y := y14_) (z := y14_) hown (mvT hZ (own_w hw 97 rfl)) (mvT hZ (own_w hw 76 rfl)) (notFace_of_selects (args := #[]) (mvT hZ (own_w hw 78 rfl))) (mvT hZ (own_w hw 78 rfl)) (mvT hZ (own_w hw 77 rfl)) (by decide) (kc' := 0) (ks' := 0) (backOf (W := 1) (rmCod l Z a0 hw [] y zc fm h0 n0 Z0 O0 S_CS hzc S_FM hfm Cy) hZ (own_w hw 79 rfl) (own_w hw 2 rfl) (ok rfl) (ok rfl)) (b := y) e36 Ey (g := (mkF m 11 #[.val (.ref x), .val (.ref y)] [(.ref y), (.int (0 : Int32))])) rfl (by rw [hml]; rfl) (argsL := []) (rest := [(.int (0 : Int32))]) (lenOf pd_320 rfl) rfl (by show 2 * 0 + _ ≤ _; exact Nat.le_of_eq rfl) (hb hby d17_11) rfl (ok rfl) (ok rfl) ?_
  intro v37 T37 L37 q37 X37
  obtain ⟨rfl, N37q, hE37⟩ := q37
  have N37 := Fr.app N0 N37q
  show Goes p e below _ T37 (mkF m 14 #[.val (.ref x), .val (.ref y)] [(.int (0 : Int32)), (.int (0 : Int32))])
  refine P1.icmpYes X37.here hx 21 (hb hby d17_14) (teq (by decide : (0 : Int32) = (0 : Int32))).1 (by decide) (by decide) ?_
  refine Goes.retV X37 hx Bd.notSynchronized Bd.returns (hb hby d17_21) (ok rfl) (ok rfl) ?_
  rw [hE37]
  exact ⟨rfl, N37, rfl⟩
theorem d16_0 : decode jdk_68_method_73_code 0 = .ok (.aload_n 0, 1) := by decide +kernel
theorem d16_1 : decode jdk_68_method_73_code 1 = .ok (.aload_n 2, 1) := by decide +kernel
theorem d16_2 : decode jdk_68_method_73_code 2 = .ok (.invokevirtual 397, 3) := by decide +kernel
theorem d16_5 : decode jdk_68_method_73_code 5 = .ok (.aload_n 2, 1) := by decide +kernel
theorem d16_6 : decode jdk_68_method_73_code 6 = .ok (.aload_n 0, 1) := by decide +kernel
theorem d16_7 : decode jdk_68_method_73_code 7 = .ok (.getfield 15, 3) := by decide +kernel
theorem d16_10 : decode jdk_68_method_73_code 10 = .ok (.iload_n 1, 1) := by decide +kernel
theorem d16_11 : decode jdk_68_method_73_code 11 = .ok (.aload_n 0, 1) := by decide +kernel
theorem d16_12 : decode jdk_68_method_73_code 12 = .ok (.getfield 22, 3) := by decide +kernel
theorem d16_15 : decode jdk_68_method_73_code 15 = .ok (.invokevirtual 399, 3) := by decide +kernel
theorem d16_18 : decode jdk_68_method_73_code 18 = .ok (.return_, 1) := by decide +kernel
theorem pd_20497 : parseMethodDescriptor "(Ljava/lang/String;)V" = some ⟨[(.object "java/lang/String")], none⟩ := by decide +kernel
theorem pd_1890 : parseMethodDescriptor "([BIB)V" = some ⟨[(.array .byte), .int, .byte], none⟩ := by decide +kernel
theorem efPu0_6 (x y : Addr) (m : MethodId) : entryFrame m #[(.ref x), (.int (0 : Int32)), (.ref y)] 3 = mkF m 0 #[.val (.ref x), .val (.int (0 : Int32)), .val (.ref y)] [] := by first | (simp [entryFrame, mkF, argsToLocals, Value.category]; done) | rfl
def QPu0_6 (Z : State) (x t : Addr) (kt : ClassId) (y ty : Addr) (ky : ClassId) (c0 c1 c2 c3 c4 c5 zc : Int32) (fm : Value) (h0 : Heap) (n0 : Nat) (v : Option Value) (h : Heap) (L : List Loc) : Prop := v = none ∧ Fr n0 L ∧ Keep h0 h [x, t] ∧ Exa Z h x "java/lang/StringBuilder" ∧ Fld Z h x "java/lang/AbstractStringBuilder" "value" "[B" (.ref t) ∧ Fld Z h x "java/lang/AbstractStringBuilder" "coder" "B" (.int (0 : Int32)) ∧ Fld Z h x "java/lang/AbstractStringBuilder" "count" "I" (.int (0 : Int32)) ∧ Arv Z h t kt .byte (16 : Int32) [(.int c0), (.int c1), (.int c2), (.int c3), (.int c4), (.int c5)] (.int (0 : Int32))
set_option maxRecDepth 65536 in
set_option maxHeartbeats 40000000 in
theorem rmPu0_6 (l : Launch) (Z : State) (a0 : Array Value) (hw : ∀ d ∈ tables_1, d.before a0 Z = true) (ws : List Jvm.Cond) (x t : Addr) (kt : ClassId) (y ty : Addr) (ky : ClassId) (c0 c1 c2 c3 c4 c5 zc : Int32) (fm : Value) (h0 : Heap) (n0 : Nat) (Z0 : n0 ≤ h0.size) (O0 : Old Z n0 h0) (S_CS : Sta Z Z.heap "java/lang/String" "COMPACT_STRINGS" "Z" (.int zc)) (hzc : ¬ zc = 0) (S_FM : Sta Z Z.heap "jdk/internal/util/Preconditions" "SIOOBE_FORMATTER" "Ljava/util/function/BiFunction;" fm) (hfm : fm.isRef = true) (gx : n0 ≤ x) (gt : n0 ≤ t) (Ex : Exa Z h0 x "java/lang/StringBuilder") (Fv : Fld Z h0 x "java/lang/AbstractStringBuilder" "value" "[B" (.ref t)) (Fc : Fld Z h0 x "java/lang/AbstractStringBuilder" "coder" "B" (.int (0 : Int32))) (Fn : Fld Z h0 x "java/lang/AbstractStringBuilder" "count" "I" (.int (0 : Int32))) (Vt : Arv Z h0 t kt .byte (16 : Int32) [] (.int (0 : Int32))) (Ey : Exa Z h0 y "java/lang/String") (Vy : Fld Z h0 y "java/lang/String" "value" "[B" (.ref ty)) (Cy : Fld Z h0 y "java/lang/String" "coder" "B" (.int (0 : Int32))) (Ky : Arv Z h0 ty ky .byte (6 : Int32) [(.int c0), (.int c1), (.int c2), (.int c3), (.int c4), (.int c5)] (.int (0 : Int32))) (nety : ty ≠ t) :
    OwnLaw l y8_ jdk_68_method_73_code 3 none ws (rR 2 0 0 33) #[(.ref x), (.int (0 : Int32)), (.ref y)] Z h0 (QPu0_6 Z x t kt y ty ky c0 c1 c2 c3 c4 c5 zc fm h0 n0) := by
  refine own_enter (plainFor_of_name pn_java_lang_AbstractStringBuilder) (efPu0_6 x y) ?_
  intro p e s m below meth c s₁ Bd hx hby hml hZ hown X0 e0
  have N0 := Fr.nil n0
  have K0 : Keep h0 h0 [] := Keep.refl _ _
  have K0 : Keep h0 h0 [x, t] := Keep.refl _ _
  refine P1.aloadN X0.here hx (hb hby d16_0) rfl rfl ?_
  refine P1.aloadN X0.here hx (hb hby d16_1) rfl rfl ?_
  refine Goes.callV X0 hx hZ (y := y5_) (z := y5_) hown (mvT hZ (own_w hw 92 rfl)) (mvT hZ (own_declares (own_w hw 93 rfl) (own_w hw 96 rfl))) (notFace_of_selects (args := #[]) (mvT hZ (own_w hw 95 rfl))) (mvT hZ (own_w hw 95 rfl)) (mvT hZ (own_w hw 93 rfl)) (by decide) (kc' := 0) (ks' := 0) (backOf (W := 0) (rmInf l Z a0 hw [] x y zc fm h0 n0 Z0 O0 S_CS hzc S_FM hfm Fc Ey Cy) hZ (own_w hw 96 rfl) (own_w hw 49 rfl) (ok rfl) (ok rfl)) (b := x) e0 Ex (g := (mkF m 2 #[.val (.ref x), .val (.int (0 : Int32)), .val (.ref y)] [(.ref y), (.ref x)])) rfl (by rw [hml]; rfl) (argsL := [(.ref y)]) (rest := []) (lenOf pd_20497 rfl) rfl (by show 2 * 0 + _ ≤ _; exact Nat.le_of_eq rfl) (hb hby d16_2) rfl (ok rfl) (ok rfl) ?_
  intro v38 T38 L38 q38 X38
  obtain ⟨rfl, N38q, hE38⟩ := q38
  have N38 := Fr.app N0 N38q
  show Goes p e below _ T38 (mkF m 5 #[.val (.ref x), .val (.int (0 : Int32)), .val (.ref y)] [])
  refine P1.aloadN X38.here hx (hb hby d16_5) rfl rfl ?_
  refine P1.aloadN X38.here hx (hb hby d16_6) rfl rfl ?_
  obtain ⟨T39, X39, e39, st39⟩ := getF X38 hx hZ hown (host := "") (Or.inl (own_w hw 53 rfl)) Via.refl hE38 Fv (g := (mkF m 7 #[.val (.ref x), .val (.int (0 : Int32)), .val (.ref y)] [(.ref x), (.ref y)])) rfl rfl (hb hby d16_7)
  refine Goes.step (T' := T39) (g' := (mkF m 10 #[.val (.ref x), .val (.int (0 : Int32)), .val (.ref y)] [(.ref t), (.ref y)])) st39 ?_
  refine P1.iloadN X39.here hx (hb hby d16_10) rfl ?_
  refine P1.aloadN X39.here hx (hb hby d16_11) rfl rfl ?_
  obtain ⟨T40, X40, e40, st40⟩ := getF X39 hx hZ hown (host := "") (Or.inl (own_w hw 55 rfl)) Via.refl e39 Fc (g := (mkF m 12 #[.val (.ref x), .val (.int (0 : Int32)), .val (.ref y)] [(.ref x), (.int (0 : Int32)), (.ref t), (.ref y)])) rfl rfl (hb hby d16_12)
  refine Goes.step (T' := T40) (g' := (mkF m 15 #[.val (.ref x), .val (.int (0 : Int32)), .val (.ref y)] [(.int (0 : Int32)), (.int (0 : Int32)), (.ref t), (.ref y)])) st40 ?_
  refine Goes.callV X40 hx hZ (y := y15_) (z := y15_) hown (mvT hZ (own_w hw 98 rfl)) (mvT hZ (own_w hw 99 rfl)) (notFace_of_selects (args := #[]) (mvT hZ (own_w hw 101 rfl))) (mvT hZ (own_w hw 101 rfl)) (mvT hZ (own_w hw 100 rfl)) (by decide) (kc' := 0) (ks' := 0) (backOf (W := 0) (rmGb0_6 l Z a0 hw [] t kt y ty ky c0 c1 c2 c3 c4 c5 zc fm h0 n0 Z0 O0 S_CS hzc S_FM hfm gt Vt Ey Vy Cy Ky nety) hZ (own_w hw 102 rfl) (own_w hw 2 rfl) (ok rfl) (ok rfl)) (b := y) e40 Ey (g := (mkF m 15 #[.val (.ref x), .val (.int (0 : Int32)), .val (.ref y)] [(.int (0 : Int32)), (.int (0 : Int32)), (.ref t), (.ref y)])) rfl (by rw [hml]; rfl) (argsL := [(.ref t), (.int (0 : Int32)), (.int (0 : Int32))]) (rest := []) (lenOf pd_1890 rfl) rfl (by show 2 * 0 + _ ≤ _; exact Nat.le_of_eq rfl) (hb hby d16_15) rfl (ok rfl) (ok rfl) ?_
  intro v41 T41 L41 q41 X41
  obtain ⟨rfl, N41q, K41, g41V⟩ := q41
  have N41 := Fr.app N38 N41q
  show Goes p e below _ T41 (mkF m 18 #[.val (.ref x), .val (.int (0 : Int32)), .val (.ref y)] [])
  refine Goes.retV X41 hx Bd.notSynchronized Bd.returns (hb hby d16_18) (ok rfl) (ok rfl) ?_
  have K42 : Keep h0 T41.heap [x, t] := K0.trans K41 (allS (Or.inl (by simp)) all0)
  have E43 : Exa Z T41.heap x "java/lang/StringBuilder" := Ex.keep K41
  have ne44 : x ≠ t := own_ne_arv E43 (own_w hw 40 rfl) g41V
  have F45 : Fld Z T41.heap x "java/lang/AbstractStringBuilder" "value" "[B" (.ref t) := Fv.keep K41 (ninS ne44 nin0)
  have F46 : Fld Z T41.heap x "java/lang/AbstractStringBuilder" "coder" "B" (.int (0 : Int32)) := Fc.keep K41 (ninS ne44 nin0)
  have F47 : Fld Z T41.heap x "java/lang/AbstractStringBuilder" "count" "I" (.int (0 : Int32)) := Fn.keep K41 (ninS ne44 nin0)
  exact ⟨rfl, N41, K42, E43, F45, F46, F47, g41V⟩
theorem d12_0 : decode jdk_68_method_22_code 0 = .ok (.aload_n 1, 1) := by decide +kernel
theorem d12_1 : decode jdk_68_method_22_code 1 = .ok (.ifnonnull 8, 3) := by decide +kernel
theorem d12_4 : decode jdk_68_method_22_code 4 = .ok (.aload_n 0, 1) := by decide +kernel
theorem d12_5 : decode jdk_68_method_22_code 5 = .ok (.invokevirtual 204, 3) := by decide +kernel
theorem d12_8 : decode jdk_68_method_22_code 8 = .ok (.areturn, 1) := by decide +kernel
theorem d12_9 : decode jdk_68_method_22_code 9 = .ok (.aload_n 1, 1) := by decide +kernel
theorem d12_10 : decode jdk_68_method_22_code 10 = .ok (.invokevirtual 32, 3) := by decide +kernel
theorem d12_13 : decode jdk_68_method_22_code 13 = .ok (.istore_n 2, 1) := by decide +kernel
theorem d12_14 : decode jdk_68_method_22_code 14 = .ok (.aload_n 0, 1) := by decide +kernel
theorem d12_15 : decode jdk_68_method_22_code 15 = .ok (.aload_n 0, 1) := by decide +kernel
theorem d12_16 : decode jdk_68_method_22_code 16 = .ok (.getfield 79, 3) := by decide +kernel
theorem d12_19 : decode jdk_68_method_22_code 19 = .ok (.iload_n 2, 1) := by decide +kernel
theorem d12_20 : decode jdk_68_method_22_code 20 = .ok (.iadd, 1) := by decide +kernel
theorem d12_21 : decode jdk_68_method_22_code 21 = .ok (.invokevirtual 100, 3) := by decide +kernel
theorem d12_24 : decode jdk_68_method_22_code 24 = .ok (.aload_n 0, 1) := by decide +kernel
theorem d12_25 : decode jdk_68_method_22_code 25 = .ok (.aload_n 0, 1) := by decide +kernel
theorem d12_26 : decode jdk_68_method_22_code 26 = .ok (.getfield 79, 3) := by decide +kernel
theorem d12_29 : decode jdk_68_method_22_code 29 = .ok (.aload_n 1, 1) := by decide +kernel
theorem d12_30 : decode jdk_68_method_22_code 30 = .ok (.invokevirtual 208, 3) := by decide +kernel
theorem d12_33 : decode jdk_68_method_22_code 33 = .ok (.aload_n 0, 1) := by decide +kernel
theorem d12_34 : decode jdk_68_method_22_code 34 = .ok (.dup, 1) := by decide +kernel
theorem d12_35 : decode jdk_68_method_22_code 35 = .ok (.getfield 79, 3) := by decide +kernel
theorem d12_38 : decode jdk_68_method_22_code 38 = .ok (.iload_n 2, 1) := by decide +kernel
theorem d12_39 : decode jdk_68_method_22_code 39 = .ok (.iadd, 1) := by decide +kernel
theorem d12_40 : decode jdk_68_method_22_code 40 = .ok (.putfield 79, 3) := by decide +kernel
theorem d12_43 : decode jdk_68_method_22_code 43 = .ok (.aload_n 0, 1) := by decide +kernel
theorem d12_44 : decode jdk_68_method_22_code 44 = .ok (.areturn, 1) := by decide +kernel
theorem d13_0 : decode jdk_42_method_54_code 0 = .ok (.aload_n 0, 1) := by decide +kernel
theorem d13_1 : decode jdk_42_method_54_code 1 = .ok (.getfield 9, 3) := by decide +kernel
theorem d13_4 : decode jdk_42_method_54_code 4 = .ok (.arraylength, 1) := by decide +kernel
theorem d13_5 : decode jdk_42_method_54_code 5 = .ok (.aload_n 0, 1) := by decide +kernel
theorem d13_6 : decode jdk_42_method_54_code 6 = .ok (.invokevirtual 335, 3) := by decide +kernel
theorem d13_9 : decode jdk_42_method_54_code 9 = .ok (.ishr, 1) := by decide +kernel
theorem d13_10 : decode jdk_42_method_54_code 10 = .ok (.ireturn, 1) := by decide +kernel
theorem efLen6 (a : Addr) (m : MethodId) : entryFrame m #[(.ref a)] 1 = mkF m 0 #[.val (.ref a)] [] := by first | (simp [entryFrame, mkF, argsToLocals, Value.category]; done) | rfl
def QLen6 (Z : State) (a t : Addr) (kt : ClassId) (vs : List Value) (zc : Int32) (fm : Value) (h0 : Heap) (n0 : Nat) (v : Option Value) (h : Heap) (L : List Loc) : Prop := v = some (.int (6 : Int32)) ∧ Fr n0 L ∧ h = h0
set_option maxRecDepth 65536 in
set_option maxHeartbeats 40000000 in
theorem rmLen6 (l : Launch) (Z : State) (a0 : Array Value) (hw : ∀ d ∈ tables_1, d.before a0 Z = true) (ws : List Jvm.Cond) (a t : Addr) (kt : ClassId) (vs : List Value) (zc : Int32) (fm : Value) (h0 : Heap) (n0 : Nat) (Z0 : n0 ≤ h0.size) (O0 : Old Z n0 h0) (S_CS : Sta Z Z.heap "java/lang/String" "COMPACT_STRINGS" "Z" (.int zc)) (hzc : ¬ zc = 0) (S_FM : Sta Z Z.heap "jdk/internal/util/Preconditions" "SIOOBE_FORMATTER" "Ljava/util/function/BiFunction;" fm) (hfm : fm.isRef = true) (Ea : Exa Z h0 a "java/lang/String") (Fa : Fld Z h0 a "java/lang/String" "value" "[B" (.ref t)) (Fc : Fld Z h0 a "java/lang/String" "coder" "B" (.int (0 : Int32))) (Vt : Arv Z h0 t kt .byte (6 : Int32) vs (.int (0 : Int32))) :
    OwnLaw l y17_ jdk_42_method_54_code 1 (some .int) ws (rR 1 0 0 13) #[(.ref a)] Z h0 (QLen6 Z a t kt vs zc fm h0 n0) := by
  refine own_enter (plainFor_of_name pn_java_lang_String) (efLen6 a) ?_
  intro p e s m below meth c s₁ Bd hx hby hml hZ hown X0 e0
  have N0 := Fr.nil n0
  have K0 : Keep h0 h0 [] := Keep.refl _ _
  refine P1.aloadN X0.here hx (hb hby d13_0) rfl rfl ?_
  obtain ⟨T48, X48, e48, st48⟩ := getF X0 hx hZ hown (host := "") (Or.inl (own_w hw 28 rfl)) Via.refl e0 Fa (g := (mkF m 1 #[.val (.ref a)] [(.ref a)])) rfl rfl (hb hby d13_1)
  refine Goes.step (T' := T48) (g' := (mkF m 4 #[.val (.ref a)] [(.ref t)])) st48 ?_
  obtain ⟨cl49, Ar49, qk49, sl49, nz49, ha49, fi49⟩ := id Vt
  have al50 : cl49.slots.size.toInt32 = (6 : Int32) := len_of sl49 nz49
  refine Goes.step (T' := T48) (g' := (mkF m 5 #[.val (.ref a)] [(.int (6 : Int32))])) (fun t_ k_ => X48.arraylength hx (by rw [e48]; exact Ar49.1) (State.isArrayOf_alike hZ.alike Ar49.2.1) (g := (mkF m 4 #[.val (.ref a)] [(.ref t)])) rfl rfl (hb hby d13_4) _ <| by rw [al50]; exact k_) ?_
  refine P1.aloadN X48.here hx (hb hby d13_5) rfl rfl ?_
  refine Goes.callV X48 hx hZ (y := y14_) (z := y14_) hown (mvT hZ (own_w hw 75 rfl)) (mvT hZ (own_w hw 76 rfl)) (notFace_of_selects (args := #[]) (mvT hZ (own_w hw 78 rfl))) (mvT hZ (own_w hw 78 rfl)) (mvT hZ (own_w hw 77 rfl)) (by decide) (kc' := 0) (ks' := 0) (backOf (W := 1) (rmCod l Z a0 hw [] a zc fm h0 n0 Z0 O0 S_CS hzc S_FM hfm Fc) hZ (own_w hw 79 rfl) (own_w hw 2 rfl) (ok rfl) (ok rfl)) (b := a) e48 Ea (g := (mkF m 6 #[.val (.ref a)] [(.ref a), (.int (6 : Int32))])) rfl (by rw [hml]; rfl) (argsL := []) (rest := [(.int (6 : Int32))]) (lenOf pd_320 rfl) rfl (by show 2 * 0 + _ ≤ _; exact Nat.le_of_eq rfl) (hb hby d13_6) rfl (ok rfl) (ok rfl) ?_
  intro v51 T51 L51 q51 X51
  obtain ⟨rfl, N51q, hE51⟩ := q51
  have N51 := Fr.app N0 N51q
  show Goes p e below _ T51 (mkF m 9 #[.val (.ref a)] [(.int (0 : Int32)), (.int (6 : Int32))])
  refine Goes.step (T' := T51) (g' := (mkF m 10 #[.val (.ref a)] [(.int ((6 : Int32) >>> ((0 : Int32) &&& 31)))])) (fun t_ k_ => XS.ishr X51.here hx rfl (hb hby d13_9) rfl k_) ?_
  have rw52 : ((6 : Int32) >>> ((0 : Int32) &&& 31)) = (6 : Int32) := by decide
  rw [rw52]
  refine Goes.retI X51 hx Bd.notSynchronized Bd.returns (hb hby d13_10) (ok rfl) (ok rfl) ?_
  rw [hE51]
  exact ⟨rfl, N51, rfl⟩
theorem pd_341 : parseMethodDescriptor "()I" = some ⟨[], some .int⟩ := by decide +kernel
theorem d15_0 : decode jdk_68_method_9_code 0 = .ok (.aload_n 0, 1) := by decide +kernel
theorem d15_1 : decode jdk_68_method_9_code 1 = .ok (.getfield 15, 3) := by decide +kernel
theorem d15_4 : decode jdk_68_method_9_code 4 = .ok (.arraylength, 1) := by decide +kernel
theorem d15_5 : decode jdk_68_method_9_code 5 = .ok (.aload_n 0, 1) := by decide +kernel
theorem d15_6 : decode jdk_68_method_9_code 6 = .ok (.getfield 22, 3) := by decide +kernel
theorem d15_9 : decode jdk_68_method_9_code 9 = .ok (.ishr, 1) := by decide +kernel
theorem d15_10 : decode jdk_68_method_9_code 10 = .ok (.istore_n 2, 1) := by decide +kernel
theorem d15_11 : decode jdk_68_method_9_code 11 = .ok (.iload_n 1, 1) := by decide +kernel
theorem d15_12 : decode jdk_68_method_9_code 12 = .ok (.iload_n 2, 1) := by decide +kernel
theorem d15_13 : decode jdk_68_method_9_code 13 = .ok (.isub, 1) := by decide +kernel
theorem d15_14 : decode jdk_68_method_9_code 14 = .ok (.ifCond .le 24, 3) := by decide +kernel
theorem d15_17 : decode jdk_68_method_9_code 17 = .ok (.aload_n 0, 1) := by decide +kernel
theorem d15_18 : decode jdk_68_method_9_code 18 = .ok (.aload_n 0, 1) := by decide +kernel
theorem d15_19 : decode jdk_68_method_9_code 19 = .ok (.getfield 15, 3) := by decide +kernel
theorem d15_22 : decode jdk_68_method_9_code 22 = .ok (.aload_n 0, 1) := by decide +kernel
theorem d15_23 : decode jdk_68_method_9_code 23 = .ok (.iload_n 1, 1) := by decide +kernel
theorem d15_24 : decode jdk_68_method_9_code 24 = .ok (.invokevirtual 104, 3) := by decide +kernel
theorem d15_27 : decode jdk_68_method_9_code 27 = .ok (.aload_n 0, 1) := by decide +kernel
theorem d15_28 : decode jdk_68_method_9_code 28 = .ok (.getfield 22, 3) := by decide +kernel
theorem d15_31 : decode jdk_68_method_9_code 31 = .ok (.ishl, 1) := by decide +kernel
theorem d15_32 : decode jdk_68_method_9_code 32 = .ok (.invokestatic 108, 3) := by decide +kernel
theorem d15_35 : decode jdk_68_method_9_code 35 = .ok (.putfield 15, 3) := by decide +kernel
theorem d15_38 : decode jdk_68_method_9_code 38 = .ok (.return_, 1) := by decide +kernel
theorem efEns6 (x : Addr) (m : MethodId) : entryFrame m #[(.ref x), (.int (6 : Int32))] 3 = mkF m 0 #[.val (.ref x), .val (.int (6 : Int32)), .unset] [] := by first | (simp [entryFrame, mkF, argsToLocals, Value.category]; done) | rfl
def QEns6 (Z : State) (x t : Addr) (kt : ClassId) (vs : List Value) (h0 : Heap) (n0 : Nat) (v : Option Value) (h : Heap) (L : List Loc) : Prop := v = none ∧ Fr n0 L ∧ h = h0
set_option maxRecDepth 65536 in
set_option maxHeartbeats 40000000 in
theorem rmEns6 (l : Launch) (Z : State) (a0 : Array Value) (hw : ∀ d ∈ tables_1, d.before a0 Z = true) (ws : List Jvm.Cond) (x t : Addr) (kt : ClassId) (vs : List Value) (h0 : Heap) (n0 : Nat) (Z0 : n0 ≤ h0.size) (O0 : Old Z n0 h0) (Ex : Exa Z h0 x "java/lang/StringBuilder") (Fv : Fld Z h0 x "java/lang/AbstractStringBuilder" "value" "[B" (.ref t)) (Fc : Fld Z h0 x "java/lang/AbstractStringBuilder" "coder" "B" (.int (0 : Int32))) (Vt : Arv Z h0 t kt .byte (16 : Int32) vs (.int (0 : Int32))) :
    OwnLaw l y3_ jdk_68_method_9_code 3 none ws (rR 0 0 0 0) #[(.ref x), (.int (6 : Int32))] Z h0 (QEns6 Z x t kt vs h0 n0) := by
  refine own_enter (plainFor_of_name pn_java_lang_AbstractStringBuilder) (efEns6 x) ?_
  intro p e s m below meth c s₁ Bd hx hby hml hZ hown X0 e0
  have N0 := Fr.nil n0
  have K0 : Keep h0 h0 [] := Keep.refl _ _
  refine P1.aloadN X0.here hx (hb hby d15_0) rfl rfl ?_
  obtain ⟨T56, X56, e56, st56⟩ := getF X0 hx hZ hown (host := "") (Or.inl (own_w hw 53 rfl)) Via.refl e0 Fv (g := (mkF m 1 #[.val (.ref x), .val (.int (6 : Int32)), .unset] [(.ref x)])) rfl rfl (hb hby d15_1)
  refine Goes.step (T' := T56) (g' := (mkF m 4 #[.val (.ref x), .val (.int (6 : Int32)), .unset] [(.ref t)])) st56 ?_
  obtain ⟨cl57, Ar57, qk57, sl57, nz57, ha57, fi57⟩ := id Vt
  have al58 : cl57.slots.size.toInt32 = (16 : Int32) := len_of sl57 nz57
  refine Goes.step (T' := T56) (g' := (mkF m 5 #[.val (.ref x), .val (.int (6 : Int32)), .unset] [(.int (16 : Int32))])) (fun t_ k_ => X56.arraylength hx (by rw [e56]; exact Ar57.1) (State.isArrayOf_alike hZ.alike Ar57.2.1) (g := (mkF m 4 #[.val (.ref x), .val (.int (6 : Int32)), .unset] [(.ref t)])) rfl rfl (hb hby d15_4) _ <| by rw [al58]; exact k_) ?_
  refine P1.aloadN X56.here hx (hb hby d15_5) rfl rfl ?_
  obtain ⟨T59, X59, e59, st59⟩ := getF X56 hx hZ hown (host := "") (Or.inl (own_w hw 55 rfl)) Via.refl e56 Fc (g := (mkF m 6 #[.val (.ref x), .val (.int (6 : Int32)), .unset] [(.ref x), (.int (16 : Int32))])) rfl rfl (hb hby d15_6)
  refine Goes.step (T' := T59) (g' := (mkF m 9 #[.val (.ref x), .val (.int (6 : Int32)), .unset] [(.int (0 : Int32)), (.int (16 : Int32))])) st59 ?_
  refine Goes.step (T' := T59) (g' := (mkF m 10 #[.val (.ref x), .val (.int (6 : Int32)), .unset] [(.int ((16 : Int32) >>> ((0 : Int32) &&& 31)))])) (fun t_ k_ => XS.ishr X59.here hx rfl (hb hby d15_9) rfl k_) ?_
  have rw60 : ((16 : Int32) >>> ((0 : Int32) &&& 31)) = (16 : Int32) := by decide
  rw [rw60]
  refine P1.istoreN X59.here hx #[.val (.ref x), .val (.int (6 : Int32)), .val (.int (16 : Int32))] (hb hby d15_10) rfl ?_
  refine P1.iloadN X59.here hx (hb hby d15_11) rfl ?_
  refine P1.iloadN X59.here hx (hb hby d15_12) rfl ?_
  refine P1.isub X59.here hx (hb hby d15_13) ?_
  have rw61 : ((6 : Int32) - (16 : Int32)) = (-10 : Int32) := by decide
  rw [rw61]
  refine P1.ifYes X59.here hx 38 (hb hby d15_14) ((if0 _ _).trans (flt (by decide : ¬ ((0 : Int32) < (-10 : Int32)))).2.2.2) (by decide) (by decide) ?_
  refine Goes.retV X59 hx Bd.notSynchronized Bd.returns (hb hby d15_38) (ok rfl) (ok rfl) ?_
  rw [e59]
  exact ⟨rfl, N0, rfl⟩
theorem pd_22466 : parseMethodDescriptor "(ILjava/lang/String;)V" = some ⟨[.int, (.object "java/lang/String")], none⟩ := by decide +kernel
theorem efAp0_6 (x y : Addr) (m : MethodId) : entryFrame m #[(.ref x), (.ref y)] 3 = mkF m 0 #[.val (.ref x), .val (.ref y), .unset] [] := by first | (simp [entryFrame, mkF, argsToLocals, Value.category]; done) | rfl
def QAp0_6 (Z : State) (x t : Addr) (kt : ClassId) (y ty : Addr) (ky : ClassId) (c0 c1 c2 c3 c4 c5 zc : Int32) (fm : Value) (h0 : Heap) (n0 : Nat) (v : Option Value) (h : Heap) (L : List Loc) : Prop := v = some (.ref x) ∧ Fr n0 L ∧ Keep h0 h [x, t] ∧ Exa Z h x "java/lang/StringBuilder" ∧ Fld Z h x "java/lang/AbstractStringBuilder" "value" "[B" (.ref t) ∧ Fld Z h x "java/lang/AbstractStringBuilder" "coder" "B" (.int (0 : Int32)) ∧ Fld Z h x "java/lang/AbstractStringBuilder" "count" "I" (.int (6 : Int32)) ∧ Arv Z h t kt .byte (16 : Int32) [(.int c0), (.int c1), (.int c2), (.int c3), (.int c4), (.int c5)] (.int (0 : Int32))
set_option maxRecDepth 65536 in
set_option maxHeartbeats 40000000 in
theorem rmAp0_6 (l : Launch) (Z : State) (a0 : Array Value) (hw : ∀ d ∈ tables_1, d.before a0 Z = true) (ws : List Jvm.Cond) (x t : Addr) (kt : ClassId) (y ty : Addr) (ky : ClassId) (c0 c1 c2 c3 c4 c5 zc : Int32) (fm : Value) (h0 : Heap) (n0 : Nat) (Z0 : n0 ≤ h0.size) (O0 : Old Z n0 h0) (S_CS : Sta Z Z.heap "java/lang/String" "COMPACT_STRINGS" "Z" (.int zc)) (hzc : ¬ zc = 0) (S_FM : Sta Z Z.heap "jdk/internal/util/Preconditions" "SIOOBE_FORMATTER" "Ljava/util/function/BiFunction;" fm) (hfm : fm.isRef = true) (gx : n0 ≤ x) (gt : n0 ≤ t) (Ex : Exa Z h0 x "java/lang/StringBuilder") (Fv : Fld Z h0 x "java/lang/AbstractStringBuilder" "value" "[B" (.ref t)) (Fc : Fld Z h0 x "java/lang/AbstractStringBuilder" "coder" "B" (.int (0 : Int32))) (Fn : Fld Z h0 x "java/lang/AbstractStringBuilder" "count" "I" (.int (0 : Int32))) (Vt : Arv Z h0 t kt .byte (16 : Int32) [] (.int (0 : Int32))) (Ey : Exa Z h0 y "java/lang/String") (Vy : Fld Z h0 y "java/lang/String" "value" "[B" (.ref ty)) (Cy : Fld Z h0 y "java/lang/String" "coder" "B" (.int (0 : Int32))) (Ky : Arv Z h0 ty ky .byte (6 : Int32) [(.int c0), (.int c1), (.int c2), (.int c3), (.int c4), (.int c5)] (.int (0 : Int32))) (nety : ty ≠ t) :
    OwnLaw l y2_ jdk_68_method_22_code 3 (some (.object "java/lang/AbstractStringBuilder")) ws (rR 3 0 0 47) #[(.ref x), (.ref y)] Z h0 (QAp0_6 Z x t kt y ty ky c0 c1 c2 c3 c4 c5 zc fm h0 n0) := by
  refine own_enter (plainFor_of_name pn_java_lang_AbstractStringBuilder) (efAp0_6 x y) ?_
  intro p e s m below meth c s₁ Bd hx hby hml hZ hown X0 e0
  have N0 := Fr.nil n0
  have K0 : Keep h0 h0 [] := Keep.refl _ _
  have K0 : Keep h0 h0 [x, t] := Keep.refl _ _
  refine P1.aloadN X0.here hx (hb hby d12_0) rfl rfl ?_
  refine P1.ifnonnullYes X0.here hx 9 (hb hby d12_1) (by decide) (by decide) ?_
  refine P1.aloadN X0.here hx (hb hby d12_9) rfl rfl ?_
  refine Goes.callV X0 hx hZ (y := y17_) (z := y17_) hown (mvT hZ (own_w hw 70 rfl)) (mvT hZ (own_w hw 71 rfl)) (notFace_of_selects (args := #[]) (mvT hZ (own_w hw 73 rfl))) (mvT hZ (own_w hw 73 rfl)) (mvT hZ (own_w hw 72 rfl)) (by decide) (kc' := 0) (ks' := 0) (backOf (W := 0) (rmLen6 l Z a0 hw [] y ty ky [(.int c0), (.int c1), (.int c2), (.int c3), (.int c4), (.int c5)] zc fm h0 n0 Z0 O0 S_CS hzc S_FM hfm Ey Vy Cy Ky) hZ (own_w hw 74 rfl) (own_w hw 2 rfl) (ok rfl) (ok rfl)) (b := y) e0 Ey (g := (mkF m 10 #[.val (.ref x), .val (.ref y), .unset] [(.ref y)])) rfl (by rw [hml]; rfl) (argsL := []) (rest := []) (lenOf pd_341 rfl) rfl (by show 2 * 0 + _ ≤ _; exact Nat.le_of_eq rfl) (hb hby d12_10) rfl (ok rfl) (ok rfl) ?_
  intro v53 T53 L53 q53 X53
  obtain ⟨rfl, N53q, hE53⟩ := q53
  have N53 := Fr.app N0 N53q
  show Goes p e below _ T53 (mkF m 13 #[.val (.ref x), .val (.ref y), .unset] [(.int (6 : Int32))])
  refine P1.istoreN X53.here hx #[.val (.ref x), .val (.ref y), .val (.int (6 : Int32))] (hb hby d12_13) rfl ?_
  refine P1.aloadN X53.here hx (hb hby d12_14) rfl rfl ?_
  refine P1.aloadN X53.here hx (hb hby d12_15) rfl rfl ?_
  obtain ⟨T54, X54, e54, st54⟩ := getF X53 hx hZ hown (host := "") (Or.inl (own_w hw 80 rfl)) Via.refl hE53 Fn (g := (mkF m 16 #[.val (.ref x), .val (.ref y), .val (.int (6 : Int32))] [(.ref x), (.ref x)])) rfl rfl (hb hby d12_16)
  refine Goes.step (T' := T54) (g' := (mkF m 19 #[.val (.ref x), .val (.ref y), .val (.int (6 : Int32))] [(.int (0 : Int32)), (.ref x)])) st54 ?_
  refine P1.iloadN X54.here hx (hb hby d12_19) rfl ?_
  refine P1.iadd X54.here hx (hb hby d12_20) ?_
  have rw55 : ((0 : Int32) + (6 : Int32)) = (6 : Int32) := by decide
  rw [rw55]
  refine Goes.callV X54 hx hZ (y := y3_) (z := y3_) hown (mvT hZ (own_w hw 82 rfl)) (mvT hZ (own_declares (own_w hw 83 rfl) (own_w hw 86 rfl))) (notFace_of_selects (args := #[]) (mvT hZ (own_w hw 85 rfl))) (mvT hZ (own_w hw 85 rfl)) (mvT hZ (own_w hw 83 rfl)) (by decide) (kc' := 0) (ks' := 0) (backOf (W := 0) (rmEns6 l Z a0 hw [] x t kt [] h0 n0 Z0 O0 Ex Fv Fc Vt) hZ (own_w hw 86 rfl) (own_w hw 49 rfl) (ok rfl) (ok rfl)) (b := x) e54 Ex (g := (mkF m 21 #[.val (.ref x), .val (.ref y), .val (.int (6 : Int32))] [(.int (6 : Int32)), (.ref x)])) rfl (by rw [hml]; rfl) (argsL := [(.int (6 : Int32))]) (rest := []) (lenOf pd_653 rfl) rfl (by show 2 * 0 + _ ≤ _; exact Nat.le_of_eq rfl) (hb hby d12_21) rfl (ok rfl) (ok rfl) ?_
  intro v62 T62 L62 q62 X62
  obtain ⟨rfl, N62q, hE62⟩ := q62
  have N62 := Fr.app N53 N62q
  show Goes p e below _ T62 (mkF m 24 #[.val (.ref x), .val (.ref y), .val (.int (6 : Int32))] [])
  refine P1.aloadN X62.here hx (hb hby d12_24) rfl rfl ?_
  refine P1.aloadN X62.here hx (hb hby d12_25) rfl rfl ?_
  obtain ⟨T63, X63, e63, st63⟩ := getF X62 hx hZ hown (host := "") (Or.inl (own_w hw 80 rfl)) Via.refl hE62 Fn (g := (mkF m 26 #[.val (.ref x), .val (.ref y), .val (.int (6 : Int32))] [(.ref x), (.ref x)])) rfl rfl (hb hby d12_26)
  refine Goes.step (T' := T63) (g' := (mkF m 29 #[.val (.ref x), .val (.ref y), .val (.int (6 : Int32))] [(.int (0 : Int32)), (.ref x)])) st63 ?_
  refine P1.aloadN X63.here hx (hb hby d12_29) rfl rfl ?_
  refine Goes.callV X63 hx hZ (y := y8_) (z := y8_) hown (mvT hZ (own_w hw 87 rfl)) (mvT hZ (own_declares (own_w hw 88 rfl) (own_w hw 91 rfl))) (notFace_of_selects (args := #[]) (mvT hZ (own_w hw 90 rfl))) (mvT hZ (own_w hw 90 rfl)) (mvT hZ (own_w hw 88 rfl)) (by decide) (kc' := 0) (ks' := 0) (backOf (W := 0) (rmPu0_6 l Z a0 hw [] x t kt y ty ky c0 c1 c2 c3 c4 c5 zc fm h0 n0 Z0 O0 S_CS hzc S_FM hfm gx gt Ex Fv Fc Fn Vt Ey Vy Cy Ky nety) hZ (own_w hw 91 rfl) (own_w hw 49 rfl) (ok rfl) (ok rfl)) (b := x) e63 Ex (g := (mkF m 30 #[.val (.ref x), .val (.ref y), .val (.int (6 : Int32))] [(.ref y), (.int (0 : Int32)), (.ref x)])) rfl (by rw [hml]; rfl) (argsL := [(.int (0 : Int32)), (.ref y)]) (rest := []) (lenOf pd_22466 rfl) rfl (by show 2 * 0 + _ ≤ _; exact Nat.le_of_eq rfl) (hb hby d12_30) rfl (ok rfl) (ok rfl) ?_
  intro v64 T64 L64 q64 X64
  obtain ⟨rfl, N64q, K64, g64E, g64v, g64c, g64n, g64V⟩ := q64
  have N64 := Fr.app N62 N64q
  show Goes p e below _ T64 (mkF m 33 #[.val (.ref x), .val (.ref y), .val (.int (6 : Int32))] [])
  refine P1.aloadN X64.here hx (hb hby d12_33) rfl rfl ?_
  refine P1.dup X64.here hx (hb hby d12_34) rfl ?_
  obtain ⟨T65, X65, e65, st65⟩ := getF X64 hx hZ hown (host := "") (Or.inl (own_w hw 80 rfl)) Via.refl rfl g64n (g := (mkF m 35 #[.val (.ref x), .val (.ref y), .val (.int (6 : Int32))] [(.ref x), (.ref x)])) rfl rfl (hb hby d12_35)
  refine Goes.step (T' := T65) (g' := (mkF m 38 #[.val (.ref x), .val (.ref y), .val (.int (6 : Int32))] [(.int (0 : Int32)), (.ref x)])) st65 ?_
  refine P1.iloadN X65.here hx (hb hby d12_38) rfl ?_
  refine P1.iadd X65.here hx (hb hby d12_39) ?_
  have rw66 : ((0 : Int32) + (6 : Int32)) = (6 : Int32) := by decide
  rw [rw66]
  obtain ⟨T67, h67, X67, e67, W67, st67⟩ := putF X65 hx hZ hown (host := "") (Or.inl (own_w hw 80 rfl)) Via.refl e65 g64n g64E (Or.inl (own_w hw 81 rfl)) (own_w hw 40 rfl) (ty := .int) (by decide) rfl rfl (g := (mkF m 40 #[.val (.ref x), .val (.ref y), .val (.int (6 : Int32))] [(.int (6 : Int32)), (.ref x)])) rfl rfl (hb hby d12_40)
  have Fw67 : Fld Z h67 x "java/lang/AbstractStringBuilder" "count" "I" (.int (6 : Int32)) := g64n.same W67
  have N67 := Fr.snoc X67 N64 gx
  refine Goes.step (T' := T67) (g' := (mkF m 43 #[.val (.ref x), .val (.ref y), .val (.int (6 : Int32))] [])) st67 ?_
  refine P1.aloadN X67.here hx (hb hby d12_43) rfl rfl ?_
  refine Goes.retA X67 hx Bd.notSynchronized Bd.returns rfl rfl (hb hby d12_44) (ok rfl) (ok rfl) ?_
  rw [e67]
  have K68 : Keep h0 T64.heap [x, t] := K0.trans K64 (allS (Or.inl (by simp)) (allS (Or.inl (by simp)) all0))
  have K69 : Keep h0 h67 [x, t] := K68.wr W67 (Or.inl (by simp))
  have E70 : Exa Z h67 x "java/lang/StringBuilder" := g64E.wr W67
  have F71 : Fld Z h67 x "java/lang/AbstractStringBuilder" "value" "[B" (.ref t) := g64v.other W67 (Or.inr (slot_ne (Or.inl (own_w hw 54 rfl)) (Or.inl (own_w hw 81 rfl)) (by decide) (t := (.array .byte)) (t' := .int) (by decide) (by decide)))
  have F72 : Fld Z h67 x "java/lang/AbstractStringBuilder" "coder" "B" (.int (0 : Int32)) := g64c.other W67 (Or.inr (slot_ne (Or.inl (own_w hw 56 rfl)) (Or.inl (own_w hw 81 rfl)) (by decide) (t := .byte) (t' := .int) (by decide) (by decide)))
  have ne73 : x ≠ t := own_ne_arv g64E (own_w hw 40 rfl) g64V
  have V74 : Arv Z h67 t kt .byte (16 : Int32) [(.int c0), (.int c1), (.int c2), (.int c3), (.int c4), (.int c5)] (.int (0 : Int32)) := g64V.other W67 (Ne.symm ne73)
  exact ⟨rfl, N67, K69, E70, F71, F72, Fw67, V74⟩
theorem d11_0 : decode jdk_67_method_7_code 0 = .ok (.aload_n 0, 1) := by decide +kernel
theorem d11_1 : decode jdk_67_method_7_code 1 = .ok (.aload_n 1, 1) := by decide +kernel
theorem d11_2 : decode jdk_67_method_7_code 2 = .ok (.invokespecial 29, 3) := by decide +kernel
theorem d11_5 : decode jdk_67_method_7_code 5 = .ok (.pop, 1) := by decide +kernel
theorem d11_6 : decode jdk_67_method_7_code 6 = .ok (.aload_n 0, 1) := by decide +kernel
theorem d11_7 : decode jdk_67_method_7_code 7 = .ok (.areturn, 1) := by decide +kernel
theorem pd_138888 : parseMethodDescriptor "(Ljava/lang/String;)Ljava/lang/AbstractStringBuilder;" = some ⟨[(.object "java/lang/String")], some (.object "java/lang/AbstractStringBuilder")⟩ := by decide +kernel
theorem efSp0_6 (x y : Addr) (m : MethodId) : entryFrame m #[(.ref x), (.ref y)] 2 = mkF m 0 #[.val (.ref x), .val (.ref y)] [] := by first | (simp [entryFrame, mkF, argsToLocals, Value.category]; done) | rfl
def QSp0_6 (Z : State) (x t : Addr) (kt : ClassId) (y ty : Addr) (ky : ClassId) (c0 c1 c2 c3 c4 c5 zc : Int32) (fm : Value) (h0 : Heap) (n0 : Nat) (v : Option Value) (h : Heap) (L : List Loc) : Prop := v = some (.ref x) ∧ Fr n0 L ∧ Keep h0 h [x, t] ∧ Exa Z h x "java/lang/StringBuilder" ∧ Fld Z h x "java/lang/AbstractStringBuilder" "value" "[B" (.ref t) ∧ Fld Z h x "java/lang/AbstractStringBuilder" "coder" "B" (.int (0 : Int32)) ∧ Fld Z h x "java/lang/AbstractStringBuilder" "count" "I" (.int (6 : Int32)) ∧ Arv Z h t kt .byte (16 : Int32) [(.int c0), (.int c1), (.int c2), (.int c3), (.int c4), (.int c5)] (.int (0 : Int32))
set_option maxRecDepth 65536 in
set_option maxHeartbeats 40000000 in
theorem rmSp0_6 (l : Launch) (Z : State) (a0 : Array Value) (hw : ∀ d ∈ tables_1, d.before a0 Z = true) (ws : List Jvm.Cond) (x t : Addr) (kt : ClassId) (y ty : Addr) (ky : ClassId) (c0 c1 c2 c3 c4 c5 zc : Int32) (fm : Value) (h0 : Heap) (n0 : Nat) (Z0 : n0 ≤ h0.size) (O0 : Old Z n0 h0) (S_CS : Sta Z Z.heap "java/lang/String" "COMPACT_STRINGS" "Z" (.int zc)) (hzc : ¬ zc = 0) (S_FM : Sta Z Z.heap "jdk/internal/util/Preconditions" "SIOOBE_FORMATTER" "Ljava/util/function/BiFunction;" fm) (hfm : fm.isRef = true) (gx : n0 ≤ x) (gt : n0 ≤ t) (Ex : Exa Z h0 x "java/lang/StringBuilder") (Fv : Fld Z h0 x "java/lang/AbstractStringBuilder" "value" "[B" (.ref t)) (Fc : Fld Z h0 x "java/lang/AbstractStringBuilder" "coder" "B" (.int (0 : Int32))) (Fn : Fld Z h0 x "java/lang/AbstractStringBuilder" "count" "I" (.int (0 : Int32))) (Vt : Arv Z h0 t kt .byte (16 : Int32) [] (.int (0 : Int32))) (Ey : Exa Z h0 y "java/lang/String") (Vy : Fld Z h0 y "java/lang/String" "value" "[B" (.ref ty)) (Cy : Fld Z h0 y "java/lang/String" "coder" "B" (.int (0 : Int32))) (Ky : Arv Z h0 ty ky .byte (6 : Int32) [(.int c0), (.int c1), (.int c2), (.int c3), (.int c4), (.int c5)] (.int (0 : Int32))) (nety : ty ≠ t) :
    OwnLaw l y19_ jdk_67_method_7_code 2 (some (.object "java/lang/StringBuilder")) ws (rR 4 0 0 61) #[(.ref x), (.ref y)] Z h0 (QSp0_6 Z x t kt y ty ky c0 c1 c2 c3 c4 c5 zc fm h0 n0) := by
  refine own_enter (plainFor_of_name pn_java_lang_StringBuilder) (efSp0_6 x y) ?_
  intro p e s m below meth c s₁ Bd hx hby hml hZ hown X0 e0
  have N0 := Fr.nil n0
  have K0 : Keep h0 h0 [] := Keep.refl _ _
  have K0 : Keep h0 h0 [x, t] := Keep.refl _ _
  refine P1.aloadN X0.here hx (hb hby d11_0) rfl rfl ?_
  refine P1.aloadN X0.here hx (hb hby d11_1) rfl rfl ?_
  refine Goes.callSup X0 hx hZ (y := y2_) hown (own_w hw 65 rfl) (own_sameMethod (own_w hw 66 rfl) (own_w hw 85 rfl) rfl (by decide)) (own_w hw 66 rfl) (own_w hw 67 rfl) (by decide) (kc' := 0) (ks' := 0) (backOf (W := 0) (rmAp0_6 l Z a0 hw [] x t kt y ty ky c0 c1 c2 c3 c4 c5 zc fm h0 n0 Z0 O0 S_CS hzc S_FM hfm gx gt Ex Fv Fc Fn Vt Ey Vy Cy Ky nety) hZ (own_w hw 69 rfl) (own_w hw 49 rfl) (ok rfl) (ok rfl)) (a := x) e0 (Ins.of_exa Ex (own_w hw 48 rfl)) (own_w hw 69 rfl) (g := (mkF m 2 #[.val (.ref x), .val (.ref y)] [(.ref y), (.ref x)])) rfl (by rw [hml]; rfl) (argsL := [(.ref y)]) (rest := []) (lenOf pd_138888 rfl) rfl (by show 2 * 0 + _ ≤ _; exact Nat.le_of_eq rfl) (hb hby d11_2) rfl (ok rfl) (ok rfl) ?_
  intro v75 T75 L75 q75 X75
  obtain ⟨rfl, N75q, K75, g75E, g75v, g75c, g75n, g75V⟩ := q75
  have N75 := Fr.app N0 N75q
  show Goes p e below _ T75 (mkF m 5 #[.val (.ref x), .val (.ref y)] [(.ref x)])
  refine P1.pop X75.here hx (hb hby d11_5) rfl ?_
  refine P1.aloadN X75.here hx (hb hby d11_6) rfl rfl ?_
  refine Goes.retA X75 hx Bd.notSynchronized Bd.returns rfl rfl (hb hby d11_7) (ok rfl) (ok rfl) ?_
  have K76 : Keep h0 T75.heap [x, t] := K0.trans K75 (allS (Or.inl (by simp)) (allS (Or.inl (by simp)) all0))
  exact ⟨rfl, N75, K76, g75E, g75v, g75c, g75n, g75V⟩
theorem efGb6_1 (y t : Addr) (m : MethodId) : entryFrame m #[(.ref y), (.ref t), (.int (6 : Int32)), (.int (0 : Int32))] 4 = mkF m 0 #[.val (.ref y), .val (.ref t), .val (.int (6 : Int32)), .val (.int (0 : Int32))] [] := by first | (simp [entryFrame, mkF, argsToLocals, Value.category]; done) | rfl
def QGb6_1 (Z : State) (t : Addr) (kt : ClassId) (y ty : Addr) (ky : ClassId) (b0 b1 b2 b3 b4 b5 c0 zc : Int32) (fm : Value) (h0 : Heap) (n0 : Nat) (v : Option Value) (h : Heap) (L : List Loc) : Prop := v = none ∧ Fr n0 L ∧ Keep h0 h [t] ∧ Arv Z h t kt .byte (16 : Int32) [(.int b0), (.int b1), (.int b2), (.int b3), (.int b4), (.int b5), (.int c0)] (.int (0 : Int32))
set_option maxRecDepth 65536 in
set_option maxHeartbeats 40000000 in
theorem rmGb6_1 (l : Launch) (Z : State) (a0 : Array Value) (hw : ∀ d ∈ tables_1, d.before a0 Z = true) (ws : List Jvm.Cond) (t : Addr) (kt : ClassId) (y ty : Addr) (ky : ClassId) (b0 b1 b2 b3 b4 b5 c0 zc : Int32) (fm : Value) (h0 : Heap) (n0 : Nat) (Z0 : n0 ≤ h0.size) (O0 : Old Z n0 h0) (S_CS : Sta Z Z.heap "java/lang/String" "COMPACT_STRINGS" "Z" (.int zc)) (hzc : ¬ zc = 0) (S_FM : Sta Z Z.heap "jdk/internal/util/Preconditions" "SIOOBE_FORMATTER" "Ljava/util/function/BiFunction;" fm) (hfm : fm.isRef = true) (gt : n0 ≤ t) (Vt : Arv Z h0 t kt .byte (16 : Int32) [(.int b0), (.int b1), (.int b2), (.int b3), (.int b4), (.int b5)] (.int (0 : Int32))) (Ey : Exa Z h0 y "java/lang/String") (Vy : Fld Z h0 y "java/lang/String" "value" "[B" (.ref ty)) (Cy : Fld Z h0 y "java/lang/String" "coder" "B" (.int (0 : Int32))) (Ky : Arv Z h0 ty ky .byte (1 : Int32) [(.int c0)] (.int (0 : Int32))) (nety : ty ≠ t) :
    OwnLaw l y15_ jdk_42_method_147_code 4 none ws (rR 1 0 0 18) #[(.ref y), (.ref t), (.int (6 : Int32)), (.int (0 : Int32))] Z h0 (QGb6_1 Z t kt y ty ky b0 b1 b2 b3 b4 b5 c0 zc fm h0 n0) := by
  refine own_enter (plainFor_of_name pn_java_lang_String) (efGb6_1 y t) ?_
  intro p e s m below meth c s₁ Bd hx hby hml hZ hown X0 e0
  have N0 := Fr.nil n0
  have K0 : Keep h0 h0 [] := Keep.refl _ _
  have K0 : Keep h0 h0 [t] := Keep.refl _ _
  refine P1.aloadN X0.here hx (hb hby d18_0) rfl rfl ?_
  refine Goes.callV X0 hx hZ (y := y14_) (z := y14_) hown (mvT hZ (own_w hw 75 rfl)) (mvT hZ (own_w hw 76 rfl)) (notFace_of_selects (args := #[]) (mvT hZ (own_w hw 78 rfl))) (mvT hZ (own_w hw 78 rfl)) (mvT hZ (own_w hw 77 rfl)) (by decide) (kc' := 0) (ks' := 0) (backOf (W := 0) (rmCod l Z a0 hw [] y zc fm h0 n0 Z0 O0 S_CS hzc S_FM hfm Cy) hZ (own_w hw 79 rfl) (own_w hw 2 rfl) (ok rfl) (ok rfl)) (b := y) e0 Ey (g := (mkF m 1 #[.val (.ref y), .val (.ref t), .val (.int (6 : Int32)), .val (.int (0 : Int32))] [(.ref y)])) rfl (by rw [hml]; rfl) (argsL := []) (rest := []) (lenOf pd_320 rfl) rfl (by show 2 * 0 + _ ≤ _; exact Nat.le_of_eq rfl) (hb hby d18_1) rfl (ok rfl) (ok rfl) ?_
  intro v77 T77 L77 q77 X77
  obtain ⟨rfl, N77q, hE77⟩ := q77
  have N77 := Fr.app N0 N77q
  show Goes p e below _ T77 (mkF m 4 #[.val (.ref y), .val (.ref t), .val (.int (6 : Int32)), .val (.int (0 : Int32))] [(.int (0 : Int32))])
  refine P1.iloadN X77.here hx (hb hby d18_4) rfl ?_
  refine P1.icmpNo X77.here hx (hb hby d18_5) (teq (by decide : (0 : Int32) = (0 : Int32))).2 ?_
  refine P1.aloadN X77.here hx (hb hby d18_8) rfl rfl ?_
  obtain ⟨T78, X78, e78, st78⟩ := getF X77 hx hZ hown (host := "") (Or.inl (own_w hw 28 rfl)) Via.refl hE77 Vy (g := (mkF m 9 #[.val (.ref y), .val (.ref t), .val (.int (6 : Int32)), .val (.int (0 : Int32))] [(.ref y)])) rfl rfl (hb hby d18_9)
  refine Goes.step (T' := T78) (g' := (mkF m 12 #[.val (.ref y), .val (.ref t), .val (.int (6 : Int32)), .val (.int (0 : Int32))] [(.ref ty)])) st78 ?_
  refine P1.iconst X78.here hx (0 : Int32) (hb hby d18_12) rfl ?_
  refine P1.aloadN X78.here hx (hb hby d18_13) rfl rfl ?_
  refine P1.iloadN X78.here hx (hb hby d18_14) rfl ?_
  refine P1.iloadN X78.here hx (hb hby d18_15) rfl ?_
  refine Goes.step (T' := T78) (g' := (mkF m 17 #[.val (.ref y), .val (.ref t), .val (.int (6 : Int32)), .val (.int (0 : Int32))] [(.int ((6 : Int32) <<< ((0 : Int32) &&& 31))), (.ref t), (.int (0 : Int32)), (.ref ty)])) (fun t_ k_ => XS.ishl X78.here hx rfl (hb hby d18_16) rfl k_) ?_
  have rw79 : ((6 : Int32) <<< ((0 : Int32) &&& 31)) = (6 : Int32) := by decide
  rw [rw79]
  refine P1.aloadN X78.here hx (hb hby d18_17) rfl rfl ?_
  obtain ⟨T80, X80, e80, st80⟩ := getF X78 hx hZ hown (host := "") (Or.inl (own_w hw 28 rfl)) Via.refl e78 Vy (g := (mkF m 18 #[.val (.ref y), .val (.ref t), .val (.int (6 : Int32)), .val (.int (0 : Int32))] [(.ref y), (.int (6 : Int32)), (.ref t), (.int (0 : Int32)), (.ref ty)])) rfl rfl (hb hby d18_18)
  refine Goes.step (T' := T80) (g' := (mkF m 21 #[.val (.ref y), .val (.ref t), .val (.int (6 : Int32)), .val (.int (0 : Int32))] [(.ref ty), (.int (6 : Int32)), (.ref t), (.int (0 : Int32)), (.ref ty)])) st80 ?_
  obtain ⟨cl81, Ar81, qk81, sl81, nz81, ha81, fi81⟩ := id Ky
  have al82 : cl81.slots.size.toInt32 = (1 : Int32) := len_of sl81 nz81
  refine Goes.step (T' := T80) (g' := (mkF m 22 #[.val (.ref y), .val (.ref t), .val (.int (6 : Int32)), .val (.int (0 : Int32))] [(.int (1 : Int32)), (.int (6 : Int32)), (.ref t), (.int (0 : Int32)), (.ref ty)])) (fun t_ k_ => X80.arraylength hx (by rw [e80]; exact Ar81.1) (State.isArrayOf_alike hZ.alike Ar81.2.1) (g := (mkF m 21 #[.val (.ref y), .val (.ref t), .val (.int (6 : Int32)), .val (.int (0 : Int32))] [(.ref ty), (.int (6 : Int32)), (.ref t), (.int (0 : Int32)), (.ref ty)])) rfl rfl (hb hby d18_21) _ <| by rw [al82]; exact k_) ?_
  have V83 : Arv Z h0 t kt .byte (16 : Int32) [(.int b0), (.int b1), (.int b2), (.int b3), (.int b4), (.int b5), (.int (0 : Int32))] (.int (0 : Int32)) := Vt.pad (pad_rep [(.int b0), (.int b1), (.int b2), (.int b3), (.int b4), (.int b5)] (.int (0 : Int32)) 1)
  obtain ⟨T84, h84, L84, X84, e84, N84, K84, Va84, st84⟩ := cpA X80 hx hZ hown (own_w hw 103 rfl) (own_w hw 106 rfl) (own_w hw 104 rfl) (own_w hw 105 rfl) e80 Ky V83 (us := [(.int c0)]) (Or.inl ⟨rfl, rfl⟩) (by decide) (by decide) (by decide) (ok rfl) (ok rfl) rfl (ok rfl) N77 gt (g := (mkF m 22 #[.val (.ref y), .val (.ref t), .val (.int (6 : Int32)), .val (.int (0 : Int32))] [(.int (1 : Int32)), (.int (6 : Int32)), (.ref t), (.int (0 : Int32)), (.ref ty)])) rfl (by rw [hml]; rfl) rfl (hb hby d18_22) (ok rfl) (W := 0) (by show 2 * 0 + _ ≤ _; exact Nat.le_of_eq rfl) (ok rfl)
  have V84 : Arv Z h84 t kt .byte (16 : Int32) [(.int b0), (.int b1), (.int b2), (.int b3), (.int b4), (.int b5), (.int c0)] (.int (0 : Int32)) := Va84
  refine Goes.step (T' := T84) (g' := (mkF m 25 #[.val (.ref y), .val (.ref t), .val (.int (6 : Int32)), .val (.int (0 : Int32))] [])) st84 ?_
  refine P1.goto X84.here hx 43 (hb hby d18_25) (by decide) (by decide) ?_
  refine Goes.retV X84 hx Bd.notSynchronized Bd.returns (hb hby d18_43) (ok rfl) (ok rfl) ?_
  rw [e84]
  have K85 : Keep h0 h84 [t] := K0.trans K84 (allS (Or.inl (by simp)) all0)
  exact ⟨rfl, N84, K85, V84⟩
theorem efPu6_1 (x y : Addr) (m : MethodId) : entryFrame m #[(.ref x), (.int (6 : Int32)), (.ref y)] 3 = mkF m 0 #[.val (.ref x), .val (.int (6 : Int32)), .val (.ref y)] [] := by first | (simp [entryFrame, mkF, argsToLocals, Value.category]; done) | rfl
def QPu6_1 (Z : State) (x t : Addr) (kt : ClassId) (y ty : Addr) (ky : ClassId) (b0 b1 b2 b3 b4 b5 c0 zc : Int32) (fm : Value) (h0 : Heap) (n0 : Nat) (v : Option Value) (h : Heap) (L : List Loc) : Prop := v = none ∧ Fr n0 L ∧ Keep h0 h [x, t] ∧ Exa Z h x "java/lang/StringBuilder" ∧ Fld Z h x "java/lang/AbstractStringBuilder" "value" "[B" (.ref t) ∧ Fld Z h x "java/lang/AbstractStringBuilder" "coder" "B" (.int (0 : Int32)) ∧ Fld Z h x "java/lang/AbstractStringBuilder" "count" "I" (.int (6 : Int32)) ∧ Arv Z h t kt .byte (16 : Int32) [(.int b0), (.int b1), (.int b2), (.int b3), (.int b4), (.int b5), (.int c0)] (.int (0 : Int32))
set_option maxRecDepth 65536 in
set_option maxHeartbeats 40000000 in
theorem rmPu6_1 (l : Launch) (Z : State) (a0 : Array Value) (hw : ∀ d ∈ tables_1, d.before a0 Z = true) (ws : List Jvm.Cond) (x t : Addr) (kt : ClassId) (y ty : Addr) (ky : ClassId) (b0 b1 b2 b3 b4 b5 c0 zc : Int32) (fm : Value) (h0 : Heap) (n0 : Nat) (Z0 : n0 ≤ h0.size) (O0 : Old Z n0 h0) (S_CS : Sta Z Z.heap "java/lang/String" "COMPACT_STRINGS" "Z" (.int zc)) (hzc : ¬ zc = 0) (S_FM : Sta Z Z.heap "jdk/internal/util/Preconditions" "SIOOBE_FORMATTER" "Ljava/util/function/BiFunction;" fm) (hfm : fm.isRef = true) (gx : n0 ≤ x) (gt : n0 ≤ t) (Ex : Exa Z h0 x "java/lang/StringBuilder") (Fv : Fld Z h0 x "java/lang/AbstractStringBuilder" "value" "[B" (.ref t)) (Fc : Fld Z h0 x "java/lang/AbstractStringBuilder" "coder" "B" (.int (0 : Int32))) (Fn : Fld Z h0 x "java/lang/AbstractStringBuilder" "count" "I" (.int (6 : Int32))) (Vt : Arv Z h0 t kt .byte (16 : Int32) [(.int b0), (.int b1), (.int b2), (.int b3), (.int b4), (.int b5)] (.int (0 : Int32))) (Ey : Exa Z h0 y "java/lang/String") (Vy : Fld Z h0 y "java/lang/String" "value" "[B" (.ref ty)) (Cy : Fld Z h0 y "java/lang/String" "coder" "B" (.int (0 : Int32))) (Ky : Arv Z h0 ty ky .byte (1 : Int32) [(.int c0)] (.int (0 : Int32))) (nety : ty ≠ t) :
    OwnLaw l y8_ jdk_68_method_73_code 3 none ws (rR 2 0 0 33) #[(.ref x), (.int (6 : Int32)), (.ref y)] Z h0 (QPu6_1 Z x t kt y ty ky b0 b1 b2 b3 b4 b5 c0 zc fm h0 n0) := by
  refine own_enter (plainFor_of_name pn_java_lang_AbstractStringBuilder) (efPu6_1 x y) ?_
  intro p e s m below meth c s₁ Bd hx hby hml hZ hown X0 e0
  have N0 := Fr.nil n0
  have K0 : Keep h0 h0 [] := Keep.refl _ _
  have K0 : Keep h0 h0 [x, t] := Keep.refl _ _
  refine P1.aloadN X0.here hx (hb hby d16_0) rfl rfl ?_
  refine P1.aloadN X0.here hx (hb hby d16_1) rfl rfl ?_
  refine Goes.callV X0 hx hZ (y := y5_) (z := y5_) hown (mvT hZ (own_w hw 92 rfl)) (mvT hZ (own_declares (own_w hw 93 rfl) (own_w hw 96 rfl))) (notFace_of_selects (args := #[]) (mvT hZ (own_w hw 95 rfl))) (mvT hZ (own_w hw 95 rfl)) (mvT hZ (own_w hw 93 rfl)) (by decide) (kc' := 0) (ks' := 0) (backOf (W := 0) (rmInf l Z a0 hw [] x y zc fm h0 n0 Z0 O0 S_CS hzc S_FM hfm Fc Ey Cy) hZ (own_w hw 96 rfl) (own_w hw 49 rfl) (ok rfl) (ok rfl)) (b := x) e0 Ex (g := (mkF m 2 #[.val (.ref x), .val (.int (6 : Int32)), .val (.ref y)] [(.ref y), (.ref x)])) rfl (by rw [hml]; rfl) (argsL := [(.ref y)]) (rest := []) (lenOf pd_20497 rfl) rfl (by show 2 * 0 + _ ≤ _; exact Nat.le_of_eq rfl) (hb hby d16_2) rfl (ok rfl) (ok rfl) ?_
  intro v86 T86 L86 q86 X86
  obtain ⟨rfl, N86q, hE86⟩ := q86
  have N86 := Fr.app N0 N86q
  show Goes p e below _ T86 (mkF m 5 #[.val (.ref x), .val (.int (6 : Int32)), .val (.ref y)] [])
  refine P1.aloadN X86.here hx (hb hby d16_5) rfl rfl ?_
  refine P1.aloadN X86.here hx (hb hby d16_6) rfl rfl ?_
  obtain ⟨T87, X87, e87, st87⟩ := getF X86 hx hZ hown (host := "") (Or.inl (own_w hw 53 rfl)) Via.refl hE86 Fv (g := (mkF m 7 #[.val (.ref x), .val (.int (6 : Int32)), .val (.ref y)] [(.ref x), (.ref y)])) rfl rfl (hb hby d16_7)
  refine Goes.step (T' := T87) (g' := (mkF m 10 #[.val (.ref x), .val (.int (6 : Int32)), .val (.ref y)] [(.ref t), (.ref y)])) st87 ?_
  refine P1.iloadN X87.here hx (hb hby d16_10) rfl ?_
  refine P1.aloadN X87.here hx (hb hby d16_11) rfl rfl ?_
  obtain ⟨T88, X88, e88, st88⟩ := getF X87 hx hZ hown (host := "") (Or.inl (own_w hw 55 rfl)) Via.refl e87 Fc (g := (mkF m 12 #[.val (.ref x), .val (.int (6 : Int32)), .val (.ref y)] [(.ref x), (.int (6 : Int32)), (.ref t), (.ref y)])) rfl rfl (hb hby d16_12)
  refine Goes.step (T' := T88) (g' := (mkF m 15 #[.val (.ref x), .val (.int (6 : Int32)), .val (.ref y)] [(.int (0 : Int32)), (.int (6 : Int32)), (.ref t), (.ref y)])) st88 ?_
  refine Goes.callV X88 hx hZ (y := y15_) (z := y15_) hown (mvT hZ (own_w hw 98 rfl)) (mvT hZ (own_w hw 99 rfl)) (notFace_of_selects (args := #[]) (mvT hZ (own_w hw 101 rfl))) (mvT hZ (own_w hw 101 rfl)) (mvT hZ (own_w hw 100 rfl)) (by decide) (kc' := 0) (ks' := 0) (backOf (W := 0) (rmGb6_1 l Z a0 hw [] t kt y ty ky b0 b1 b2 b3 b4 b5 c0 zc fm h0 n0 Z0 O0 S_CS hzc S_FM hfm gt Vt Ey Vy Cy Ky nety) hZ (own_w hw 102 rfl) (own_w hw 2 rfl) (ok rfl) (ok rfl)) (b := y) e88 Ey (g := (mkF m 15 #[.val (.ref x), .val (.int (6 : Int32)), .val (.ref y)] [(.int (0 : Int32)), (.int (6 : Int32)), (.ref t), (.ref y)])) rfl (by rw [hml]; rfl) (argsL := [(.ref t), (.int (6 : Int32)), (.int (0 : Int32))]) (rest := []) (lenOf pd_1890 rfl) rfl (by show 2 * 0 + _ ≤ _; exact Nat.le_of_eq rfl) (hb hby d16_15) rfl (ok rfl) (ok rfl) ?_
  intro v89 T89 L89 q89 X89
  obtain ⟨rfl, N89q, K89, g89V⟩ := q89
  have N89 := Fr.app N86 N89q
  show Goes p e below _ T89 (mkF m 18 #[.val (.ref x), .val (.int (6 : Int32)), .val (.ref y)] [])
  refine Goes.retV X89 hx Bd.notSynchronized Bd.returns (hb hby d16_18) (ok rfl) (ok rfl) ?_
  have K90 : Keep h0 T89.heap [x, t] := K0.trans K89 (allS (Or.inl (by simp)) all0)
  have E91 : Exa Z T89.heap x "java/lang/StringBuilder" := Ex.keep K89
  have ne92 : x ≠ t := own_ne_arv E91 (own_w hw 40 rfl) g89V
  have F93 : Fld Z T89.heap x "java/lang/AbstractStringBuilder" "value" "[B" (.ref t) := Fv.keep K89 (ninS ne92 nin0)
  have F94 : Fld Z T89.heap x "java/lang/AbstractStringBuilder" "coder" "B" (.int (0 : Int32)) := Fc.keep K89 (ninS ne92 nin0)
  have F95 : Fld Z T89.heap x "java/lang/AbstractStringBuilder" "count" "I" (.int (6 : Int32)) := Fn.keep K89 (ninS ne92 nin0)
  exact ⟨rfl, N89, K90, E91, F93, F94, F95, g89V⟩
theorem efLen1 (a : Addr) (m : MethodId) : entryFrame m #[(.ref a)] 1 = mkF m 0 #[.val (.ref a)] [] := by first | (simp [entryFrame, mkF, argsToLocals, Value.category]; done) | rfl
def QLen1 (Z : State) (a t : Addr) (kt : ClassId) (vs : List Value) (zc : Int32) (fm : Value) (h0 : Heap) (n0 : Nat) (v : Option Value) (h : Heap) (L : List Loc) : Prop := v = some (.int (1 : Int32)) ∧ Fr n0 L ∧ h = h0
set_option maxRecDepth 65536 in
set_option maxHeartbeats 40000000 in
theorem rmLen1 (l : Launch) (Z : State) (a0 : Array Value) (hw : ∀ d ∈ tables_1, d.before a0 Z = true) (ws : List Jvm.Cond) (a t : Addr) (kt : ClassId) (vs : List Value) (zc : Int32) (fm : Value) (h0 : Heap) (n0 : Nat) (Z0 : n0 ≤ h0.size) (O0 : Old Z n0 h0) (S_CS : Sta Z Z.heap "java/lang/String" "COMPACT_STRINGS" "Z" (.int zc)) (hzc : ¬ zc = 0) (S_FM : Sta Z Z.heap "jdk/internal/util/Preconditions" "SIOOBE_FORMATTER" "Ljava/util/function/BiFunction;" fm) (hfm : fm.isRef = true) (Ea : Exa Z h0 a "java/lang/String") (Fa : Fld Z h0 a "java/lang/String" "value" "[B" (.ref t)) (Fc : Fld Z h0 a "java/lang/String" "coder" "B" (.int (0 : Int32))) (Vt : Arv Z h0 t kt .byte (1 : Int32) vs (.int (0 : Int32))) :
    OwnLaw l y17_ jdk_42_method_54_code 1 (some .int) ws (rR 1 0 0 13) #[(.ref a)] Z h0 (QLen1 Z a t kt vs zc fm h0 n0) := by
  refine own_enter (plainFor_of_name pn_java_lang_String) (efLen1 a) ?_
  intro p e s m below meth c s₁ Bd hx hby hml hZ hown X0 e0
  have N0 := Fr.nil n0
  have K0 : Keep h0 h0 [] := Keep.refl _ _
  refine P1.aloadN X0.here hx (hb hby d13_0) rfl rfl ?_
  obtain ⟨T96, X96, e96, st96⟩ := getF X0 hx hZ hown (host := "") (Or.inl (own_w hw 28 rfl)) Via.refl e0 Fa (g := (mkF m 1 #[.val (.ref a)] [(.ref a)])) rfl rfl (hb hby d13_1)
  refine Goes.step (T' := T96) (g' := (mkF m 4 #[.val (.ref a)] [(.ref t)])) st96 ?_
  obtain ⟨cl97, Ar97, qk97, sl97, nz97, ha97, fi97⟩ := id Vt
  have al98 : cl97.slots.size.toInt32 = (1 : Int32) := len_of sl97 nz97
  refine Goes.step (T' := T96) (g' := (mkF m 5 #[.val (.ref a)] [(.int (1 : Int32))])) (fun t_ k_ => X96.arraylength hx (by rw [e96]; exact Ar97.1) (State.isArrayOf_alike hZ.alike Ar97.2.1) (g := (mkF m 4 #[.val (.ref a)] [(.ref t)])) rfl rfl (hb hby d13_4) _ <| by rw [al98]; exact k_) ?_
  refine P1.aloadN X96.here hx (hb hby d13_5) rfl rfl ?_
  refine Goes.callV X96 hx hZ (y := y14_) (z := y14_) hown (mvT hZ (own_w hw 75 rfl)) (mvT hZ (own_w hw 76 rfl)) (notFace_of_selects (args := #[]) (mvT hZ (own_w hw 78 rfl))) (mvT hZ (own_w hw 78 rfl)) (mvT hZ (own_w hw 77 rfl)) (by decide) (kc' := 0) (ks' := 0) (backOf (W := 1) (rmCod l Z a0 hw [] a zc fm h0 n0 Z0 O0 S_CS hzc S_FM hfm Fc) hZ (own_w hw 79 rfl) (own_w hw 2 rfl) (ok rfl) (ok rfl)) (b := a) e96 Ea (g := (mkF m 6 #[.val (.ref a)] [(.ref a), (.int (1 : Int32))])) rfl (by rw [hml]; rfl) (argsL := []) (rest := [(.int (1 : Int32))]) (lenOf pd_320 rfl) rfl (by show 2 * 0 + _ ≤ _; exact Nat.le_of_eq rfl) (hb hby d13_6) rfl (ok rfl) (ok rfl) ?_
  intro v99 T99 L99 q99 X99
  obtain ⟨rfl, N99q, hE99⟩ := q99
  have N99 := Fr.app N0 N99q
  show Goes p e below _ T99 (mkF m 9 #[.val (.ref a)] [(.int (0 : Int32)), (.int (1 : Int32))])
  refine Goes.step (T' := T99) (g' := (mkF m 10 #[.val (.ref a)] [(.int ((1 : Int32) >>> ((0 : Int32) &&& 31)))])) (fun t_ k_ => XS.ishr X99.here hx rfl (hb hby d13_9) rfl k_) ?_
  have rw100 : ((1 : Int32) >>> ((0 : Int32) &&& 31)) = (1 : Int32) := by decide
  rw [rw100]
  refine Goes.retI X99 hx Bd.notSynchronized Bd.returns (hb hby d13_10) (ok rfl) (ok rfl) ?_
  rw [hE99]
  exact ⟨rfl, N99, rfl⟩
theorem efEns7 (x : Addr) (m : MethodId) : entryFrame m #[(.ref x), (.int (7 : Int32))] 3 = mkF m 0 #[.val (.ref x), .val (.int (7 : Int32)), .unset] [] := by first | (simp [entryFrame, mkF, argsToLocals, Value.category]; done) | rfl
def QEns7 (Z : State) (x t : Addr) (kt : ClassId) (vs : List Value) (h0 : Heap) (n0 : Nat) (v : Option Value) (h : Heap) (L : List Loc) : Prop := v = none ∧ Fr n0 L ∧ h = h0
set_option maxRecDepth 65536 in
set_option maxHeartbeats 40000000 in
theorem rmEns7 (l : Launch) (Z : State) (a0 : Array Value) (hw : ∀ d ∈ tables_1, d.before a0 Z = true) (ws : List Jvm.Cond) (x t : Addr) (kt : ClassId) (vs : List Value) (h0 : Heap) (n0 : Nat) (Z0 : n0 ≤ h0.size) (O0 : Old Z n0 h0) (Ex : Exa Z h0 x "java/lang/StringBuilder") (Fv : Fld Z h0 x "java/lang/AbstractStringBuilder" "value" "[B" (.ref t)) (Fc : Fld Z h0 x "java/lang/AbstractStringBuilder" "coder" "B" (.int (0 : Int32))) (Vt : Arv Z h0 t kt .byte (16 : Int32) vs (.int (0 : Int32))) :
    OwnLaw l y3_ jdk_68_method_9_code 3 none ws (rR 0 0 0 0) #[(.ref x), (.int (7 : Int32))] Z h0 (QEns7 Z x t kt vs h0 n0) := by
  refine own_enter (plainFor_of_name pn_java_lang_AbstractStringBuilder) (efEns7 x) ?_
  intro p e s m below meth c s₁ Bd hx hby hml hZ hown X0 e0
  have N0 := Fr.nil n0
  have K0 : Keep h0 h0 [] := Keep.refl _ _
  refine P1.aloadN X0.here hx (hb hby d15_0) rfl rfl ?_
  obtain ⟨T104, X104, e104, st104⟩ := getF X0 hx hZ hown (host := "") (Or.inl (own_w hw 53 rfl)) Via.refl e0 Fv (g := (mkF m 1 #[.val (.ref x), .val (.int (7 : Int32)), .unset] [(.ref x)])) rfl rfl (hb hby d15_1)
  refine Goes.step (T' := T104) (g' := (mkF m 4 #[.val (.ref x), .val (.int (7 : Int32)), .unset] [(.ref t)])) st104 ?_
  obtain ⟨cl105, Ar105, qk105, sl105, nz105, ha105, fi105⟩ := id Vt
  have al106 : cl105.slots.size.toInt32 = (16 : Int32) := len_of sl105 nz105
  refine Goes.step (T' := T104) (g' := (mkF m 5 #[.val (.ref x), .val (.int (7 : Int32)), .unset] [(.int (16 : Int32))])) (fun t_ k_ => X104.arraylength hx (by rw [e104]; exact Ar105.1) (State.isArrayOf_alike hZ.alike Ar105.2.1) (g := (mkF m 4 #[.val (.ref x), .val (.int (7 : Int32)), .unset] [(.ref t)])) rfl rfl (hb hby d15_4) _ <| by rw [al106]; exact k_) ?_
  refine P1.aloadN X104.here hx (hb hby d15_5) rfl rfl ?_
  obtain ⟨T107, X107, e107, st107⟩ := getF X104 hx hZ hown (host := "") (Or.inl (own_w hw 55 rfl)) Via.refl e104 Fc (g := (mkF m 6 #[.val (.ref x), .val (.int (7 : Int32)), .unset] [(.ref x), (.int (16 : Int32))])) rfl rfl (hb hby d15_6)
  refine Goes.step (T' := T107) (g' := (mkF m 9 #[.val (.ref x), .val (.int (7 : Int32)), .unset] [(.int (0 : Int32)), (.int (16 : Int32))])) st107 ?_
  refine Goes.step (T' := T107) (g' := (mkF m 10 #[.val (.ref x), .val (.int (7 : Int32)), .unset] [(.int ((16 : Int32) >>> ((0 : Int32) &&& 31)))])) (fun t_ k_ => XS.ishr X107.here hx rfl (hb hby d15_9) rfl k_) ?_
  have rw108 : ((16 : Int32) >>> ((0 : Int32) &&& 31)) = (16 : Int32) := by decide
  rw [rw108]
  refine P1.istoreN X107.here hx #[.val (.ref x), .val (.int (7 : Int32)), .val (.int (16 : Int32))] (hb hby d15_10) rfl ?_
  refine P1.iloadN X107.here hx (hb hby d15_11) rfl ?_
  refine P1.iloadN X107.here hx (hb hby d15_12) rfl ?_
  refine P1.isub X107.here hx (hb hby d15_13) ?_
  have rw109 : ((7 : Int32) - (16 : Int32)) = (-9 : Int32) := by decide
  rw [rw109]
  refine P1.ifYes X107.here hx 38 (hb hby d15_14) ((if0 _ _).trans (flt (by decide : ¬ ((0 : Int32) < (-9 : Int32)))).2.2.2) (by decide) (by decide) ?_
  refine Goes.retV X107 hx Bd.notSynchronized Bd.returns (hb hby d15_38) (ok rfl) (ok rfl) ?_
  rw [e107]
  exact ⟨rfl, N0, rfl⟩
theorem efAp6_1 (x y : Addr) (m : MethodId) : entryFrame m #[(.ref x), (.ref y)] 3 = mkF m 0 #[.val (.ref x), .val (.ref y), .unset] [] := by first | (simp [entryFrame, mkF, argsToLocals, Value.category]; done) | rfl
def QAp6_1 (Z : State) (x t : Addr) (kt : ClassId) (y ty : Addr) (ky : ClassId) (b0 b1 b2 b3 b4 b5 c0 zc : Int32) (fm : Value) (h0 : Heap) (n0 : Nat) (v : Option Value) (h : Heap) (L : List Loc) : Prop := v = some (.ref x) ∧ Fr n0 L ∧ Keep h0 h [x, t] ∧ Exa Z h x "java/lang/StringBuilder" ∧ Fld Z h x "java/lang/AbstractStringBuilder" "value" "[B" (.ref t) ∧ Fld Z h x "java/lang/AbstractStringBuilder" "coder" "B" (.int (0 : Int32)) ∧ Fld Z h x "java/lang/AbstractStringBuilder" "count" "I" (.int (7 : Int32)) ∧ Arv Z h t kt .byte (16 : Int32) [(.int b0), (.int b1), (.int b2), (.int b3), (.int b4), (.int b5), (.int c0)] (.int (0 : Int32))
set_option maxRecDepth 65536 in
set_option maxHeartbeats 40000000 in
theorem rmAp6_1 (l : Launch) (Z : State) (a0 : Array Value) (hw : ∀ d ∈ tables_1, d.before a0 Z = true) (ws : List Jvm.Cond) (x t : Addr) (kt : ClassId) (y ty : Addr) (ky : ClassId) (b0 b1 b2 b3 b4 b5 c0 zc : Int32) (fm : Value) (h0 : Heap) (n0 : Nat) (Z0 : n0 ≤ h0.size) (O0 : Old Z n0 h0) (S_CS : Sta Z Z.heap "java/lang/String" "COMPACT_STRINGS" "Z" (.int zc)) (hzc : ¬ zc = 0) (S_FM : Sta Z Z.heap "jdk/internal/util/Preconditions" "SIOOBE_FORMATTER" "Ljava/util/function/BiFunction;" fm) (hfm : fm.isRef = true) (gx : n0 ≤ x) (gt : n0 ≤ t) (Ex : Exa Z h0 x "java/lang/StringBuilder") (Fv : Fld Z h0 x "java/lang/AbstractStringBuilder" "value" "[B" (.ref t)) (Fc : Fld Z h0 x "java/lang/AbstractStringBuilder" "coder" "B" (.int (0 : Int32))) (Fn : Fld Z h0 x "java/lang/AbstractStringBuilder" "count" "I" (.int (6 : Int32))) (Vt : Arv Z h0 t kt .byte (16 : Int32) [(.int b0), (.int b1), (.int b2), (.int b3), (.int b4), (.int b5)] (.int (0 : Int32))) (Ey : Exa Z h0 y "java/lang/String") (Vy : Fld Z h0 y "java/lang/String" "value" "[B" (.ref ty)) (Cy : Fld Z h0 y "java/lang/String" "coder" "B" (.int (0 : Int32))) (Ky : Arv Z h0 ty ky .byte (1 : Int32) [(.int c0)] (.int (0 : Int32))) (nety : ty ≠ t) :
    OwnLaw l y2_ jdk_68_method_22_code 3 (some (.object "java/lang/AbstractStringBuilder")) ws (rR 3 0 0 47) #[(.ref x), (.ref y)] Z h0 (QAp6_1 Z x t kt y ty ky b0 b1 b2 b3 b4 b5 c0 zc fm h0 n0) := by
  refine own_enter (plainFor_of_name pn_java_lang_AbstractStringBuilder) (efAp6_1 x y) ?_
  intro p e s m below meth c s₁ Bd hx hby hml hZ hown X0 e0
  have N0 := Fr.nil n0
  have K0 : Keep h0 h0 [] := Keep.refl _ _
  have K0 : Keep h0 h0 [x, t] := Keep.refl _ _
  refine P1.aloadN X0.here hx (hb hby d12_0) rfl rfl ?_
  refine P1.ifnonnullYes X0.here hx 9 (hb hby d12_1) (by decide) (by decide) ?_
  refine P1.aloadN X0.here hx (hb hby d12_9) rfl rfl ?_
  refine Goes.callV X0 hx hZ (y := y17_) (z := y17_) hown (mvT hZ (own_w hw 70 rfl)) (mvT hZ (own_w hw 71 rfl)) (notFace_of_selects (args := #[]) (mvT hZ (own_w hw 73 rfl))) (mvT hZ (own_w hw 73 rfl)) (mvT hZ (own_w hw 72 rfl)) (by decide) (kc' := 0) (ks' := 0) (backOf (W := 0) (rmLen1 l Z a0 hw [] y ty ky [(.int c0)] zc fm h0 n0 Z0 O0 S_CS hzc S_FM hfm Ey Vy Cy Ky) hZ (own_w hw 74 rfl) (own_w hw 2 rfl) (ok rfl) (ok rfl)) (b := y) e0 Ey (g := (mkF m 10 #[.val (.ref x), .val (.ref y), .unset] [(.ref y)])) rfl (by rw [hml]; rfl) (argsL := []) (rest := []) (lenOf pd_341 rfl) rfl (by show 2 * 0 + _ ≤ _; exact Nat.le_of_eq rfl) (hb hby d12_10) rfl (ok rfl) (ok rfl) ?_
  intro v101 T101 L101 q101 X101
  obtain ⟨rfl, N101q, hE101⟩ := q101
  have N101 := Fr.app N0 N101q
  show Goes p e below _ T101 (mkF m 13 #[.val (.ref x), .val (.ref y), .unset] [(.int (1 : Int32))])
  refine P1.istoreN X101.here hx #[.val (.ref x), .val (.ref y), .val (.int (1 : Int32))] (hb hby d12_13) rfl ?_
  refine P1.aloadN X101.here hx (hb hby d12_14) rfl rfl ?_
  refine P1.aloadN X101.here hx (hb hby d12_15) rfl rfl ?_
  obtain ⟨T102, X102, e102, st102⟩ := getF X101 hx hZ hown (host := "") (Or.inl (own_w hw 80 rfl)) Via.refl hE101 Fn (g := (mkF m 16 #[.val (.ref x), .val (.ref y), .val (.int (1 : Int32))] [(.ref x), (.ref x)])) rfl rfl (hb hby d12_16)
  refine Goes.step (T' := T102) (g' := (mkF m 19 #[.val (.ref x), .val (.ref y), .val (.int (1 : Int32))] [(.int (6 : Int32)), (.ref x)])) st102 ?_
  refine P1.iloadN X102.here hx (hb hby d12_19) rfl ?_
  refine P1.iadd X102.here hx (hb hby d12_20) ?_
  have rw103 : ((6 : Int32) + (1 : Int32)) = (7 : Int32) := by decide
  rw [rw103]
  refine Goes.callV X102 hx hZ (y := y3_) (z := y3_) hown (mvT hZ (own_w hw 82 rfl)) (mvT hZ (own_declares (own_w hw 83 rfl) (own_w hw 86 rfl))) (notFace_of_selects (args := #[]) (mvT hZ (own_w hw 85 rfl))) (mvT hZ (own_w hw 85 rfl)) (mvT hZ (own_w hw 83 rfl)) (by decide) (kc' := 0) (ks' := 0) (backOf (W := 0) (rmEns7 l Z a0 hw [] x t kt [(.int b0), (.int b1), (.int b2), (.int b3), (.int b4), (.int b5)] h0 n0 Z0 O0 Ex Fv Fc Vt) hZ (own_w hw 86 rfl) (own_w hw 49 rfl) (ok rfl) (ok rfl)) (b := x) e102 Ex (g := (mkF m 21 #[.val (.ref x), .val (.ref y), .val (.int (1 : Int32))] [(.int (7 : Int32)), (.ref x)])) rfl (by rw [hml]; rfl) (argsL := [(.int (7 : Int32))]) (rest := []) (lenOf pd_653 rfl) rfl (by show 2 * 0 + _ ≤ _; exact Nat.le_of_eq rfl) (hb hby d12_21) rfl (ok rfl) (ok rfl) ?_
  intro v110 T110 L110 q110 X110
  obtain ⟨rfl, N110q, hE110⟩ := q110
  have N110 := Fr.app N101 N110q
  show Goes p e below _ T110 (mkF m 24 #[.val (.ref x), .val (.ref y), .val (.int (1 : Int32))] [])
  refine P1.aloadN X110.here hx (hb hby d12_24) rfl rfl ?_
  refine P1.aloadN X110.here hx (hb hby d12_25) rfl rfl ?_
  obtain ⟨T111, X111, e111, st111⟩ := getF X110 hx hZ hown (host := "") (Or.inl (own_w hw 80 rfl)) Via.refl hE110 Fn (g := (mkF m 26 #[.val (.ref x), .val (.ref y), .val (.int (1 : Int32))] [(.ref x), (.ref x)])) rfl rfl (hb hby d12_26)
  refine Goes.step (T' := T111) (g' := (mkF m 29 #[.val (.ref x), .val (.ref y), .val (.int (1 : Int32))] [(.int (6 : Int32)), (.ref x)])) st111 ?_
  refine P1.aloadN X111.here hx (hb hby d12_29) rfl rfl ?_
  refine Goes.callV X111 hx hZ (y := y8_) (z := y8_) hown (mvT hZ (own_w hw 87 rfl)) (mvT hZ (own_declares (own_w hw 88 rfl) (own_w hw 91 rfl))) (notFace_of_selects (args := #[]) (mvT hZ (own_w hw 90 rfl))) (mvT hZ (own_w hw 90 rfl)) (mvT hZ (own_w hw 88 rfl)) (by decide) (kc' := 0) (ks' := 0) (backOf (W := 0) (rmPu6_1 l Z a0 hw [] x t kt y ty ky b0 b1 b2 b3 b4 b5 c0 zc fm h0 n0 Z0 O0 S_CS hzc S_FM hfm gx gt Ex Fv Fc Fn Vt Ey Vy Cy Ky nety) hZ (own_w hw 91 rfl) (own_w hw 49 rfl) (ok rfl) (ok rfl)) (b := x) e111 Ex (g := (mkF m 30 #[.val (.ref x), .val (.ref y), .val (.int (1 : Int32))] [(.ref y), (.int (6 : Int32)), (.ref x)])) rfl (by rw [hml]; rfl) (argsL := [(.int (6 : Int32)), (.ref y)]) (rest := []) (lenOf pd_22466 rfl) rfl (by show 2 * 0 + _ ≤ _; exact Nat.le_of_eq rfl) (hb hby d12_30) rfl (ok rfl) (ok rfl) ?_
  intro v112 T112 L112 q112 X112
  obtain ⟨rfl, N112q, K112, g112E, g112v, g112c, g112n, g112V⟩ := q112
  have N112 := Fr.app N110 N112q
  show Goes p e below _ T112 (mkF m 33 #[.val (.ref x), .val (.ref y), .val (.int (1 : Int32))] [])
  refine P1.aloadN X112.here hx (hb hby d12_33) rfl rfl ?_
  refine P1.dup X112.here hx (hb hby d12_34) rfl ?_
  obtain ⟨T113, X113, e113, st113⟩ := getF X112 hx hZ hown (host := "") (Or.inl (own_w hw 80 rfl)) Via.refl rfl g112n (g := (mkF m 35 #[.val (.ref x), .val (.ref y), .val (.int (1 : Int32))] [(.ref x), (.ref x)])) rfl rfl (hb hby d12_35)
  refine Goes.step (T' := T113) (g' := (mkF m 38 #[.val (.ref x), .val (.ref y), .val (.int (1 : Int32))] [(.int (6 : Int32)), (.ref x)])) st113 ?_
  refine P1.iloadN X113.here hx (hb hby d12_38) rfl ?_
  refine P1.iadd X113.here hx (hb hby d12_39) ?_
  have rw114 : ((6 : Int32) + (1 : Int32)) = (7 : Int32) := by decide
  rw [rw114]
  obtain ⟨T115, h115, X115, e115, W115, st115⟩ := putF X113 hx hZ hown (host := "") (Or.inl (own_w hw 80 rfl)) Via.refl e113 g112n g112E (Or.inl (own_w hw 81 rfl)) (own_w hw 40 rfl) (ty := .int) (by decide) rfl rfl (g := (mkF m 40 #[.val (.ref x), .val (.ref y), .val (.int (1 : Int32))] [(.int (7 : Int32)), (.ref x)])) rfl rfl (hb hby d12_40)
  have Fw115 : Fld Z h115 x "java/lang/AbstractStringBuilder" "count" "I" (.int (7 : Int32)) := g112n.same W115
  have N115 := Fr.snoc X115 N112 gx
  refine Goes.step (T' := T115) (g' := (mkF m 43 #[.val (.ref x), .val (.ref y), .val (.int (1 : Int32))] [])) st115 ?_
  refine P1.aloadN X115.here hx (hb hby d12_43) rfl rfl ?_
  refine Goes.retA X115 hx Bd.notSynchronized Bd.returns rfl rfl (hb hby d12_44) (ok rfl) (ok rfl) ?_
  rw [e115]
  have K116 : Keep h0 T112.heap [x, t] := K0.trans K112 (allS (Or.inl (by simp)) (allS (Or.inl (by simp)) all0))
  have K117 : Keep h0 h115 [x, t] := K116.wr W115 (Or.inl (by simp))
  have E118 : Exa Z h115 x "java/lang/StringBuilder" := g112E.wr W115
  have F119 : Fld Z h115 x "java/lang/AbstractStringBuilder" "value" "[B" (.ref t) := g112v.other W115 (Or.inr (slot_ne (Or.inl (own_w hw 54 rfl)) (Or.inl (own_w hw 81 rfl)) (by decide) (t := (.array .byte)) (t' := .int) (by decide) (by decide)))
  have F120 : Fld Z h115 x "java/lang/AbstractStringBuilder" "coder" "B" (.int (0 : Int32)) := g112c.other W115 (Or.inr (slot_ne (Or.inl (own_w hw 56 rfl)) (Or.inl (own_w hw 81 rfl)) (by decide) (t := .byte) (t' := .int) (by decide) (by decide)))
  have ne121 : x ≠ t := own_ne_arv g112E (own_w hw 40 rfl) g112V
  have V122 : Arv Z h115 t kt .byte (16 : Int32) [(.int b0), (.int b1), (.int b2), (.int b3), (.int b4), (.int b5), (.int c0)] (.int (0 : Int32)) := g112V.other W115 (Ne.symm ne121)
  exact ⟨rfl, N115, K117, E118, F119, F120, Fw115, V122⟩
theorem efSp6_1 (x y : Addr) (m : MethodId) : entryFrame m #[(.ref x), (.ref y)] 2 = mkF m 0 #[.val (.ref x), .val (.ref y)] [] := by first | (simp [entryFrame, mkF, argsToLocals, Value.category]; done) | rfl
def QSp6_1 (Z : State) (x t : Addr) (kt : ClassId) (y ty : Addr) (ky : ClassId) (b0 b1 b2 b3 b4 b5 c0 zc : Int32) (fm : Value) (h0 : Heap) (n0 : Nat) (v : Option Value) (h : Heap) (L : List Loc) : Prop := v = some (.ref x) ∧ Fr n0 L ∧ Keep h0 h [x, t] ∧ Exa Z h x "java/lang/StringBuilder" ∧ Fld Z h x "java/lang/AbstractStringBuilder" "value" "[B" (.ref t) ∧ Fld Z h x "java/lang/AbstractStringBuilder" "coder" "B" (.int (0 : Int32)) ∧ Fld Z h x "java/lang/AbstractStringBuilder" "count" "I" (.int (7 : Int32)) ∧ Arv Z h t kt .byte (16 : Int32) [(.int b0), (.int b1), (.int b2), (.int b3), (.int b4), (.int b5), (.int c0)] (.int (0 : Int32))
set_option maxRecDepth 65536 in
set_option maxHeartbeats 40000000 in
theorem rmSp6_1 (l : Launch) (Z : State) (a0 : Array Value) (hw : ∀ d ∈ tables_1, d.before a0 Z = true) (ws : List Jvm.Cond) (x t : Addr) (kt : ClassId) (y ty : Addr) (ky : ClassId) (b0 b1 b2 b3 b4 b5 c0 zc : Int32) (fm : Value) (h0 : Heap) (n0 : Nat) (Z0 : n0 ≤ h0.size) (O0 : Old Z n0 h0) (S_CS : Sta Z Z.heap "java/lang/String" "COMPACT_STRINGS" "Z" (.int zc)) (hzc : ¬ zc = 0) (S_FM : Sta Z Z.heap "jdk/internal/util/Preconditions" "SIOOBE_FORMATTER" "Ljava/util/function/BiFunction;" fm) (hfm : fm.isRef = true) (gx : n0 ≤ x) (gt : n0 ≤ t) (Ex : Exa Z h0 x "java/lang/StringBuilder") (Fv : Fld Z h0 x "java/lang/AbstractStringBuilder" "value" "[B" (.ref t)) (Fc : Fld Z h0 x "java/lang/AbstractStringBuilder" "coder" "B" (.int (0 : Int32))) (Fn : Fld Z h0 x "java/lang/AbstractStringBuilder" "count" "I" (.int (6 : Int32))) (Vt : Arv Z h0 t kt .byte (16 : Int32) [(.int b0), (.int b1), (.int b2), (.int b3), (.int b4), (.int b5)] (.int (0 : Int32))) (Ey : Exa Z h0 y "java/lang/String") (Vy : Fld Z h0 y "java/lang/String" "value" "[B" (.ref ty)) (Cy : Fld Z h0 y "java/lang/String" "coder" "B" (.int (0 : Int32))) (Ky : Arv Z h0 ty ky .byte (1 : Int32) [(.int c0)] (.int (0 : Int32))) (nety : ty ≠ t) :
    OwnLaw l y19_ jdk_67_method_7_code 2 (some (.object "java/lang/StringBuilder")) ws (rR 4 0 0 61) #[(.ref x), (.ref y)] Z h0 (QSp6_1 Z x t kt y ty ky b0 b1 b2 b3 b4 b5 c0 zc fm h0 n0) := by
  refine own_enter (plainFor_of_name pn_java_lang_StringBuilder) (efSp6_1 x y) ?_
  intro p e s m below meth c s₁ Bd hx hby hml hZ hown X0 e0
  have N0 := Fr.nil n0
  have K0 : Keep h0 h0 [] := Keep.refl _ _
  have K0 : Keep h0 h0 [x, t] := Keep.refl _ _
  refine P1.aloadN X0.here hx (hb hby d11_0) rfl rfl ?_
  refine P1.aloadN X0.here hx (hb hby d11_1) rfl rfl ?_
  refine Goes.callSup X0 hx hZ (y := y2_) hown (own_w hw 65 rfl) (own_sameMethod (own_w hw 66 rfl) (own_w hw 85 rfl) rfl (by decide)) (own_w hw 66 rfl) (own_w hw 67 rfl) (by decide) (kc' := 0) (ks' := 0) (backOf (W := 0) (rmAp6_1 l Z a0 hw [] x t kt y ty ky b0 b1 b2 b3 b4 b5 c0 zc fm h0 n0 Z0 O0 S_CS hzc S_FM hfm gx gt Ex Fv Fc Fn Vt Ey Vy Cy Ky nety) hZ (own_w hw 69 rfl) (own_w hw 49 rfl) (ok rfl) (ok rfl)) (a := x) e0 (Ins.of_exa Ex (own_w hw 48 rfl)) (own_w hw 69 rfl) (g := (mkF m 2 #[.val (.ref x), .val (.ref y)] [(.ref y), (.ref x)])) rfl (by rw [hml]; rfl) (argsL := [(.ref y)]) (rest := []) (lenOf pd_138888 rfl) rfl (by show 2 * 0 + _ ≤ _; exact Nat.le_of_eq rfl) (hb hby d11_2) rfl (ok rfl) (ok rfl) ?_
  intro v123 T123 L123 q123 X123
  obtain ⟨rfl, N123q, K123, g123E, g123v, g123c, g123n, g123V⟩ := q123
  have N123 := Fr.app N0 N123q
  show Goes p e below _ T123 (mkF m 5 #[.val (.ref x), .val (.ref y)] [(.ref x)])
  refine P1.pop X123.here hx (hb hby d11_5) rfl ?_
  refine P1.aloadN X123.here hx (hb hby d11_6) rfl rfl ?_
  refine Goes.retA X123 hx Bd.notSynchronized Bd.returns rfl rfl (hb hby d11_7) (ok rfl) (ok rfl) ?_
  have K124 : Keep h0 T123.heap [x, t] := K0.trans K123 (allS (Or.inl (by simp)) (allS (Or.inl (by simp)) all0))
  exact ⟨rfl, N123, K124, g123E, g123v, g123c, g123n, g123V⟩
theorem efGb7_1 (y t : Addr) (m : MethodId) : entryFrame m #[(.ref y), (.ref t), (.int (7 : Int32)), (.int (0 : Int32))] 4 = mkF m 0 #[.val (.ref y), .val (.ref t), .val (.int (7 : Int32)), .val (.int (0 : Int32))] [] := by first | (simp [entryFrame, mkF, argsToLocals, Value.category]; done) | rfl
def QGb7_1 (Z : State) (t : Addr) (kt : ClassId) (y ty : Addr) (ky : ClassId) (b0 b1 b2 b3 b4 b5 b6 c0 zc : Int32) (fm : Value) (h0 : Heap) (n0 : Nat) (v : Option Value) (h : Heap) (L : List Loc) : Prop := v = none ∧ Fr n0 L ∧ Keep h0 h [t] ∧ Arv Z h t kt .byte (16 : Int32) [(.int b0), (.int b1), (.int b2), (.int b3), (.int b4), (.int b5), (.int b6), (.int c0)] (.int (0 : Int32))
set_option maxRecDepth 65536 in
set_option maxHeartbeats 40000000 in
theorem rmGb7_1 (l : Launch) (Z : State) (a0 : Array Value) (hw : ∀ d ∈ tables_1, d.before a0 Z = true) (ws : List Jvm.Cond) (t : Addr) (kt : ClassId) (y ty : Addr) (ky : ClassId) (b0 b1 b2 b3 b4 b5 b6 c0 zc : Int32) (fm : Value) (h0 : Heap) (n0 : Nat) (Z0 : n0 ≤ h0.size) (O0 : Old Z n0 h0) (S_CS : Sta Z Z.heap "java/lang/String" "COMPACT_STRINGS" "Z" (.int zc)) (hzc : ¬ zc = 0) (S_FM : Sta Z Z.heap "jdk/internal/util/Preconditions" "SIOOBE_FORMATTER" "Ljava/util/function/BiFunction;" fm) (hfm : fm.isRef = true) (gt : n0 ≤ t) (Vt : Arv Z h0 t kt .byte (16 : Int32) [(.int b0), (.int b1), (.int b2), (.int b3), (.int b4), (.int b5), (.int b6)] (.int (0 : Int32))) (Ey : Exa Z h0 y "java/lang/String") (Vy : Fld Z h0 y "java/lang/String" "value" "[B" (.ref ty)) (Cy : Fld Z h0 y "java/lang/String" "coder" "B" (.int (0 : Int32))) (Ky : Arv Z h0 ty ky .byte (1 : Int32) [(.int c0)] (.int (0 : Int32))) (nety : ty ≠ t) :
    OwnLaw l y15_ jdk_42_method_147_code 4 none ws (rR 1 0 0 18) #[(.ref y), (.ref t), (.int (7 : Int32)), (.int (0 : Int32))] Z h0 (QGb7_1 Z t kt y ty ky b0 b1 b2 b3 b4 b5 b6 c0 zc fm h0 n0) := by
  refine own_enter (plainFor_of_name pn_java_lang_String) (efGb7_1 y t) ?_
  intro p e s m below meth c s₁ Bd hx hby hml hZ hown X0 e0
  have N0 := Fr.nil n0
  have K0 : Keep h0 h0 [] := Keep.refl _ _
  have K0 : Keep h0 h0 [t] := Keep.refl _ _
  refine P1.aloadN X0.here hx (hb hby d18_0) rfl rfl ?_
  refine Goes.callV X0 hx hZ (y := y14_) (z := y14_) hown (mvT hZ (own_w hw 75 rfl)) (mvT hZ (own_w hw 76 rfl)) (notFace_of_selects (args := #[]) (mvT hZ (own_w hw 78 rfl))) (mvT hZ (own_w hw 78 rfl)) (mvT hZ (own_w hw 77 rfl)) (by decide) (kc' := 0) (ks' := 0) (backOf (W := 0) (rmCod l Z a0 hw [] y zc fm h0 n0 Z0 O0 S_CS hzc S_FM hfm Cy) hZ (own_w hw 79 rfl) (own_w hw 2 rfl) (ok rfl) (ok rfl)) (b := y) e0 Ey (g := (mkF m 1 #[.val (.ref y), .val (.ref t), .val (.int (7 : Int32)), .val (.int (0 : Int32))] [(.ref y)])) rfl (by rw [hml]; rfl) (argsL := []) (rest := []) (lenOf pd_320 rfl) rfl (by show 2 * 0 + _ ≤ _; exact Nat.le_of_eq rfl) (hb hby d18_1) rfl (ok rfl) (ok rfl) ?_
  intro v125 T125 L125 q125 X125
  obtain ⟨rfl, N125q, hE125⟩ := q125
  have N125 := Fr.app N0 N125q
  show Goes p e below _ T125 (mkF m 4 #[.val (.ref y), .val (.ref t), .val (.int (7 : Int32)), .val (.int (0 : Int32))] [(.int (0 : Int32))])
  refine P1.iloadN X125.here hx (hb hby d18_4) rfl ?_
  refine P1.icmpNo X125.here hx (hb hby d18_5) (teq (by decide : (0 : Int32) = (0 : Int32))).2 ?_
  refine P1.aloadN X125.here hx (hb hby d18_8) rfl rfl ?_
  obtain ⟨T126, X126, e126, st126⟩ := getF X125 hx hZ hown (host := "") (Or.inl (own_w hw 28 rfl)) Via.refl hE125 Vy (g := (mkF m 9 #[.val (.ref y), .val (.ref t), .val (.int (7 : Int32)), .val (.int (0 : Int32))] [(.ref y)])) rfl rfl (hb hby d18_9)
  refine Goes.step (T' := T126) (g' := (mkF m 12 #[.val (.ref y), .val (.ref t), .val (.int (7 : Int32)), .val (.int (0 : Int32))] [(.ref ty)])) st126 ?_
  refine P1.iconst X126.here hx (0 : Int32) (hb hby d18_12) rfl ?_
  refine P1.aloadN X126.here hx (hb hby d18_13) rfl rfl ?_
  refine P1.iloadN X126.here hx (hb hby d18_14) rfl ?_
  refine P1.iloadN X126.here hx (hb hby d18_15) rfl ?_
  refine Goes.step (T' := T126) (g' := (mkF m 17 #[.val (.ref y), .val (.ref t), .val (.int (7 : Int32)), .val (.int (0 : Int32))] [(.int ((7 : Int32) <<< ((0 : Int32) &&& 31))), (.ref t), (.int (0 : Int32)), (.ref ty)])) (fun t_ k_ => XS.ishl X126.here hx rfl (hb hby d18_16) rfl k_) ?_
  have rw127 : ((7 : Int32) <<< ((0 : Int32) &&& 31)) = (7 : Int32) := by decide
  rw [rw127]
  refine P1.aloadN X126.here hx (hb hby d18_17) rfl rfl ?_
  obtain ⟨T128, X128, e128, st128⟩ := getF X126 hx hZ hown (host := "") (Or.inl (own_w hw 28 rfl)) Via.refl e126 Vy (g := (mkF m 18 #[.val (.ref y), .val (.ref t), .val (.int (7 : Int32)), .val (.int (0 : Int32))] [(.ref y), (.int (7 : Int32)), (.ref t), (.int (0 : Int32)), (.ref ty)])) rfl rfl (hb hby d18_18)
  refine Goes.step (T' := T128) (g' := (mkF m 21 #[.val (.ref y), .val (.ref t), .val (.int (7 : Int32)), .val (.int (0 : Int32))] [(.ref ty), (.int (7 : Int32)), (.ref t), (.int (0 : Int32)), (.ref ty)])) st128 ?_
  obtain ⟨cl129, Ar129, qk129, sl129, nz129, ha129, fi129⟩ := id Ky
  have al130 : cl129.slots.size.toInt32 = (1 : Int32) := len_of sl129 nz129
  refine Goes.step (T' := T128) (g' := (mkF m 22 #[.val (.ref y), .val (.ref t), .val (.int (7 : Int32)), .val (.int (0 : Int32))] [(.int (1 : Int32)), (.int (7 : Int32)), (.ref t), (.int (0 : Int32)), (.ref ty)])) (fun t_ k_ => X128.arraylength hx (by rw [e128]; exact Ar129.1) (State.isArrayOf_alike hZ.alike Ar129.2.1) (g := (mkF m 21 #[.val (.ref y), .val (.ref t), .val (.int (7 : Int32)), .val (.int (0 : Int32))] [(.ref ty), (.int (7 : Int32)), (.ref t), (.int (0 : Int32)), (.ref ty)])) rfl rfl (hb hby d18_21) _ <| by rw [al130]; exact k_) ?_
  have V131 : Arv Z h0 t kt .byte (16 : Int32) [(.int b0), (.int b1), (.int b2), (.int b3), (.int b4), (.int b5), (.int b6), (.int (0 : Int32))] (.int (0 : Int32)) := Vt.pad (pad_rep [(.int b0), (.int b1), (.int b2), (.int b3), (.int b4), (.int b5), (.int b6)] (.int (0 : Int32)) 1)
  obtain ⟨T132, h132, L132, X132, e132, N132, K132, Va132, st132⟩ := cpA X128 hx hZ hown (own_w hw 103 rfl) (own_w hw 106 rfl) (own_w hw 104 rfl) (own_w hw 105 rfl) e128 Ky V131 (us := [(.int c0)]) (Or.inl ⟨rfl, rfl⟩) (by decide) (by decide) (by decide) (ok rfl) (ok rfl) rfl (ok rfl) N125 gt (g := (mkF m 22 #[.val (.ref y), .val (.ref t), .val (.int (7 : Int32)), .val (.int (0 : Int32))] [(.int (1 : Int32)), (.int (7 : Int32)), (.ref t), (.int (0 : Int32)), (.ref ty)])) rfl (by rw [hml]; rfl) rfl (hb hby d18_22) (ok rfl) (W := 0) (by show 2 * 0 + _ ≤ _; exact Nat.le_of_eq rfl) (ok rfl)
  have V132 : Arv Z h132 t kt .byte (16 : Int32) [(.int b0), (.int b1), (.int b2), (.int b3), (.int b4), (.int b5), (.int b6), (.int c0)] (.int (0 : Int32)) := Va132
  refine Goes.step (T' := T132) (g' := (mkF m 25 #[.val (.ref y), .val (.ref t), .val (.int (7 : Int32)), .val (.int (0 : Int32))] [])) st132 ?_
  refine P1.goto X132.here hx 43 (hb hby d18_25) (by decide) (by decide) ?_
  refine Goes.retV X132 hx Bd.notSynchronized Bd.returns (hb hby d18_43) (ok rfl) (ok rfl) ?_
  rw [e132]
  have K133 : Keep h0 h132 [t] := K0.trans K132 (allS (Or.inl (by simp)) all0)
  exact ⟨rfl, N132, K133, V132⟩
theorem efPu7_1 (x y : Addr) (m : MethodId) : entryFrame m #[(.ref x), (.int (7 : Int32)), (.ref y)] 3 = mkF m 0 #[.val (.ref x), .val (.int (7 : Int32)), .val (.ref y)] [] := by first | (simp [entryFrame, mkF, argsToLocals, Value.category]; done) | rfl
def QPu7_1 (Z : State) (x t : Addr) (kt : ClassId) (y ty : Addr) (ky : ClassId) (b0 b1 b2 b3 b4 b5 b6 c0 zc : Int32) (fm : Value) (h0 : Heap) (n0 : Nat) (v : Option Value) (h : Heap) (L : List Loc) : Prop := v = none ∧ Fr n0 L ∧ Keep h0 h [x, t] ∧ Exa Z h x "java/lang/StringBuilder" ∧ Fld Z h x "java/lang/AbstractStringBuilder" "value" "[B" (.ref t) ∧ Fld Z h x "java/lang/AbstractStringBuilder" "coder" "B" (.int (0 : Int32)) ∧ Fld Z h x "java/lang/AbstractStringBuilder" "count" "I" (.int (7 : Int32)) ∧ Arv Z h t kt .byte (16 : Int32) [(.int b0), (.int b1), (.int b2), (.int b3), (.int b4), (.int b5), (.int b6), (.int c0)] (.int (0 : Int32))
set_option maxRecDepth 65536 in
set_option maxHeartbeats 40000000 in
theorem rmPu7_1 (l : Launch) (Z : State) (a0 : Array Value) (hw : ∀ d ∈ tables_1, d.before a0 Z = true) (ws : List Jvm.Cond) (x t : Addr) (kt : ClassId) (y ty : Addr) (ky : ClassId) (b0 b1 b2 b3 b4 b5 b6 c0 zc : Int32) (fm : Value) (h0 : Heap) (n0 : Nat) (Z0 : n0 ≤ h0.size) (O0 : Old Z n0 h0) (S_CS : Sta Z Z.heap "java/lang/String" "COMPACT_STRINGS" "Z" (.int zc)) (hzc : ¬ zc = 0) (S_FM : Sta Z Z.heap "jdk/internal/util/Preconditions" "SIOOBE_FORMATTER" "Ljava/util/function/BiFunction;" fm) (hfm : fm.isRef = true) (gx : n0 ≤ x) (gt : n0 ≤ t) (Ex : Exa Z h0 x "java/lang/StringBuilder") (Fv : Fld Z h0 x "java/lang/AbstractStringBuilder" "value" "[B" (.ref t)) (Fc : Fld Z h0 x "java/lang/AbstractStringBuilder" "coder" "B" (.int (0 : Int32))) (Fn : Fld Z h0 x "java/lang/AbstractStringBuilder" "count" "I" (.int (7 : Int32))) (Vt : Arv Z h0 t kt .byte (16 : Int32) [(.int b0), (.int b1), (.int b2), (.int b3), (.int b4), (.int b5), (.int b6)] (.int (0 : Int32))) (Ey : Exa Z h0 y "java/lang/String") (Vy : Fld Z h0 y "java/lang/String" "value" "[B" (.ref ty)) (Cy : Fld Z h0 y "java/lang/String" "coder" "B" (.int (0 : Int32))) (Ky : Arv Z h0 ty ky .byte (1 : Int32) [(.int c0)] (.int (0 : Int32))) (nety : ty ≠ t) :
    OwnLaw l y8_ jdk_68_method_73_code 3 none ws (rR 2 0 0 33) #[(.ref x), (.int (7 : Int32)), (.ref y)] Z h0 (QPu7_1 Z x t kt y ty ky b0 b1 b2 b3 b4 b5 b6 c0 zc fm h0 n0) := by
  refine own_enter (plainFor_of_name pn_java_lang_AbstractStringBuilder) (efPu7_1 x y) ?_
  intro p e s m below meth c s₁ Bd hx hby hml hZ hown X0 e0
  have N0 := Fr.nil n0
  have K0 : Keep h0 h0 [] := Keep.refl _ _
  have K0 : Keep h0 h0 [x, t] := Keep.refl _ _
  refine P1.aloadN X0.here hx (hb hby d16_0) rfl rfl ?_
  refine P1.aloadN X0.here hx (hb hby d16_1) rfl rfl ?_
  refine Goes.callV X0 hx hZ (y := y5_) (z := y5_) hown (mvT hZ (own_w hw 92 rfl)) (mvT hZ (own_declares (own_w hw 93 rfl) (own_w hw 96 rfl))) (notFace_of_selects (args := #[]) (mvT hZ (own_w hw 95 rfl))) (mvT hZ (own_w hw 95 rfl)) (mvT hZ (own_w hw 93 rfl)) (by decide) (kc' := 0) (ks' := 0) (backOf (W := 0) (rmInf l Z a0 hw [] x y zc fm h0 n0 Z0 O0 S_CS hzc S_FM hfm Fc Ey Cy) hZ (own_w hw 96 rfl) (own_w hw 49 rfl) (ok rfl) (ok rfl)) (b := x) e0 Ex (g := (mkF m 2 #[.val (.ref x), .val (.int (7 : Int32)), .val (.ref y)] [(.ref y), (.ref x)])) rfl (by rw [hml]; rfl) (argsL := [(.ref y)]) (rest := []) (lenOf pd_20497 rfl) rfl (by show 2 * 0 + _ ≤ _; exact Nat.le_of_eq rfl) (hb hby d16_2) rfl (ok rfl) (ok rfl) ?_
  intro v134 T134 L134 q134 X134
  obtain ⟨rfl, N134q, hE134⟩ := q134
  have N134 := Fr.app N0 N134q
  show Goes p e below _ T134 (mkF m 5 #[.val (.ref x), .val (.int (7 : Int32)), .val (.ref y)] [])
  refine P1.aloadN X134.here hx (hb hby d16_5) rfl rfl ?_
  refine P1.aloadN X134.here hx (hb hby d16_6) rfl rfl ?_
  obtain ⟨T135, X135, e135, st135⟩ := getF X134 hx hZ hown (host := "") (Or.inl (own_w hw 53 rfl)) Via.refl hE134 Fv (g := (mkF m 7 #[.val (.ref x), .val (.int (7 : Int32)), .val (.ref y)] [(.ref x), (.ref y)])) rfl rfl (hb hby d16_7)
  refine Goes.step (T' := T135) (g' := (mkF m 10 #[.val (.ref x), .val (.int (7 : Int32)), .val (.ref y)] [(.ref t), (.ref y)])) st135 ?_
  refine P1.iloadN X135.here hx (hb hby d16_10) rfl ?_
  refine P1.aloadN X135.here hx (hb hby d16_11) rfl rfl ?_
  obtain ⟨T136, X136, e136, st136⟩ := getF X135 hx hZ hown (host := "") (Or.inl (own_w hw 55 rfl)) Via.refl e135 Fc (g := (mkF m 12 #[.val (.ref x), .val (.int (7 : Int32)), .val (.ref y)] [(.ref x), (.int (7 : Int32)), (.ref t), (.ref y)])) rfl rfl (hb hby d16_12)
  refine Goes.step (T' := T136) (g' := (mkF m 15 #[.val (.ref x), .val (.int (7 : Int32)), .val (.ref y)] [(.int (0 : Int32)), (.int (7 : Int32)), (.ref t), (.ref y)])) st136 ?_
  refine Goes.callV X136 hx hZ (y := y15_) (z := y15_) hown (mvT hZ (own_w hw 98 rfl)) (mvT hZ (own_w hw 99 rfl)) (notFace_of_selects (args := #[]) (mvT hZ (own_w hw 101 rfl))) (mvT hZ (own_w hw 101 rfl)) (mvT hZ (own_w hw 100 rfl)) (by decide) (kc' := 0) (ks' := 0) (backOf (W := 0) (rmGb7_1 l Z a0 hw [] t kt y ty ky b0 b1 b2 b3 b4 b5 b6 c0 zc fm h0 n0 Z0 O0 S_CS hzc S_FM hfm gt Vt Ey Vy Cy Ky nety) hZ (own_w hw 102 rfl) (own_w hw 2 rfl) (ok rfl) (ok rfl)) (b := y) e136 Ey (g := (mkF m 15 #[.val (.ref x), .val (.int (7 : Int32)), .val (.ref y)] [(.int (0 : Int32)), (.int (7 : Int32)), (.ref t), (.ref y)])) rfl (by rw [hml]; rfl) (argsL := [(.ref t), (.int (7 : Int32)), (.int (0 : Int32))]) (rest := []) (lenOf pd_1890 rfl) rfl (by show 2 * 0 + _ ≤ _; exact Nat.le_of_eq rfl) (hb hby d16_15) rfl (ok rfl) (ok rfl) ?_
  intro v137 T137 L137 q137 X137
  obtain ⟨rfl, N137q, K137, g137V⟩ := q137
  have N137 := Fr.app N134 N137q
  show Goes p e below _ T137 (mkF m 18 #[.val (.ref x), .val (.int (7 : Int32)), .val (.ref y)] [])
  refine Goes.retV X137 hx Bd.notSynchronized Bd.returns (hb hby d16_18) (ok rfl) (ok rfl) ?_
  have K138 : Keep h0 T137.heap [x, t] := K0.trans K137 (allS (Or.inl (by simp)) all0)
  have E139 : Exa Z T137.heap x "java/lang/StringBuilder" := Ex.keep K137
  have ne140 : x ≠ t := own_ne_arv E139 (own_w hw 40 rfl) g137V
  have F141 : Fld Z T137.heap x "java/lang/AbstractStringBuilder" "value" "[B" (.ref t) := Fv.keep K137 (ninS ne140 nin0)
  have F142 : Fld Z T137.heap x "java/lang/AbstractStringBuilder" "coder" "B" (.int (0 : Int32)) := Fc.keep K137 (ninS ne140 nin0)
  have F143 : Fld Z T137.heap x "java/lang/AbstractStringBuilder" "count" "I" (.int (7 : Int32)) := Fn.keep K137 (ninS ne140 nin0)
  exact ⟨rfl, N137, K138, E139, F141, F142, F143, g137V⟩
theorem efEns8 (x : Addr) (m : MethodId) : entryFrame m #[(.ref x), (.int (8 : Int32))] 3 = mkF m 0 #[.val (.ref x), .val (.int (8 : Int32)), .unset] [] := by first | (simp [entryFrame, mkF, argsToLocals, Value.category]; done) | rfl
def QEns8 (Z : State) (x t : Addr) (kt : ClassId) (vs : List Value) (h0 : Heap) (n0 : Nat) (v : Option Value) (h : Heap) (L : List Loc) : Prop := v = none ∧ Fr n0 L ∧ h = h0
set_option maxRecDepth 65536 in
set_option maxHeartbeats 40000000 in
theorem rmEns8 (l : Launch) (Z : State) (a0 : Array Value) (hw : ∀ d ∈ tables_1, d.before a0 Z = true) (ws : List Jvm.Cond) (x t : Addr) (kt : ClassId) (vs : List Value) (h0 : Heap) (n0 : Nat) (Z0 : n0 ≤ h0.size) (O0 : Old Z n0 h0) (Ex : Exa Z h0 x "java/lang/StringBuilder") (Fv : Fld Z h0 x "java/lang/AbstractStringBuilder" "value" "[B" (.ref t)) (Fc : Fld Z h0 x "java/lang/AbstractStringBuilder" "coder" "B" (.int (0 : Int32))) (Vt : Arv Z h0 t kt .byte (16 : Int32) vs (.int (0 : Int32))) :
    OwnLaw l y3_ jdk_68_method_9_code 3 none ws (rR 0 0 0 0) #[(.ref x), (.int (8 : Int32))] Z h0 (QEns8 Z x t kt vs h0 n0) := by
  refine own_enter (plainFor_of_name pn_java_lang_AbstractStringBuilder) (efEns8 x) ?_
  intro p e s m below meth c s₁ Bd hx hby hml hZ hown X0 e0
  have N0 := Fr.nil n0
  have K0 : Keep h0 h0 [] := Keep.refl _ _
  refine P1.aloadN X0.here hx (hb hby d15_0) rfl rfl ?_
  obtain ⟨T147, X147, e147, st147⟩ := getF X0 hx hZ hown (host := "") (Or.inl (own_w hw 53 rfl)) Via.refl e0 Fv (g := (mkF m 1 #[.val (.ref x), .val (.int (8 : Int32)), .unset] [(.ref x)])) rfl rfl (hb hby d15_1)
  refine Goes.step (T' := T147) (g' := (mkF m 4 #[.val (.ref x), .val (.int (8 : Int32)), .unset] [(.ref t)])) st147 ?_
  obtain ⟨cl148, Ar148, qk148, sl148, nz148, ha148, fi148⟩ := id Vt
  have al149 : cl148.slots.size.toInt32 = (16 : Int32) := len_of sl148 nz148
  refine Goes.step (T' := T147) (g' := (mkF m 5 #[.val (.ref x), .val (.int (8 : Int32)), .unset] [(.int (16 : Int32))])) (fun t_ k_ => X147.arraylength hx (by rw [e147]; exact Ar148.1) (State.isArrayOf_alike hZ.alike Ar148.2.1) (g := (mkF m 4 #[.val (.ref x), .val (.int (8 : Int32)), .unset] [(.ref t)])) rfl rfl (hb hby d15_4) _ <| by rw [al149]; exact k_) ?_
  refine P1.aloadN X147.here hx (hb hby d15_5) rfl rfl ?_
  obtain ⟨T150, X150, e150, st150⟩ := getF X147 hx hZ hown (host := "") (Or.inl (own_w hw 55 rfl)) Via.refl e147 Fc (g := (mkF m 6 #[.val (.ref x), .val (.int (8 : Int32)), .unset] [(.ref x), (.int (16 : Int32))])) rfl rfl (hb hby d15_6)
  refine Goes.step (T' := T150) (g' := (mkF m 9 #[.val (.ref x), .val (.int (8 : Int32)), .unset] [(.int (0 : Int32)), (.int (16 : Int32))])) st150 ?_
  refine Goes.step (T' := T150) (g' := (mkF m 10 #[.val (.ref x), .val (.int (8 : Int32)), .unset] [(.int ((16 : Int32) >>> ((0 : Int32) &&& 31)))])) (fun t_ k_ => XS.ishr X150.here hx rfl (hb hby d15_9) rfl k_) ?_
  have rw151 : ((16 : Int32) >>> ((0 : Int32) &&& 31)) = (16 : Int32) := by decide
  rw [rw151]
  refine P1.istoreN X150.here hx #[.val (.ref x), .val (.int (8 : Int32)), .val (.int (16 : Int32))] (hb hby d15_10) rfl ?_
  refine P1.iloadN X150.here hx (hb hby d15_11) rfl ?_
  refine P1.iloadN X150.here hx (hb hby d15_12) rfl ?_
  refine P1.isub X150.here hx (hb hby d15_13) ?_
  have rw152 : ((8 : Int32) - (16 : Int32)) = (-8 : Int32) := by decide
  rw [rw152]
  refine P1.ifYes X150.here hx 38 (hb hby d15_14) ((if0 _ _).trans (flt (by decide : ¬ ((0 : Int32) < (-8 : Int32)))).2.2.2) (by decide) (by decide) ?_
  refine Goes.retV X150 hx Bd.notSynchronized Bd.returns (hb hby d15_38) (ok rfl) (ok rfl) ?_
  rw [e150]
  exact ⟨rfl, N0, rfl⟩
theorem efAp7_1 (x y : Addr) (m : MethodId) : entryFrame m #[(.ref x), (.ref y)] 3 = mkF m 0 #[.val (.ref x), .val (.ref y), .unset] [] := by first | (simp [entryFrame, mkF, argsToLocals, Value.category]; done) | rfl
def QAp7_1 (Z : State) (x t : Addr) (kt : ClassId) (y ty : Addr) (ky : ClassId) (b0 b1 b2 b3 b4 b5 b6 c0 zc : Int32) (fm : Value) (h0 : Heap) (n0 : Nat) (v : Option Value) (h : Heap) (L : List Loc) : Prop := v = some (.ref x) ∧ Fr n0 L ∧ Keep h0 h [x, t] ∧ Exa Z h x "java/lang/StringBuilder" ∧ Fld Z h x "java/lang/AbstractStringBuilder" "value" "[B" (.ref t) ∧ Fld Z h x "java/lang/AbstractStringBuilder" "coder" "B" (.int (0 : Int32)) ∧ Fld Z h x "java/lang/AbstractStringBuilder" "count" "I" (.int (8 : Int32)) ∧ Arv Z h t kt .byte (16 : Int32) [(.int b0), (.int b1), (.int b2), (.int b3), (.int b4), (.int b5), (.int b6), (.int c0)] (.int (0 : Int32))
set_option maxRecDepth 65536 in
set_option maxHeartbeats 40000000 in
theorem rmAp7_1 (l : Launch) (Z : State) (a0 : Array Value) (hw : ∀ d ∈ tables_1, d.before a0 Z = true) (ws : List Jvm.Cond) (x t : Addr) (kt : ClassId) (y ty : Addr) (ky : ClassId) (b0 b1 b2 b3 b4 b5 b6 c0 zc : Int32) (fm : Value) (h0 : Heap) (n0 : Nat) (Z0 : n0 ≤ h0.size) (O0 : Old Z n0 h0) (S_CS : Sta Z Z.heap "java/lang/String" "COMPACT_STRINGS" "Z" (.int zc)) (hzc : ¬ zc = 0) (S_FM : Sta Z Z.heap "jdk/internal/util/Preconditions" "SIOOBE_FORMATTER" "Ljava/util/function/BiFunction;" fm) (hfm : fm.isRef = true) (gx : n0 ≤ x) (gt : n0 ≤ t) (Ex : Exa Z h0 x "java/lang/StringBuilder") (Fv : Fld Z h0 x "java/lang/AbstractStringBuilder" "value" "[B" (.ref t)) (Fc : Fld Z h0 x "java/lang/AbstractStringBuilder" "coder" "B" (.int (0 : Int32))) (Fn : Fld Z h0 x "java/lang/AbstractStringBuilder" "count" "I" (.int (7 : Int32))) (Vt : Arv Z h0 t kt .byte (16 : Int32) [(.int b0), (.int b1), (.int b2), (.int b3), (.int b4), (.int b5), (.int b6)] (.int (0 : Int32))) (Ey : Exa Z h0 y "java/lang/String") (Vy : Fld Z h0 y "java/lang/String" "value" "[B" (.ref ty)) (Cy : Fld Z h0 y "java/lang/String" "coder" "B" (.int (0 : Int32))) (Ky : Arv Z h0 ty ky .byte (1 : Int32) [(.int c0)] (.int (0 : Int32))) (nety : ty ≠ t) :
    OwnLaw l y2_ jdk_68_method_22_code 3 (some (.object "java/lang/AbstractStringBuilder")) ws (rR 3 0 0 47) #[(.ref x), (.ref y)] Z h0 (QAp7_1 Z x t kt y ty ky b0 b1 b2 b3 b4 b5 b6 c0 zc fm h0 n0) := by
  refine own_enter (plainFor_of_name pn_java_lang_AbstractStringBuilder) (efAp7_1 x y) ?_
  intro p e s m below meth c s₁ Bd hx hby hml hZ hown X0 e0
  have N0 := Fr.nil n0
  have K0 : Keep h0 h0 [] := Keep.refl _ _
  have K0 : Keep h0 h0 [x, t] := Keep.refl _ _
  refine P1.aloadN X0.here hx (hb hby d12_0) rfl rfl ?_
  refine P1.ifnonnullYes X0.here hx 9 (hb hby d12_1) (by decide) (by decide) ?_
  refine P1.aloadN X0.here hx (hb hby d12_9) rfl rfl ?_
  refine Goes.callV X0 hx hZ (y := y17_) (z := y17_) hown (mvT hZ (own_w hw 70 rfl)) (mvT hZ (own_w hw 71 rfl)) (notFace_of_selects (args := #[]) (mvT hZ (own_w hw 73 rfl))) (mvT hZ (own_w hw 73 rfl)) (mvT hZ (own_w hw 72 rfl)) (by decide) (kc' := 0) (ks' := 0) (backOf (W := 0) (rmLen1 l Z a0 hw [] y ty ky [(.int c0)] zc fm h0 n0 Z0 O0 S_CS hzc S_FM hfm Ey Vy Cy Ky) hZ (own_w hw 74 rfl) (own_w hw 2 rfl) (ok rfl) (ok rfl)) (b := y) e0 Ey (g := (mkF m 10 #[.val (.ref x), .val (.ref y), .unset] [(.ref y)])) rfl (by rw [hml]; rfl) (argsL := []) (rest := []) (lenOf pd_341 rfl) rfl (by show 2 * 0 + _ ≤ _; exact Nat.le_of_eq rfl) (hb hby d12_10) rfl (ok rfl) (ok rfl) ?_
  intro v144 T144 L144 q144 X144
  obtain ⟨rfl, N144q, hE144⟩ := q144
  have N144 := Fr.app N0 N144q
  show Goes p e below _ T144 (mkF m 13 #[.val (.ref x), .val (.ref y), .unset] [(.int (1 : Int32))])
  refine P1.istoreN X144.here hx #[.val (.ref x), .val (.ref y), .val (.int (1 : Int32))] (hb hby d12_13) rfl ?_
  refine P1.aloadN X144.here hx (hb hby d12_14) rfl rfl ?_
  refine P1.aloadN X144.here hx (hb hby d12_15) rfl rfl ?_
  obtain ⟨T145, X145, e145, st145⟩ := getF X144 hx hZ hown (host := "") (Or.inl (own_w hw 80 rfl)) Via.refl hE144 Fn (g := (mkF m 16 #[.val (.ref x), .val (.ref y), .val (.int (1 : Int32))] [(.ref x), (.ref x)])) rfl rfl (hb hby d12_16)
  refine Goes.step (T' := T145) (g' := (mkF m 19 #[.val (.ref x), .val (.ref y), .val (.int (1 : Int32))] [(.int (7 : Int32)), (.ref x)])) st145 ?_
  refine P1.iloadN X145.here hx (hb hby d12_19) rfl ?_
  refine P1.iadd X145.here hx (hb hby d12_20) ?_
  have rw146 : ((7 : Int32) + (1 : Int32)) = (8 : Int32) := by decide
  rw [rw146]
  refine Goes.callV X145 hx hZ (y := y3_) (z := y3_) hown (mvT hZ (own_w hw 82 rfl)) (mvT hZ (own_declares (own_w hw 83 rfl) (own_w hw 86 rfl))) (notFace_of_selects (args := #[]) (mvT hZ (own_w hw 85 rfl))) (mvT hZ (own_w hw 85 rfl)) (mvT hZ (own_w hw 83 rfl)) (by decide) (kc' := 0) (ks' := 0) (backOf (W := 0) (rmEns8 l Z a0 hw [] x t kt [(.int b0), (.int b1), (.int b2), (.int b3), (.int b4), (.int b5), (.int b6)] h0 n0 Z0 O0 Ex Fv Fc Vt) hZ (own_w hw 86 rfl) (own_w hw 49 rfl) (ok rfl) (ok rfl)) (b := x) e145 Ex (g := (mkF m 21 #[.val (.ref x), .val (.ref y), .val (.int (1 : Int32))] [(.int (8 : Int32)), (.ref x)])) rfl (by rw [hml]; rfl) (argsL := [(.int (8 : Int32))]) (rest := []) (lenOf pd_653 rfl) rfl (by show 2 * 0 + _ ≤ _; exact Nat.le_of_eq rfl) (hb hby d12_21) rfl (ok rfl) (ok rfl) ?_
  intro v153 T153 L153 q153 X153
  obtain ⟨rfl, N153q, hE153⟩ := q153
  have N153 := Fr.app N144 N153q
  show Goes p e below _ T153 (mkF m 24 #[.val (.ref x), .val (.ref y), .val (.int (1 : Int32))] [])
  refine P1.aloadN X153.here hx (hb hby d12_24) rfl rfl ?_
  refine P1.aloadN X153.here hx (hb hby d12_25) rfl rfl ?_
  obtain ⟨T154, X154, e154, st154⟩ := getF X153 hx hZ hown (host := "") (Or.inl (own_w hw 80 rfl)) Via.refl hE153 Fn (g := (mkF m 26 #[.val (.ref x), .val (.ref y), .val (.int (1 : Int32))] [(.ref x), (.ref x)])) rfl rfl (hb hby d12_26)
  refine Goes.step (T' := T154) (g' := (mkF m 29 #[.val (.ref x), .val (.ref y), .val (.int (1 : Int32))] [(.int (7 : Int32)), (.ref x)])) st154 ?_
  refine P1.aloadN X154.here hx (hb hby d12_29) rfl rfl ?_
  refine Goes.callV X154 hx hZ (y := y8_) (z := y8_) hown (mvT hZ (own_w hw 87 rfl)) (mvT hZ (own_declares (own_w hw 88 rfl) (own_w hw 91 rfl))) (notFace_of_selects (args := #[]) (mvT hZ (own_w hw 90 rfl))) (mvT hZ (own_w hw 90 rfl)) (mvT hZ (own_w hw 88 rfl)) (by decide) (kc' := 0) (ks' := 0) (backOf (W := 0) (rmPu7_1 l Z a0 hw [] x t kt y ty ky b0 b1 b2 b3 b4 b5 b6 c0 zc fm h0 n0 Z0 O0 S_CS hzc S_FM hfm gx gt Ex Fv Fc Fn Vt Ey Vy Cy Ky nety) hZ (own_w hw 91 rfl) (own_w hw 49 rfl) (ok rfl) (ok rfl)) (b := x) e154 Ex (g := (mkF m 30 #[.val (.ref x), .val (.ref y), .val (.int (1 : Int32))] [(.ref y), (.int (7 : Int32)), (.ref x)])) rfl (by rw [hml]; rfl) (argsL := [(.int (7 : Int32)), (.ref y)]) (rest := []) (lenOf pd_22466 rfl) rfl (by show 2 * 0 + _ ≤ _; exact Nat.le_of_eq rfl) (hb hby d12_30) rfl (ok rfl) (ok rfl) ?_
  intro v155 T155 L155 q155 X155
  obtain ⟨rfl, N155q, K155, g155E, g155v, g155c, g155n, g155V⟩ := q155
  have N155 := Fr.app N153 N155q
  show Goes p e below _ T155 (mkF m 33 #[.val (.ref x), .val (.ref y), .val (.int (1 : Int32))] [])
  refine P1.aloadN X155.here hx (hb hby d12_33) rfl rfl ?_
  refine P1.dup X155.here hx (hb hby d12_34) rfl ?_
  obtain ⟨T156, X156, e156, st156⟩ := getF X155 hx hZ hown (host := "") (Or.inl (own_w hw 80 rfl)) Via.refl rfl g155n (g := (mkF m 35 #[.val (.ref x), .val (.ref y), .val (.int (1 : Int32))] [(.ref x), (.ref x)])) rfl rfl (hb hby d12_35)
  refine Goes.step (T' := T156) (g' := (mkF m 38 #[.val (.ref x), .val (.ref y), .val (.int (1 : Int32))] [(.int (7 : Int32)), (.ref x)])) st156 ?_
  refine P1.iloadN X156.here hx (hb hby d12_38) rfl ?_
  refine P1.iadd X156.here hx (hb hby d12_39) ?_
  have rw157 : ((7 : Int32) + (1 : Int32)) = (8 : Int32) := by decide
  rw [rw157]
  obtain ⟨T158, h158, X158, e158, W158, st158⟩ := putF X156 hx hZ hown (host := "") (Or.inl (own_w hw 80 rfl)) Via.refl e156 g155n g155E (Or.inl (own_w hw 81 rfl)) (own_w hw 40 rfl) (ty := .int) (by decide) rfl rfl (g := (mkF m 40 #[.val (.ref x), .val (.ref y), .val (.int (1 : Int32))] [(.int (8 : Int32)), (.ref x)])) rfl rfl (hb hby d12_40)
  have Fw158 : Fld Z h158 x "java/lang/AbstractStringBuilder" "count" "I" (.int (8 : Int32)) := g155n.same W158
  have N158 := Fr.snoc X158 N155 gx
  refine Goes.step (T' := T158) (g' := (mkF m 43 #[.val (.ref x), .val (.ref y), .val (.int (1 : Int32))] [])) st158 ?_
  refine P1.aloadN X158.here hx (hb hby d12_43) rfl rfl ?_
  refine Goes.retA X158 hx Bd.notSynchronized Bd.returns rfl rfl (hb hby d12_44) (ok rfl) (ok rfl) ?_
  rw [e158]
  have K159 : Keep h0 T155.heap [x, t] := K0.trans K155 (allS (Or.inl (by simp)) (allS (Or.inl (by simp)) all0))
  have K160 : Keep h0 h158 [x, t] := K159.wr W158 (Or.inl (by simp))
  have E161 : Exa Z h158 x "java/lang/StringBuilder" := g155E.wr W158
  have F162 : Fld Z h158 x "java/lang/AbstractStringBuilder" "value" "[B" (.ref t) := g155v.other W158 (Or.inr (slot_ne (Or.inl (own_w hw 54 rfl)) (Or.inl (own_w hw 81 rfl)) (by decide) (t := (.array .byte)) (t' := .int) (by decide) (by decide)))
  have F163 : Fld Z h158 x "java/lang/AbstractStringBuilder" "coder" "B" (.int (0 : Int32)) := g155c.other W158 (Or.inr (slot_ne (Or.inl (own_w hw 56 rfl)) (Or.inl (own_w hw 81 rfl)) (by decide) (t := .byte) (t' := .int) (by decide) (by decide)))
  have ne164 : x ≠ t := own_ne_arv g155E (own_w hw 40 rfl) g155V
  have V165 : Arv Z h158 t kt .byte (16 : Int32) [(.int b0), (.int b1), (.int b2), (.int b3), (.int b4), (.int b5), (.int b6), (.int c0)] (.int (0 : Int32)) := g155V.other W158 (Ne.symm ne164)
  exact ⟨rfl, N158, K160, E161, F162, F163, Fw158, V165⟩
theorem efSp7_1 (x y : Addr) (m : MethodId) : entryFrame m #[(.ref x), (.ref y)] 2 = mkF m 0 #[.val (.ref x), .val (.ref y)] [] := by first | (simp [entryFrame, mkF, argsToLocals, Value.category]; done) | rfl
def QSp7_1 (Z : State) (x t : Addr) (kt : ClassId) (y ty : Addr) (ky : ClassId) (b0 b1 b2 b3 b4 b5 b6 c0 zc : Int32) (fm : Value) (h0 : Heap) (n0 : Nat) (v : Option Value) (h : Heap) (L : List Loc) : Prop := v = some (.ref x) ∧ Fr n0 L ∧ Keep h0 h [x, t] ∧ Exa Z h x "java/lang/StringBuilder" ∧ Fld Z h x "java/lang/AbstractStringBuilder" "value" "[B" (.ref t) ∧ Fld Z h x "java/lang/AbstractStringBuilder" "coder" "B" (.int (0 : Int32)) ∧ Fld Z h x "java/lang/AbstractStringBuilder" "count" "I" (.int (8 : Int32)) ∧ Arv Z h t kt .byte (16 : Int32) [(.int b0), (.int b1), (.int b2), (.int b3), (.int b4), (.int b5), (.int b6), (.int c0)] (.int (0 : Int32))
set_option maxRecDepth 65536 in
set_option maxHeartbeats 40000000 in
theorem rmSp7_1 (l : Launch) (Z : State) (a0 : Array Value) (hw : ∀ d ∈ tables_1, d.before a0 Z = true) (ws : List Jvm.Cond) (x t : Addr) (kt : ClassId) (y ty : Addr) (ky : ClassId) (b0 b1 b2 b3 b4 b5 b6 c0 zc : Int32) (fm : Value) (h0 : Heap) (n0 : Nat) (Z0 : n0 ≤ h0.size) (O0 : Old Z n0 h0) (S_CS : Sta Z Z.heap "java/lang/String" "COMPACT_STRINGS" "Z" (.int zc)) (hzc : ¬ zc = 0) (S_FM : Sta Z Z.heap "jdk/internal/util/Preconditions" "SIOOBE_FORMATTER" "Ljava/util/function/BiFunction;" fm) (hfm : fm.isRef = true) (gx : n0 ≤ x) (gt : n0 ≤ t) (Ex : Exa Z h0 x "java/lang/StringBuilder") (Fv : Fld Z h0 x "java/lang/AbstractStringBuilder" "value" "[B" (.ref t)) (Fc : Fld Z h0 x "java/lang/AbstractStringBuilder" "coder" "B" (.int (0 : Int32))) (Fn : Fld Z h0 x "java/lang/AbstractStringBuilder" "count" "I" (.int (7 : Int32))) (Vt : Arv Z h0 t kt .byte (16 : Int32) [(.int b0), (.int b1), (.int b2), (.int b3), (.int b4), (.int b5), (.int b6)] (.int (0 : Int32))) (Ey : Exa Z h0 y "java/lang/String") (Vy : Fld Z h0 y "java/lang/String" "value" "[B" (.ref ty)) (Cy : Fld Z h0 y "java/lang/String" "coder" "B" (.int (0 : Int32))) (Ky : Arv Z h0 ty ky .byte (1 : Int32) [(.int c0)] (.int (0 : Int32))) (nety : ty ≠ t) :
    OwnLaw l y19_ jdk_67_method_7_code 2 (some (.object "java/lang/StringBuilder")) ws (rR 4 0 0 61) #[(.ref x), (.ref y)] Z h0 (QSp7_1 Z x t kt y ty ky b0 b1 b2 b3 b4 b5 b6 c0 zc fm h0 n0) := by
  refine own_enter (plainFor_of_name pn_java_lang_StringBuilder) (efSp7_1 x y) ?_
  intro p e s m below meth c s₁ Bd hx hby hml hZ hown X0 e0
  have N0 := Fr.nil n0
  have K0 : Keep h0 h0 [] := Keep.refl _ _
  have K0 : Keep h0 h0 [x, t] := Keep.refl _ _
  refine P1.aloadN X0.here hx (hb hby d11_0) rfl rfl ?_
  refine P1.aloadN X0.here hx (hb hby d11_1) rfl rfl ?_
  refine Goes.callSup X0 hx hZ (y := y2_) hown (own_w hw 65 rfl) (own_sameMethod (own_w hw 66 rfl) (own_w hw 85 rfl) rfl (by decide)) (own_w hw 66 rfl) (own_w hw 67 rfl) (by decide) (kc' := 0) (ks' := 0) (backOf (W := 0) (rmAp7_1 l Z a0 hw [] x t kt y ty ky b0 b1 b2 b3 b4 b5 b6 c0 zc fm h0 n0 Z0 O0 S_CS hzc S_FM hfm gx gt Ex Fv Fc Fn Vt Ey Vy Cy Ky nety) hZ (own_w hw 69 rfl) (own_w hw 49 rfl) (ok rfl) (ok rfl)) (a := x) e0 (Ins.of_exa Ex (own_w hw 48 rfl)) (own_w hw 69 rfl) (g := (mkF m 2 #[.val (.ref x), .val (.ref y)] [(.ref y), (.ref x)])) rfl (by rw [hml]; rfl) (argsL := [(.ref y)]) (rest := []) (lenOf pd_138888 rfl) rfl (by show 2 * 0 + _ ≤ _; exact Nat.le_of_eq rfl) (hb hby d11_2) rfl (ok rfl) (ok rfl) ?_
  intro v166 T166 L166 q166 X166
  obtain ⟨rfl, N166q, K166, g166E, g166v, g166c, g166n, g166V⟩ := q166
  have N166 := Fr.app N0 N166q
  show Goes p e below _ T166 (mkF m 5 #[.val (.ref x), .val (.ref y)] [(.ref x)])
  refine P1.pop X166.here hx (hb hby d11_5) rfl ?_
  refine P1.aloadN X166.here hx (hb hby d11_6) rfl rfl ?_
  refine Goes.retA X166 hx Bd.notSynchronized Bd.returns rfl rfl (hb hby d11_7) (ok rfl) (ok rfl) ?_
  have K167 : Keep h0 T166.heap [x, t] := K0.trans K166 (allS (Or.inl (by simp)) (allS (Or.inl (by simp)) all0))
  exact ⟨rfl, N166, K167, g166E, g166v, g166c, g166n, g166V⟩
theorem d22_0 : decode jdk_68_method_64_code 0 = .ok (.aload_n 0, 1) := by decide +kernel
theorem d22_1 : decode jdk_68_method_64_code 1 = .ok (.getfield 15, 3) := by decide +kernel
theorem d22_4 : decode jdk_68_method_64_code 4 = .ok (.areturn, 1) := by decide +kernel
theorem efGv (x : Addr) (m : MethodId) : entryFrame m #[(.ref x)] 1 = mkF m 0 #[.val (.ref x)] [] := by first | (simp [entryFrame, mkF, argsToLocals, Value.category]; done) | rfl
def QGv (Z : State) (x t : Addr) (h0 : Heap) (n0 : Nat) (v : Option Value) (h : Heap) (L : List Loc) : Prop := v = some (.ref t) ∧ Fr n0 L ∧ h = h0
set_option maxRecDepth 65536 in
set_option maxHeartbeats 40000000 in
theorem rmGv (l : Launch) (Z : State) (a0 : Array Value) (hw : ∀ d ∈ tables_1, d.before a0 Z = true) (ws : List Jvm.Cond) (x t : Addr) (h0 : Heap) (n0 : Nat) (Z0 : n0 ≤ h0.size) (O0 : Old Z n0 h0) (Fv : Fld Z h0 x "java/lang/AbstractStringBuilder" "value" "[B" (.ref t)) :
    OwnLaw l y4_ jdk_68_method_64_code 1 (some (.array .byte)) ws (rR 0 0 0 0) #[(.ref x)] Z h0 (QGv Z x t h0 n0) := by
  refine own_enter (plainFor_of_name pn_java_lang_AbstractStringBuilder) (efGv x) ?_
  intro p e s m below meth c s₁ Bd hx hby hml hZ hown X0 e0
  have N0 := Fr.nil n0
  have K0 : Keep h0 h0 [] := Keep.refl _ _
  refine P1.aloadN X0.here hx (hb hby d22_0) rfl rfl ?_
  obtain ⟨T168, X168, e168, st168⟩ := getF X0 hx hZ hown (host := "") (Or.inl (own_w hw 53 rfl)) Via.refl e0 Fv (g := (mkF m 1 #[.val (.ref x)] [(.ref x)])) rfl rfl (hb hby d22_1)
  refine Goes.step (T' := T168) (g' := (mkF m 4 #[.val (.ref x)] [(.ref t)])) st168 ?_
  refine Goes.retA X168 hx Bd.notSynchronized Bd.returns rfl rfl (hb hby d22_4) (ok rfl) (ok rfl) ?_
  rw [e168]
  exact ⟨rfl, N0, rfl⟩
theorem d24_0 : decode jdk_68_method_6_code 0 = .ok (.aload_n 0, 1) := by decide +kernel
theorem d24_1 : decode jdk_68_method_6_code 1 = .ok (.getfield 79, 3) := by decide +kernel
theorem d24_4 : decode jdk_68_method_6_code 4 = .ok (.ireturn, 1) := by decide +kernel
theorem efAl (x : Addr) (m : MethodId) : entryFrame m #[(.ref x)] 1 = mkF m 0 #[.val (.ref x)] [] := by first | (simp [entryFrame, mkF, argsToLocals, Value.category]; done) | rfl
def QAl (Z : State) (x : Addr) (n : Int32) (h0 : Heap) (n0 : Nat) (v : Option Value) (h : Heap) (L : List Loc) : Prop := v = some (.int n) ∧ Fr n0 L ∧ h = h0
set_option maxRecDepth 65536 in
set_option maxHeartbeats 40000000 in
theorem rmAl (l : Launch) (Z : State) (a0 : Array Value) (hw : ∀ d ∈ tables_1, d.before a0 Z = true) (ws : List Jvm.Cond) (x : Addr) (n : Int32) (h0 : Heap) (n0 : Nat) (Z0 : n0 ≤ h0.size) (O0 : Old Z n0 h0) (Fn : Fld Z h0 x "java/lang/AbstractStringBuilder" "count" "I" (.int n)) :
    OwnLaw l y7_ jdk_68_method_6_code 1 (some .int) ws (rR 0 0 0 0) #[(.ref x)] Z h0 (QAl Z x n h0 n0) := by
  refine own_enter (plainFor_of_name pn_java_lang_AbstractStringBuilder) (efAl x) ?_
  intro p e s m below meth c s₁ Bd hx hby hml hZ hown X0 e0
  have N0 := Fr.nil n0
  have K0 : Keep h0 h0 [] := Keep.refl _ _
  refine P1.aloadN X0.here hx (hb hby d24_0) rfl rfl ?_
  obtain ⟨T169, X169, e169, st169⟩ := getF X0 hx hZ hown (host := "") (Or.inl (own_w hw 80 rfl)) Via.refl e0 Fn (g := (mkF m 1 #[.val (.ref x)] [(.ref x)])) rfl rfl (hb hby d24_1)
  refine Goes.step (T' := T169) (g' := (mkF m 4 #[.val (.ref x)] [(.int n)])) st169 ?_
  refine Goes.retI X169 hx Bd.notSynchronized Bd.returns (hb hby d24_4) (ok rfl) (ok rfl) ?_
  rw [e169]
  exact ⟨rfl, N0, rfl⟩
theorem d23_0 : decode jdk_67_method_93_code 0 = .ok (.aload_n 0, 1) := by decide +kernel
theorem d23_1 : decode jdk_67_method_93_code 1 = .ok (.invokespecial 343, 3) := by decide +kernel
theorem d23_4 : decode jdk_67_method_93_code 4 = .ok (.ireturn, 1) := by decide +kernel
theorem efSl (x : Addr) (m : MethodId) : entryFrame m #[(.ref x)] 1 = mkF m 0 #[.val (.ref x)] [] := by first | (simp [entryFrame, mkF, argsToLocals, Value.category]; done) | rfl
def QSl (Z : State) (x : Addr) (n : Int32) (h0 : Heap) (n0 : Nat) (v : Option Value) (h : Heap) (L : List Loc) : Prop := v = some (.int n) ∧ Fr n0 L ∧ h = h0
set_option maxRecDepth 65536 in
set_option maxHeartbeats 40000000 in
theorem rmSl (l : Launch) (Z : State) (a0 : Array Value) (hw : ∀ d ∈ tables_1, d.before a0 Z = true) (ws : List Jvm.Cond) (x : Addr) (n : Int32) (h0 : Heap) (n0 : Nat) (Z0 : n0 ≤ h0.size) (O0 : Old Z n0 h0) (Ex : Exa Z h0 x "java/lang/StringBuilder") (Fn : Fld Z h0 x "java/lang/AbstractStringBuilder" "count" "I" (.int n)) :
    OwnLaw l y20_ jdk_67_method_93_code 1 (some .int) ws (rR 1 0 0 12) #[(.ref x)] Z h0 (QSl Z x n h0 n0) := by
  refine own_enter (plainFor_of_name pn_java_lang_StringBuilder) (efSl x) ?_
  intro p e s m below meth c s₁ Bd hx hby hml hZ hown X0 e0
  have N0 := Fr.nil n0
  have K0 : Keep h0 h0 [] := Keep.refl _ _
  refine P1.aloadN X0.here hx (hb hby d23_0) rfl rfl ?_
  refine Goes.callSup X0 hx hZ (y := y7_) hown (own_w hw 131 rfl) (own_sameMethod (own_w hw 127 rfl) (own_w hw 85 rfl) rfl (by decide)) (own_w hw 127 rfl) (own_w hw 67 rfl) (by decide) (kc' := 0) (ks' := 0) (backOf (W := 0) (rmAl l Z a0 hw [] x n h0 n0 Z0 O0 Fn) hZ (own_w hw 132 rfl) (own_w hw 49 rfl) (ok rfl) (ok rfl)) (a := x) e0 (Ins.of_exa Ex (own_w hw 48 rfl)) (own_w hw 132 rfl) (g := (mkF m 1 #[.val (.ref x)] [(.ref x)])) rfl (by rw [hml]; rfl) (argsL := []) (rest := []) (lenOf pd_341 rfl) rfl (by show 2 * 0 + _ ≤ _; exact Nat.le_of_eq rfl) (hb hby d23_1) rfl (ok rfl) (ok rfl) ?_
  intro v170 T170 L170 q170 X170
  obtain ⟨rfl, N170q, hE170⟩ := q170
  have N170 := Fr.app N0 N170q
  show Goes p e below _ T170 (mkF m 4 #[.val (.ref x)] [(.int n)])
  refine Goes.retI X170 hx Bd.notSynchronized Bd.returns (hb hby d23_4) (ok rfl) (ok rfl) ?_
  rw [hE170]
  exact ⟨rfl, N170, rfl⟩
theorem d25_0 : decode jdk_68_method_68_code 0 = .ok (.getstatic 18, 3) := by decide +kernel
theorem d25_3 : decode jdk_68_method_68_code 3 = .ok (.ifCond .eq 14, 3) := by decide +kernel
theorem d25_6 : decode jdk_68_method_68_code 6 = .ok (.aload_n 0, 1) := by decide +kernel
theorem d25_7 : decode jdk_68_method_68_code 7 = .ok (.getfield 22, 3) := by decide +kernel
theorem d25_10 : decode jdk_68_method_68_code 10 = .ok (.ifCond .ne 7, 3) := by decide +kernel
theorem d25_13 : decode jdk_68_method_68_code 13 = .ok (.iconst 1, 1) := by decide +kernel
theorem d25_14 : decode jdk_68_method_68_code 14 = .ok (.goto 4, 3) := by decide +kernel
theorem d25_17 : decode jdk_68_method_68_code 17 = .ok (.iconst 0, 1) := by decide +kernel
theorem d25_18 : decode jdk_68_method_68_code 18 = .ok (.ireturn, 1) := by decide +kernel
theorem efIl (x : Addr) (m : MethodId) : entryFrame m #[(.ref x)] 1 = mkF m 0 #[.val (.ref x)] [] := by first | (simp [entryFrame, mkF, argsToLocals, Value.category]; done) | rfl
def QIl (Z : State) (x : Addr) (zc : Int32) (fm : Value) (h0 : Heap) (n0 : Nat) (v : Option Value) (h : Heap) (L : List Loc) : Prop := v = some (.int 1) ∧ Fr n0 L ∧ h = h0
set_option maxRecDepth 65536 in
set_option maxHeartbeats 40000000 in
theorem rmIl (l : Launch) (Z : State) (a0 : Array Value) (hw : ∀ d ∈ tables_1, d.before a0 Z = true) (ws : List Jvm.Cond) (x : Addr) (zc : Int32) (fm : Value) (h0 : Heap) (n0 : Nat) (Z0 : n0 ≤ h0.size) (O0 : Old Z n0 h0) (S_CS : Sta Z Z.heap "java/lang/String" "COMPACT_STRINGS" "Z" (.int zc)) (hzc : ¬ zc = 0) (S_FM : Sta Z Z.heap "jdk/internal/util/Preconditions" "SIOOBE_FORMATTER" "Ljava/util/function/BiFunction;" fm) (hfm : fm.isRef = true) (Fc : Fld Z h0 x "java/lang/AbstractStringBuilder" "coder" "B" (.int (0 : Int32))) :
    OwnLaw l y6_ jdk_68_method_68_code 1 (some .boolean) ws (rR 0 0 0 0) #[(.ref x)] Z h0 (QIl Z x zc fm h0 n0) := by
  refine own_enter (plainFor_of_name pn_java_lang_AbstractStringBuilder) (efIl x) ?_
  intro p e s m below meth c s₁ Bd hx hby hml hZ hown X0 e0
  have N0 := Fr.nil n0
  have K0 : Keep h0 h0 [] := Keep.refl _ _
  obtain ⟨T171, X171, e171, st171⟩ := getS2 X0 hx hZ hown (host := "") (Or.inl (own_w hw 52 rfl)) Via.refl e0 (S_CS.ext O0.2) (g := (mkF m 0 #[.val (.ref x)] [])) rfl (hb hby d25_0)
  refine Goes.step (T' := T171) (g' := (mkF m 3 #[.val (.ref x)] [(.int zc)])) st171 ?_
  refine P1.ifNo X171.here hx (hb hby d25_3) ((if0 _ _).trans (feq (hzc : ¬ (zc = (0 : Int32)))).1) ?_
  refine P1.aloadN X171.here hx (hb hby d25_6) rfl rfl ?_
  obtain ⟨T172, X172, e172, st172⟩ := getF X171 hx hZ hown (host := "") (Or.inl (own_w hw 55 rfl)) Via.refl e171 Fc (g := (mkF m 7 #[.val (.ref x)] [(.ref x)])) rfl rfl (hb hby d25_7)
  refine Goes.step (T' := T172) (g' := (mkF m 10 #[.val (.ref x)] [(.int (0 : Int32))])) st172 ?_
  refine P1.ifNo X172.here hx (hb hby d25_10) ((if0 _ _).trans (teq (by decide : (0 : Int32) = (0 : Int32))).2) ?_
  refine P1.iconst X172.here hx (1 : Int32) (hb hby d25_13) rfl ?_
  refine P1.goto X172.here hx 18 (hb hby d25_14) (by decide) (by decide) ?_
  refine Goes.retN X172 hx Bd.notSynchronized (t := .boolean) Bd.returns (by simp) (hb hby d25_18) (ok rfl) (ok rfl) ?_
  rw [e172]
  exact ⟨rfl, N0, rfl⟩
theorem d27_0 : decode jdk_65_method_133_code 0 = .ok (.iload_n 1, 1) := by decide +kernel
theorem d27_1 : decode jdk_65_method_133_code 1 = .ok (.iload_n 2, 1) := by decide +kernel
theorem d27_2 : decode jdk_65_method_133_code 2 = .ok (.invokestatic 343, 3) := by decide +kernel
theorem d27_5 : decode jdk_65_method_133_code 5 = .ok (.iload_n 2, 1) := by decide +kernel
theorem d27_6 : decode jdk_65_method_133_code 6 = .ok (.iload_n 1, 1) := by decide +kernel
theorem d27_7 : decode jdk_65_method_133_code 7 = .ok (.isub, 1) := by decide +kernel
theorem d27_8 : decode jdk_65_method_133_code 8 = .ok (.istore_n 3, 1) := by decide +kernel
theorem d27_9 : decode jdk_65_method_133_code 9 = .ok (.iload_n 3, 1) := by decide +kernel
theorem d27_10 : decode jdk_65_method_133_code 10 = .ok (.newarray .byte, 2) := by decide +kernel
theorem d27_12 : decode jdk_65_method_133_code 12 = .ok (.astore 4, 2) := by decide +kernel
theorem d27_14 : decode jdk_65_method_133_code 14 = .ok (.aload_n 0, 1) := by decide +kernel
theorem d27_15 : decode jdk_65_method_133_code 15 = .ok (.iload_n 1, 1) := by decide +kernel
theorem d27_16 : decode jdk_65_method_133_code 16 = .ok (.aload 4, 2) := by decide +kernel
theorem d27_18 : decode jdk_65_method_133_code 18 = .ok (.iconst 0, 1) := by decide +kernel
theorem d27_19 : decode jdk_65_method_133_code 19 = .ok (.aload_n 0, 1) := by decide +kernel
theorem d27_20 : decode jdk_65_method_133_code 20 = .ok (.arraylength, 1) := by decide +kernel
theorem d27_21 : decode jdk_65_method_133_code 21 = .ok (.iload_n 1, 1) := by decide +kernel
theorem d27_22 : decode jdk_65_method_133_code 22 = .ok (.isub, 1) := by decide +kernel
theorem d27_23 : decode jdk_65_method_133_code 23 = .ok (.iload_n 3, 1) := by decide +kernel
theorem d27_24 : decode jdk_65_method_133_code 24 = .ok (.invokestatic 304, 3) := by decide +kernel
theorem d27_27 : decode jdk_65_method_133_code 27 = .ok (.invokestatic 150, 3) := by decide +kernel
theorem d27_30 : decode jdk_65_method_133_code 30 = .ok (.aload 4, 2) := by decide +kernel
theorem d27_32 : decode jdk_65_method_133_code 32 = .ok (.areturn, 1) := by decide +kernel
theorem pn_java_util_Arrays : plainName "java/util/Arrays" = true := by first | (simp [plainName, overriddenIn]; done) | decide +kernel
theorem d28_0 : decode jdk_65_method_131_code 0 = .ok (.iload_n 1, 1) := by decide +kernel
theorem d28_1 : decode jdk_65_method_131_code 1 = .ok (.iload_n 0, 1) := by decide +kernel
theorem d28_2 : decode jdk_65_method_131_code 2 = .ok (.if_icmp .ge 35, 3) := by decide +kernel
theorem d28_5 : decode jdk_65_method_131_code 5 = .ok (.new 43, 3) := by decide +kernel
theorem d28_8 : decode jdk_65_method_131_code 8 = .ok (.dup, 1) := by decide +kernel
theorem d28_9 : decode jdk_65_method_131_code 9 = .ok (.new 45, 3) := by decide +kernel
theorem d28_12 : decode jdk_65_method_131_code 12 = .ok (.dup, 1) := by decide +kernel
theorem d28_13 : decode jdk_65_method_131_code 13 = .ok (.invokespecial 47, 3) := by decide +kernel
theorem d28_16 : decode jdk_65_method_131_code 16 = .ok (.iload_n 0, 1) := by decide +kernel
theorem d28_17 : decode jdk_65_method_131_code 17 = .ok (.invokevirtual 54, 3) := by decide +kernel
theorem d28_20 : decode jdk_65_method_131_code 20 = .ok (.ldc_w 337, 3) := by decide +kernel
theorem d28_23 : decode jdk_65_method_131_code 23 = .ok (.invokevirtual 50, 3) := by decide +kernel
theorem d28_26 : decode jdk_65_method_131_code 26 = .ok (.iload_n 1, 1) := by decide +kernel
theorem d28_27 : decode jdk_65_method_131_code 27 = .ok (.invokevirtual 54, 3) := by decide +kernel
theorem d28_30 : decode jdk_65_method_131_code 30 = .ok (.invokevirtual 61, 3) := by decide +kernel
theorem d28_33 : decode jdk_65_method_131_code 33 = .ok (.invokespecial 65, 3) := by decide +kernel
theorem d28_36 : decode jdk_65_method_131_code 36 = .ok (.athrow, 1) := by decide +kernel
theorem d28_37 : decode jdk_65_method_131_code 37 = .ok (.return_, 1) := by decide +kernel
theorem efCkl0_8  (m : MethodId) : entryFrame m #[(.int (0 : Int32)), (.int (8 : Int32))] 2 = mkF m 0 #[.val (.int (0 : Int32)), .val (.int (8 : Int32))] [] := by first | (simp [entryFrame, mkF, argsToLocals, Value.category]; done) | rfl
def QCkl0_8 (Z : State)  (h0 : Heap) (n0 : Nat) (v : Option Value) (h : Heap) (L : List Loc) : Prop := v = none ∧ Fr n0 L ∧ h = h0
set_option maxRecDepth 65536 in
set_option maxHeartbeats 40000000 in
theorem rmCkl0_8 (l : Launch) (Z : State) (a0 : Array Value) (hw : ∀ d ∈ tables_1, d.before a0 Z = true) (ws : List Jvm.Cond)  (h0 : Heap) (n0 : Nat) (Z0 : n0 ≤ h0.size) (O0 : Old Z n0 h0) :
    OwnLaw l y22_ jdk_65_method_131_code 2 none ws (rR 0 0 0 0) #[(.int (0 : Int32)), (.int (8 : Int32))] Z h0 (QCkl0_8 Z  h0 n0) := by
  refine own_enter (plainFor_of_name pn_java_util_Arrays) (efCkl0_8 ) ?_
  intro p e s m below meth c s₁ Bd hx hby hml hZ hown X0 e0
  have N0 := Fr.nil n0
  have K0 : Keep h0 h0 [] := Keep.refl _ _
  refine P1.iloadN X0.here hx (hb hby d28_0) rfl ?_
  refine P1.iloadN X0.here hx (hb hby d28_1) rfl ?_
  refine P1.icmpYes X0.here hx 37 (hb hby d28_2) (flt (by decide : ¬ ((8 : Int32) < (0 : Int32)))).2.1 (by decide) (by decide) ?_
  refine Goes.retV X0 hx Bd.notSynchronized Bd.returns (hb hby d28_37) (ok rfl) (ok rfl) ?_
  rw [e0]
  exact ⟨rfl, N0, rfl⟩
theorem pd_999 : parseMethodDescriptor "(II)V" = some ⟨[.int, .int], none⟩ := by decide +kernel
theorem d29_0 : decode jdk_29_method_69_code 0 = .ok (.iload_n 0, 1) := by decide +kernel
theorem d29_1 : decode jdk_29_method_69_code 1 = .ok (.iload_n 1, 1) := by decide +kernel
theorem d29_2 : decode jdk_29_method_69_code 2 = .ok (.if_icmp .gt 7, 3) := by decide +kernel
theorem d29_5 : decode jdk_29_method_69_code 5 = .ok (.iload_n 0, 1) := by decide +kernel
theorem d29_6 : decode jdk_29_method_69_code 6 = .ok (.goto 4, 3) := by decide +kernel
theorem d29_9 : decode jdk_29_method_69_code 9 = .ok (.iload_n 1, 1) := by decide +kernel
theorem d29_10 : decode jdk_29_method_69_code 10 = .ok (.ireturn, 1) := by decide +kernel
theorem efMin16_8  (m : MethodId) : entryFrame m #[(.int (16 : Int32)), (.int (8 : Int32))] 2 = mkF m 0 #[.val (.int (16 : Int32)), .val (.int (8 : Int32))] [] := by first | (simp [entryFrame, mkF, argsToLocals, Value.category]; done) | rfl
def QMin16_8 (Z : State)  (h0 : Heap) (n0 : Nat) (v : Option Value) (h : Heap) (L : List Loc) : Prop := v = some (.int (8 : Int32)) ∧ Fr n0 L ∧ h = h0
set_option maxRecDepth 65536 in
set_option maxHeartbeats 40000000 in
theorem rmMin16_8 (l : Launch) (Z : State) (a0 : Array Value) (hw : ∀ d ∈ tables_1, d.before a0 Z = true) (ws : List Jvm.Cond)  (h0 : Heap) (n0 : Nat) (Z0 : n0 ≤ h0.size) (O0 : Old Z n0 h0) :
    OwnLaw l y9_ jdk_29_method_69_code 2 (some .int) ws (rR 0 0 0 0) #[(.int (16 : Int32)), (.int (8 : Int32))] Z h0 (QMin16_8 Z  h0 n0) := by
  refine own_enter (Jvm.Free.JP.mathPlain rfl (by decide +kernel)) (efMin16_8 ) ?_
  intro p e s m below meth c s₁ Bd hx hby hml hZ hown X0 e0
  have N0 := Fr.nil n0
  have K0 : Keep h0 h0 [] := Keep.refl _ _
  refine P1.iloadN X0.here hx (hb hby d29_0) rfl ?_
  refine P1.iloadN X0.here hx (hb hby d29_1) rfl ?_
  refine P1.icmpYes X0.here hx 9 (hb hby d29_2) (tlt (by decide : (8 : Int32) < (16 : Int32))).2.2.1 (by decide) (by decide) ?_
  refine P1.iloadN X0.here hx (hb hby d29_9) rfl ?_
  refine Goes.retI X0 hx Bd.notSynchronized Bd.returns (hb hby d29_10) (ok rfl) (ok rfl) ?_
  rw [e0]
  exact ⟨rfl, N0, rfl⟩
theorem pd_934 : parseMethodDescriptor "(II)I" = some ⟨[.int, .int], some .int⟩ := by decide +kernel
theorem efCb0_8_16_8 (t : Addr) (m : MethodId) : entryFrame m #[(.ref t), (.int (0 : Int32)), (.int (8 : Int32))] 5 = mkF m 0 #[.val (.ref t), .val (.int (0 : Int32)), .val (.int (8 : Int32)), .unset, .unset] [] := by first | (simp [entryFrame, mkF, argsToLocals, Value.category]; done) | rfl
def QCb0_8_16_8 (Z : State) (t : Addr) (kt : ClassId) (b0 b1 b2 b3 b4 b5 b6 b7 : Int32) (h0 : Heap) (n0 : Nat) (v : Option Value) (h : Heap) (L : List Loc) : Prop := ∃ r kr, v = some (.ref r) ∧ Fr n0 L ∧ Keep h0 h [] ∧ h0.size ≤ r ∧ Arv Z h r kr .byte (8 : Int32) [(.int b0), (.int b1), (.int b2), (.int b3), (.int b4), (.int b5), (.int b6), (.int b7)] (.int (0 : Int32))
set_option maxRecDepth 65536 in
set_option maxHeartbeats 40000000 in
theorem rmCb0_8_16_8 (l : Launch) (Z : State) (a0 : Array Value) (hw : ∀ d ∈ tables_1, d.before a0 Z = true) (ws : List Jvm.Cond) (t : Addr) (kt : ClassId) (b0 b1 b2 b3 b4 b5 b6 b7 : Int32) (h0 : Heap) (n0 : Nat) (Z0 : n0 ≤ h0.size) (O0 : Old Z n0 h0) (Vt : Arv Z h0 t kt .byte (16 : Int32) [(.int b0), (.int b1), (.int b2), (.int b3), (.int b4), (.int b5), (.int b6), (.int b7)] (.int (0 : Int32))) :
    OwnLaw l y24_ jdk_65_method_133_code 5 (some (.array .byte)) ws (rR 1 1 8 18) #[(.ref t), (.int (0 : Int32)), (.int (8 : Int32))] Z h0 (QCb0_8_16_8 Z t kt b0 b1 b2 b3 b4 b5 b6 b7 h0 n0) := by
  refine own_enter (plainFor_of_name pn_java_util_Arrays) (efCb0_8_16_8 t) ?_
  intro p e s m below meth c s₁ Bd hx hby hml hZ hown X0 e0
  have N0 := Fr.nil n0
  have K0 : Keep h0 h0 [] := Keep.refl _ _
  refine P1.iloadN X0.here hx (hb hby d27_0) rfl ?_
  refine P1.iloadN X0.here hx (hb hby d27_1) rfl ?_
  refine Goes.callS X0 hx (y := y22_) hown (mvT hZ (own_w hw 145 rfl)) (mvT hZ (own_w hw 146 rfl)) (mvT hZ (own_w hw 140 rfl)) (mvT hZ (own_w hw 147 rfl)) (by decide) (kc' := 0) (ks' := 0) (backOf (W := 0) (rmCkl0_8 l Z a0 hw []  h0 n0 Z0 O0 ) hZ (own_w hw 147 rfl) (own_w hw 140 rfl) (ok rfl) (ok rfl)) (g := (mkF m 2 #[.val (.ref t), .val (.int (0 : Int32)), .val (.int (8 : Int32)), .unset, .unset] [(.int (8 : Int32)), (.int (0 : Int32))])) rfl (by rw [hml]; rfl) (argsL := [(.int (0 : Int32)), (.int (8 : Int32))]) (rest := []) (lenOf pd_999 rfl) rfl (by show 2 * 0 + _ ≤ _; exact Nat.le_of_eq rfl) (hb hby d27_2) rfl e0 (ok rfl) (ok rfl) ?_
  intro v173 T173 L173 q173 X173
  obtain ⟨rfl, N173q, hE173⟩ := q173
  have N173 := Fr.app N0 N173q
  show Goes p e below _ T173 (mkF m 5 #[.val (.ref t), .val (.int (0 : Int32)), .val (.int (8 : Int32)), .unset, .unset] [])
  refine P1.iloadN X173.here hx (hb hby d27_5) rfl ?_
  refine P1.iloadN X173.here hx (hb hby d27_6) rfl ?_
  refine P1.isub X173.here hx (hb hby d27_7) ?_
  have rw174 : ((8 : Int32) - (0 : Int32)) = (8 : Int32) := by decide
  rw [rw174]
  refine P1.istoreN X173.here hx #[.val (.ref t), .val (.int (0 : Int32)), .val (.int (8 : Int32)), .val (.int (8 : Int32)), .unset] (hb hby d27_8) rfl ?_
  refine P1.iloadN X173.here hx (hb hby d27_9) rfl ?_
  obtain ⟨T175, h175, k175, X175, e175, E175, A175, st175⟩ := newP X173 hx hZ (own_w hw 19 rfl) hE173 (g := (mkF m 10 #[.val (.ref t), .val (.int (0 : Int32)), .val (.int (8 : Int32)), .val (.int (8 : Int32)), .unset] [(.int (8 : Int32))])) rfl (hb hby d27_10) rfl (by decide) (cap := 8) (ok rfl) (ok rfl) (ok rfl) (ok rfl)
  obtain ⟨b175, g175⟩ : ∃ z, z = h0.size := ⟨_, rfl⟩
  rw [← g175] at A175 st175
  have ge_b175 : n0 ≤ b175 := Nat.le_trans Z0 (Nat.le_of_eq g175.symm)
  have sz_b175 : h0.size ≤ b175 := Nat.le_trans K0.1 (Nat.le_of_eq g175.symm)
  have V175 : Arv Z h175 b175 k175 .byte (8 : Int32) [(.int (0 : Int32)), (.int (0 : Int32)), (.int (0 : Int32)), (.int (0 : Int32)), (.int (0 : Int32)), (.int (0 : Int32)), (.int (0 : Int32)), (.int (0 : Int32))] (.int (0 : Int32)) := (Arv.new A175 (by decide)).pad (pad_rep [] (.int (0 : Int32)) 8)
  refine Goes.step (T' := T175) (g' := (mkF m 12 #[.val (.ref t), .val (.int (0 : Int32)), .val (.int (8 : Int32)), .val (.int (8 : Int32)), .unset] [(.ref b175)])) st175 ?_
  refine P1.astore X175.here hx #[.val (.ref t), .val (.int (0 : Int32)), .val (.int (8 : Int32)), .val (.int (8 : Int32)), .val (.ref b175)] (hb hby d27_12) rfl rfl ?_
  refine P1.aloadN X175.here hx (hb hby d27_14) rfl rfl ?_
  refine P1.iloadN X175.here hx (hb hby d27_15) rfl ?_
  refine P1.aload X175.here hx (hb hby d27_16) rfl rfl ?_
  refine P1.iconst X175.here hx (0 : Int32) (hb hby d27_18) rfl ?_
  refine P1.aloadN X175.here hx (hb hby d27_19) rfl rfl ?_
  have V176 : Arv Z h175 t kt .byte (16 : Int32) [(.int b0), (.int b1), (.int b2), (.int b3), (.int b4), (.int b5), (.int b6), (.int b7)] (.int (0 : Int32)) := Vt.ext E175
  obtain ⟨cl177, Ar177, qk177, sl177, nz177, ha177, fi177⟩ := id V176
  have al178 : cl177.slots.size.toInt32 = (16 : Int32) := len_of sl177 nz177
  refine Goes.step (T' := T175) (g' := (mkF m 21 #[.val (.ref t), .val (.int (0 : Int32)), .val (.int (8 : Int32)), .val (.int (8 : Int32)), .val (.ref b175)] [(.int (16 : Int32)), (.int (0 : Int32)), (.ref b175), (.int (0 : Int32)), (.ref t)])) (fun t_ k_ => X175.arraylength hx (by rw [e175]; exact Ar177.1) (State.isArrayOf_alike hZ.alike Ar177.2.1) (g := (mkF m 20 #[.val (.ref t), .val (.int (0 : Int32)), .val (.int (8 : Int32)), .val (.int (8 : Int32)), .val (.ref b175)] [(.ref t), (.int (0 : Int32)), (.ref b175), (.int (0 : Int32)), (.ref t)])) rfl rfl (hb hby d27_20) _ <| by rw [al178]; exact k_) ?_
  refine P1.iloadN X175.here hx (hb hby d27_21) rfl ?_
  refine P1.isub X175.here hx (hb hby d27_22) ?_
  have rw179 : ((16 : Int32) - (0 : Int32)) = (16 : Int32) := by decide
  rw [rw179]
  refine P1.iloadN X175.here hx (hb hby d27_23) rfl ?_
  have Z180 : n0 ≤ h175.size := Nat.le_trans Z0 E175.1
  have O181 : Old Z n0 h175 := O0.ext E175
  refine Goes.callS X175 hx (y := y9_) hown (mvT hZ (own_w hw 148 rfl)) (mvT hZ (own_w hw 149 rfl)) (mvT hZ (own_w hw 150 rfl)) (mvT hZ (own_w hw 151 rfl)) (by decide) (kc' := 0) (ks' := 0) (backOf (W := 4) (rmMin16_8 l Z a0 hw []  h175 n0 Z180 O181 ) hZ (own_w hw 151 rfl) (own_w hw 150 rfl) (ok rfl) (ok rfl)) (g := (mkF m 24 #[.val (.ref t), .val (.int (0 : Int32)), .val (.int (8 : Int32)), .val (.int (8 : Int32)), .val (.ref b175)] [(.int (8 : Int32)), (.int (16 : Int32)), (.int (0 : Int32)), (.ref b175), (.int (0 : Int32)), (.ref t)])) rfl (by rw [hml]; rfl) (argsL := [(.int (16 : Int32)), (.int (8 : Int32))]) (rest := [(.int (0 : Int32)), (.ref b175), (.int (0 : Int32)), (.ref t)]) (lenOf pd_934 rfl) rfl (by show 2 * 0 + _ ≤ _; exact Nat.le_of_eq rfl) (hb hby d27_24) rfl e175 (ok rfl) (ok rfl) ?_
  intro v182 T182 L182 q182 X182
  obtain ⟨rfl, N182q, hE182⟩ := q182
  have N182 := Fr.app N173 N182q
  show Goes p e below _ T182 (mkF m 27 #[.val (.ref t), .val (.int (0 : Int32)), .val (.int (8 : Int32)), .val (.int (8 : Int32)), .val (.ref b175)] [(.int (8 : Int32)), (.int (0 : Int32)), (.ref b175), (.int (0 : Int32)), (.ref t)])
  obtain ⟨T183, h183, L183, X183, e183, N183, K183, Va183, st183⟩ := cpA X182 hx hZ hown (own_w hw 152 rfl) (own_w hw 106 rfl) (own_w hw 104 rfl) (own_w hw 105 rfl) hE182 V176 V175 (us := [(.int b0), (.int b1), (.int b2), (.int b3), (.int b4), (.int b5), (.int b6), (.int b7)]) (Or.inl ⟨rfl, rfl⟩) (by decide) (by decide) (by decide) (ok rfl) (ok rfl) rfl (ok rfl) N182 ge_b175 (g := (mkF m 27 #[.val (.ref t), .val (.int (0 : Int32)), .val (.int (8 : Int32)), .val (.int (8 : Int32)), .val (.ref b175)] [(.int (8 : Int32)), (.int (0 : Int32)), (.ref b175), (.int (0 : Int32)), (.ref t)])) rfl (by rw [hml]; rfl) rfl (hb hby d27_27) (ok rfl) (W := 0) (by show 2 * 0 + _ ≤ _; exact Nat.le_of_eq rfl) (ok rfl)
  have V183 : Arv Z h183 b175 k175 .byte (8 : Int32) [(.int b0), (.int b1), (.int b2), (.int b3), (.int b4), (.int b5), (.int b6), (.int b7)] (.int (0 : Int32)) := Va183
  refine Goes.step (T' := T183) (g' := (mkF m 30 #[.val (.ref t), .val (.int (0 : Int32)), .val (.int (8 : Int32)), .val (.int (8 : Int32)), .val (.ref b175)] [])) st183 ?_
  refine P1.aload X183.here hx (hb hby d27_30) rfl rfl ?_
  refine Goes.retA X183 hx Bd.notSynchronized Bd.returns rfl rfl (hb hby d27_32) (ok rfl) (ok rfl) ?_
  rw [e183]
  have K184 : Keep h0 h175 [] := K0.ext E175
  have K185 : Keep h0 h183 [] := K184.trans K183 (allS (Or.inr sz_b175) all0)
  exact ⟨b175, k175, rfl, N183, K185, sz_b175, V183⟩
theorem d26_0 : decode jdk_65_method_132_code 0 = .ok (.iload_n 1, 1) := by decide +kernel
theorem d26_1 : decode jdk_65_method_132_code 1 = .ok (.ifCond .ne 9, 3) := by decide +kernel
theorem d26_4 : decode jdk_65_method_132_code 4 = .ok (.iload_n 2, 1) := by decide +kernel
theorem d26_5 : decode jdk_65_method_132_code 5 = .ok (.aload_n 0, 1) := by decide +kernel
theorem d26_6 : decode jdk_65_method_132_code 6 = .ok (.arraylength, 1) := by decide +kernel
theorem d26_7 : decode jdk_65_method_132_code 7 = .ok (.if_icmp .eq 10, 3) := by decide +kernel
theorem d26_10 : decode jdk_65_method_132_code 10 = .ok (.aload_n 0, 1) := by decide +kernel
theorem d26_11 : decode jdk_65_method_132_code 11 = .ok (.iload_n 1, 1) := by decide +kernel
theorem d26_12 : decode jdk_65_method_132_code 12 = .ok (.iload_n 2, 1) := by decide +kernel
theorem d26_13 : decode jdk_65_method_132_code 13 = .ok (.invokestatic 339, 3) := by decide +kernel
theorem d26_16 : decode jdk_65_method_132_code 16 = .ok (.areturn, 1) := by decide +kernel
theorem d26_17 : decode jdk_65_method_132_code 17 = .ok (.aload_n 0, 1) := by decide +kernel
theorem d26_18 : decode jdk_65_method_132_code 18 = .ok (.invokevirtual 310, 3) := by decide +kernel
theorem d26_21 : decode jdk_65_method_132_code 21 = .ok (.checkcast 311, 3) := by decide +kernel
theorem d26_24 : decode jdk_65_method_132_code 24 = .ok (.areturn, 1) := by decide +kernel
theorem pd_2488 : parseMethodDescriptor "([BII)[B" = some ⟨[(.array .byte), .int, .int], some (.array .byte)⟩ := by decide +kernel
theorem efCr0_8_16_8 (t : Addr) (m : MethodId) : entryFrame m #[(.ref t), (.int (0 : Int32)), (.int (8 : Int32))] 3 = mkF m 0 #[.val (.ref t), .val (.int (0 : Int32)), .val (.int (8 : Int32))] [] := by first | (simp [entryFrame, mkF, argsToLocals, Value.category]; done) | rfl
def QCr0_8_16_8 (Z : State) (t : Addr) (kt : ClassId) (b0 b1 b2 b3 b4 b5 b6 b7 : Int32) (h0 : Heap) (n0 : Nat) (v : Option Value) (h : Heap) (L : List Loc) : Prop := ∃ r kr, v = some (.ref r) ∧ Fr n0 L ∧ Keep h0 h [] ∧ h0.size ≤ r ∧ Arv Z h r kr .byte (8 : Int32) [(.int b0), (.int b1), (.int b2), (.int b3), (.int b4), (.int b5), (.int b6), (.int b7)] (.int (0 : Int32))
set_option maxRecDepth 65536 in
set_option maxHeartbeats 40000000 in
theorem rmCr0_8_16_8 (l : Launch) (Z : State) (a0 : Array Value) (hw : ∀ d ∈ tables_1, d.before a0 Z = true) (ws : List Jvm.Cond) (t : Addr) (kt : ClassId) (b0 b1 b2 b3 b4 b5 b6 b7 : Int32) (h0 : Heap) (n0 : Nat) (Z0 : n0 ≤ h0.size) (O0 : Old Z n0 h0) (Vt : Arv Z h0 t kt .byte (16 : Int32) [(.int b0), (.int b1), (.int b2), (.int b3), (.int b4), (.int b5), (.int b6), (.int b7)] (.int (0 : Int32))) :
    OwnLaw l y23_ jdk_65_method_132_code 3 (some (.array .byte)) ws (rR 2 1 8 34) #[(.ref t), (.int (0 : Int32)), (.int (8 : Int32))] Z h0 (QCr0_8_16_8 Z t kt b0 b1 b2 b3 b4 b5 b6 b7 h0 n0) := by
  refine own_enter (plainFor_of_name pn_java_util_Arrays) (efCr0_8_16_8 t) ?_
  intro p e s m below meth c s₁ Bd hx hby hml hZ hown X0 e0
  have N0 := Fr.nil n0
  have K0 : Keep h0 h0 [] := Keep.refl _ _
  refine P1.iloadN X0.here hx (hb hby d26_0) rfl ?_
  refine P1.ifNo X0.here hx (hb hby d26_1) ((if0 _ _).trans (teq (by decide : (0 : Int32) = (0 : Int32))).2) ?_
  refine P1.iloadN X0.here hx (hb hby d26_4) rfl ?_
  refine P1.aloadN X0.here hx (hb hby d26_5) rfl rfl ?_
  obtain ⟨cl186, Ar186, qk186, sl186, nz186, ha186, fi186⟩ := id Vt
  have al187 : cl186.slots.size.toInt32 = (16 : Int32) := len_of sl186 nz186
  refine Goes.step (T' := s₁) (g' := (mkF m 7 #[.val (.ref t), .val (.int (0 : Int32)), .val (.int (8 : Int32))] [(.int (16 : Int32)), (.int (8 : Int32))])) (fun t_ k_ => X0.arraylength hx (by rw [e0]; exact Ar186.1) (State.isArrayOf_alike hZ.alike Ar186.2.1) (g := (mkF m 6 #[.val (.ref t), .val (.int (0 : Int32)), .val (.int (8 : Int32))] [(.ref t), (.int (8 : Int32))])) rfl rfl (hb hby d26_6) _ <| by rw [al187]; exact k_) ?_
  refine P1.icmpNo X0.here hx (hb hby d26_7) (feq (by decide : ¬ ((8 : Int32) = (16 : Int32)))).1 ?_
  refine P1.aloadN X0.here hx (hb hby d26_10) rfl rfl ?_
  refine P1.iloadN X0.here hx (hb hby d26_11) rfl ?_
  refine P1.iloadN X0.here hx (hb hby d26_12) rfl ?_
  refine Goes.callS X0 hx (y := y24_) hown (mvT hZ (own_w hw 142 rfl)) (mvT hZ (own_w hw 143 rfl)) (mvT hZ (own_w hw 140 rfl)) (mvT hZ (own_w hw 144 rfl)) (by decide) (kc' := 1) (ks' := 8) (backOf (W := 0) (rmCb0_8_16_8 l Z a0 hw [] t kt b0 b1 b2 b3 b4 b5 b6 b7 h0 n0 Z0 O0 Vt) hZ (own_w hw 144 rfl) (own_w hw 140 rfl) (ok rfl) (ok rfl)) (g := (mkF m 13 #[.val (.ref t), .val (.int (0 : Int32)), .val (.int (8 : Int32))] [(.int (8 : Int32)), (.int (0 : Int32)), (.ref t)])) rfl (by rw [hml]; rfl) (argsL := [(.ref t), (.int (0 : Int32)), (.int (8 : Int32))]) (rest := []) (lenOf pd_2488 rfl) rfl (by show 2 * 0 + _ ≤ _; exact Nat.le_of_eq rfl) (hb hby d26_13) rfl e0 (ok rfl) (ok rfl) ?_
  intro v188 T188 L188 q188 X188
  obtain ⟨r188, kr188, rfl, N188q, K188, szr188, g188V⟩ := q188
  have ge_r188 : n0 ≤ r188 := Nat.le_trans Z0 szr188
  have sz_r188 : h0.size ≤ r188 := Nat.le_trans K0.1 szr188
  have N188 := Fr.app N0 N188q
  show Goes p e below _ T188 (mkF m 16 #[.val (.ref t), .val (.int (0 : Int32)), .val (.int (8 : Int32))] [(.ref r188)])
  refine Goes.retA X188 hx Bd.notSynchronized Bd.returns rfl rfl (hb hby d26_16) (ok rfl) (ok rfl) ?_
  have K189 : Keep h0 T188.heap [] := K0.trans K188 all0
  exact ⟨r188, kr188, rfl, N188, K189, sz_r188, g188V⟩
theorem d21_0 : decode jdk_42_method_150_code 0 = .ok (.aload_n 0, 1) := by decide +kernel
theorem d21_1 : decode jdk_42_method_150_code 1 = .ok (.invokespecial 1, 3) := by decide +kernel
theorem d21_4 : decode jdk_42_method_150_code 4 = .ok (.aload_n 1, 1) := by decide +kernel
theorem d21_5 : decode jdk_42_method_150_code 5 = .ok (.invokevirtual 552, 3) := by decide +kernel
theorem d21_8 : decode jdk_42_method_150_code 8 = .ok (.astore_n 3, 1) := by decide +kernel
theorem d21_9 : decode jdk_42_method_150_code 9 = .ok (.aload_n 1, 1) := by decide +kernel
theorem d21_10 : decode jdk_42_method_150_code 10 = .ok (.invokevirtual 549, 3) := by decide +kernel
theorem d21_13 : decode jdk_42_method_150_code 13 = .ok (.istore 4, 2) := by decide +kernel
theorem d21_15 : decode jdk_42_method_150_code 15 = .ok (.aload_n 1, 1) := by decide +kernel
theorem d21_16 : decode jdk_42_method_150_code 16 = .ok (.invokevirtual 1047, 3) := by decide +kernel
theorem d21_19 : decode jdk_42_method_150_code 19 = .ok (.ifCond .eq 22, 3) := by decide +kernel
theorem d21_22 : decode jdk_42_method_150_code 22 = .ok (.aload_n 0, 1) := by decide +kernel
theorem d21_23 : decode jdk_42_method_150_code 23 = .ok (.iconst 0, 1) := by decide +kernel
theorem d21_24 : decode jdk_42_method_150_code 24 = .ok (.putfield 15, 3) := by decide +kernel
theorem d21_27 : decode jdk_42_method_150_code 27 = .ok (.aload_n 0, 1) := by decide +kernel
theorem d21_28 : decode jdk_42_method_150_code 28 = .ok (.aload_n 3, 1) := by decide +kernel
theorem d21_29 : decode jdk_42_method_150_code 29 = .ok (.iconst 0, 1) := by decide +kernel
theorem d21_30 : decode jdk_42_method_150_code 30 = .ok (.iload 4, 2) := by decide +kernel
theorem d21_32 : decode jdk_42_method_150_code 32 = .ok (.invokestatic 54, 3) := by decide +kernel
theorem d21_35 : decode jdk_42_method_150_code 35 = .ok (.putfield 9, 3) := by decide +kernel
theorem d21_38 : decode jdk_42_method_150_code 38 = .ok (.goto 59, 3) := by decide +kernel
theorem d21_41 : decode jdk_42_method_150_code 41 = .ok (.getstatic 38, 3) := by decide +kernel
theorem d21_44 : decode jdk_42_method_150_code 44 = .ok (.ifCond .eq 35, 3) := by decide +kernel
theorem d21_47 : decode jdk_42_method_150_code 47 = .ok (.aload_n 1, 1) := by decide +kernel
theorem d21_48 : decode jdk_42_method_150_code 48 = .ok (.getfield 1048, 3) := by decide +kernel
theorem d21_51 : decode jdk_42_method_150_code 51 = .ok (.ifCond .eq 28, 3) := by decide +kernel
theorem d21_54 : decode jdk_42_method_150_code 54 = .ok (.aload_n 0, 1) := by decide +kernel
theorem d21_55 : decode jdk_42_method_150_code 55 = .ok (.aload_n 3, 1) := by decide +kernel
theorem d21_56 : decode jdk_42_method_150_code 56 = .ok (.iconst 0, 1) := by decide +kernel
theorem d21_57 : decode jdk_42_method_150_code 57 = .ok (.iload 4, 2) := by decide +kernel
theorem d21_59 : decode jdk_42_method_150_code 59 = .ok (.invokestatic 1051, 3) := by decide +kernel
theorem d21_62 : decode jdk_42_method_150_code 62 = .ok (.putfield 9, 3) := by decide +kernel
theorem d21_65 : decode jdk_42_method_150_code 65 = .ok (.aload_n 0, 1) := by decide +kernel
theorem d21_66 : decode jdk_42_method_150_code 66 = .ok (.aload_n 0, 1) := by decide +kernel
theorem d21_67 : decode jdk_42_method_150_code 67 = .ok (.getfield 9, 3) := by decide +kernel
theorem d21_70 : decode jdk_42_method_150_code 70 = .ok (.iload 4, 2) := by decide +kernel
theorem d21_72 : decode jdk_42_method_150_code 72 = .ok (.invokestatic 47, 3) := by decide +kernel
theorem d21_75 : decode jdk_42_method_150_code 75 = .ok (.putfield 15, 3) := by decide +kernel
theorem d21_78 : decode jdk_42_method_150_code 78 = .ok (.return_, 1) := by decide +kernel
theorem d21_79 : decode jdk_42_method_150_code 79 = .ok (.aload_n 0, 1) := by decide +kernel
theorem d21_80 : decode jdk_42_method_150_code 80 = .ok (.iconst 1, 1) := by decide +kernel
theorem d21_81 : decode jdk_42_method_150_code 81 = .ok (.putfield 15, 3) := by decide +kernel
theorem d21_84 : decode jdk_42_method_150_code 84 = .ok (.aload_n 0, 1) := by decide +kernel
theorem d21_85 : decode jdk_42_method_150_code 85 = .ok (.aload_n 3, 1) := by decide +kernel
theorem d21_86 : decode jdk_42_method_150_code 86 = .ok (.iconst 0, 1) := by decide +kernel
theorem d21_87 : decode jdk_42_method_150_code 87 = .ok (.iload 4, 2) := by decide +kernel
theorem d21_89 : decode jdk_42_method_150_code 89 = .ok (.iconst 1, 1) := by decide +kernel
theorem d21_90 : decode jdk_42_method_150_code 90 = .ok (.ishl, 1) := by decide +kernel
theorem d21_91 : decode jdk_42_method_150_code 91 = .ok (.invokestatic 54, 3) := by decide +kernel
theorem d21_94 : decode jdk_42_method_150_code 94 = .ok (.putfield 9, 3) := by decide +kernel
theorem d21_97 : decode jdk_42_method_150_code 97 = .ok (.return_, 1) := by decide +kernel
theorem pd_659 : parseMethodDescriptor "()[B" = some ⟨[], some (.array .byte)⟩ := by decide +kernel
theorem pd_392 : parseMethodDescriptor "()Z" = some ⟨[], some .boolean⟩ := by decide +kernel
theorem efT3_8 (y x : Addr) (m : MethodId) : entryFrame m #[(.ref y), (.ref x), .null] 5 = mkF m 0 #[.val (.ref y), .val (.ref x), .val .null, .unset, .unset] [] := by first | (simp [entryFrame, mkF, argsToLocals, Value.category]; done) | rfl
def QT3_8 (Z : State) (y x t : Addr) (kt : ClassId) (b0 b1 b2 b3 b4 b5 b6 b7 zc : Int32) (fm : Value) (h0 : Heap) (n0 : Nat) (v : Option Value) (h : Heap) (L : List Loc) : Prop := ∃ r kr, v = none ∧ Fr n0 L ∧ Keep h0 h [y] ∧ h0.size ≤ r ∧ Exa Z h y "java/lang/String" ∧ Fld Z h y "java/lang/String" "value" "[B" (.ref r) ∧ Fld Z h y "java/lang/String" "coder" "B" (.int (0 : Int32)) ∧ Arv Z h r kr .byte (8 : Int32) [(.int b0), (.int b1), (.int b2), (.int b3), (.int b4), (.int b5), (.int b6), (.int b7)] (.int (0 : Int32))
set_option maxRecDepth 65536 in
set_option maxHeartbeats 40000000 in
theorem rmT3_8 (l : Launch) (Z : State) (a0 : Array Value) (hw : ∀ d ∈ tables_1, d.before a0 Z = true) (ws : List Jvm.Cond) (y x t : Addr) (kt : ClassId) (b0 b1 b2 b3 b4 b5 b6 b7 zc : Int32) (fm : Value) (h0 : Heap) (n0 : Nat) (Z0 : n0 ≤ h0.size) (O0 : Old Z n0 h0) (S_CS : Sta Z Z.heap "java/lang/String" "COMPACT_STRINGS" "Z" (.int zc)) (hzc : ¬ zc = 0) (S_FM : Sta Z Z.heap "jdk/internal/util/Preconditions" "SIOOBE_FORMATTER" "Ljava/util/function/BiFunction;" fm) (hfm : fm.isRef = true) (gy : n0 ≤ y) (Ey : Exa Z h0 y "java/lang/String") (Vy : Fld Z h0 y "java/lang/String" "value" "[B" .null) (Cy : Fld Z h0 y "java/lang/String" "coder" "B" (.int (0 : Int32))) (gx : n0 ≤ x) (gt : n0 ≤ t) (Ex : Exa Z h0 x "java/lang/StringBuilder") (Fv : Fld Z h0 x "java/lang/AbstractStringBuilder" "value" "[B" (.ref t)) (Fc : Fld Z h0 x "java/lang/AbstractStringBuilder" "coder" "B" (.int (0 : Int32))) (Fn : Fld Z h0 x "java/lang/AbstractStringBuilder" "count" "I" (.int (8 : Int32))) (Vt : Arv Z h0 t kt .byte (16 : Int32) [(.int b0), (.int b1), (.int b2), (.int b3), (.int b4), (.int b5), (.int b6), (.int b7)] (.int (0 : Int32))) :
    OwnLaw l y10_ jdk_42_method_150_code 5 none ws (rR 3 1 8 49) #[(.ref y), (.ref x), .null] Z h0 (QT3_8 Z y x t kt b0 b1 b2 b3 b4 b5 b6 b7 zc fm h0 n0) := by
  refine own_enter (plainFor_of_name pn_java_lang_String) (efT3_8 y x) ?_
  intro p e s m below meth c s₁ Bd hx hby hml hZ hown X0 e0
  have hnm := (name_of_methodNamed Bd.named Bd.method).1
  have N0 := Fr.nil n0
  have K0 : Keep h0 h0 [] := Keep.refl _ _
  have K0 : Keep h0 h0 [y] := Keep.refl _ _
  refine P1.aloadN X0.here hx (hb hby d21_0) rfl rfl ?_
  obtain ⟨T190, X190, e190, st190⟩ := initO X0 hx hZ hown (own_w hw 11 rfl) (own_w hw 12 rfl) (own_w hw 13 rfl) e0 (g := (mkF m 1 #[.val (.ref y), .val (.ref x), .val .null, .unset, .unset] [(.ref y)])) rfl (by rw [hml]; rfl) rfl (hb hby d21_1) (by decide) (W := 0) (by show 2 * 0 + _ ≤ _; exact Nat.le_of_eq rfl) (by decide)
  refine Goes.step (T' := T190) (g' := (mkF m 4 #[.val (.ref y), .val (.ref x), .val .null, .unset, .unset] [])) st190 ?_
  refine P1.aloadN X190.here hx (hb hby d21_4) rfl rfl ?_
  refine Goes.callV X190 hx hZ (y := y4_) (z := y4_) hown (mvT hZ (own_w hw 120 rfl)) (mvT hZ (own_w hw 121 rfl)) (notFace_of_selects (args := #[]) (mvT hZ (own_w hw 123 rfl))) (mvT hZ (own_w hw 123 rfl)) (mvT hZ (own_w hw 122 rfl)) (by decide) (kc' := 0) (ks' := 0) (backOf (W := 0) (rmGv l Z a0 hw [] x t h0 n0 Z0 O0 Fv) hZ (own_w hw 124 rfl) (own_w hw 49 rfl) (ok rfl) (ok rfl)) (b := x) e190 Ex (g := (mkF m 5 #[.val (.ref y), .val (.ref x), .val .null, .unset, .unset] [(.ref x)])) rfl (by rw [hml]; rfl) (argsL := []) (rest := []) (lenOf pd_659 rfl) rfl (by show 2 * 0 + _ ≤ _; exact Nat.le_of_eq rfl) (hb hby d21_5) rfl (ok rfl) (ok rfl) ?_
  intro v191 T191 L191 q191 X191
  obtain ⟨rfl, N191q, hE191⟩ := q191
  have N191 := Fr.app N0 N191q
  show Goes p e below _ T191 (mkF m 8 #[.val (.ref y), .val (.ref x), .val .null, .unset, .unset] [(.ref t)])
  refine P1.astoreN X191.here hx #[.val (.ref y), .val (.ref x), .val .null, .val (.ref t), .unset] (hb hby d21_8) rfl rfl ?_
  refine P1.aloadN X191.here hx (hb hby d21_9) rfl rfl ?_
  refine Goes.callV X191 hx hZ (y := y7_) (z := y20_) hown (mvT hZ (own_w hw 125 rfl)) (mvT hZ (own_w hw 126 rfl)) (own_notFace (a0 := #[]) (mvT hZ (own_w hw 85 rfl)) rfl) (mvT hZ (own_w hw 128 rfl)) (mvT hZ (own_w hw 129 rfl)) (by decide) (kc' := 0) (ks' := 0) (backOf (W := 0) (rmSl l Z a0 hw [] x (8 : Int32) h0 n0 Z0 O0 Ex Fn) hZ (own_w hw 130 rfl) (own_w hw 41 rfl) (ok rfl) (ok rfl)) (b := x) hE191 Ex (g := (mkF m 10 #[.val (.ref y), .val (.ref x), .val .null, .val (.ref t), .unset] [(.ref x)])) rfl (by rw [hml]; rfl) (argsL := []) (rest := []) (lenOf pd_341 rfl) rfl (by show 2 * 0 + _ ≤ _; exact Nat.le_of_eq rfl) (hb hby d21_10) rfl (ok rfl) (ok rfl) ?_
  intro v192 T192 L192 q192 X192
  obtain ⟨rfl, N192q, hE192⟩ := q192
  have N192 := Fr.app N191 N192q
  show Goes p e below _ T192 (mkF m 13 #[.val (.ref y), .val (.ref x), .val .null, .val (.ref t), .unset] [(.int (8 : Int32))])
  refine P1.istore X192.here hx #[.val (.ref y), .val (.ref x), .val .null, .val (.ref t), .val (.int (8 : Int32))] (hb hby d21_13) rfl ?_
  refine P1.aloadN X192.here hx (hb hby d21_15) rfl rfl ?_
  refine Goes.callV X192 hx hZ (y := y6_) (z := y6_) hown (mvT hZ (own_w hw 133 rfl)) (mvT hZ (own_w hw 134 rfl)) (notFace_of_selects (args := #[]) (mvT hZ (own_w hw 136 rfl))) (mvT hZ (own_w hw 136 rfl)) (mvT hZ (own_w hw 135 rfl)) (by decide) (kc' := 0) (ks' := 0) (backOf (W := 0) (rmIl l Z a0 hw [] x zc fm h0 n0 Z0 O0 S_CS hzc S_FM hfm Fc) hZ (own_w hw 137 rfl) (own_w hw 49 rfl) (ok rfl) (ok rfl)) (b := x) hE192 Ex (g := (mkF m 16 #[.val (.ref y), .val (.ref x), .val .null, .val (.ref t), .val (.int (8 : Int32))] [(.ref x)])) rfl (by rw [hml]; rfl) (argsL := []) (rest := []) (lenOf pd_392 rfl) rfl (by show 2 * 0 + _ ≤ _; exact Nat.le_of_eq rfl) (hb hby d21_16) rfl (ok rfl) (ok rfl) ?_
  intro v193 T193 L193 q193 X193
  obtain ⟨rfl, N193q, hE193⟩ := q193
  have N193 := Fr.app N192 N193q
  show Goes p e below _ T193 (mkF m 19 #[.val (.ref y), .val (.ref x), .val .null, .val (.ref t), .val (.int (8 : Int32))] [(.int (1 : Int32))])
  refine P1.ifNo X193.here hx (hb hby d21_19) ((if0 _ _).trans (feq (by decide : ¬ ((1 : Int32) = (0 : Int32)))).1) ?_
  refine P1.aloadN X193.here hx (hb hby d21_22) rfl rfl ?_
  refine P1.iconst X193.here hx (0 : Int32) (hb hby d21_23) rfl ?_
  obtain ⟨T194, h194, X194, e194, W194, st194⟩ := putFN X193 hx hZ hown (own_w hw 26 rfl) Via.refl hE193 Cy Ey (Or.inr ⟨(own_w hw 27 rfl), rfl, hnm⟩) (own_w hw 1 rfl) (ty := .byte) (v' := (.int (0 : Int32))) (by decide) rfl (by decide) (g := (mkF m 24 #[.val (.ref y), .val (.ref x), .val .null, .val (.ref t), .val (.int (8 : Int32))] [(.int (0 : Int32)), (.ref y)])) rfl rfl (hb hby d21_24)
  have Fw194 : Fld Z h194 y "java/lang/String" "coder" "B" (.int (0 : Int32)) := Cy.same W194
  have N194 := Fr.snoc X194 N193 gy
  refine Goes.step (T' := T194) (g' := (mkF m 27 #[.val (.ref y), .val (.ref x), .val .null, .val (.ref t), .val (.int (8 : Int32))] [])) st194 ?_
  refine P1.aloadN X194.here hx (hb hby d21_27) rfl rfl ?_
  refine P1.aloadN X194.here hx (hb hby d21_28) rfl rfl ?_
  refine P1.iconst X194.here hx (0 : Int32) (hb hby d21_29) rfl ?_
  refine P1.iload X194.here hx (hb hby d21_30) rfl ?_
  have K195 : Keep h0 h194 [y] := K0.wr W194 (Or.inl (by simp))
  have Z196 : n0 ≤ h194.size := Nat.le_trans Z0 (Keep.of_wr W194).1
  have ne197 : y ≠ t := own_ne_arv Ey (own_w hw 1 rfl) Vt
  have V198 : Arv Z h194 t kt .byte (16 : Int32) [(.int b0), (.int b1), (.int b2), (.int b3), (.int b4), (.int b5), (.int b6), (.int b7)] (.int (0 : Int32)) := Vt.other W194 (Ne.symm ne197)
  have O199 : Old Z n0 h194 := O0.wr W194 gy
  refine Goes.callS X194 hx (y := y23_) hown (mvT hZ (own_w hw 138 rfl)) (mvT hZ (own_w hw 139 rfl)) (mvT hZ (own_w hw 140 rfl)) (mvT hZ (own_w hw 141 rfl)) (by decide) (kc' := 1) (ks' := 8) (backOf (W := 1) (rmCr0_8_16_8 l Z a0 hw [] t kt b0 b1 b2 b3 b4 b5 b6 b7 h194 n0 Z196 O199 V198) hZ (own_w hw 141 rfl) (own_w hw 140 rfl) (ok rfl) (ok rfl)) (g := (mkF m 32 #[.val (.ref y), .val (.ref x), .val .null, .val (.ref t), .val (.int (8 : Int32))] [(.int (8 : Int32)), (.int (0 : Int32)), (.ref t), (.ref y)])) rfl (by rw [hml]; rfl) (argsL := [(.ref t), (.int (0 : Int32)), (.int (8 : Int32))]) (rest := [(.ref y)]) (lenOf pd_2488 rfl) rfl (by show 2 * 0 + _ ≤ _; exact Nat.le_of_eq rfl) (hb hby d21_32) rfl e194 (ok rfl) (ok rfl) ?_
  intro v200 T200 L200 q200 X200
  obtain ⟨r200, kr200, rfl, N200q, K200, szr200, g200V⟩ := q200
  have ge_r200 : n0 ≤ r200 := Nat.le_trans Z196 szr200
  have sz_r200 : h0.size ≤ r200 := Nat.le_trans K195.1 szr200
  have N200 := Fr.app N194 N200q
  show Goes p e below _ T200 (mkF m 35 #[.val (.ref y), .val (.ref x), .val .null, .val (.ref t), .val (.int (8 : Int32))] [(.ref r200), (.ref y)])
  have F201 : Fld Z h194 y "java/lang/String" "value" "[B" .null := Vy.other W194 (Or.inr (slot_ne (Or.inr (own_w hw 29 rfl)) (Or.inr (own_w hw 27 rfl)) (by decide) (t := (.array .byte)) (t' := .byte) (by decide) (by decide)))
  have F202 : Fld Z T200.heap y "java/lang/String" "value" "[B" .null := F201.keep K200 nin0
  have E203 : Exa Z h194 y "java/lang/String" := Ey.wr W194
  have E204 : Exa Z T200.heap y "java/lang/String" := E203.keep K200
  obtain ⟨T205, h205, X205, e205, W205, st205⟩ := putF X200 hx hZ hown (host := "") (Or.inl (own_w hw 28 rfl)) Via.refl rfl F202 E204 (Or.inr ⟨(own_w hw 29 rfl), rfl, hnm⟩) (own_w hw 1 rfl) (ty := (.array .byte)) (by decide) rfl rfl (g := (mkF m 35 #[.val (.ref y), .val (.ref x), .val .null, .val (.ref t), .val (.int (8 : Int32))] [(.ref r200), (.ref y)])) rfl rfl (hb hby d21_35)
  have Fw205 : Fld Z h205 y "java/lang/String" "value" "[B" (.ref r200) := F202.same W205
  have N205 := Fr.snoc X205 N200 gy
  refine Goes.step (T' := T205) (g' := (mkF m 38 #[.val (.ref y), .val (.ref x), .val .null, .val (.ref t), .val (.int (8 : Int32))] [])) st205 ?_
  refine P1.goto X205.here hx 97 (hb hby d21_38) (by decide) (by decide) ?_
  refine Goes.retV X205 hx Bd.notSynchronized Bd.returns (hb hby d21_97) (ok rfl) (ok rfl) ?_
  rw [e205]
  have E206 : Exa Z h205 y "java/lang/String" := E204.wr W205
  have F207 : Fld Z T200.heap y "java/lang/String" "coder" "B" (.int (0 : Int32)) := Fw194.keep K200 nin0
  have F208 : Fld Z h205 y "java/lang/String" "coder" "B" (.int (0 : Int32)) := F207.other W205 (Or.inr (slot_ne (Or.inr (own_w hw 27 rfl)) (Or.inr (own_w hw 29 rfl)) (by decide) (t := .byte) (t' := (.array .byte)) (by decide) (by decide)))
  have ne209 : y ≠ r200 := Nat.ne_of_lt (Nat.lt_of_lt_of_le E203.lt szr200)
  have V210 : Arv Z h205 r200 kr200 .byte (8 : Int32) [(.int b0), (.int b1), (.int b2), (.int b3), (.int b4), (.int b5), (.int b6), (.int b7)] (.int (0 : Int32)) := g200V.other W205 (Ne.symm ne209)
  have K211 : Keep h0 T200.heap [y] := K195.trans K200 all0
  have K212 : Keep h0 h205 [y] := K211.wr W205 (Or.inl (by simp))
  exact ⟨r200, kr200, rfl, N205, K212, sz_r200, E206, Fw205, F208, V210⟩
theorem d20_0 : decode jdk_42_method_53_code 0 = .ok (.aload_n 0, 1) := by decide +kernel
theorem d20_1 : decode jdk_42_method_53_code 1 = .ok (.aload_n 1, 1) := by decide +kernel
theorem d20_2 : decode jdk_42_method_53_code 2 = .ok (.aconst_null, 1) := by decide +kernel
theorem d20_3 : decode jdk_42_method_53_code 3 = .ok (.invokespecial 489, 3) := by decide +kernel
theorem d20_6 : decode jdk_42_method_53_code 6 = .ok (.return_, 1) := by decide +kernel
theorem pd_127641 : parseMethodDescriptor "(Ljava/lang/AbstractStringBuilder;Ljava/lang/Void;)V" = some ⟨[(.object "java/lang/AbstractStringBuilder"), (.object "java/lang/Void")], none⟩ := by decide +kernel
theorem efT2_8 (y x : Addr) (m : MethodId) : entryFrame m #[(.ref y), (.ref x)] 2 = mkF m 0 #[.val (.ref y), .val (.ref x)] [] := by first | (simp [entryFrame, mkF, argsToLocals, Value.category]; done) | rfl
def QT2_8 (Z : State) (y x t : Addr) (kt : ClassId) (b0 b1 b2 b3 b4 b5 b6 b7 zc : Int32) (fm : Value) (h0 : Heap) (n0 : Nat) (v : Option Value) (h : Heap) (L : List Loc) : Prop := ∃ r kr, v = none ∧ Fr n0 L ∧ Keep h0 h [y] ∧ h0.size ≤ r ∧ Exa Z h y "java/lang/String" ∧ Fld Z h y "java/lang/String" "value" "[B" (.ref r) ∧ Fld Z h y "java/lang/String" "coder" "B" (.int (0 : Int32)) ∧ Arv Z h r kr .byte (8 : Int32) [(.int b0), (.int b1), (.int b2), (.int b3), (.int b4), (.int b5), (.int b6), (.int b7)] (.int (0 : Int32))
set_option maxRecDepth 65536 in
set_option maxHeartbeats 40000000 in
theorem rmT2_8 (l : Launch) (Z : State) (a0 : Array Value) (hw : ∀ d ∈ tables_1, d.before a0 Z = true) (ws : List Jvm.Cond) (y x t : Addr) (kt : ClassId) (b0 b1 b2 b3 b4 b5 b6 b7 zc : Int32) (fm : Value) (h0 : Heap) (n0 : Nat) (Z0 : n0 ≤ h0.size) (O0 : Old Z n0 h0) (S_CS : Sta Z Z.heap "java/lang/String" "COMPACT_STRINGS" "Z" (.int zc)) (hzc : ¬ zc = 0) (S_FM : Sta Z Z.heap "jdk/internal/util/Preconditions" "SIOOBE_FORMATTER" "Ljava/util/function/BiFunction;" fm) (hfm : fm.isRef = true) (gy : n0 ≤ y) (Ey : Exa Z h0 y "java/lang/String") (Vy : Fld Z h0 y "java/lang/String" "value" "[B" .null) (Cy : Fld Z h0 y "java/lang/String" "coder" "B" (.int (0 : Int32))) (gx : n0 ≤ x) (gt : n0 ≤ t) (Ex : Exa Z h0 x "java/lang/StringBuilder") (Fv : Fld Z h0 x "java/lang/AbstractStringBuilder" "value" "[B" (.ref t)) (Fc : Fld Z h0 x "java/lang/AbstractStringBuilder" "coder" "B" (.int (0 : Int32))) (Fn : Fld Z h0 x "java/lang/AbstractStringBuilder" "count" "I" (.int (8 : Int32))) (Vt : Arv Z h0 t kt .byte (16 : Int32) [(.int b0), (.int b1), (.int b2), (.int b3), (.int b4), (.int b5), (.int b6), (.int b7)] (.int (0 : Int32))) :
    OwnLaw l y11_ jdk_42_method_53_code 2 none ws (rR 4 1 8 65) #[(.ref y), (.ref x)] Z h0 (QT2_8 Z y x t kt b0 b1 b2 b3 b4 b5 b6 b7 zc fm h0 n0) := by
  refine own_enter (plainFor_of_name pn_java_lang_String) (efT2_8 y x) ?_
  intro p e s m below meth c s₁ Bd hx hby hml hZ hown X0 e0
  have N0 := Fr.nil n0
  have K0 : Keep h0 h0 [] := Keep.refl _ _
  have K0 : Keep h0 h0 [y] := Keep.refl _ _
  refine P1.aloadN X0.here hx (hb hby d20_0) rfl rfl ?_
  refine P1.aloadN X0.here hx (hb hby d20_1) rfl rfl ?_
  refine P1.aconstNull X0.here hx (hb hby d20_2) ?_
  refine Goes.callC X0 hx (y := y10_) rfl hown (mvT hZ (own_w hw 117 rfl)) (mvT hZ (own_w hw 118 rfl)) (mvT hZ (own_w hw 119 rfl)) (by decide) (kc' := 1) (ks' := 8) (backOf (W := 0) (rmT3_8 l Z a0 hw [] y x t kt b0 b1 b2 b3 b4 b5 b6 b7 zc fm h0 n0 Z0 O0 S_CS hzc S_FM hfm gy Ey Vy Cy gx gt Ex Fv Fc Fn Vt) hZ (own_w hw 119 rfl) (own_w hw 2 rfl) (ok rfl) (ok rfl)) (g := (mkF m 3 #[.val (.ref y), .val (.ref x)] [.null, (.ref x), (.ref y)])) (a := y) rfl (by rw [hml]; rfl) (argsL := [(.ref x), .null]) (rest := []) (lenOf pd_127641 rfl) rfl (by show 2 * 0 + _ ≤ _; exact Nat.le_of_eq rfl) (hb hby d20_3) rfl e0 (ok rfl) (ok rfl) ?_
  intro v213 T213 L213 q213 X213
  obtain ⟨r213, kr213, rfl, N213q, K213, szr213, g213E, g213v, g213c, g213V⟩ := q213
  have ge_r213 : n0 ≤ r213 := Nat.le_trans Z0 szr213
  have sz_r213 : h0.size ≤ r213 := Nat.le_trans K0.1 szr213
  have N213 := Fr.app N0 N213q
  show Goes p e below _ T213 (mkF m 6 #[.val (.ref y), .val (.ref x)] [])
  refine Goes.retV X213 hx Bd.notSynchronized Bd.returns (hb hby d20_6) (ok rfl) (ok rfl) ?_
  have K214 : Keep h0 T213.heap [y] := K0.trans K213 (allS (Or.inl (by simp)) all0)
  exact ⟨r213, kr213, rfl, N213, K214, sz_r213, g213E, g213v, g213c, g213V⟩
theorem d19_0 : decode jdk_67_method_42_code 0 = .ok (.new 18, 3) := by decide +kernel
theorem d19_3 : decode jdk_67_method_42_code 3 = .ok (.dup, 1) := by decide +kernel
theorem d19_4 : decode jdk_67_method_42_code 4 = .ok (.aload_n 0, 1) := by decide +kernel
theorem d19_5 : decode jdk_67_method_42_code 5 = .ok (.invokespecial 137, 3) := by decide +kernel
theorem d19_8 : decode jdk_67_method_42_code 8 = .ok (.areturn, 1) := by decide +kernel
theorem pd_37548 : parseMethodDescriptor "(Ljava/lang/StringBuilder;)V" = some ⟨[(.object "java/lang/StringBuilder")], none⟩ := by decide +kernel
theorem efTs8 (x : Addr) (m : MethodId) : entryFrame m #[(.ref x)] 1 = mkF m 0 #[.val (.ref x)] [] := by first | (simp [entryFrame, mkF, argsToLocals, Value.category]; done) | rfl
def QTs8 (Z : State) (x t : Addr) (kt : ClassId) (b0 b1 b2 b3 b4 b5 b6 b7 zc : Int32) (fm : Value) (h0 : Heap) (n0 : Nat) (v : Option Value) (h : Heap) (L : List Loc) : Prop := ∃ y r kr, v = some (.ref y) ∧ Fr n0 L ∧ Keep h0 h [] ∧ Exa Z h y "java/lang/String" ∧ Fld Z h y "java/lang/String" "value" "[B" (.ref r) ∧ Fld Z h y "java/lang/String" "coder" "B" (.int (0 : Int32)) ∧ Arv Z h r kr .byte (8 : Int32) [(.int b0), (.int b1), (.int b2), (.int b3), (.int b4), (.int b5), (.int b6), (.int b7)] (.int (0 : Int32))
set_option maxRecDepth 65536 in
set_option maxHeartbeats 40000000 in
theorem rmTs8 (l : Launch) (Z : State) (a0 : Array Value) (hw : ∀ d ∈ tables_1, d.before a0 Z = true) (ws : List Jvm.Cond) (x t : Addr) (kt : ClassId) (b0 b1 b2 b3 b4 b5 b6 b7 zc : Int32) (fm : Value) (h0 : Heap) (n0 : Nat) (Z0 : n0 ≤ h0.size) (O0 : Old Z n0 h0) (S_CS : Sta Z Z.heap "java/lang/String" "COMPACT_STRINGS" "Z" (.int zc)) (hzc : ¬ zc = 0) (S_FM : Sta Z Z.heap "jdk/internal/util/Preconditions" "SIOOBE_FORMATTER" "Ljava/util/function/BiFunction;" fm) (hfm : fm.isRef = true) (gx : n0 ≤ x) (gt : n0 ≤ t) (Ex : Exa Z h0 x "java/lang/StringBuilder") (Fv : Fld Z h0 x "java/lang/AbstractStringBuilder" "value" "[B" (.ref t)) (Fc : Fld Z h0 x "java/lang/AbstractStringBuilder" "coder" "B" (.int (0 : Int32))) (Fn : Fld Z h0 x "java/lang/AbstractStringBuilder" "count" "I" (.int (8 : Int32))) (Vt : Arv Z h0 t kt .byte (16 : Int32) [(.int b0), (.int b1), (.int b2), (.int b3), (.int b4), (.int b5), (.int b6), (.int b7)] (.int (0 : Int32))) :
    OwnLaw l y21_ jdk_67_method_42_code 1 (some (.object "java/lang/String")) ws (rR 5 2 12 79) #[(.ref x)] Z h0 (QTs8 Z x t kt b0 b1 b2 b3 b4 b5 b6 b7 zc fm h0 n0) := by
  refine own_enter (plainFor_of_name pn_java_lang_StringBuilder) (efTs8 x) ?_
  intro p e s m below meth c s₁ Bd hx hby hml hZ hown X0 e0
  have N0 := Fr.nil n0
  have K0 : Keep h0 h0 [] := Keep.refl _ _
  obtain ⟨T215, h215, X215, e215, E215, A215, D215, -, st215⟩ := newO X0 hx hZ hown (own_w hw 113 rfl) (own_w hw 1 rfl) (own_w hw 2 rfl) e0 (g := (mkF m 0 #[.val (.ref x)] [])) rfl (hb hby d19_0) (ok rfl) (ok rfl)
  obtain ⟨b215, g215⟩ : ∃ z, z = h0.size := ⟨_, rfl⟩
  rw [← g215] at A215 D215 st215
  have ge_b215 : n0 ≤ b215 := Nat.le_trans Z0 (Nat.le_of_eq g215.symm)
  have sz_b215 : h0.size ≤ b215 := Nat.le_trans K0.1 (Nat.le_of_eq g215.symm)
  have F215_coder : Fld Z h215 b215 "java/lang/String" "coder" "B" (.int (0 : Int32)) := D215 (Or.inr (own_w hw 27 rfl)) (ty := .byte) (by decide)
  have F215_value : Fld Z h215 b215 "java/lang/String" "value" "[B" .null := D215 (Or.inr (own_w hw 29 rfl)) (ty := (.array .byte)) (by decide)
  refine Goes.step (T' := T215) (g' := (mkF m 3 #[.val (.ref x)] [(.ref b215)])) st215 ?_
  refine P1.dup X215.here hx (hb hby d19_3) rfl ?_
  refine P1.aloadN X215.here hx (hb hby d19_4) rfl rfl ?_
  have E216 : Exa Z h215 x "java/lang/StringBuilder" := Ex.ext E215
  have F217 : Fld Z h215 x "java/lang/AbstractStringBuilder" "value" "[B" (.ref t) := Fv.ext E215
  have F218 : Fld Z h215 x "java/lang/AbstractStringBuilder" "coder" "B" (.int (0 : Int32)) := Fc.ext E215
  have F219 : Fld Z h215 x "java/lang/AbstractStringBuilder" "count" "I" (.int (8 : Int32)) := Fn.ext E215
  have V220 : Arv Z h215 t kt .byte (16 : Int32) [(.int b0), (.int b1), (.int b2), (.int b3), (.int b4), (.int b5), (.int b6), (.int b7)] (.int (0 : Int32)) := Vt.ext E215
  have K221 : Keep h0 h215 [] := K0.ext E215
  have Z222 : n0 ≤ h215.size := Nat.le_trans Z0 E215.1
  have O223 : Old Z n0 h215 := O0.ext E215
  refine Goes.callC X215 hx (y := y11_) rfl hown (mvT hZ (own_w hw 114 rfl)) (mvT hZ (own_w hw 115 rfl)) (mvT hZ (own_w hw 116 rfl)) (by decide) (kc' := 1) (ks' := 8) (backOf (W := 1) (rmT2_8 l Z a0 hw [] b215 x t kt b0 b1 b2 b3 b4 b5 b6 b7 zc fm h215 n0 Z222 O223 S_CS hzc S_FM hfm ge_b215 A215 F215_value F215_coder gx gt E216 F217 F218 F219 V220) hZ (own_w hw 116 rfl) (own_w hw 2 rfl) (ok rfl) (ok rfl)) (g := (mkF m 5 #[.val (.ref x)] [(.ref x), (.ref b215), (.ref b215)])) (a := b215) rfl (by rw [hml]; rfl) (argsL := [(.ref x)]) (rest := [(.ref b215)]) (lenOf pd_37548 rfl) rfl (by show 2 * 0 + _ ≤ _; exact Nat.le_of_eq rfl) (hb hby d19_5) rfl e215 (ok rfl) (ok rfl) ?_
  intro v224 T224 L224 q224 X224
  obtain ⟨r224, kr224, rfl, N224q, K224, szr224, g224E, g224v, g224c, g224V⟩ := q224
  have ge_r224 : n0 ≤ r224 := Nat.le_trans Z222 szr224
  have sz_r224 : h0.size ≤ r224 := Nat.le_trans K221.1 szr224
  have N224 := Fr.app N0 N224q
  show Goes p e below _ T224 (mkF m 8 #[.val (.ref x)] [(.ref b215)])
  refine Goes.retA X224 hx Bd.notSynchronized Bd.returns rfl rfl (hb hby d19_8) (ok rfl) (ok rfl) ?_
  have K225 : Keep h0 T224.heap [] := K221.trans K224 (allS (Or.inr sz_b215) all0)
  exact ⟨b215, r224, kr224, rfl, N224, K225, g224E, g224v, g224c, g224V⟩
theorem d7_0 : decode prog_10_method_2_code 0 = .ok (.aload_n 0, 1) := by decide +kernel
theorem d7_1 : decode prog_10_method_2_code 1 = .ok (.ifnull 10, 3) := by decide +kernel
theorem d7_4 : decode prog_10_method_2_code 4 = .ok (.aload_n 0, 1) := by decide +kernel
theorem d7_5 : decode prog_10_method_2_code 5 = .ok (.invokevirtual 7, 3) := by decide +kernel
theorem d7_8 : decode prog_10_method_2_code 8 = .ok (.ifCond .eq 13, 3) := by decide +kernel
theorem d7_11 : decode prog_10_method_2_code 11 = .ok (.new 13, 3) := by decide +kernel
theorem d7_14 : decode prog_10_method_2_code 14 = .ok (.dup, 1) := by decide +kernel
theorem d7_15 : decode prog_10_method_2_code 15 = .ok (.ldc 15, 2) := by decide +kernel
theorem d7_17 : decode prog_10_method_2_code 17 = .ok (.invokespecial 17, 3) := by decide +kernel
theorem d7_20 : decode prog_10_method_2_code 20 = .ok (.athrow, 1) := by decide +kernel
theorem d7_21 : decode prog_10_method_2_code 21 = .ok (.new 20, 3) := by decide +kernel
theorem d7_24 : decode prog_10_method_2_code 24 = .ok (.dup, 1) := by decide +kernel
theorem d7_25 : decode prog_10_method_2_code 25 = .ok (.invokespecial 22, 3) := by decide +kernel
theorem d7_28 : decode prog_10_method_2_code 28 = .ok (.ldc 25, 2) := by decide +kernel
theorem d7_30 : decode prog_10_method_2_code 30 = .ok (.invokevirtual 27, 3) := by decide +kernel
theorem d7_33 : decode prog_10_method_2_code 33 = .ok (.aload_n 0, 1) := by decide +kernel
theorem d7_34 : decode prog_10_method_2_code 34 = .ok (.invokevirtual 27, 3) := by decide +kernel
theorem d7_37 : decode prog_10_method_2_code 37 = .ok (.ldc 31, 2) := by decide +kernel
theorem d7_39 : decode prog_10_method_2_code 39 = .ok (.invokevirtual 27, 3) := by decide +kernel
theorem d7_42 : decode prog_10_method_2_code 42 = .ok (.invokevirtual 33, 3) := by decide +kernel
theorem d7_45 : decode prog_10_method_2_code 45 = .ok (.areturn, 1) := by decide +kernel
theorem pn_com_example_mutx_mutx_redis_RedisNames : plainName "com/example/mutx/mutx/redis/RedisNames" = true := by first | (simp [plainName, overriddenIn]; done) | decide +kernel
theorem in_wordsEmp : ∀ d ∈ StrChars.Road.wordsEmp, d ∈ tables_1 := by decide +kernel
theorem pd_380 : parseMethodDescriptor "()V" = some ⟨[], none⟩ := by decide +kernel
theorem pd_98417 : parseMethodDescriptor "(Ljava/lang/String;)Ljava/lang/StringBuilder;" = some ⟨[(.object "java/lang/String")], some (.object "java/lang/StringBuilder")⟩ := by decide +kernel
theorem pd_19649 : parseMethodDescriptor "()Ljava/lang/String;" = some ⟨[], some (.object "java/lang/String")⟩ := by decide +kernel
theorem efLk1 (y : Addr) (m : MethodId) : entryFrame m #[(.ref y)] 1 = mkF m 0 #[.val (.ref y)] [] := by first | (simp [entryFrame, mkF, argsToLocals, Value.category]; done) | rfl
def QLk1 (Z : State) (y ty : Addr) (ky : ClassId) (c0 zc : Int32) (fm : Value) (h0 : Heap) (n0 : Nat) (v : Option Value) (h : Heap) (L : List Loc) : Prop := ∃ x r kr, v = some (.ref x) ∧ Fr n0 L ∧ Keep h0 h [] ∧ Exa Z h x "java/lang/String" ∧ Fld Z h x "java/lang/String" "value" "[B" (.ref r) ∧ Fld Z h x "java/lang/String" "coder" "B" (.int (0 : Int32)) ∧ Arv Z h r kr .byte (8 : Int32) [(.int (109 : Int32)), (.int (117 : Int32)), (.int (116 : Int32)), (.int (120 : Int32)), (.int (58 : Int32)), (.int (123 : Int32)), (.int (c0).toInt8.toInt32), (.int (125 : Int32))] (.int (0 : Int32))
set_option maxRecDepth 65536 in
set_option maxHeartbeats 40000000 in
theorem rmLk1 (l : Launch) (Z : State) (a0 : Array Value) (hw : ∀ d ∈ tables_1, d.before a0 Z = true) (ws : List Jvm.Cond) (y ty : Addr) (ky : ClassId) (c0 zc : Int32) (fm : Value) (h0 : Heap) (n0 : Nat) (Z0 : n0 ≤ h0.size) (O0 : Old Z n0 h0) (S_CS : Sta Z Z.heap "java/lang/String" "COMPACT_STRINGS" "Z" (.int zc)) (hzc : ¬ zc = 0) (S_FM : Sta Z Z.heap "jdk/internal/util/Preconditions" "SIOOBE_FORMATTER" "Ljava/util/function/BiFunction;" fm) (hfm : fm.isRef = true) (Ey : Exa Z h0 y "java/lang/String") (Vy : Fld Z h0 y "java/lang/String" "value" "[B" (.ref ty)) (Cy : Fld Z h0 y "java/lang/String" "coder" "B" (.int (0 : Int32))) (Ky : Arv Z h0 ty ky .byte (1 : Int32) [(.int (c0).toInt8.toInt32)] (.int (0 : Int32))) (hy : ∀ c ∈ ([c0] : List Int32), ¬ c < 0 ∧ ¬ (255 : Int32) < c) :
    OwnLawW l y0_ prog_10_method_2_code 1 (some (.object "java/lang/String")) ws (rR 6 8 68 91) #[(.ref y)] Z EL1 h0 (QLk1 Z y ty ky c0 zc fm h0 n0) := by
  refine own_enterW (plainFor_of_name pn_com_example_mutx_mutx_redis_RedisNames) (efLk1 y) ?_
  intro p e s m below meth c s₁ Bd hx hby hml hZ hown X0 e0 hh hS0 CR0
  have N0 := Fr.nil n0
  have hEL : EW Z a0 EL1 := own_EL hw
  have ks0 : h0.size ≤ h0.size := Nat.le_refl _
  have K0 : Keep h0 h0 [] := Keep.refl _ _
  refine P1.aloadN X0.here hx (hb hby d7_0) rfl rfl ?_
  refine P1.ifnullNo X0.here hx (hb hby d7_1) ?_
  refine P1.aloadN X0.here hx (hb hby d7_4) rfl rfl ?_
  refine Goes.callV X0 hx hZ (y := y16_) (z := y16_) (Qc := fun v h' L => (v = some (.int (if ([c0] : List Int32).length = 0 then 1 else 0)) ∧ L = [] ∧ h' = h0)) hown (mvT hZ (own_w hw 34 rfl)) (mvT hZ (own_w hw 35 rfl)) (notFace_of_selects (args := #[]) (mvT hZ (own_w hw 37 rfl))) (mvT hZ (own_w hw 37 rfl)) (mvT hZ (own_w hw 36 rfl)) (by decide) (kc' := 0) (ks' := 0) (StrChars.Road.empW (W := 0) hZ (fun d hd => hw d (in_wordsEmp d hd)) (kI := 4) (own_w hw 1 rfl) Ey Vy Cy Ky (StrChars.Road.codOf (cs := ([c0] : List Int32)) (n := 1) rfl (fun c hc => (hy c hc).2)) (own_up hy) (ok rfl) (ok rfl) (ok rfl)) (b := y) e0 Ey (g := (mkF m 5 #[.val (.ref y)] [(.ref y)])) rfl (by rw [hml]; rfl) (argsL := []) (rest := []) (lenOf pd_392 rfl) rfl (by show 2 * 0 + _ ≤ _; exact Nat.le_of_eq rfl) (hb hby d7_5) rfl (ok rfl) (ok rfl) ?_
  intro v226 T226 L226 q226 X226
  obtain ⟨rfl, rfl, hE226⟩ := q226
  have N226 := Fr.app N0 (Fr.nil n0)
  show Goes p e below _ T226 (mkF m 8 #[.val (.ref y)] [(.int (0 : Int32))])
  refine P1.ifYes X226.here hx 21 (hb hby d7_8) ((if0 _ _).trans (teq (by decide : (0 : Int32) = (0 : Int32))).1) (by decide) (by decide) ?_
  obtain ⟨T227, h227, X227, e227, E227, A227, D227, -, st227⟩ := newO X226 hx hZ hown (own_w hw 39 rfl) (own_w hw 40 rfl) (own_w hw 41 rfl) hE226 (g := (mkF m 21 #[.val (.ref y)] [])) rfl (hb hby d7_21) (ok rfl) (ok rfl)
  obtain ⟨b227, g227⟩ : ∃ z, z = h0.size := ⟨_, rfl⟩
  rw [← g227] at A227 D227 st227
  have ge_b227 : n0 ≤ b227 := Nat.le_trans Z0 (Nat.le_of_eq g227.symm)
  have sz_b227 : h0.size ≤ b227 := Nat.le_trans K0.1 (Nat.le_of_eq g227.symm)
  have sf_b227 : Safe Z EL1 s.vm h0 b227 := Safe.new (Nat.le_of_eq g227.symm)
  have F227_value : Fld Z h227 b227 "java/lang/AbstractStringBuilder" "value" "[B" .null := D227 (Or.inl (own_w hw 54 rfl)) (ty := (.array .byte)) (by decide)
  have F227_coder : Fld Z h227 b227 "java/lang/AbstractStringBuilder" "coder" "B" (.int (0 : Int32)) := D227 (Or.inl (own_w hw 56 rfl)) (ty := .byte) (by decide)
  have F227_count : Fld Z h227 b227 "java/lang/AbstractStringBuilder" "count" "I" (.int (0 : Int32)) := D227 (Or.inl (own_w hw 81 rfl)) (ty := .int) (by decide)
  refine Goes.step (T' := T227) (g' := (mkF m 24 #[.val (.ref y)] [(.ref b227)])) st227 ?_
  refine P1.dup X227.here hx (hb hby d7_24) rfl ?_
  have K228 : Keep h0 h227 [] := K0.ext E227
  have Z229 : n0 ≤ h227.size := Nat.le_trans Z0 E227.1
  have O230 : Old Z n0 h227 := O0.ext E227
  refine Goes.callC X227 hx (y := y18_) rfl hown (mvT hZ (own_w hw 42 rfl)) (mvT hZ (own_w hw 43 rfl)) (mvT hZ (own_w hw 44 rfl)) (by decide) (kc' := 1) (ks' := 16) (backOf (W := 1) (rmBI l Z a0 hw [] b227 zc fm h227 n0 Z229 O230 S_CS hzc S_FM hfm ge_b227 A227 F227_value F227_coder F227_count) hZ (own_w hw 44 rfl) (own_w hw 41 rfl) (ok rfl) (ok rfl)) (g := (mkF m 25 #[.val (.ref y)] [(.ref b227), (.ref b227)])) (a := b227) rfl (by rw [hml]; rfl) (argsL := []) (rest := [(.ref b227)]) (lenOf pd_380 rfl) rfl (by show 2 * 0 + _ ≤ _; exact Nat.le_of_eq rfl) (hb hby d7_25) rfl e227 (ok rfl) (ok rfl) ?_
  intro v231 T231 L231 q231 X231
  obtain ⟨t231, kt231, rfl, N231q, K231, szt231, g231E, g231v, g231c, g231n, g231V⟩ := q231
  have ge_t231 : n0 ≤ t231 := Nat.le_trans Z229 szt231
  have sz_t231 : h0.size ≤ t231 := Nat.le_trans K228.1 szt231
  have sf_t231 : Safe Z EL1 s.vm h227 t231 := Safe.new szt231
  have N231 := Fr.app N226 N231q
  show Goes p e below _ T231 (mkF m 28 #[.val (.ref y)] [(.ref b227)])
  have ks233 : h0.size ≤ h227.size := Nat.le_trans ks0 E227.1
  have ks234 : h0.size ≤ T231.heap.size := Nat.le_trans ks233 K231.1
  have CR235 : CHr Z EL1 s.vm h0 s.vm h227 := CR0.trans (CHr.ext E227 CR0.1)
  have sf236 : Safe Z EL1 s.vm h227 b227 := Safe.ext E227 CR0.1 sf_b227
  have CR237 : CHr Z EL1 s.vm h0 s.vm T231.heap := CR235.trans (CHr.keep K231 (sfS sf236 sf0) CR235.1)
  obtain ⟨la232, T232, h232, k1_232, lb232, lk232, X232, e232, E232, hS232, ks232, hZ, hown, LE232, LC232, LV232, LK232, -, -, CW232, -, hsf232, st232⟩ := ldcCH X231 hx hZ hown (own_w hw 57 rfl) (fun d hd => hw d (in_atoms d hd)) rfl hS0 ks234 hEL (by decide) CR237.1 (vs := [(.int (109 : Int32)), (.int (117 : Int32)), (.int (116 : Int32)), (.int (120 : Int32)), (.int (58 : Int32)), (.int (123 : Int32))]) (z := (6 : Int32)) (by decide) (by decide) rfl (g := (mkF m 28 #[.val (.ref y)] [(.ref b227)])) rfl (hb hby d7_28) (n := 24) (by decide) (by decide) (ok rfl) (ok rfl)
  refine Goes.step (T' := T232) (g' := (mkF m 30 #[.val (.ref y)] [(.ref la232), (.ref b227)])) st232 ?_
  have E238 : Exa Z h232 b227 "java/lang/StringBuilder" := g231E.ext E232
  have F239 : Fld Z h232 b227 "java/lang/AbstractStringBuilder" "value" "[B" (.ref t231) := g231v.ext E232
  have F240 : Fld Z h232 b227 "java/lang/AbstractStringBuilder" "coder" "B" (.int (0 : Int32)) := g231c.ext E232
  have F241 : Fld Z h232 b227 "java/lang/AbstractStringBuilder" "count" "I" (.int (0 : Int32)) := g231n.ext E232
  have V242 : Arv Z h232 t231 kt231 .byte (16 : Int32) [] (.int (0 : Int32)) := g231V.ext E232
  have sf244 : Safe Z EL1 s.vm T231.heap t231 := Safe.keep K231 (sfS sf236 sf0) CR235.1 sf_t231
  have sf245 : Safe Z EL1 T232.vm h232 t231 := CHr.safe CW232 g231V.lt sf244
  have ne243 : t231 ≠ lb232 := (hsf232 t231 sf245).2
  have Z246 : n0 ≤ T231.heap.size := Nat.le_trans Z229 K231.1
  have Z247 : n0 ≤ h232.size := Nat.le_trans Z246 E232.1
  have O248 : Old Z n0 T231.heap := O230.keep K231 (allS ge_b227 all0)
  have O249 : Old Z n0 h232 := O248.ext E232
  refine Goes.callV X232 hx hZ (y := y19_) (z := y19_) hown (mvT hZ (own_w hw 60 rfl)) (mvT hZ (own_w hw 61 rfl)) (notFace_of_selects (args := #[]) (mvT hZ (own_w hw 63 rfl))) (mvT hZ (own_w hw 63 rfl)) (mvT hZ (own_w hw 62 rfl)) (by decide) (kc' := 0) (ks' := 0) (backOf (W := 0) (rmSp0_6 l Z a0 hw [] b227 t231 kt231 la232 lb232 lk232 (109 : Int32) (117 : Int32) (116 : Int32) (120 : Int32) (58 : Int32) (123 : Int32) zc fm h232 n0 Z247 O249 S_CS hzc S_FM hfm ge_b227 ge_t231 E238 F239 F240 F241 V242 LE232 LV232 LC232 LK232 (Ne.symm ne243)) hZ (own_w hw 64 rfl) (own_w hw 41 rfl) (ok rfl) (ok rfl)) (b := b227) e232 E238 (g := (mkF m 30 #[.val (.ref y)] [(.ref la232), (.ref b227)])) rfl (by rw [hml]; rfl) (argsL := [(.ref la232)]) (rest := []) (lenOf pd_98417 rfl) rfl (by show 2 * 0 + _ ≤ _; exact Nat.le_of_eq rfl) (hb hby d7_30) rfl (ok rfl) (ok rfl) ?_
  intro v250 T250 L250 q250 X250
  obtain ⟨rfl, N250q, K250, g250E, g250v, g250c, g250n, g250V⟩ := q250
  have N250 := Fr.app N231 N250q
  show Goes p e below _ T250 (mkF m 33 #[.val (.ref y)] [(.ref b227)])
  refine P1.aloadN X250.here hx (hb hby d7_33) rfl rfl ?_
  have E251 : Exa Z h227 y "java/lang/String" := Ey.ext E227
  have E252 : Exa Z T231.heap y "java/lang/String" := E251.keep K231
  have E253 : Exa Z h232 y "java/lang/String" := E252.ext E232
  have E254 : Exa Z T250.heap y "java/lang/String" := E253.keep K250
  have F255 : Fld Z h227 y "java/lang/String" "value" "[B" (.ref ty) := Vy.ext E227
  have ne256 : y ≠ b227 := Nat.ne_of_lt (Nat.lt_of_lt_of_le Ey.lt (Nat.le_of_eq g227.symm))
  have F257 : Fld Z T231.heap y "java/lang/String" "value" "[B" (.ref ty) := F255.keep K231 (ninS ne256 nin0)
  have F258 : Fld Z h232 y "java/lang/String" "value" "[B" (.ref ty) := F257.ext E232
  have ne259 : y ≠ t231 := Nat.ne_of_lt (Nat.lt_of_lt_of_le E251.lt szt231)
  have F260 : Fld Z T250.heap y "java/lang/String" "value" "[B" (.ref ty) := F258.keep K250 (ninS ne256 (ninS ne259 nin0))
  have F261 : Fld Z h227 y "java/lang/String" "coder" "B" (.int (0 : Int32)) := Cy.ext E227
  have F262 : Fld Z T231.heap y "java/lang/String" "coder" "B" (.int (0 : Int32)) := F261.keep K231 (ninS ne256 nin0)
  have F263 : Fld Z h232 y "java/lang/String" "coder" "B" (.int (0 : Int32)) := F262.ext E232
  have F264 : Fld Z T250.heap y "java/lang/String" "coder" "B" (.int (0 : Int32)) := F263.keep K250 (ninS ne256 (ninS ne259 nin0))
  have V265 : Arv Z h227 ty ky .byte (1 : Int32) [(.int (c0).toInt8.toInt32)] (.int (0 : Int32)) := Ky.ext E227
  have ne266 : ty ≠ b227 := Nat.ne_of_lt (Nat.lt_of_lt_of_le Ky.lt (Nat.le_of_eq g227.symm))
  have V267 : Arv Z T231.heap ty ky .byte (1 : Int32) [(.int (c0).toInt8.toInt32)] (.int (0 : Int32)) := V265.keep K231 (ninS ne266 nin0)
  have V268 : Arv Z h232 ty ky .byte (1 : Int32) [(.int (c0).toInt8.toInt32)] (.int (0 : Int32)) := V267.ext E232
  have ne269 : ty ≠ t231 := Nat.ne_of_lt (Nat.lt_of_lt_of_le V265.lt szt231)
  have V270 : Arv Z T250.heap ty ky .byte (1 : Int32) [(.int (c0).toInt8.toInt32)] (.int (0 : Int32)) := V268.keep K250 (ninS ne266 (ninS ne269 nin0))
  have Z271 : n0 ≤ T250.heap.size := Nat.le_trans Z247 K250.1
  have O272 : Old Z n0 T250.heap := O249.keep K250 (allS ge_b227 (allS ge_t231 all0))
  refine Goes.callV X250 hx hZ (y := y19_) (z := y19_) hown (mvT hZ (own_w hw 60 rfl)) (mvT hZ (own_w hw 61 rfl)) (notFace_of_selects (args := #[]) (mvT hZ (own_w hw 63 rfl))) (mvT hZ (own_w hw 63 rfl)) (mvT hZ (own_w hw 62 rfl)) (by decide) (kc' := 0) (ks' := 0) (backOf (W := 0) (rmSp6_1 l Z a0 hw [] b227 t231 kt231 y ty ky (109 : Int32) (117 : Int32) (116 : Int32) (120 : Int32) (58 : Int32) (123 : Int32) (c0).toInt8.toInt32 zc fm T250.heap n0 Z271 O272 S_CS hzc S_FM hfm ge_b227 ge_t231 g250E g250v g250c g250n g250V E254 F260 F264 V270 ne269) hZ (own_w hw 64 rfl) (own_w hw 41 rfl) (ok rfl) (ok rfl)) (b := b227) rfl g250E (g := (mkF m 34 #[.val (.ref y)] [(.ref y), (.ref b227)])) rfl (by rw [hml]; rfl) (argsL := [(.ref y)]) (rest := []) (lenOf pd_98417 rfl) rfl (by show 2 * 0 + _ ≤ _; exact Nat.le_of_eq rfl) (hb hby d7_34) rfl (ok rfl) (ok rfl) ?_
  intro v273 T273 L273 q273 X273
  obtain ⟨rfl, N273q, K273, g273E, g273v, g273c, g273n, g273V⟩ := q273
  have N273 := Fr.app N250 N273q
  show Goes p e below _ T273 (mkF m 37 #[.val (.ref y)] [(.ref b227)])
  have ks275 : k1_232 ≤ T250.heap.size := Nat.le_trans ks232 K250.1
  have ks276 : k1_232 ≤ T273.heap.size := Nat.le_trans ks275 K273.1
  have CR277 : CHr Z EL1 s.vm h0 T232.vm h232 := CR237.trans CW232
  have sf278 : Safe Z EL1 s.vm T231.heap b227 := Safe.keep K231 (sfS sf236 sf0) CR235.1 sf236
  have sf279 : Safe Z EL1 T232.vm h232 b227 := CHr.safe CW232 g231E.lt sf278
  have CR280 : CHr Z EL1 s.vm h0 T232.vm T250.heap := CR277.trans (CHr.keep K250 (sfS sf279 (sfS sf245 sf0)) CR277.1)
  have sf281 : Safe Z EL1 T232.vm T250.heap t231 := Safe.keep K250 (sfS sf279 (sfS sf245 sf0)) CR277.1 sf245
  have sf282 : Safe Z EL1 T232.vm T250.heap b227 := Safe.keep K250 (sfS sf279 (sfS sf245 sf0)) CR277.1 sf279
  have CR283 : CHr Z EL1 s.vm h0 T232.vm T273.heap := CR280.trans (CHr.keep K273 (sfS sf282 (sfS sf281 sf0)) CR280.1)
  obtain ⟨la274, T274, h274, k1_274, lb274, lk274, X274, e274, E274, hS274, ks274, hZ, hown, LE274, LC274, LV274, LK274, -, -, CW274, -, hsf274, st274⟩ := ldcCH X273 hx hZ hown (own_w hw 107 rfl) (fun d hd => hw d (in_atoms d hd)) rfl hS232 ks276 hEL (by decide) CR283.1 (vs := [(.int (125 : Int32))]) (z := (1 : Int32)) (by decide) (by decide) rfl (g := (mkF m 37 #[.val (.ref y)] [(.ref b227)])) rfl (hb hby d7_37) (n := 4) (by decide) (by decide) (ok rfl) (ok rfl)
  refine Goes.step (T' := T274) (g' := (mkF m 39 #[.val (.ref y)] [(.ref la274), (.ref b227)])) st274 ?_
  have E284 : Exa Z h274 b227 "java/lang/StringBuilder" := g273E.ext E274
  have F285 : Fld Z h274 b227 "java/lang/AbstractStringBuilder" "value" "[B" (.ref t231) := g273v.ext E274
  have F286 : Fld Z h274 b227 "java/lang/AbstractStringBuilder" "coder" "B" (.int (0 : Int32)) := g273c.ext E274
  have F287 : Fld Z h274 b227 "java/lang/AbstractStringBuilder" "count" "I" (.int (7 : Int32)) := g273n.ext E274
  have V288 : Arv Z h274 t231 kt231 .byte (16 : Int32) [(.int (109 : Int32)), (.int (117 : Int32)), (.int (116 : Int32)), (.int (120 : Int32)), (.int (58 : Int32)), (.int (123 : Int32)), (.int (c0).toInt8.toInt32)] (.int (0 : Int32)) := g273V.ext E274
  have sf290 : Safe Z EL1 T232.vm T273.heap t231 := Safe.keep K273 (sfS sf282 (sfS sf281 sf0)) CR280.1 sf281
  have sf291 : Safe Z EL1 T274.vm h274 t231 := CHr.safe CW274 g273V.lt sf290
  have ne289 : t231 ≠ lb274 := (hsf274 t231 sf291).2
  have Z292 : n0 ≤ T273.heap.size := Nat.le_trans Z271 K273.1
  have Z293 : n0 ≤ h274.size := Nat.le_trans Z292 E274.1
  have O294 : Old Z n0 T273.heap := O272.keep K273 (allS ge_b227 (allS ge_t231 all0))
  have O295 : Old Z n0 h274 := O294.ext E274
  refine Goes.callV X274 hx hZ (y := y19_) (z := y19_) hown (mvT hZ (own_w hw 60 rfl)) (mvT hZ (own_w hw 61 rfl)) (notFace_of_selects (args := #[]) (mvT hZ (own_w hw 63 rfl))) (mvT hZ (own_w hw 63 rfl)) (mvT hZ (own_w hw 62 rfl)) (by decide) (kc' := 0) (ks' := 0) (backOf (W := 0) (rmSp7_1 l Z a0 hw [] b227 t231 kt231 la274 lb274 lk274 (109 : Int32) (117 : Int32) (116 : Int32) (120 : Int32) (58 : Int32) (123 : Int32) (c0).toInt8.toInt32 (125 : Int32) zc fm h274 n0 Z293 O295 S_CS hzc S_FM hfm ge_b227 ge_t231 E284 F285 F286 F287 V288 LE274 LV274 LC274 LK274 (Ne.symm ne289)) hZ (own_w hw 64 rfl) (own_w hw 41 rfl) (ok rfl) (ok rfl)) (b := b227) e274 E284 (g := (mkF m 39 #[.val (.ref y)] [(.ref la274), (.ref b227)])) rfl (by rw [hml]; rfl) (argsL := [(.ref la274)]) (rest := []) (lenOf pd_98417 rfl) rfl (by show 2 * 0 + _ ≤ _; exact Nat.le_of_eq rfl) (hb hby d7_39) rfl (ok rfl) (ok rfl) ?_
  intro v296 T296 L296 q296 X296
  obtain ⟨rfl, N296q, K296, g296E, g296v, g296c, g296n, g296V⟩ := q296
  have N296 := Fr.app N273 N296q
  show Goes p e below _ T296 (mkF m 42 #[.val (.ref y)] [(.ref b227)])
  have Z297 : n0 ≤ T296.heap.size := Nat.le_trans Z293 K296.1
  have O298 : Old Z n0 T296.heap := O295.keep K296 (allS ge_b227 (allS ge_t231 all0))
  refine Goes.callV X296 hx hZ (y := y21_) (z := y21_) hown (mvT hZ (own_w hw 108 rfl)) (mvT hZ (own_w hw 109 rfl)) (notFace_of_selects (args := #[]) (mvT hZ (own_w hw 111 rfl))) (mvT hZ (own_w hw 111 rfl)) (mvT hZ (own_w hw 110 rfl)) (by decide) (kc' := 2) (ks' := 12) (backOf (W := 0) (rmTs8 l Z a0 hw [] b227 t231 kt231 (109 : Int32) (117 : Int32) (116 : Int32) (120 : Int32) (58 : Int32) (123 : Int32) (c0).toInt8.toInt32 (125 : Int32) zc fm T296.heap n0 Z297 O298 S_CS hzc S_FM hfm ge_b227 ge_t231 g296E g296v g296c g296n g296V) hZ (own_w hw 112 rfl) (own_w hw 41 rfl) (ok rfl) (ok rfl)) (b := b227) rfl g296E (g := (mkF m 42 #[.val (.ref y)] [(.ref b227)])) rfl (by rw [hml]; rfl) (argsL := []) (rest := []) (lenOf pd_19649 rfl) rfl (by show 2 * 0 + _ ≤ _; exact Nat.le_of_eq rfl) (hb hby d7_42) rfl (ok rfl) (ok rfl) ?_
  intro v299 T299 L299 q299 X299
  obtain ⟨y299, r299, kr299, rfl, N299q, K299, g299E, g299v, g299c, g299V⟩ := q299
  have N299 := Fr.app N296 N299q
  show Goes p e below _ T299 (mkF m 45 #[.val (.ref y)] [(.ref y299)])
  have ks300 : k1_274 ≤ T296.heap.size := Nat.le_trans ks274 K296.1
  have ks301 : k1_274 ≤ T299.heap.size := Nat.le_trans ks300 K299.1
  have CR302 : CHr Z EL1 s.vm h0 T274.vm h274 := CR283.trans CW274
  have sf303 : Safe Z EL1 T232.vm T273.heap b227 := Safe.keep K273 (sfS sf282 (sfS sf281 sf0)) CR280.1 sf282
  have sf304 : Safe Z EL1 T274.vm h274 b227 := CHr.safe CW274 g273E.lt sf303
  have CR305 : CHr Z EL1 s.vm h0 T274.vm T296.heap := CR302.trans (CHr.keep K296 (sfS sf304 (sfS sf291 sf0)) CR302.1)
  have CR306 : CHr Z EL1 s.vm h0 T274.vm T299.heap := CR305.trans (CHr.keep K299 sf0 CR305.1)
  refine Goes.retAW X299 hx Bd.notSynchronized hS274 ks301 hZ hEL (hh ▸ CR306) rfl Bd.returns rfl rfl (hb hby d7_45) (ok rfl) (ok rfl) ?_
  have K307 : Keep h0 T231.heap [] := K228.trans K231 (allS (Or.inr sz_b227) all0)
  have K308 : Keep h0 h232 [] := K307.ext E232
  have K309 : Keep h0 T250.heap [] := K308.trans K250 (allS (Or.inr sz_b227) (allS (Or.inr sz_t231) all0))
  have K310 : Keep h0 T273.heap [] := K309.trans K273 (allS (Or.inr sz_b227) (allS (Or.inr sz_t231) all0))
  have K311 : Keep h0 h274 [] := K310.ext E274
  have K312 : Keep h0 T296.heap [] := K311.trans K296 (allS (Or.inr sz_b227) (allS (Or.inr sz_t231) all0))
  have K313 : Keep h0 T299.heap [] := K312.trans K299 all0
  exact ⟨y299, r299, kr299, rfl, N299, K313, g299E, g299v, g299c, g299V⟩
theorem efGb6_2 (y t : Addr) (m : MethodId) : entryFrame m #[(.ref y), (.ref t), (.int (6 : Int32)), (.int (0 : Int32))] 4 = mkF m 0 #[.val (.ref y), .val (.ref t), .val (.int (6 : Int32)), .val (.int (0 : Int32))] [] := by first | (simp [entryFrame, mkF, argsToLocals, Value.category]; done) | rfl
def QGb6_2 (Z : State) (t : Addr) (kt : ClassId) (y ty : Addr) (ky : ClassId) (b0 b1 b2 b3 b4 b5 c0 c1 zc : Int32) (fm : Value) (h0 : Heap) (n0 : Nat) (v : Option Value) (h : Heap) (L : List Loc) : Prop := v = none ∧ Fr n0 L ∧ Keep h0 h [t] ∧ Arv Z h t kt .byte (16 : Int32) [(.int b0), (.int b1), (.int b2), (.int b3), (.int b4), (.int b5), (.int c0), (.int c1)] (.int (0 : Int32))
set_option maxRecDepth 65536 in
set_option maxHeartbeats 40000000 in
theorem rmGb6_2 (l : Launch) (Z : State) (a0 : Array Value) (hw : ∀ d ∈ tables_1, d.before a0 Z = true) (ws : List Jvm.Cond) (t : Addr) (kt : ClassId) (y ty : Addr) (ky : ClassId) (b0 b1 b2 b3 b4 b5 c0 c1 zc : Int32) (fm : Value) (h0 : Heap) (n0 : Nat) (Z0 : n0 ≤ h0.size) (O0 : Old Z n0 h0) (S_CS : Sta Z Z.heap "java/lang/String" "COMPACT_STRINGS" "Z" (.int zc)) (hzc : ¬ zc = 0) (S_FM : Sta Z Z.heap "jdk/internal/util/Preconditions" "SIOOBE_FORMATTER" "Ljava/util/function/BiFunction;" fm) (hfm : fm.isRef = true) (gt : n0 ≤ t) (Vt : Arv Z h0 t kt .byte (16 : Int32) [(.int b0), (.int b1), (.int b2), (.int b3), (.int b4), (.int b5)] (.int (0 : Int32))) (Ey : Exa Z h0 y "java/lang/String") (Vy : Fld Z h0 y "java/lang/String" "value" "[B" (.ref ty)) (Cy : Fld Z h0 y "java/lang/String" "coder" "B" (.int (0 : Int32))) (Ky : Arv Z h0 ty ky .byte (2 : Int32) [(.int c0), (.int c1)] (.int (0 : Int32))) (nety : ty ≠ t) :
    OwnLaw l y15_ jdk_42_method_147_code 4 none ws (rR 1 0 0 18) #[(.ref y), (.ref t), (.int (6 : Int32)), (.int (0 : Int32))] Z h0 (QGb6_2 Z t kt y ty ky b0 b1 b2 b3 b4 b5 c0 c1 zc fm h0 n0) := by
  refine own_enter (plainFor_of_name pn_java_lang_String) (efGb6_2 y t) ?_
  intro p e s m below meth c s₁ Bd hx hby hml hZ hown X0 e0
  have N0 := Fr.nil n0
  have K0 : Keep h0 h0 [] := Keep.refl _ _
  have K0 : Keep h0 h0 [t] := Keep.refl _ _
  refine P1.aloadN X0.here hx (hb hby d18_0) rfl rfl ?_
  refine Goes.callV X0 hx hZ (y := y14_) (z := y14_) hown (mvT hZ (own_w hw 75 rfl)) (mvT hZ (own_w hw 76 rfl)) (notFace_of_selects (args := #[]) (mvT hZ (own_w hw 78 rfl))) (mvT hZ (own_w hw 78 rfl)) (mvT hZ (own_w hw 77 rfl)) (by decide) (kc' := 0) (ks' := 0) (backOf (W := 0) (rmCod l Z a0 hw [] y zc fm h0 n0 Z0 O0 S_CS hzc S_FM hfm Cy) hZ (own_w hw 79 rfl) (own_w hw 2 rfl) (ok rfl) (ok rfl)) (b := y) e0 Ey (g := (mkF m 1 #[.val (.ref y), .val (.ref t), .val (.int (6 : Int32)), .val (.int (0 : Int32))] [(.ref y)])) rfl (by rw [hml]; rfl) (argsL := []) (rest := []) (lenOf pd_320 rfl) rfl (by show 2 * 0 + _ ≤ _; exact Nat.le_of_eq rfl) (hb hby d18_1) rfl (ok rfl) (ok rfl) ?_
  intro v314 T314 L314 q314 X314
  obtain ⟨rfl, N314q, hE314⟩ := q314
  have N314 := Fr.app N0 N314q
  show Goes p e below _ T314 (mkF m 4 #[.val (.ref y), .val (.ref t), .val (.int (6 : Int32)), .val (.int (0 : Int32))] [(.int (0 : Int32))])
  refine P1.iloadN X314.here hx (hb hby d18_4) rfl ?_
  refine P1.icmpNo X314.here hx (hb hby d18_5) (teq (by decide : (0 : Int32) = (0 : Int32))).2 ?_
  refine P1.aloadN X314.here hx (hb hby d18_8) rfl rfl ?_
  obtain ⟨T315, X315, e315, st315⟩ := getF X314 hx hZ hown (host := "") (Or.inl (own_w hw 28 rfl)) Via.refl hE314 Vy (g := (mkF m 9 #[.val (.ref y), .val (.ref t), .val (.int (6 : Int32)), .val (.int (0 : Int32))] [(.ref y)])) rfl rfl (hb hby d18_9)
  refine Goes.step (T' := T315) (g' := (mkF m 12 #[.val (.ref y), .val (.ref t), .val (.int (6 : Int32)), .val (.int (0 : Int32))] [(.ref ty)])) st315 ?_
  refine P1.iconst X315.here hx (0 : Int32) (hb hby d18_12) rfl ?_
  refine P1.aloadN X315.here hx (hb hby d18_13) rfl rfl ?_
  refine P1.iloadN X315.here hx (hb hby d18_14) rfl ?_
  refine P1.iloadN X315.here hx (hb hby d18_15) rfl ?_
  refine Goes.step (T' := T315) (g' := (mkF m 17 #[.val (.ref y), .val (.ref t), .val (.int (6 : Int32)), .val (.int (0 : Int32))] [(.int ((6 : Int32) <<< ((0 : Int32) &&& 31))), (.ref t), (.int (0 : Int32)), (.ref ty)])) (fun t_ k_ => XS.ishl X315.here hx rfl (hb hby d18_16) rfl k_) ?_
  have rw316 : ((6 : Int32) <<< ((0 : Int32) &&& 31)) = (6 : Int32) := by decide
  rw [rw316]
  refine P1.aloadN X315.here hx (hb hby d18_17) rfl rfl ?_
  obtain ⟨T317, X317, e317, st317⟩ := getF X315 hx hZ hown (host := "") (Or.inl (own_w hw 28 rfl)) Via.refl e315 Vy (g := (mkF m 18 #[.val (.ref y), .val (.ref t), .val (.int (6 : Int32)), .val (.int (0 : Int32))] [(.ref y), (.int (6 : Int32)), (.ref t), (.int (0 : Int32)), (.ref ty)])) rfl rfl (hb hby d18_18)
  refine Goes.step (T' := T317) (g' := (mkF m 21 #[.val (.ref y), .val (.ref t), .val (.int (6 : Int32)), .val (.int (0 : Int32))] [(.ref ty), (.int (6 : Int32)), (.ref t), (.int (0 : Int32)), (.ref ty)])) st317 ?_
  obtain ⟨cl318, Ar318, qk318, sl318, nz318, ha318, fi318⟩ := id Ky
  have al319 : cl318.slots.size.toInt32 = (2 : Int32) := len_of sl318 nz318
  refine Goes.step (T' := T317) (g' := (mkF m 22 #[.val (.ref y), .val (.ref t), .val (.int (6 : Int32)), .val (.int (0 : Int32))] [(.int (2 : Int32)), (.int (6 : Int32)), (.ref t), (.int (0 : Int32)), (.ref ty)])) (fun t_ k_ => X317.arraylength hx (by rw [e317]; exact Ar318.1) (State.isArrayOf_alike hZ.alike Ar318.2.1) (g := (mkF m 21 #[.val (.ref y), .val (.ref t), .val (.int (6 : Int32)), .val (.int (0 : Int32))] [(.ref ty), (.int (6 : Int32)), (.ref t), (.int (0 : Int32)), (.ref ty)])) rfl rfl (hb hby d18_21) _ <| by rw [al319]; exact k_) ?_
  have V320 : Arv Z h0 t kt .byte (16 : Int32) [(.int b0), (.int b1), (.int b2), (.int b3), (.int b4), (.int b5), (.int (0 : Int32)), (.int (0 : Int32))] (.int (0 : Int32)) := Vt.pad (pad_rep [(.int b0), (.int b1), (.int b2), (.int b3), (.int b4), (.int b5)] (.int (0 : Int32)) 2)
  obtain ⟨T321, h321, L321, X321, e321, N321, K321, Va321, st321⟩ := cpA X317 hx hZ hown (own_w hw 103 rfl) (own_w hw 106 rfl) (own_w hw 104 rfl) (own_w hw 105 rfl) e317 Ky V320 (us := [(.int c0), (.int c1)]) (Or.inl ⟨rfl, rfl⟩) (by decide) (by decide) (by decide) (ok rfl) (ok rfl) rfl (ok rfl) N314 gt (g := (mkF m 22 #[.val (.ref y), .val (.ref t), .val (.int (6 : Int32)), .val (.int (0 : Int32))] [(.int (2 : Int32)), (.int (6 : Int32)), (.ref t), (.int (0 : Int32)), (.ref ty)])) rfl (by rw [hml]; rfl) rfl (hb hby d18_22) (ok rfl) (W := 0) (by show 2 * 0 + _ ≤ _; exact Nat.le_of_eq rfl) (ok rfl)
  have V321 : Arv Z h321 t kt .byte (16 : Int32) [(.int b0), (.int b1), (.int b2), (.int b3), (.int b4), (.int b5), (.int c0), (.int c1)] (.int (0 : Int32)) := Va321
  refine Goes.step (T' := T321) (g' := (mkF m 25 #[.val (.ref y), .val (.ref t), .val (.int (6 : Int32)), .val (.int (0 : Int32))] [])) st321 ?_
  refine P1.goto X321.here hx 43 (hb hby d18_25) (by decide) (by decide) ?_
  refine Goes.retV X321 hx Bd.notSynchronized Bd.returns (hb hby d18_43) (ok rfl) (ok rfl) ?_
  rw [e321]
  have K322 : Keep h0 h321 [t] := K0.trans K321 (allS (Or.inl (by simp)) all0)
  exact ⟨rfl, N321, K322, V321⟩
theorem efPu6_2 (x y : Addr) (m : MethodId) : entryFrame m #[(.ref x), (.int (6 : Int32)), (.ref y)] 3 = mkF m 0 #[.val (.ref x), .val (.int (6 : Int32)), .val (.ref y)] [] := by first | (simp [entryFrame, mkF, argsToLocals, Value.category]; done) | rfl
def QPu6_2 (Z : State) (x t : Addr) (kt : ClassId) (y ty : Addr) (ky : ClassId) (b0 b1 b2 b3 b4 b5 c0 c1 zc : Int32) (fm : Value) (h0 : Heap) (n0 : Nat) (v : Option Value) (h : Heap) (L : List Loc) : Prop := v = none ∧ Fr n0 L ∧ Keep h0 h [x, t] ∧ Exa Z h x "java/lang/StringBuilder" ∧ Fld Z h x "java/lang/AbstractStringBuilder" "value" "[B" (.ref t) ∧ Fld Z h x "java/lang/AbstractStringBuilder" "coder" "B" (.int (0 : Int32)) ∧ Fld Z h x "java/lang/AbstractStringBuilder" "count" "I" (.int (6 : Int32)) ∧ Arv Z h t kt .byte (16 : Int32) [(.int b0), (.int b1), (.int b2), (.int b3), (.int b4), (.int b5), (.int c0), (.int c1)] (.int (0 : Int32))
set_option maxRecDepth 65536 in
set_option maxHeartbeats 40000000 in
theorem rmPu6_2 (l : Launch) (Z : State) (a0 : Array Value) (hw : ∀ d ∈ tables_1, d.before a0 Z = true) (ws : List Jvm.Cond) (x t : Addr) (kt : ClassId) (y ty : Addr) (ky : ClassId) (b0 b1 b2 b3 b4 b5 c0 c1 zc : Int32) (fm : Value) (h0 : Heap) (n0 : Nat) (Z0 : n0 ≤ h0.size) (O0 : Old Z n0 h0) (S_CS : Sta Z Z.heap "java/lang/String" "COMPACT_STRINGS" "Z" (.int zc)) (hzc : ¬ zc = 0) (S_FM : Sta Z Z.heap "jdk/internal/util/Preconditions" "SIOOBE_FORMATTER" "Ljava/util/function/BiFunction;" fm) (hfm : fm.isRef = true) (gx : n0 ≤ x) (gt : n0 ≤ t) (Ex : Exa Z h0 x "java/lang/StringBuilder") (Fv : Fld Z h0 x "java/lang/AbstractStringBuilder" "value" "[B" (.ref t)) (Fc : Fld Z h0 x "java/lang/AbstractStringBuilder" "coder" "B" (.int (0 : Int32))) (Fn : Fld Z h0 x "java/lang/AbstractStringBuilder" "count" "I" (.int (6 : Int32))) (Vt : Arv Z h0 t kt .byte (16 : Int32) [(.int b0), (.int b1), (.int b2), (.int b3), (.int b4), (.int b5)] (.int (0 : Int32))) (Ey : Exa Z h0 y "java/lang/String") (Vy : Fld Z h0 y "java/lang/String" "value" "[B" (.ref ty)) (Cy : Fld Z h0 y "java/lang/String" "coder" "B" (.int (0 : Int32))) (Ky : Arv Z h0 ty ky .byte (2 : Int32) [(.int c0), (.int c1)] (.int (0 : Int32))) (nety : ty ≠ t) :
    OwnLaw l y8_ jdk_68_method_73_code 3 none ws (rR 2 0 0 33) #[(.ref x), (.int (6 : Int32)), (.ref y)] Z h0 (QPu6_2 Z x t kt y ty ky b0 b1 b2 b3 b4 b5 c0 c1 zc fm h0 n0) := by
  refine own_enter (plainFor_of_name pn_java_lang_AbstractStringBuilder) (efPu6_2 x y) ?_
  intro p e s m below meth c s₁ Bd hx hby hml hZ hown X0 e0
  have N0 := Fr.nil n0
  have K0 : Keep h0 h0 [] := Keep.refl _ _
  have K0 : Keep h0 h0 [x, t] := Keep.refl _ _
  refine P1.aloadN X0.here hx (hb hby d16_0) rfl rfl ?_
  refine P1.aloadN X0.here hx (hb hby d16_1) rfl rfl ?_
  refine Goes.callV X0 hx hZ (y := y5_) (z := y5_) hown (mvT hZ (own_w hw 92 rfl)) (mvT hZ (own_declares (own_w hw 93 rfl) (own_w hw 96 rfl))) (notFace_of_selects (args := #[]) (mvT hZ (own_w hw 95 rfl))) (mvT hZ (own_w hw 95 rfl)) (mvT hZ (own_w hw 93 rfl)) (by decide) (kc' := 0) (ks' := 0) (backOf (W := 0) (rmInf l Z a0 hw [] x y zc fm h0 n0 Z0 O0 S_CS hzc S_FM hfm Fc Ey Cy) hZ (own_w hw 96 rfl) (own_w hw 49 rfl) (ok rfl) (ok rfl)) (b := x) e0 Ex (g := (mkF m 2 #[.val (.ref x), .val (.int (6 : Int32)), .val (.ref y)] [(.ref y), (.ref x)])) rfl (by rw [hml]; rfl) (argsL := [(.ref y)]) (rest := []) (lenOf pd_20497 rfl) rfl (by show 2 * 0 + _ ≤ _; exact Nat.le_of_eq rfl) (hb hby d16_2) rfl (ok rfl) (ok rfl) ?_
  intro v323 T323 L323 q323 X323
  obtain ⟨rfl, N323q, hE323⟩ := q323
  have N323 := Fr.app N0 N323q
  show Goes p e below _ T323 (mkF m 5 #[.val (.ref x), .val (.int (6 : Int32)), .val (.ref y)] [])
  refine P1.aloadN X323.here hx (hb hby d16_5) rfl rfl ?_
  refine P1.aloadN X323.here hx (hb hby d16_6) rfl rfl ?_
  obtain ⟨T324, X324, e324, st324⟩ := getF X323 hx hZ hown (host := "") (Or.inl (own_w hw 53 rfl)) Via.refl hE323 Fv (g := (mkF m 7 #[.val (.ref x), .val (.int (6 : Int32)), .val (.ref y)] [(.ref x), (.ref y)])) rfl rfl (hb hby d16_7)
  refine Goes.step (T' := T324) (g' := (mkF m 10 #[.val (.ref x), .val (.int (6 : Int32)), .val (.ref y)] [(.ref t), (.ref y)])) st324 ?_
  refine P1.iloadN X324.here hx (hb hby d16_10) rfl ?_
  refine P1.aloadN X324.here hx (hb hby d16_11) rfl rfl ?_
  obtain ⟨T325, X325, e325, st325⟩ := getF X324 hx hZ hown (host := "") (Or.inl (own_w hw 55 rfl)) Via.refl e324 Fc (g := (mkF m 12 #[.val (.ref x), .val (.int (6 : Int32)), .val (.ref y)] [(.ref x), (.int (6 : Int32)), (.ref t), (.ref y)])) rfl rfl (hb hby d16_12)
  refine Goes.step (T' := T325) (g' := (mkF m 15 #[.val (.ref x), .val (.int (6 : Int32)), .val (.ref y)] [(.int (0 : Int32)), (.int (6 : Int32)), (.ref t), (.ref y)])) st325 ?_
  refine Goes.callV X325 hx hZ (y := y15_) (z := y15_) hown (mvT hZ (own_w hw 98 rfl)) (mvT hZ (own_w hw 99 rfl)) (notFace_of_selects (args := #[]) (mvT hZ (own_w hw 101 rfl))) (mvT hZ (own_w hw 101 rfl)) (mvT hZ (own_w hw 100 rfl)) (by decide) (kc' := 0) (ks' := 0) (backOf (W := 0) (rmGb6_2 l Z a0 hw [] t kt y ty ky b0 b1 b2 b3 b4 b5 c0 c1 zc fm h0 n0 Z0 O0 S_CS hzc S_FM hfm gt Vt Ey Vy Cy Ky nety) hZ (own_w hw 102 rfl) (own_w hw 2 rfl) (ok rfl) (ok rfl)) (b := y) e325 Ey (g := (mkF m 15 #[.val (.ref x), .val (.int (6 : Int32)), .val (.ref y)] [(.int (0 : Int32)), (.int (6 : Int32)), (.ref t), (.ref y)])) rfl (by rw [hml]; rfl) (argsL := [(.ref t), (.int (6 : Int32)), (.int (0 : Int32))]) (rest := []) (lenOf pd_1890 rfl) rfl (by show 2 * 0 + _ ≤ _; exact Nat.le_of_eq rfl) (hb hby d16_15) rfl (ok rfl) (ok rfl) ?_
  intro v326 T326 L326 q326 X326
  obtain ⟨rfl, N326q, K326, g326V⟩ := q326
  have N326 := Fr.app N323 N326q
  show Goes p e below _ T326 (mkF m 18 #[.val (.ref x), .val (.int (6 : Int32)), .val (.ref y)] [])
  refine Goes.retV X326 hx Bd.notSynchronized Bd.returns (hb hby d16_18) (ok rfl) (ok rfl) ?_
  have K327 : Keep h0 T326.heap [x, t] := K0.trans K326 (allS (Or.inl (by simp)) all0)
  have E328 : Exa Z T326.heap x "java/lang/StringBuilder" := Ex.keep K326
  have ne329 : x ≠ t := own_ne_arv E328 (own_w hw 40 rfl) g326V
  have F330 : Fld Z T326.heap x "java/lang/AbstractStringBuilder" "value" "[B" (.ref t) := Fv.keep K326 (ninS ne329 nin0)
  have F331 : Fld Z T326.heap x "java/lang/AbstractStringBuilder" "coder" "B" (.int (0 : Int32)) := Fc.keep K326 (ninS ne329 nin0)
  have F332 : Fld Z T326.heap x "java/lang/AbstractStringBuilder" "count" "I" (.int (6 : Int32)) := Fn.keep K326 (ninS ne329 nin0)
  exact ⟨rfl, N326, K327, E328, F330, F331, F332, g326V⟩
theorem efLen2 (a : Addr) (m : MethodId) : entryFrame m #[(.ref a)] 1 = mkF m 0 #[.val (.ref a)] [] := by first | (simp [entryFrame, mkF, argsToLocals, Value.category]; done) | rfl
def QLen2 (Z : State) (a t : Addr) (kt : ClassId) (vs : List Value) (zc : Int32) (fm : Value) (h0 : Heap) (n0 : Nat) (v : Option Value) (h : Heap) (L : List Loc) : Prop := v = some (.int (2 : Int32)) ∧ Fr n0 L ∧ h = h0
set_option maxRecDepth 65536 in
set_option maxHeartbeats 40000000 in
theorem rmLen2 (l : Launch) (Z : State) (a0 : Array Value) (hw : ∀ d ∈ tables_1, d.before a0 Z = true) (ws : List Jvm.Cond) (a t : Addr) (kt : ClassId) (vs : List Value) (zc : Int32) (fm : Value) (h0 : Heap) (n0 : Nat) (Z0 : n0 ≤ h0.size) (O0 : Old Z n0 h0) (S_CS : Sta Z Z.heap "java/lang/String" "COMPACT_STRINGS" "Z" (.int zc)) (hzc : ¬ zc = 0) (S_FM : Sta Z Z.heap "jdk/internal/util/Preconditions" "SIOOBE_FORMATTER" "Ljava/util/function/BiFunction;" fm) (hfm : fm.isRef = true) (Ea : Exa Z h0 a "java/lang/String") (Fa : Fld Z h0 a "java/lang/String" "value" "[B" (.ref t)) (Fc : Fld Z h0 a "java/lang/String" "coder" "B" (.int (0 : Int32))) (Vt : Arv Z h0 t kt .byte (2 : Int32) vs (.int (0 : Int32))) :
    OwnLaw l y17_ jdk_42_method_54_code 1 (some .int) ws (rR 1 0 0 13) #[(.ref a)] Z h0 (QLen2 Z a t kt vs zc fm h0 n0) := by
  refine own_enter (plainFor_of_name pn_java_lang_String) (efLen2 a) ?_
  intro p e s m below meth c s₁ Bd hx hby hml hZ hown X0 e0
  have N0 := Fr.nil n0
  have K0 : Keep h0 h0 [] := Keep.refl _ _
  refine P1.aloadN X0.here hx (hb hby d13_0) rfl rfl ?_
  obtain ⟨T333, X333, e333, st333⟩ := getF X0 hx hZ hown (host := "") (Or.inl (own_w hw 28 rfl)) Via.refl e0 Fa (g := (mkF m 1 #[.val (.ref a)] [(.ref a)])) rfl rfl (hb hby d13_1)
  refine Goes.step (T' := T333) (g' := (mkF m 4 #[.val (.ref a)] [(.ref t)])) st333 ?_
  obtain ⟨cl334, Ar334, qk334, sl334, nz334, ha334, fi334⟩ := id Vt
  have al335 : cl334.slots.size.toInt32 = (2 : Int32) := len_of sl334 nz334
  refine Goes.step (T' := T333) (g' := (mkF m 5 #[.val (.ref a)] [(.int (2 : Int32))])) (fun t_ k_ => X333.arraylength hx (by rw [e333]; exact Ar334.1) (State.isArrayOf_alike hZ.alike Ar334.2.1) (g := (mkF m 4 #[.val (.ref a)] [(.ref t)])) rfl rfl (hb hby d13_4) _ <| by rw [al335]; exact k_) ?_
  refine P1.aloadN X333.here hx (hb hby d13_5) rfl rfl ?_
  refine Goes.callV X333 hx hZ (y := y14_) (z := y14_) hown (mvT hZ (own_w hw 75 rfl)) (mvT hZ (own_w hw 76 rfl)) (notFace_of_selects (args := #[]) (mvT hZ (own_w hw 78 rfl))) (mvT hZ (own_w hw 78 rfl)) (mvT hZ (own_w hw 77 rfl)) (by decide) (kc' := 0) (ks' := 0) (backOf (W := 1) (rmCod l Z a0 hw [] a zc fm h0 n0 Z0 O0 S_CS hzc S_FM hfm Fc) hZ (own_w hw 79 rfl) (own_w hw 2 rfl) (ok rfl) (ok rfl)) (b := a) e333 Ea (g := (mkF m 6 #[.val (.ref a)] [(.ref a), (.int (2 : Int32))])) rfl (by rw [hml]; rfl) (argsL := []) (rest := [(.int (2 : Int32))]) (lenOf pd_320 rfl) rfl (by show 2 * 0 + _ ≤ _; exact Nat.le_of_eq rfl) (hb hby d13_6) rfl (ok rfl) (ok rfl) ?_
  intro v336 T336 L336 q336 X336
  obtain ⟨rfl, N336q, hE336⟩ := q336
  have N336 := Fr.app N0 N336q
  show Goes p e below _ T336 (mkF m 9 #[.val (.ref a)] [(.int (0 : Int32)), (.int (2 : Int32))])
  refine Goes.step (T' := T336) (g' := (mkF m 10 #[.val (.ref a)] [(.int ((2 : Int32) >>> ((0 : Int32) &&& 31)))])) (fun t_ k_ => XS.ishr X336.here hx rfl (hb hby d13_9) rfl k_) ?_
  have rw337 : ((2 : Int32) >>> ((0 : Int32) &&& 31)) = (2 : Int32) := by decide
  rw [rw337]
  refine Goes.retI X336 hx Bd.notSynchronized Bd.returns (hb hby d13_10) (ok rfl) (ok rfl) ?_
  rw [hE336]
  exact ⟨rfl, N336, rfl⟩
theorem efAp6_2 (x y : Addr) (m : MethodId) : entryFrame m #[(.ref x), (.ref y)] 3 = mkF m 0 #[.val (.ref x), .val (.ref y), .unset] [] := by first | (simp [entryFrame, mkF, argsToLocals, Value.category]; done) | rfl
def QAp6_2 (Z : State) (x t : Addr) (kt : ClassId) (y ty : Addr) (ky : ClassId) (b0 b1 b2 b3 b4 b5 c0 c1 zc : Int32) (fm : Value) (h0 : Heap) (n0 : Nat) (v : Option Value) (h : Heap) (L : List Loc) : Prop := v = some (.ref x) ∧ Fr n0 L ∧ Keep h0 h [x, t] ∧ Exa Z h x "java/lang/StringBuilder" ∧ Fld Z h x "java/lang/AbstractStringBuilder" "value" "[B" (.ref t) ∧ Fld Z h x "java/lang/AbstractStringBuilder" "coder" "B" (.int (0 : Int32)) ∧ Fld Z h x "java/lang/AbstractStringBuilder" "count" "I" (.int (8 : Int32)) ∧ Arv Z h t kt .byte (16 : Int32) [(.int b0), (.int b1), (.int b2), (.int b3), (.int b4), (.int b5), (.int c0), (.int c1)] (.int (0 : Int32))
set_option maxRecDepth 65536 in
set_option maxHeartbeats 40000000 in
theorem rmAp6_2 (l : Launch) (Z : State) (a0 : Array Value) (hw : ∀ d ∈ tables_1, d.before a0 Z = true) (ws : List Jvm.Cond) (x t : Addr) (kt : ClassId) (y ty : Addr) (ky : ClassId) (b0 b1 b2 b3 b4 b5 c0 c1 zc : Int32) (fm : Value) (h0 : Heap) (n0 : Nat) (Z0 : n0 ≤ h0.size) (O0 : Old Z n0 h0) (S_CS : Sta Z Z.heap "java/lang/String" "COMPACT_STRINGS" "Z" (.int zc)) (hzc : ¬ zc = 0) (S_FM : Sta Z Z.heap "jdk/internal/util/Preconditions" "SIOOBE_FORMATTER" "Ljava/util/function/BiFunction;" fm) (hfm : fm.isRef = true) (gx : n0 ≤ x) (gt : n0 ≤ t) (Ex : Exa Z h0 x "java/lang/StringBuilder") (Fv : Fld Z h0 x "java/lang/AbstractStringBuilder" "value" "[B" (.ref t)) (Fc : Fld Z h0 x "java/lang/AbstractStringBuilder" "coder" "B" (.int (0 : Int32))) (Fn : Fld Z h0 x "java/lang/AbstractStringBuilder" "count" "I" (.int (6 : Int32))) (Vt : Arv Z h0 t kt .byte (16 : Int32) [(.int b0), (.int b1), (.int b2), (.int b3), (.int b4), (.int b5)] (.int (0 : Int32))) (Ey : Exa Z h0 y "java/lang/String") (Vy : Fld Z h0 y "java/lang/String" "value" "[B" (.ref ty)) (Cy : Fld Z h0 y "java/lang/String" "coder" "B" (.int (0 : Int32))) (Ky : Arv Z h0 ty ky .byte (2 : Int32) [(.int c0), (.int c1)] (.int (0 : Int32))) (nety : ty ≠ t) :
    OwnLaw l y2_ jdk_68_method_22_code 3 (some (.object "java/lang/AbstractStringBuilder")) ws (rR 3 0 0 47) #[(.ref x), (.ref y)] Z h0 (QAp6_2 Z x t kt y ty ky b0 b1 b2 b3 b4 b5 c0 c1 zc fm h0 n0) := by
  refine own_enter (plainFor_of_name pn_java_lang_AbstractStringBuilder) (efAp6_2 x y) ?_
  intro p e s m below meth c s₁ Bd hx hby hml hZ hown X0 e0
  have N0 := Fr.nil n0
  have K0 : Keep h0 h0 [] := Keep.refl _ _
  have K0 : Keep h0 h0 [x, t] := Keep.refl _ _
  refine P1.aloadN X0.here hx (hb hby d12_0) rfl rfl ?_
  refine P1.ifnonnullYes X0.here hx 9 (hb hby d12_1) (by decide) (by decide) ?_
  refine P1.aloadN X0.here hx (hb hby d12_9) rfl rfl ?_
  refine Goes.callV X0 hx hZ (y := y17_) (z := y17_) hown (mvT hZ (own_w hw 70 rfl)) (mvT hZ (own_w hw 71 rfl)) (notFace_of_selects (args := #[]) (mvT hZ (own_w hw 73 rfl))) (mvT hZ (own_w hw 73 rfl)) (mvT hZ (own_w hw 72 rfl)) (by decide) (kc' := 0) (ks' := 0) (backOf (W := 0) (rmLen2 l Z a0 hw [] y ty ky [(.int c0), (.int c1)] zc fm h0 n0 Z0 O0 S_CS hzc S_FM hfm Ey Vy Cy Ky) hZ (own_w hw 74 rfl) (own_w hw 2 rfl) (ok rfl) (ok rfl)) (b := y) e0 Ey (g := (mkF m 10 #[.val (.ref x), .val (.ref y), .unset] [(.ref y)])) rfl (by rw [hml]; rfl) (argsL := []) (rest := []) (lenOf pd_341 rfl) rfl (by show 2 * 0 + _ ≤ _; exact Nat.le_of_eq rfl) (hb hby d12_10) rfl (ok rfl) (ok rfl) ?_
  intro v338 T338 L338 q338 X338
  obtain ⟨rfl, N338q, hE338⟩ := q338
  have N338 := Fr.app N0 N338q
  show Goes p e below _ T338 (mkF m 13 #[.val (.ref x), .val (.ref y), .unset] [(.int (2 : Int32))])
  refine P1.istoreN X338.here hx #[.val (.ref x), .val (.ref y), .val (.int (2 : Int32))] (hb hby d12_13) rfl ?_
  refine P1.aloadN X338.here hx (hb hby d12_14) rfl rfl ?_
  refine P1.aloadN X338.here hx (hb hby d12_15) rfl rfl ?_
  obtain ⟨T339, X339, e339, st339⟩ := getF X338 hx hZ hown (host := "") (Or.inl (own_w hw 80 rfl)) Via.refl hE338 Fn (g := (mkF m 16 #[.val (.ref x), .val (.ref y), .val (.int (2 : Int32))] [(.ref x), (.ref x)])) rfl rfl (hb hby d12_16)
  refine Goes.step (T' := T339) (g' := (mkF m 19 #[.val (.ref x), .val (.ref y), .val (.int (2 : Int32))] [(.int (6 : Int32)), (.ref x)])) st339 ?_
  refine P1.iloadN X339.here hx (hb hby d12_19) rfl ?_
  refine P1.iadd X339.here hx (hb hby d12_20) ?_
  have rw340 : ((6 : Int32) + (2 : Int32)) = (8 : Int32) := by decide
  rw [rw340]
  refine Goes.callV X339 hx hZ (y := y3_) (z := y3_) hown (mvT hZ (own_w hw 82 rfl)) (mvT hZ (own_declares (own_w hw 83 rfl) (own_w hw 86 rfl))) (notFace_of_selects (args := #[]) (mvT hZ (own_w hw 85 rfl))) (mvT hZ (own_w hw 85 rfl)) (mvT hZ (own_w hw 83 rfl)) (by decide) (kc' := 0) (ks' := 0) (backOf (W := 0) (rmEns8 l Z a0 hw [] x t kt [(.int b0), (.int b1), (.int b2), (.int b3), (.int b4), (.int b5)] h0 n0 Z0 O0 Ex Fv Fc Vt) hZ (own_w hw 86 rfl) (own_w hw 49 rfl) (ok rfl) (ok rfl)) (b := x) e339 Ex (g := (mkF m 21 #[.val (.ref x), .val (.ref y), .val (.int (2 : Int32))] [(.int (8 : Int32)), (.ref x)])) rfl (by rw [hml]; rfl) (argsL := [(.int (8 : Int32))]) (rest := []) (lenOf pd_653 rfl) rfl (by show 2 * 0 + _ ≤ _; exact Nat.le_of_eq rfl) (hb hby d12_21) rfl (ok rfl) (ok rfl) ?_
  intro v341 T341 L341 q341 X341
  obtain ⟨rfl, N341q, hE341⟩ := q341
  have N341 := Fr.app N338 N341q
  show Goes p e below _ T341 (mkF m 24 #[.val (.ref x), .val (.ref y), .val (.int (2 : Int32))] [])
  refine P1.aloadN X341.here hx (hb hby d12_24) rfl rfl ?_
  refine P1.aloadN X341.here hx (hb hby d12_25) rfl rfl ?_
  obtain ⟨T342, X342, e342, st342⟩ := getF X341 hx hZ hown (host := "") (Or.inl (own_w hw 80 rfl)) Via.refl hE341 Fn (g := (mkF m 26 #[.val (.ref x), .val (.ref y), .val (.int (2 : Int32))] [(.ref x), (.ref x)])) rfl rfl (hb hby d12_26)
  refine Goes.step (T' := T342) (g' := (mkF m 29 #[.val (.ref x), .val (.ref y), .val (.int (2 : Int32))] [(.int (6 : Int32)), (.ref x)])) st342 ?_
  refine P1.aloadN X342.here hx (hb hby d12_29) rfl rfl ?_
  refine Goes.callV X342 hx hZ (y := y8_) (z := y8_) hown (mvT hZ (own_w hw 87 rfl)) (mvT hZ (own_declares (own_w hw 88 rfl) (own_w hw 91 rfl))) (notFace_of_selects (args := #[]) (mvT hZ (own_w hw 90 rfl))) (mvT hZ (own_w hw 90 rfl)) (mvT hZ (own_w hw 88 rfl)) (by decide) (kc' := 0) (ks' := 0) (backOf (W := 0) (rmPu6_2 l Z a0 hw [] x t kt y ty ky b0 b1 b2 b3 b4 b5 c0 c1 zc fm h0 n0 Z0 O0 S_CS hzc S_FM hfm gx gt Ex Fv Fc Fn Vt Ey Vy Cy Ky nety) hZ (own_w hw 91 rfl) (own_w hw 49 rfl) (ok rfl) (ok rfl)) (b := x) e342 Ex (g := (mkF m 30 #[.val (.ref x), .val (.ref y), .val (.int (2 : Int32))] [(.ref y), (.int (6 : Int32)), (.ref x)])) rfl (by rw [hml]; rfl) (argsL := [(.int (6 : Int32)), (.ref y)]) (rest := []) (lenOf pd_22466 rfl) rfl (by show 2 * 0 + _ ≤ _; exact Nat.le_of_eq rfl) (hb hby d12_30) rfl (ok rfl) (ok rfl) ?_
  intro v343 T343 L343 q343 X343
  obtain ⟨rfl, N343q, K343, g343E, g343v, g343c, g343n, g343V⟩ := q343
  have N343 := Fr.app N341 N343q
  show Goes p e below _ T343 (mkF m 33 #[.val (.ref x), .val (.ref y), .val (.int (2 : Int32))] [])
  refine P1.aloadN X343.here hx (hb hby d12_33) rfl rfl ?_
  refine P1.dup X343.here hx (hb hby d12_34) rfl ?_
  obtain ⟨T344, X344, e344, st344⟩ := getF X343 hx hZ hown (host := "") (Or.inl (own_w hw 80 rfl)) Via.refl rfl g343n (g := (mkF m 35 #[.val (.ref x), .val (.ref y), .val (.int (2 : Int32))] [(.ref x), (.ref x)])) rfl rfl (hb hby d12_35)
  refine Goes.step (T' := T344) (g' := (mkF m 38 #[.val (.ref x), .val (.ref y), .val (.int (2 : Int32))] [(.int (6 : Int32)), (.ref x)])) st344 ?_
  refine P1.iloadN X344.here hx (hb hby d12_38) rfl ?_
  refine P1.iadd X344.here hx (hb hby d12_39) ?_
  have rw345 : ((6 : Int32) + (2 : Int32)) = (8 : Int32) := by decide
  rw [rw345]
  obtain ⟨T346, h346, X346, e346, W346, st346⟩ := putF X344 hx hZ hown (host := "") (Or.inl (own_w hw 80 rfl)) Via.refl e344 g343n g343E (Or.inl (own_w hw 81 rfl)) (own_w hw 40 rfl) (ty := .int) (by decide) rfl rfl (g := (mkF m 40 #[.val (.ref x), .val (.ref y), .val (.int (2 : Int32))] [(.int (8 : Int32)), (.ref x)])) rfl rfl (hb hby d12_40)
  have Fw346 : Fld Z h346 x "java/lang/AbstractStringBuilder" "count" "I" (.int (8 : Int32)) := g343n.same W346
  have N346 := Fr.snoc X346 N343 gx
  refine Goes.step (T' := T346) (g' := (mkF m 43 #[.val (.ref x), .val (.ref y), .val (.int (2 : Int32))] [])) st346 ?_
  refine P1.aloadN X346.here hx (hb hby d12_43) rfl rfl ?_
  refine Goes.retA X346 hx Bd.notSynchronized Bd.returns rfl rfl (hb hby d12_44) (ok rfl) (ok rfl) ?_
  rw [e346]
  have K347 : Keep h0 T343.heap [x, t] := K0.trans K343 (allS (Or.inl (by simp)) (allS (Or.inl (by simp)) all0))
  have K348 : Keep h0 h346 [x, t] := K347.wr W346 (Or.inl (by simp))
  have E349 : Exa Z h346 x "java/lang/StringBuilder" := g343E.wr W346
  have F350 : Fld Z h346 x "java/lang/AbstractStringBuilder" "value" "[B" (.ref t) := g343v.other W346 (Or.inr (slot_ne (Or.inl (own_w hw 54 rfl)) (Or.inl (own_w hw 81 rfl)) (by decide) (t := (.array .byte)) (t' := .int) (by decide) (by decide)))
  have F351 : Fld Z h346 x "java/lang/AbstractStringBuilder" "coder" "B" (.int (0 : Int32)) := g343c.other W346 (Or.inr (slot_ne (Or.inl (own_w hw 56 rfl)) (Or.inl (own_w hw 81 rfl)) (by decide) (t := .byte) (t' := .int) (by decide) (by decide)))
  have ne352 : x ≠ t := own_ne_arv g343E (own_w hw 40 rfl) g343V
  have V353 : Arv Z h346 t kt .byte (16 : Int32) [(.int b0), (.int b1), (.int b2), (.int b3), (.int b4), (.int b5), (.int c0), (.int c1)] (.int (0 : Int32)) := g343V.other W346 (Ne.symm ne352)
  exact ⟨rfl, N346, K348, E349, F350, F351, Fw346, V353⟩
theorem efSp6_2 (x y : Addr) (m : MethodId) : entryFrame m #[(.ref x), (.ref y)] 2 = mkF m 0 #[.val (.ref x), .val (.ref y)] [] := by first | (simp [entryFrame, mkF, argsToLocals, Value.category]; done) | rfl
def QSp6_2 (Z : State) (x t : Addr) (kt : ClassId) (y ty : Addr) (ky : ClassId) (b0 b1 b2 b3 b4 b5 c0 c1 zc : Int32) (fm : Value) (h0 : Heap) (n0 : Nat) (v : Option Value) (h : Heap) (L : List Loc) : Prop := v = some (.ref x) ∧ Fr n0 L ∧ Keep h0 h [x, t] ∧ Exa Z h x "java/lang/StringBuilder" ∧ Fld Z h x "java/lang/AbstractStringBuilder" "value" "[B" (.ref t) ∧ Fld Z h x "java/lang/AbstractStringBuilder" "coder" "B" (.int (0 : Int32)) ∧ Fld Z h x "java/lang/AbstractStringBuilder" "count" "I" (.int (8 : Int32)) ∧ Arv Z h t kt .byte (16 : Int32) [(.int b0), (.int b1), (.int b2), (.int b3), (.int b4), (.int b5), (.int c0), (.int c1)] (.int (0 : Int32))
set_option maxRecDepth 65536 in
set_option maxHeartbeats 40000000 in
theorem rmSp6_2 (l : Launch) (Z : State) (a0 : Array Value) (hw : ∀ d ∈ tables_1, d.before a0 Z = true) (ws : List Jvm.Cond) (x t : Addr) (kt : ClassId) (y ty : Addr) (ky : ClassId) (b0 b1 b2 b3 b4 b5 c0 c1 zc : Int32) (fm : Value) (h0 : Heap) (n0 : Nat) (Z0 : n0 ≤ h0.size) (O0 : Old Z n0 h0) (S_CS : Sta Z Z.heap "java/lang/String" "COMPACT_STRINGS" "Z" (.int zc)) (hzc : ¬ zc = 0) (S_FM : Sta Z Z.heap "jdk/internal/util/Preconditions" "SIOOBE_FORMATTER" "Ljava/util/function/BiFunction;" fm) (hfm : fm.isRef = true) (gx : n0 ≤ x) (gt : n0 ≤ t) (Ex : Exa Z h0 x "java/lang/StringBuilder") (Fv : Fld Z h0 x "java/lang/AbstractStringBuilder" "value" "[B" (.ref t)) (Fc : Fld Z h0 x "java/lang/AbstractStringBuilder" "coder" "B" (.int (0 : Int32))) (Fn : Fld Z h0 x "java/lang/AbstractStringBuilder" "count" "I" (.int (6 : Int32))) (Vt : Arv Z h0 t kt .byte (16 : Int32) [(.int b0), (.int b1), (.int b2), (.int b3), (.int b4), (.int b5)] (.int (0 : Int32))) (Ey : Exa Z h0 y "java/lang/String") (Vy : Fld Z h0 y "java/lang/String" "value" "[B" (.ref ty)) (Cy : Fld Z h0 y "java/lang/String" "coder" "B" (.int (0 : Int32))) (Ky : Arv Z h0 ty ky .byte (2 : Int32) [(.int c0), (.int c1)] (.int (0 : Int32))) (nety : ty ≠ t) :
    OwnLaw l y19_ jdk_67_method_7_code 2 (some (.object "java/lang/StringBuilder")) ws (rR 4 0 0 61) #[(.ref x), (.ref y)] Z h0 (QSp6_2 Z x t kt y ty ky b0 b1 b2 b3 b4 b5 c0 c1 zc fm h0 n0) := by
  refine own_enter (plainFor_of_name pn_java_lang_StringBuilder) (efSp6_2 x y) ?_
  intro p e s m below meth c s₁ Bd hx hby hml hZ hown X0 e0
  have N0 := Fr.nil n0
  have K0 : Keep h0 h0 [] := Keep.refl _ _
  have K0 : Keep h0 h0 [x, t] := Keep.refl _ _
  refine P1.aloadN X0.here hx (hb hby d11_0) rfl rfl ?_
  refine P1.aloadN X0.here hx (hb hby d11_1) rfl rfl ?_
  refine Goes.callSup X0 hx hZ (y := y2_) hown (own_w hw 65 rfl) (own_sameMethod (own_w hw 66 rfl) (own_w hw 85 rfl) rfl (by decide)) (own_w hw 66 rfl) (own_w hw 67 rfl) (by decide) (kc' := 0) (ks' := 0) (backOf (W := 0) (rmAp6_2 l Z a0 hw [] x t kt y ty ky b0 b1 b2 b3 b4 b5 c0 c1 zc fm h0 n0 Z0 O0 S_CS hzc S_FM hfm gx gt Ex Fv Fc Fn Vt Ey Vy Cy Ky nety) hZ (own_w hw 69 rfl) (own_w hw 49 rfl) (ok rfl) (ok rfl)) (a := x) e0 (Ins.of_exa Ex (own_w hw 48 rfl)) (own_w hw 69 rfl) (g := (mkF m 2 #[.val (.ref x), .val (.ref y)] [(.ref y), (.ref x)])) rfl (by rw [hml]; rfl) (argsL := [(.ref y)]) (rest := []) (lenOf pd_138888 rfl) rfl (by show 2 * 0 + _ ≤ _; exact Nat.le_of_eq rfl) (hb hby d11_2) rfl (ok rfl) (ok rfl) ?_
  intro v354 T354 L354 q354 X354
  obtain ⟨rfl, N354q, K354, g354E, g354v, g354c, g354n, g354V⟩ := q354
  have N354 := Fr.app N0 N354q
  show Goes p e below _ T354 (mkF m 5 #[.val (.ref x), .val (.ref y)] [(.ref x)])
  refine P1.pop X354.here hx (hb hby d11_5) rfl ?_
  refine P1.aloadN X354.here hx (hb hby d11_6) rfl rfl ?_
  refine Goes.retA X354 hx Bd.notSynchronized Bd.returns rfl rfl (hb hby d11_7) (ok rfl) (ok rfl) ?_
  have K355 : Keep h0 T354.heap [x, t] := K0.trans K354 (allS (Or.inl (by simp)) (allS (Or.inl (by simp)) all0))
  exact ⟨rfl, N354, K355, g354E, g354v, g354c, g354n, g354V⟩
theorem efGb8_1 (y t : Addr) (m : MethodId) : entryFrame m #[(.ref y), (.ref t), (.int (8 : Int32)), (.int (0 : Int32))] 4 = mkF m 0 #[.val (.ref y), .val (.ref t), .val (.int (8 : Int32)), .val (.int (0 : Int32))] [] := by first | (simp [entryFrame, mkF, argsToLocals, Value.category]; done) | rfl
def QGb8_1 (Z : State) (t : Addr) (kt : ClassId) (y ty : Addr) (ky : ClassId) (b0 b1 b2 b3 b4 b5 b6 b7 c0 zc : Int32) (fm : Value) (h0 : Heap) (n0 : Nat) (v : Option Value) (h : Heap) (L : List Loc) : Prop := v = none ∧ Fr n0 L ∧ Keep h0 h [t] ∧ Arv Z h t kt .byte (16 : Int32) [(.int b0), (.int b1), (.int b2), (.int b3), (.int b4), (.int b5), (.int b6), (.int b7), (.int c0)] (.int (0 : Int32))
set_option maxRecDepth 65536 in
set_option maxHeartbeats 40000000 in
theorem rmGb8_1 (l : Launch) (Z : State) (a0 : Array Value) (hw : ∀ d ∈ tables_1, d.before a0 Z = true) (ws : List Jvm.Cond) (t : Addr) (kt : ClassId) (y ty : Addr) (ky : ClassId) (b0 b1 b2 b3 b4 b5 b6 b7 c0 zc : Int32) (fm : Value) (h0 : Heap) (n0 : Nat) (Z0 : n0 ≤ h0.size) (O0 : Old Z n0 h0) (S_CS : Sta Z Z.heap "java/lang/String" "COMPACT_STRINGS" "Z" (.int zc)) (hzc : ¬ zc = 0) (S_FM : Sta Z Z.heap "jdk/internal/util/Preconditions" "SIOOBE_FORMATTER" "Ljava/util/function/BiFunction;" fm) (hfm : fm.isRef = true) (gt : n0 ≤ t) (Vt : Arv Z h0 t kt .byte (16 : Int32) [(.int b0), (.int b1), (.int b2), (.int b3), (.int b4), (.int b5), (.int b6), (.int b7)] (.int (0 : Int32))) (Ey : Exa Z h0 y "java/lang/String") (Vy : Fld Z h0 y "java/lang/String" "value" "[B" (.ref ty)) (Cy : Fld Z h0 y "java/lang/String" "coder" "B" (.int (0 : Int32))) (Ky : Arv Z h0 ty ky .byte (1 : Int32) [(.int c0)] (.int (0 : Int32))) (nety : ty ≠ t) :
    OwnLaw l y15_ jdk_42_method_147_code 4 none ws (rR 1 0 0 18) #[(.ref y), (.ref t), (.int (8 : Int32)), (.int (0 : Int32))] Z h0 (QGb8_1 Z t kt y ty ky b0 b1 b2 b3 b4 b5 b6 b7 c0 zc fm h0 n0) := by
  refine own_enter (plainFor_of_name pn_java_lang_String) (efGb8_1 y t) ?_
  intro p e s m below meth c s₁ Bd hx hby hml hZ hown X0 e0
  have N0 := Fr.nil n0
  have K0 : Keep h0 h0 [] := Keep.refl _ _
  have K0 : Keep h0 h0 [t] := Keep.refl _ _
  refine P1.aloadN X0.here hx (hb hby d18_0) rfl rfl ?_
  refine Goes.callV X0 hx hZ (y := y14_) (z := y14_) hown (mvT hZ (own_w hw 75 rfl)) (mvT hZ (own_w hw 76 rfl)) (notFace_of_selects (args := #[]) (mvT hZ (own_w hw 78 rfl))) (mvT hZ (own_w hw 78 rfl)) (mvT hZ (own_w hw 77 rfl)) (by decide) (kc' := 0) (ks' := 0) (backOf (W := 0) (rmCod l Z a0 hw [] y zc fm h0 n0 Z0 O0 S_CS hzc S_FM hfm Cy) hZ (own_w hw 79 rfl) (own_w hw 2 rfl) (ok rfl) (ok rfl)) (b := y) e0 Ey (g := (mkF m 1 #[.val (.ref y), .val (.ref t), .val (.int (8 : Int32)), .val (.int (0 : Int32))] [(.ref y)])) rfl (by rw [hml]; rfl) (argsL := []) (rest := []) (lenOf pd_320 rfl) rfl (by show 2 * 0 + _ ≤ _; exact Nat.le_of_eq rfl) (hb hby d18_1) rfl (ok rfl) (ok rfl) ?_
  intro v356 T356 L356 q356 X356
  obtain ⟨rfl, N356q, hE356⟩ := q356
  have N356 := Fr.app N0 N356q
  show Goes p e below _ T356 (mkF m 4 #[.val (.ref y), .val (.ref t), .val (.int (8 : Int32)), .val (.int (0 : Int32))] [(.int (0 : Int32))])
  refine P1.iloadN X356.here hx (hb hby d18_4) rfl ?_
  refine P1.icmpNo X356.here hx (hb hby d18_5) (teq (by decide : (0 : Int32) = (0 : Int32))).2 ?_
  refine P1.aloadN X356.here hx (hb hby d18_8) rfl rfl ?_
  obtain ⟨T357, X357, e357, st357⟩ := getF X356 hx hZ hown (host := "") (Or.inl (own_w hw 28 rfl)) Via.refl hE356 Vy (g := (mkF m 9 #[.val (.ref y), .val (.ref t), .val (.int (8 : Int32)), .val (.int (0 : Int32))] [(.ref y)])) rfl rfl (hb hby d18_9)
  refine Goes.step (T' := T357) (g' := (mkF m 12 #[.val (.ref y), .val (.ref t), .val (.int (8 : Int32)), .val (.int (0 : Int32))] [(.ref ty)])) st357 ?_
  refine P1.iconst X357.here hx (0 : Int32) (hb hby d18_12) rfl ?_
  refine P1.aloadN X357.here hx (hb hby d18_13) rfl rfl ?_
  refine P1.iloadN X357.here hx (hb hby d18_14) rfl ?_
  refine P1.iloadN X357.here hx (hb hby d18_15) rfl ?_
  refine Goes.step (T' := T357) (g' := (mkF m 17 #[.val (.ref y), .val (.ref t), .val (.int (8 : Int32)), .val (.int (0 : Int32))] [(.int ((8 : Int32) <<< ((0 : Int32) &&& 31))), (.ref t), (.int (0 : Int32)), (.ref ty)])) (fun t_ k_ => XS.ishl X357.here hx rfl (hb hby d18_16) rfl k_) ?_
  have rw358 : ((8 : Int32) <<< ((0 : Int32) &&& 31)) = (8 : Int32) := by decide
  rw [rw358]
  refine P1.aloadN X357.here hx (hb hby d18_17) rfl rfl ?_
  obtain ⟨T359, X359, e359, st359⟩ := getF X357 hx hZ hown (host := "") (Or.inl (own_w hw 28 rfl)) Via.refl e357 Vy (g := (mkF m 18 #[.val (.ref y), .val (.ref t), .val (.int (8 : Int32)), .val (.int (0 : Int32))] [(.ref y), (.int (8 : Int32)), (.ref t), (.int (0 : Int32)), (.ref ty)])) rfl rfl (hb hby d18_18)
  refine Goes.step (T' := T359) (g' := (mkF m 21 #[.val (.ref y), .val (.ref t), .val (.int (8 : Int32)), .val (.int (0 : Int32))] [(.ref ty), (.int (8 : Int32)), (.ref t), (.int (0 : Int32)), (.ref ty)])) st359 ?_
  obtain ⟨cl360, Ar360, qk360, sl360, nz360, ha360, fi360⟩ := id Ky
  have al361 : cl360.slots.size.toInt32 = (1 : Int32) := len_of sl360 nz360
  refine Goes.step (T' := T359) (g' := (mkF m 22 #[.val (.ref y), .val (.ref t), .val (.int (8 : Int32)), .val (.int (0 : Int32))] [(.int (1 : Int32)), (.int (8 : Int32)), (.ref t), (.int (0 : Int32)), (.ref ty)])) (fun t_ k_ => X359.arraylength hx (by rw [e359]; exact Ar360.1) (State.isArrayOf_alike hZ.alike Ar360.2.1) (g := (mkF m 21 #[.val (.ref y), .val (.ref t), .val (.int (8 : Int32)), .val (.int (0 : Int32))] [(.ref ty), (.int (8 : Int32)), (.ref t), (.int (0 : Int32)), (.ref ty)])) rfl rfl (hb hby d18_21) _ <| by rw [al361]; exact k_) ?_
  have V362 : Arv Z h0 t kt .byte (16 : Int32) [(.int b0), (.int b1), (.int b2), (.int b3), (.int b4), (.int b5), (.int b6), (.int b7), (.int (0 : Int32))] (.int (0 : Int32)) := Vt.pad (pad_rep [(.int b0), (.int b1), (.int b2), (.int b3), (.int b4), (.int b5), (.int b6), (.int b7)] (.int (0 : Int32)) 1)
  obtain ⟨T363, h363, L363, X363, e363, N363, K363, Va363, st363⟩ := cpA X359 hx hZ hown (own_w hw 103 rfl) (own_w hw 106 rfl) (own_w hw 104 rfl) (own_w hw 105 rfl) e359 Ky V362 (us := [(.int c0)]) (Or.inl ⟨rfl, rfl⟩) (by decide) (by decide) (by decide) (ok rfl) (ok rfl) rfl (ok rfl) N356 gt (g := (mkF m 22 #[.val (.ref y), .val (.ref t), .val (.int (8 : Int32)), .val (.int (0 : Int32))] [(.int (1 : Int32)), (.int (8 : Int32)), (.ref t), (.int (0 : Int32)), (.ref ty)])) rfl (by rw [hml]; rfl) rfl (hb hby d18_22) (ok rfl) (W := 0) (by show 2 * 0 + _ ≤ _; exact Nat.le_of_eq rfl) (ok rfl)
  have V363 : Arv Z h363 t kt .byte (16 : Int32) [(.int b0), (.int b1), (.int b2), (.int b3), (.int b4), (.int b5), (.int b6), (.int b7), (.int c0)] (.int (0 : Int32)) := Va363
  refine Goes.step (T' := T363) (g' := (mkF m 25 #[.val (.ref y), .val (.ref t), .val (.int (8 : Int32)), .val (.int (0 : Int32))] [])) st363 ?_
  refine P1.goto X363.here hx 43 (hb hby d18_25) (by decide) (by decide) ?_
  refine Goes.retV X363 hx Bd.notSynchronized Bd.returns (hb hby d18_43) (ok rfl) (ok rfl) ?_
  rw [e363]
  have K364 : Keep h0 h363 [t] := K0.trans K363 (allS (Or.inl (by simp)) all0)
  exact ⟨rfl, N363, K364, V363⟩
theorem efPu8_1 (x y : Addr) (m : MethodId) : entryFrame m #[(.ref x), (.int (8 : Int32)), (.ref y)] 3 = mkF m 0 #[.val (.ref x), .val (.int (8 : Int32)), .val (.ref y)] [] := by first | (simp [entryFrame, mkF, argsToLocals, Value.category]; done) | rfl
def QPu8_1 (Z : State) (x t : Addr) (kt : ClassId) (y ty : Addr) (ky : ClassId) (b0 b1 b2 b3 b4 b5 b6 b7 c0 zc : Int32) (fm : Value) (h0 : Heap) (n0 : Nat) (v : Option Value) (h : Heap) (L : List Loc) : Prop := v = none ∧ Fr n0 L ∧ Keep h0 h [x, t] ∧ Exa Z h x "java/lang/StringBuilder" ∧ Fld Z h x "java/lang/AbstractStringBuilder" "value" "[B" (.ref t) ∧ Fld Z h x "java/lang/AbstractStringBuilder" "coder" "B" (.int (0 : Int32)) ∧ Fld Z h x "java/lang/AbstractStringBuilder" "count" "I" (.int (8 : Int32)) ∧ Arv Z h t kt .byte (16 : Int32) [(.int b0), (.int b1), (.int b2), (.int b3), (.int b4), (.int b5), (.int b6), (.int b7), (.int c0)] (.int (0 : Int32))
set_option maxRecDepth 65536 in
set_option maxHeartbeats 40000000 in
theorem rmPu8_1 (l : Launch) (Z : State) (a0 : Array Value) (hw : ∀ d ∈ tables_1, d.before a0 Z = true) (ws : List Jvm.Cond) (x t : Addr) (kt : ClassId) (y ty : Addr) (ky : ClassId) (b0 b1 b2 b3 b4 b5 b6 b7 c0 zc : Int32) (fm : Value) (h0 : Heap) (n0 : Nat) (Z0 : n0 ≤ h0.size) (O0 : Old Z n0 h0) (S_CS : Sta Z Z.heap "java/lang/String" "COMPACT_STRINGS" "Z" (.int zc)) (hzc : ¬ zc = 0) (S_FM : Sta Z Z.heap "jdk/internal/util/Preconditions" "SIOOBE_FORMATTER" "Ljava/util/function/BiFunction;" fm) (hfm : fm.isRef = true) (gx : n0 ≤ x) (gt : n0 ≤ t) (Ex : Exa Z h0 x "java/lang/StringBuilder") (Fv : Fld Z h0 x "java/lang/AbstractStringBuilder" "value" "[B" (.ref t)) (Fc : Fld Z h0 x "java/lang/AbstractStringBuilder" "coder" "B" (.int (0 : Int32))) (Fn : Fld Z h0 x "java/lang/AbstractStringBuilder" "count" "I" (.int (8 : Int32))) (Vt : Arv Z h0 t kt .byte (16 : Int32) [(.int b0), (.int b1), (.int b2), (.int b3), (.int b4), (.int b5), (.int b6), (.int b7)] (.int (0 : Int32))) (Ey : Exa Z h0 y "java/lang/String") (Vy : Fld Z h0 y "java/lang/String" "value" "[B" (.ref ty)) (Cy : Fld Z h0 y "java/lang/String" "coder" "B" (.int (0 : Int32))) (Ky : Arv Z h0 ty ky .byte (1 : Int32) [(.int c0)] (.int (0 : Int32))) (nety : ty ≠ t) :
    OwnLaw l y8_ jdk_68_method_73_code 3 none ws (rR 2 0 0 33) #[(.ref x), (.int (8 : Int32)), (.ref y)] Z h0 (QPu8_1 Z x t kt y ty ky b0 b1 b2 b3 b4 b5 b6 b7 c0 zc fm h0 n0) := by
  refine own_enter (plainFor_of_name pn_java_lang_AbstractStringBuilder) (efPu8_1 x y) ?_
  intro p e s m below meth c s₁ Bd hx hby hml hZ hown X0 e0
  have N0 := Fr.nil n0
  have K0 : Keep h0 h0 [] := Keep.refl _ _
  have K0 : Keep h0 h0 [x, t] := Keep.refl _ _
  refine P1.aloadN X0.here hx (hb hby d16_0) rfl rfl ?_
  refine P1.aloadN X0.here hx (hb hby d16_1) rfl rfl ?_
  refine Goes.callV X0 hx hZ (y := y5_) (z := y5_) hown (mvT hZ (own_w hw 92 rfl)) (mvT hZ (own_declares (own_w hw 93 rfl) (own_w hw 96 rfl))) (notFace_of_selects (args := #[]) (mvT hZ (own_w hw 95 rfl))) (mvT hZ (own_w hw 95 rfl)) (mvT hZ (own_w hw 93 rfl)) (by decide) (kc' := 0) (ks' := 0) (backOf (W := 0) (rmInf l Z a0 hw [] x y zc fm h0 n0 Z0 O0 S_CS hzc S_FM hfm Fc Ey Cy) hZ (own_w hw 96 rfl) (own_w hw 49 rfl) (ok rfl) (ok rfl)) (b := x) e0 Ex (g := (mkF m 2 #[.val (.ref x), .val (.int (8 : Int32)), .val (.ref y)] [(.ref y), (.ref x)])) rfl (by rw [hml]; rfl) (argsL := [(.ref y)]) (rest := []) (lenOf pd_20497 rfl) rfl (by show 2 * 0 + _ ≤ _; exact Nat.le_of_eq rfl) (hb hby d16_2) rfl (ok rfl) (ok rfl) ?_
  intro v365 T365 L365 q365 X365
  obtain ⟨rfl, N365q, hE365⟩ := q365
  have N365 := Fr.app N0 N365q
  show Goes p e below _ T365 (mkF m 5 #[.val (.ref x), .val (.int (8 : Int32)), .val (.ref y)] [])
  refine P1.aloadN X365.here hx (hb hby d16_5) rfl rfl ?_
  refine P1.aloadN X365.here hx (hb hby d16_6) rfl rfl ?_
  obtain ⟨T366, X366, e366, st366⟩ := getF X365 hx hZ hown (host := "") (Or.inl (own_w hw 53 rfl)) Via.refl hE365 Fv (g := (mkF m 7 #[.val (.ref x), .val (.int (8 : Int32)), .val (.ref y)] [(.ref x), (.ref y)])) rfl rfl (hb hby d16_7)
  refine Goes.step (T' := T366) (g' := (mkF m 10 #[.val (.ref x), .val (.int (8 : Int32)), .val (.ref y)] [(.ref t), (.ref y)])) st366 ?_
  refine P1.iloadN X366.here hx (hb hby d16_10) rfl ?_
  refine P1.aloadN X366.here hx (hb hby d16_11) rfl rfl ?_
  obtain ⟨T367, X367, e367, st367⟩ := getF X366 hx hZ hown (host := "") (Or.inl (own_w hw 55 rfl)) Via.refl e366 Fc (g := (mkF m 12 #[.val (.ref x), .val (.int (8 : Int32)), .val (.ref y)] [(.ref x), (.int (8 : Int32)), (.ref t), (.ref y)])) rfl rfl (hb hby d16_12)
  refine Goes.step (T' := T367) (g' := (mkF m 15 #[.val (.ref x), .val (.int (8 : Int32)), .val (.ref y)] [(.int (0 : Int32)), (.int (8 : Int32)), (.ref t), (.ref y)])) st367 ?_
  refine Goes.callV X367 hx hZ (y := y15_) (z := y15_) hown (mvT hZ (own_w hw 98 rfl)) (mvT hZ (own_w hw 99 rfl)) (notFace_of_selects (args := #[]) (mvT hZ (own_w hw 101 rfl))) (mvT hZ (own_w hw 101 rfl)) (mvT hZ (own_w hw 100 rfl)) (by decide) (kc' := 0) (ks' := 0) (backOf (W := 0) (rmGb8_1 l Z a0 hw [] t kt y ty ky b0 b1 b2 b3 b4 b5 b6 b7 c0 zc fm h0 n0 Z0 O0 S_CS hzc S_FM hfm gt Vt Ey Vy Cy Ky nety) hZ (own_w hw 102 rfl) (own_w hw 2 rfl) (ok rfl) (ok rfl)) (b := y) e367 Ey (g := (mkF m 15 #[.val (.ref x), .val (.int (8 : Int32)), .val (.ref y)] [(.int (0 : Int32)), (.int (8 : Int32)), (.ref t), (.ref y)])) rfl (by rw [hml]; rfl) (argsL := [(.ref t), (.int (8 : Int32)), (.int (0 : Int32))]) (rest := []) (lenOf pd_1890 rfl) rfl (by show 2 * 0 + _ ≤ _; exact Nat.le_of_eq rfl) (hb hby d16_15) rfl (ok rfl) (ok rfl) ?_
  intro v368 T368 L368 q368 X368
  obtain ⟨rfl, N368q, K368, g368V⟩ := q368
  have N368 := Fr.app N365 N368q
  show Goes p e below _ T368 (mkF m 18 #[.val (.ref x), .val (.int (8 : Int32)), .val (.ref y)] [])
  refine Goes.retV X368 hx Bd.notSynchronized Bd.returns (hb hby d16_18) (ok rfl) (ok rfl) ?_
  have K369 : Keep h0 T368.heap [x, t] := K0.trans K368 (allS (Or.inl (by simp)) all0)
  have E370 : Exa Z T368.heap x "java/lang/StringBuilder" := Ex.keep K368
  have ne371 : x ≠ t := own_ne_arv E370 (own_w hw 40 rfl) g368V
  have F372 : Fld Z T368.heap x "java/lang/AbstractStringBuilder" "value" "[B" (.ref t) := Fv.keep K368 (ninS ne371 nin0)
  have F373 : Fld Z T368.heap x "java/lang/AbstractStringBuilder" "coder" "B" (.int (0 : Int32)) := Fc.keep K368 (ninS ne371 nin0)
  have F374 : Fld Z T368.heap x "java/lang/AbstractStringBuilder" "count" "I" (.int (8 : Int32)) := Fn.keep K368 (ninS ne371 nin0)
  exact ⟨rfl, N368, K369, E370, F372, F373, F374, g368V⟩
theorem efEns9 (x : Addr) (m : MethodId) : entryFrame m #[(.ref x), (.int (9 : Int32))] 3 = mkF m 0 #[.val (.ref x), .val (.int (9 : Int32)), .unset] [] := by first | (simp [entryFrame, mkF, argsToLocals, Value.category]; done) | rfl
def QEns9 (Z : State) (x t : Addr) (kt : ClassId) (vs : List Value) (h0 : Heap) (n0 : Nat) (v : Option Value) (h : Heap) (L : List Loc) : Prop := v = none ∧ Fr n0 L ∧ h = h0
set_option maxRecDepth 65536 in
set_option maxHeartbeats 40000000 in
theorem rmEns9 (l : Launch) (Z : State) (a0 : Array Value) (hw : ∀ d ∈ tables_1, d.before a0 Z = true) (ws : List Jvm.Cond) (x t : Addr) (kt : ClassId) (vs : List Value) (h0 : Heap) (n0 : Nat) (Z0 : n0 ≤ h0.size) (O0 : Old Z n0 h0) (Ex : Exa Z h0 x "java/lang/StringBuilder") (Fv : Fld Z h0 x "java/lang/AbstractStringBuilder" "value" "[B" (.ref t)) (Fc : Fld Z h0 x "java/lang/AbstractStringBuilder" "coder" "B" (.int (0 : Int32))) (Vt : Arv Z h0 t kt .byte (16 : Int32) vs (.int (0 : Int32))) :
    OwnLaw l y3_ jdk_68_method_9_code 3 none ws (rR 0 0 0 0) #[(.ref x), (.int (9 : Int32))] Z h0 (QEns9 Z x t kt vs h0 n0) := by
  refine own_enter (plainFor_of_name pn_java_lang_AbstractStringBuilder) (efEns9 x) ?_
  intro p e s m below meth c s₁ Bd hx hby hml hZ hown X0 e0
  have N0 := Fr.nil n0
  have K0 : Keep h0 h0 [] := Keep.refl _ _
  refine P1.aloadN X0.here hx (hb hby d15_0) rfl rfl ?_
  obtain ⟨T378, X378, e378, st378⟩ := getF X0 hx hZ hown (host := "") (Or.inl (own_w hw 53 rfl)) Via.refl e0 Fv (g := (mkF m 1 #[.val (.ref x), .val (.int (9 : Int32)), .unset] [(.ref x)])) rfl rfl (hb hby d15_1)
  refine Goes.step (T' := T378) (g' := (mkF m 4 #[.val (.ref x), .val (.int (9 : Int32)), .unset] [(.ref t)])) st378 ?_
  obtain ⟨cl379, Ar379, qk379, sl379, nz379, ha379, fi379⟩ := id Vt
  have al380 : cl379.slots.size.toInt32 = (16 : Int32) := len_of sl379 nz379
  refine Goes.step (T' := T378) (g' := (mkF m 5 #[.val (.ref x), .val (.int (9 : Int32)), .unset] [(.int (16 : Int32))])) (fun t_ k_ => X378.arraylength hx (by rw [e378]; exact Ar379.1) (State.isArrayOf_alike hZ.alike Ar379.2.1) (g := (mkF m 4 #[.val (.ref x), .val (.int (9 : Int32)), .unset] [(.ref t)])) rfl rfl (hb hby d15_4) _ <| by rw [al380]; exact k_) ?_
  refine P1.aloadN X378.here hx (hb hby d15_5) rfl rfl ?_
  obtain ⟨T381, X381, e381, st381⟩ := getF X378 hx hZ hown (host := "") (Or.inl (own_w hw 55 rfl)) Via.refl e378 Fc (g := (mkF m 6 #[.val (.ref x), .val (.int (9 : Int32)), .unset] [(.ref x), (.int (16 : Int32))])) rfl rfl (hb hby d15_6)
  refine Goes.step (T' := T381) (g' := (mkF m 9 #[.val (.ref x), .val (.int (9 : Int32)), .unset] [(.int (0 : Int32)), (.int (16 : Int32))])) st381 ?_
  refine Goes.step (T' := T381) (g' := (mkF m 10 #[.val (.ref x), .val (.int (9 : Int32)), .unset] [(.int ((16 : Int32) >>> ((0 : Int32) &&& 31)))])) (fun t_ k_ => XS.ishr X381.here hx rfl (hb hby d15_9) rfl k_) ?_
  have rw382 : ((16 : Int32) >>> ((0 : Int32) &&& 31)) = (16 : Int32) := by decide
  rw [rw382]
  refine P1.istoreN X381.here hx #[.val (.ref x), .val (.int (9 : Int32)), .val (.int (16 : Int32))] (hb hby d15_10) rfl ?_
  refine P1.iloadN X381.here hx (hb hby d15_11) rfl ?_
  refine P1.iloadN X381.here hx (hb hby d15_12) rfl ?_
  refine P1.isub X381.here hx (hb hby d15_13) ?_
  have rw383 : ((9 : Int32) - (16 : Int32)) = (-7 : Int32) := by decide
  rw [rw383]
  refine P1.ifYes X381.here hx 38 (hb hby d15_14) ((if0 _ _).trans (flt (by decide : ¬ ((0 : Int32) < (-7 : Int32)))).2.2.2) (by decide) (by decide) ?_
  refine Goes.retV X381 hx Bd.notSynchronized Bd.returns (hb hby d15_38) (ok rfl) (ok rfl) ?_
  rw [e381]
  exact ⟨rfl, N0, rfl⟩
theorem efAp8_1 (x y : Addr) (m : MethodId) : entryFrame m #[(.ref x), (.ref y)] 3 = mkF m 0 #[.val (.ref x), .val (.ref y), .unset] [] := by first | (simp [entryFrame, mkF, argsToLocals, Value.category]; done) | rfl
def QAp8_1 (Z : State) (x t : Addr) (kt : ClassId) (y ty : Addr) (ky : ClassId) (b0 b1 b2 b3 b4 b5 b6 b7 c0 zc : Int32) (fm : Value) (h0 : Heap) (n0 : Nat) (v : Option Value) (h : Heap) (L : List Loc) : Prop := v = some (.ref x) ∧ Fr n0 L ∧ Keep h0 h [x, t] ∧ Exa Z h x "java/lang/StringBuilder" ∧ Fld Z h x "java/lang/AbstractStringBuilder" "value" "[B" (.ref t) ∧ Fld Z h x "java/lang/AbstractStringBuilder" "coder" "B" (.int (0 : Int32)) ∧ Fld Z h x "java/lang/AbstractStringBuilder" "count" "I" (.int (9 : Int32)) ∧ Arv Z h t kt .byte (16 : Int32) [(.int b0), (.int b1), (.int b2), (.int b3), (.int b4), (.int b5), (.int b6), (.int b7), (.int c0)] (.int (0 : Int32))
set_option maxRecDepth 65536 in
set_option maxHeartbeats 40000000 in
theorem rmAp8_1 (l : Launch) (Z : State) (a0 : Array Value) (hw : ∀ d ∈ tables_1, d.before a0 Z = true) (ws : List Jvm.Cond) (x t : Addr) (kt : ClassId) (y ty : Addr) (ky : ClassId) (b0 b1 b2 b3 b4 b5 b6 b7 c0 zc : Int32) (fm : Value) (h0 : Heap) (n0 : Nat) (Z0 : n0 ≤ h0.size) (O0 : Old Z n0 h0) (S_CS : Sta Z Z.heap "java/lang/String" "COMPACT_STRINGS" "Z" (.int zc)) (hzc : ¬ zc = 0) (S_FM : Sta Z Z.heap "jdk/internal/util/Preconditions" "SIOOBE_FORMATTER" "Ljava/util/function/BiFunction;" fm) (hfm : fm.isRef = true) (gx : n0 ≤ x) (gt : n0 ≤ t) (Ex : Exa Z h0 x "java/lang/StringBuilder") (Fv : Fld Z h0 x "java/lang/AbstractStringBuilder" "value" "[B" (.ref t)) (Fc : Fld Z h0 x "java/lang/AbstractStringBuilder" "coder" "B" (.int (0 : Int32))) (Fn : Fld Z h0 x "java/lang/AbstractStringBuilder" "count" "I" (.int (8 : Int32))) (Vt : Arv Z h0 t kt .byte (16 : Int32) [(.int b0), (.int b1), (.int b2), (.int b3), (.int b4), (.int b5), (.int b6), (.int b7)] (.int (0 : Int32))) (Ey : Exa Z h0 y "java/lang/String") (Vy : Fld Z h0 y "java/lang/String" "value" "[B" (.ref ty)) (Cy : Fld Z h0 y "java/lang/String" "coder" "B" (.int (0 : Int32))) (Ky : Arv Z h0 ty ky .byte (1 : Int32) [(.int c0)] (.int (0 : Int32))) (nety : ty ≠ t) :
    OwnLaw l y2_ jdk_68_method_22_code 3 (some (.object "java/lang/AbstractStringBuilder")) ws (rR 3 0 0 47) #[(.ref x), (.ref y)] Z h0 (QAp8_1 Z x t kt y ty ky b0 b1 b2 b3 b4 b5 b6 b7 c0 zc fm h0 n0) := by
  refine own_enter (plainFor_of_name pn_java_lang_AbstractStringBuilder) (efAp8_1 x y) ?_
  intro p e s m below meth c s₁ Bd hx hby hml hZ hown X0 e0
  have N0 := Fr.nil n0
  have K0 : Keep h0 h0 [] := Keep.refl _ _
  have K0 : Keep h0 h0 [x, t] := Keep.refl _ _
  refine P1.aloadN X0.here hx (hb hby d12_0) rfl rfl ?_
  refine P1.ifnonnullYes X0.here hx 9 (hb hby d12_1) (by decide) (by decide) ?_
  refine P1.aloadN X0.here hx (hb hby d12_9) rfl rfl ?_
  refine Goes.callV X0 hx hZ (y := y17_) (z := y17_) hown (mvT hZ (own_w hw 70 rfl)) (mvT hZ (own_w hw 71 rfl)) (notFace_of_selects (args := #[]) (mvT hZ (own_w hw 73 rfl))) (mvT hZ (own_w hw 73 rfl)) (mvT hZ (own_w hw 72 rfl)) (by decide) (kc' := 0) (ks' := 0) (backOf (W := 0) (rmLen1 l Z a0 hw [] y ty ky [(.int c0)] zc fm h0 n0 Z0 O0 S_CS hzc S_FM hfm Ey Vy Cy Ky) hZ (own_w hw 74 rfl) (own_w hw 2 rfl) (ok rfl) (ok rfl)) (b := y) e0 Ey (g := (mkF m 10 #[.val (.ref x), .val (.ref y), .unset] [(.ref y)])) rfl (by rw [hml]; rfl) (argsL := []) (rest := []) (lenOf pd_341 rfl) rfl (by show 2 * 0 + _ ≤ _; exact Nat.le_of_eq rfl) (hb hby d12_10) rfl (ok rfl) (ok rfl) ?_
  intro v375 T375 L375 q375 X375
  obtain ⟨rfl, N375q, hE375⟩ := q375
  have N375 := Fr.app N0 N375q
  show Goes p e below _ T375 (mkF m 13 #[.val (.ref x), .val (.ref y), .unset] [(.int (1 : Int32))])
  refine P1.istoreN X375.here hx #[.val (.ref x), .val (.ref y), .val (.int (1 : Int32))] (hb hby d12_13) rfl ?_
  refine P1.aloadN X375.here hx (hb hby d12_14) rfl rfl ?_
  refine P1.aloadN X375.here hx (hb hby d12_15) rfl rfl ?_
  obtain ⟨T376, X376, e376, st376⟩ := getF X375 hx hZ hown (host := "") (Or.inl (own_w hw 80 rfl)) Via.refl hE375 Fn (g := (mkF m 16 #[.val (.ref x), .val (.ref y), .val (.int (1 : Int32))] [(.ref x), (.ref x)])) rfl rfl (hb hby d12_16)
  refine Goes.step (T' := T376) (g' := (mkF m 19 #[.val (.ref x), .val (.ref y), .val (.int (1 : Int32))] [(.int (8 : Int32)), (.ref x)])) st376 ?_
  refine P1.iloadN X376.here hx (hb hby d12_19) rfl ?_
  refine P1.iadd X376.here hx (hb hby d12_20) ?_
  have rw377 : ((8 : Int32) + (1 : Int32)) = (9 : Int32) := by decide
  rw [rw377]
  refine Goes.callV X376 hx hZ (y := y3_) (z := y3_) hown (mvT hZ (own_w hw 82 rfl)) (mvT hZ (own_declares (own_w hw 83 rfl) (own_w hw 86 rfl))) (notFace_of_selects (args := #[]) (mvT hZ (own_w hw 85 rfl))) (mvT hZ (own_w hw 85 rfl)) (mvT hZ (own_w hw 83 rfl)) (by decide) (kc' := 0) (ks' := 0) (backOf (W := 0) (rmEns9 l Z a0 hw [] x t kt [(.int b0), (.int b1), (.int b2), (.int b3), (.int b4), (.int b5), (.int b6), (.int b7)] h0 n0 Z0 O0 Ex Fv Fc Vt) hZ (own_w hw 86 rfl) (own_w hw 49 rfl) (ok rfl) (ok rfl)) (b := x) e376 Ex (g := (mkF m 21 #[.val (.ref x), .val (.ref y), .val (.int (1 : Int32))] [(.int (9 : Int32)), (.ref x)])) rfl (by rw [hml]; rfl) (argsL := [(.int (9 : Int32))]) (rest := []) (lenOf pd_653 rfl) rfl (by show 2 * 0 + _ ≤ _; exact Nat.le_of_eq rfl) (hb hby d12_21) rfl (ok rfl) (ok rfl) ?_
  intro v384 T384 L384 q384 X384
  obtain ⟨rfl, N384q, hE384⟩ := q384
  have N384 := Fr.app N375 N384q
  show Goes p e below _ T384 (mkF m 24 #[.val (.ref x), .val (.ref y), .val (.int (1 : Int32))] [])
  refine P1.aloadN X384.here hx (hb hby d12_24) rfl rfl ?_
  refine P1.aloadN X384.here hx (hb hby d12_25) rfl rfl ?_
  obtain ⟨T385, X385, e385, st385⟩ := getF X384 hx hZ hown (host := "") (Or.inl (own_w hw 80 rfl)) Via.refl hE384 Fn (g := (mkF m 26 #[.val (.ref x), .val (.ref y), .val (.int (1 : Int32))] [(.ref x), (.ref x)])) rfl rfl (hb hby d12_26)
  refine Goes.step (T' := T385) (g' := (mkF m 29 #[.val (.ref x), .val (.ref y), .val (.int (1 : Int32))] [(.int (8 : Int32)), (.ref x)])) st385 ?_
  refine P1.aloadN X385.here hx (hb hby d12_29) rfl rfl ?_
  refine Goes.callV X385 hx hZ (y := y8_) (z := y8_) hown (mvT hZ (own_w hw 87 rfl)) (mvT hZ (own_declares (own_w hw 88 rfl) (own_w hw 91 rfl))) (notFace_of_selects (args := #[]) (mvT hZ (own_w hw 90 rfl))) (mvT hZ (own_w hw 90 rfl)) (mvT hZ (own_w hw 88 rfl)) (by decide) (kc' := 0) (ks' := 0) (backOf (W := 0) (rmPu8_1 l Z a0 hw [] x t kt y ty ky b0 b1 b2 b3 b4 b5 b6 b7 c0 zc fm h0 n0 Z0 O0 S_CS hzc S_FM hfm gx gt Ex Fv Fc Fn Vt Ey Vy Cy Ky nety) hZ (own_w hw 91 rfl) (own_w hw 49 rfl) (ok rfl) (ok rfl)) (b := x) e385 Ex (g := (mkF m 30 #[.val (.ref x), .val (.ref y), .val (.int (1 : Int32))] [(.ref y), (.int (8 : Int32)), (.ref x)])) rfl (by rw [hml]; rfl) (argsL := [(.int (8 : Int32)), (.ref y)]) (rest := []) (lenOf pd_22466 rfl) rfl (by show 2 * 0 + _ ≤ _; exact Nat.le_of_eq rfl) (hb hby d12_30) rfl (ok rfl) (ok rfl) ?_
  intro v386 T386 L386 q386 X386
  obtain ⟨rfl, N386q, K386, g386E, g386v, g386c, g386n, g386V⟩ := q386
  have N386 := Fr.app N384 N386q
  show Goes p e below _ T386 (mkF m 33 #[.val (.ref x), .val (.ref y), .val (.int (1 : Int32))] [])
  refine P1.aloadN X386.here hx (hb hby d12_33) rfl rfl ?_
  refine P1.dup X386.here hx (hb hby d12_34) rfl ?_
  obtain ⟨T387, X387, e387, st387⟩ := getF X386 hx hZ hown (host := "") (Or.inl (own_w hw 80 rfl)) Via.refl rfl g386n (g := (mkF m 35 #[.val (.ref x), .val (.ref y), .val (.int (1 : Int32))] [(.ref x), (.ref x)])) rfl rfl (hb hby d12_35)
  refine Goes.step (T' := T387) (g' := (mkF m 38 #[.val (.ref x), .val (.ref y), .val (.int (1 : Int32))] [(.int (8 : Int32)), (.ref x)])) st387 ?_
  refine P1.iloadN X387.here hx (hb hby d12_38) rfl ?_
  refine P1.iadd X387.here hx (hb hby d12_39) ?_
  have rw388 : ((8 : Int32) + (1 : Int32)) = (9 : Int32) := by decide
  rw [rw388]
  obtain ⟨T389, h389, X389, e389, W389, st389⟩ := putF X387 hx hZ hown (host := "") (Or.inl (own_w hw 80 rfl)) Via.refl e387 g386n g386E (Or.inl (own_w hw 81 rfl)) (own_w hw 40 rfl) (ty := .int) (by decide) rfl rfl (g := (mkF m 40 #[.val (.ref x), .val (.ref y), .val (.int (1 : Int32))] [(.int (9 : Int32)), (.ref x)])) rfl rfl (hb hby d12_40)
  have Fw389 : Fld Z h389 x "java/lang/AbstractStringBuilder" "count" "I" (.int (9 : Int32)) := g386n.same W389
  have N389 := Fr.snoc X389 N386 gx
  refine Goes.step (T' := T389) (g' := (mkF m 43 #[.val (.ref x), .val (.ref y), .val (.int (1 : Int32))] [])) st389 ?_
  refine P1.aloadN X389.here hx (hb hby d12_43) rfl rfl ?_
  refine Goes.retA X389 hx Bd.notSynchronized Bd.returns rfl rfl (hb hby d12_44) (ok rfl) (ok rfl) ?_
  rw [e389]
  have K390 : Keep h0 T386.heap [x, t] := K0.trans K386 (allS (Or.inl (by simp)) (allS (Or.inl (by simp)) all0))
  have K391 : Keep h0 h389 [x, t] := K390.wr W389 (Or.inl (by simp))
  have E392 : Exa Z h389 x "java/lang/StringBuilder" := g386E.wr W389
  have F393 : Fld Z h389 x "java/lang/AbstractStringBuilder" "value" "[B" (.ref t) := g386v.other W389 (Or.inr (slot_ne (Or.inl (own_w hw 54 rfl)) (Or.inl (own_w hw 81 rfl)) (by decide) (t := (.array .byte)) (t' := .int) (by decide) (by decide)))
  have F394 : Fld Z h389 x "java/lang/AbstractStringBuilder" "coder" "B" (.int (0 : Int32)) := g386c.other W389 (Or.inr (slot_ne (Or.inl (own_w hw 56 rfl)) (Or.inl (own_w hw 81 rfl)) (by decide) (t := .byte) (t' := .int) (by decide) (by decide)))
  have ne395 : x ≠ t := own_ne_arv g386E (own_w hw 40 rfl) g386V
  have V396 : Arv Z h389 t kt .byte (16 : Int32) [(.int b0), (.int b1), (.int b2), (.int b3), (.int b4), (.int b5), (.int b6), (.int b7), (.int c0)] (.int (0 : Int32)) := g386V.other W389 (Ne.symm ne395)
  exact ⟨rfl, N389, K391, E392, F393, F394, Fw389, V396⟩
theorem efSp8_1 (x y : Addr) (m : MethodId) : entryFrame m #[(.ref x), (.ref y)] 2 = mkF m 0 #[.val (.ref x), .val (.ref y)] [] := by first | (simp [entryFrame, mkF, argsToLocals, Value.category]; done) | rfl
def QSp8_1 (Z : State) (x t : Addr) (kt : ClassId) (y ty : Addr) (ky : ClassId) (b0 b1 b2 b3 b4 b5 b6 b7 c0 zc : Int32) (fm : Value) (h0 : Heap) (n0 : Nat) (v : Option Value) (h : Heap) (L : List Loc) : Prop := v = some (.ref x) ∧ Fr n0 L ∧ Keep h0 h [x, t] ∧ Exa Z h x "java/lang/StringBuilder" ∧ Fld Z h x "java/lang/AbstractStringBuilder" "value" "[B" (.ref t) ∧ Fld Z h x "java/lang/AbstractStringBuilder" "coder" "B" (.int (0 : Int32)) ∧ Fld Z h x "java/lang/AbstractStringBuilder" "count" "I" (.int (9 : Int32)) ∧ Arv Z h t kt .byte (16 : Int32) [(.int b0), (.int b1), (.int b2), (.int b3), (.int b4), (.int b5), (.int b6), (.int b7), (.int c0)] (.int (0 : Int32))
set_option maxRecDepth 65536 in
set_option maxHeartbeats 40000000 in
theorem rmSp8_1 (l : Launch) (Z : State) (a0 : Array Value) (hw : ∀ d ∈ tables_1, d.before a0 Z = true) (ws : List Jvm.Cond) (x t : Addr) (kt : ClassId) (y ty : Addr) (ky : ClassId) (b0 b1 b2 b3 b4 b5 b6 b7 c0 zc : Int32) (fm : Value) (h0 : Heap) (n0 : Nat) (Z0 : n0 ≤ h0.size) (O0 : Old Z n0 h0) (S_CS : Sta Z Z.heap "java/lang/String" "COMPACT_STRINGS" "Z" (.int zc)) (hzc : ¬ zc = 0) (S_FM : Sta Z Z.heap "jdk/internal/util/Preconditions" "SIOOBE_FORMATTER" "Ljava/util/function/BiFunction;" fm) (hfm : fm.isRef = true) (gx : n0 ≤ x) (gt : n0 ≤ t) (Ex : Exa Z h0 x "java/lang/StringBuilder") (Fv : Fld Z h0 x "java/lang/AbstractStringBuilder" "value" "[B" (.ref t)) (Fc : Fld Z h0 x "java/lang/AbstractStringBuilder" "coder" "B" (.int (0 : Int32))) (Fn : Fld Z h0 x "java/lang/AbstractStringBuilder" "count" "I" (.int (8 : Int32))) (Vt : Arv Z h0 t kt .byte (16 : Int32) [(.int b0), (.int b1), (.int b2), (.int b3), (.int b4), (.int b5), (.int b6), (.int b7)] (.int (0 : Int32))) (Ey : Exa Z h0 y "java/lang/String") (Vy : Fld Z h0 y "java/lang/String" "value" "[B" (.ref ty)) (Cy : Fld Z h0 y "java/lang/String" "coder" "B" (.int (0 : Int32))) (Ky : Arv Z h0 ty ky .byte (1 : Int32) [(.int c0)] (.int (0 : Int32))) (nety : ty ≠ t) :
    OwnLaw l y19_ jdk_67_method_7_code 2 (some (.object "java/lang/StringBuilder")) ws (rR 4 0 0 61) #[(.ref x), (.ref y)] Z h0 (QSp8_1 Z x t kt y ty ky b0 b1 b2 b3 b4 b5 b6 b7 c0 zc fm h0 n0) := by
  refine own_enter (plainFor_of_name pn_java_lang_StringBuilder) (efSp8_1 x y) ?_
  intro p e s m below meth c s₁ Bd hx hby hml hZ hown X0 e0
  have N0 := Fr.nil n0
  have K0 : Keep h0 h0 [] := Keep.refl _ _
  have K0 : Keep h0 h0 [x, t] := Keep.refl _ _
  refine P1.aloadN X0.here hx (hb hby d11_0) rfl rfl ?_
  refine P1.aloadN X0.here hx (hb hby d11_1) rfl rfl ?_
  refine Goes.callSup X0 hx hZ (y := y2_) hown (own_w hw 65 rfl) (own_sameMethod (own_w hw 66 rfl) (own_w hw 85 rfl) rfl (by decide)) (own_w hw 66 rfl) (own_w hw 67 rfl) (by decide) (kc' := 0) (ks' := 0) (backOf (W := 0) (rmAp8_1 l Z a0 hw [] x t kt y ty ky b0 b1 b2 b3 b4 b5 b6 b7 c0 zc fm h0 n0 Z0 O0 S_CS hzc S_FM hfm gx gt Ex Fv Fc Fn Vt Ey Vy Cy Ky nety) hZ (own_w hw 69 rfl) (own_w hw 49 rfl) (ok rfl) (ok rfl)) (a := x) e0 (Ins.of_exa Ex (own_w hw 48 rfl)) (own_w hw 69 rfl) (g := (mkF m 2 #[.val (.ref x), .val (.ref y)] [(.ref y), (.ref x)])) rfl (by rw [hml]; rfl) (argsL := [(.ref y)]) (rest := []) (lenOf pd_138888 rfl) rfl (by show 2 * 0 + _ ≤ _; exact Nat.le_of_eq rfl) (hb hby d11_2) rfl (ok rfl) (ok rfl) ?_
  intro v397 T397 L397 q397 X397
  obtain ⟨rfl, N397q, K397, g397E, g397v, g397c, g397n, g397V⟩ := q397
  have N397 := Fr.app N0 N397q
  show Goes p e below _ T397 (mkF m 5 #[.val (.ref x), .val (.ref y)] [(.ref x)])
  refine P1.pop X397.here hx (hb hby d11_5) rfl ?_
  refine P1.aloadN X397.here hx (hb hby d11_6) rfl rfl ?_
  refine Goes.retA X397 hx Bd.notSynchronized Bd.returns rfl rfl (hb hby d11_7) (ok rfl) (ok rfl) ?_
  have K398 : Keep h0 T397.heap [x, t] := K0.trans K397 (allS (Or.inl (by simp)) (allS (Or.inl (by simp)) all0))
  exact ⟨rfl, N397, K398, g397E, g397v, g397c, g397n, g397V⟩
theorem efCkl0_9  (m : MethodId) : entryFrame m #[(.int (0 : Int32)), (.int (9 : Int32))] 2 = mkF m 0 #[.val (.int (0 : Int32)), .val (.int (9 : Int32))] [] := by first | (simp [entryFrame, mkF, argsToLocals, Value.category]; done) | rfl
def QCkl0_9 (Z : State)  (h0 : Heap) (n0 : Nat) (v : Option Value) (h : Heap) (L : List Loc) : Prop := v = none ∧ Fr n0 L ∧ h = h0
set_option maxRecDepth 65536 in
set_option maxHeartbeats 40000000 in
theorem rmCkl0_9 (l : Launch) (Z : State) (a0 : Array Value) (hw : ∀ d ∈ tables_1, d.before a0 Z = true) (ws : List Jvm.Cond)  (h0 : Heap) (n0 : Nat) (Z0 : n0 ≤ h0.size) (O0 : Old Z n0 h0) :
    OwnLaw l y22_ jdk_65_method_131_code 2 none ws (rR 0 0 0 0) #[(.int (0 : Int32)), (.int (9 : Int32))] Z h0 (QCkl0_9 Z  h0 n0) := by
  refine own_enter (plainFor_of_name pn_java_util_Arrays) (efCkl0_9 ) ?_
  intro p e s m below meth c s₁ Bd hx hby hml hZ hown X0 e0
  have N0 := Fr.nil n0
  have K0 : Keep h0 h0 [] := Keep.refl _ _
  refine P1.iloadN X0.here hx (hb hby d28_0) rfl ?_
  refine P1.iloadN X0.here hx (hb hby d28_1) rfl ?_
  refine P1.icmpYes X0.here hx 37 (hb hby d28_2) (flt (by decide : ¬ ((9 : Int32) < (0 : Int32)))).2.1 (by decide) (by decide) ?_
  refine Goes.retV X0 hx Bd.notSynchronized Bd.returns (hb hby d28_37) (ok rfl) (ok rfl) ?_
  rw [e0]
  exact ⟨rfl, N0, rfl⟩
theorem efMin16_9  (m : MethodId) : entryFrame m #[(.int (16 : Int32)), (.int (9 : Int32))] 2 = mkF m 0 #[.val (.int (16 : Int32)), .val (.int (9 : Int32))] [] := by first | (simp [entryFrame, mkF, argsToLocals, Value.category]; done) | rfl
def QMin16_9 (Z : State)  (h0 : Heap) (n0 : Nat) (v : Option Value) (h : Heap) (L : List Loc) : Prop := v = some (.int (9 : Int32)) ∧ Fr n0 L ∧ h = h0
set_option maxRecDepth 65536 in
set_option maxHeartbeats 40000000 in
theorem rmMin16_9 (l : Launch) (Z : State) (a0 : Array Value) (hw : ∀ d ∈ tables_1, d.before a0 Z = true) (ws : List Jvm.Cond)  (h0 : Heap) (n0 : Nat) (Z0 : n0 ≤ h0.size) (O0 : Old Z n0 h0) :
    OwnLaw l y9_ jdk_29_method_69_code 2 (some .int) ws (rR 0 0 0 0) #[(.int (16 : Int32)), (.int (9 : Int32))] Z h0 (QMin16_9 Z  h0 n0) := by
  refine own_enter (Jvm.Free.JP.mathPlain rfl (by decide +kernel)) (efMin16_9 ) ?_
  intro p e s m below meth c s₁ Bd hx hby hml hZ hown X0 e0
  have N0 := Fr.nil n0
  have K0 : Keep h0 h0 [] := Keep.refl _ _
  refine P1.iloadN X0.here hx (hb hby d29_0) rfl ?_
  refine P1.iloadN X0.here hx (hb hby d29_1) rfl ?_
  refine P1.icmpYes X0.here hx 9 (hb hby d29_2) (tlt (by decide : (9 : Int32) < (16 : Int32))).2.2.1 (by decide) (by decide) ?_
  refine P1.iloadN X0.here hx (hb hby d29_9) rfl ?_
  refine Goes.retI X0 hx Bd.notSynchronized Bd.returns (hb hby d29_10) (ok rfl) (ok rfl) ?_
  rw [e0]
  exact ⟨rfl, N0, rfl⟩
theorem efCb0_9_16_9 (t : Addr) (m : MethodId) : entryFrame m #[(.ref t), (.int (0 : Int32)), (.int (9 : Int32))] 5 = mkF m 0 #[.val (.ref t), .val (.int (0 : Int32)), .val (.int (9 : Int32)), .unset, .unset] [] := by first | (simp [entryFrame, mkF, argsToLocals, Value.category]; done) | rfl
def QCb0_9_16_9 (Z : State) (t : Addr) (kt : ClassId) (b0 b1 b2 b3 b4 b5 b6 b7 b8 : Int32) (h0 : Heap) (n0 : Nat) (v : Option Value) (h : Heap) (L : List Loc) : Prop := ∃ r kr, v = some (.ref r) ∧ Fr n0 L ∧ Keep h0 h [] ∧ h0.size ≤ r ∧ Arv Z h r kr .byte (9 : Int32) [(.int b0), (.int b1), (.int b2), (.int b3), (.int b4), (.int b5), (.int b6), (.int b7), (.int b8)] (.int (0 : Int32))
set_option maxRecDepth 65536 in
set_option maxHeartbeats 40000000 in
theorem rmCb0_9_16_9 (l : Launch) (Z : State) (a0 : Array Value) (hw : ∀ d ∈ tables_1, d.before a0 Z = true) (ws : List Jvm.Cond) (t : Addr) (kt : ClassId) (b0 b1 b2 b3 b4 b5 b6 b7 b8 : Int32) (h0 : Heap) (n0 : Nat) (Z0 : n0 ≤ h0.size) (O0 : Old Z n0 h0) (Vt : Arv Z h0 t kt .byte (16 : Int32) [(.int b0), (.int b1), (.int b2), (.int b3), (.int b4), (.int b5), (.int b6), (.int b7), (.int b8)] (.int (0 : Int32))) :
    OwnLaw l y24_ jdk_65_method_133_code 5 (some (.array .byte)) ws (rR 1 1 9 18) #[(.ref t), (.int (0 : Int32)), (.int (9 : Int32))] Z h0 (QCb0_9_16_9 Z t kt b0 b1 b2 b3 b4 b5 b6 b7 b8 h0 n0) := by
  refine own_enter (plainFor_of_name pn_java_util_Arrays) (efCb0_9_16_9 t) ?_
  intro p e s m below meth c s₁ Bd hx hby hml hZ hown X0 e0
  have N0 := Fr.nil n0
  have K0 : Keep h0 h0 [] := Keep.refl _ _
  refine P1.iloadN X0.here hx (hb hby d27_0) rfl ?_
  refine P1.iloadN X0.here hx (hb hby d27_1) rfl ?_
  refine Goes.callS X0 hx (y := y22_) hown (mvT hZ (own_w hw 145 rfl)) (mvT hZ (own_w hw 146 rfl)) (mvT hZ (own_w hw 140 rfl)) (mvT hZ (own_w hw 147 rfl)) (by decide) (kc' := 0) (ks' := 0) (backOf (W := 0) (rmCkl0_9 l Z a0 hw []  h0 n0 Z0 O0 ) hZ (own_w hw 147 rfl) (own_w hw 140 rfl) (ok rfl) (ok rfl)) (g := (mkF m 2 #[.val (.ref t), .val (.int (0 : Int32)), .val (.int (9 : Int32)), .unset, .unset] [(.int (9 : Int32)), (.int (0 : Int32))])) rfl (by rw [hml]; rfl) (argsL := [(.int (0 : Int32)), (.int (9 : Int32))]) (rest := []) (lenOf pd_999 rfl) rfl (by show 2 * 0 + _ ≤ _; exact Nat.le_of_eq rfl) (hb hby d27_2) rfl e0 (ok rfl) (ok rfl) ?_
  intro v399 T399 L399 q399 X399
  obtain ⟨rfl, N399q, hE399⟩ := q399
  have N399 := Fr.app N0 N399q
  show Goes p e below _ T399 (mkF m 5 #[.val (.ref t), .val (.int (0 : Int32)), .val (.int (9 : Int32)), .unset, .unset] [])
  refine P1.iloadN X399.here hx (hb hby d27_5) rfl ?_
  refine P1.iloadN X399.here hx (hb hby d27_6) rfl ?_
  refine P1.isub X399.here hx (hb hby d27_7) ?_
  have rw400 : ((9 : Int32) - (0 : Int32)) = (9 : Int32) := by decide
  rw [rw400]
  refine P1.istoreN X399.here hx #[.val (.ref t), .val (.int (0 : Int32)), .val (.int (9 : Int32)), .val (.int (9 : Int32)), .unset] (hb hby d27_8) rfl ?_
  refine P1.iloadN X399.here hx (hb hby d27_9) rfl ?_
  obtain ⟨T401, h401, k401, X401, e401, E401, A401, st401⟩ := newP X399 hx hZ (own_w hw 19 rfl) hE399 (g := (mkF m 10 #[.val (.ref t), .val (.int (0 : Int32)), .val (.int (9 : Int32)), .val (.int (9 : Int32)), .unset] [(.int (9 : Int32))])) rfl (hb hby d27_10) rfl (by decide) (cap := 9) (ok rfl) (ok rfl) (ok rfl) (ok rfl)
  obtain ⟨b401, g401⟩ : ∃ z, z = h0.size := ⟨_, rfl⟩
  rw [← g401] at A401 st401
  have ge_b401 : n0 ≤ b401 := Nat.le_trans Z0 (Nat.le_of_eq g401.symm)
  have sz_b401 : h0.size ≤ b401 := Nat.le_trans K0.1 (Nat.le_of_eq g401.symm)
  have V401 : Arv Z h401 b401 k401 .byte (9 : Int32) [(.int (0 : Int32)), (.int (0 : Int32)), (.int (0 : Int32)), (.int (0 : Int32)), (.int (0 : Int32)), (.int (0 : Int32)), (.int (0 : Int32)), (.int (0 : Int32)), (.int (0 : Int32))] (.int (0 : Int32)) := (Arv.new A401 (by decide)).pad (pad_rep [] (.int (0 : Int32)) 9)
  refine Goes.step (T' := T401) (g' := (mkF m 12 #[.val (.ref t), .val (.int (0 : Int32)), .val (.int (9 : Int32)), .val (.int (9 : Int32)), .unset] [(.ref b401)])) st401 ?_
  refine P1.astore X401.here hx #[.val (.ref t), .val (.int (0 : Int32)), .val (.int (9 : Int32)), .val (.int (9 : Int32)), .val (.ref b401)] (hb hby d27_12) rfl rfl ?_
  refine P1.aloadN X401.here hx (hb hby d27_14) rfl rfl ?_
  refine P1.iloadN X401.here hx (hb hby d27_15) rfl ?_
  refine P1.aload X401.here hx (hb hby d27_16) rfl rfl ?_
  refine P1.iconst X401.here hx (0 : Int32) (hb hby d27_18) rfl ?_
  refine P1.aloadN X401.here hx (hb hby d27_19) rfl rfl ?_
  have V402 : Arv Z h401 t kt .byte (16 : Int32) [(.int b0), (.int b1), (.int b2), (.int b3), (.int b4), (.int b5), (.int b6), (.int b7), (.int b8)] (.int (0 : Int32)) := Vt.ext E401
  obtain ⟨cl403, Ar403, qk403, sl403, nz403, ha403, fi403⟩ := id V402
  have al404 : cl403.slots.size.toInt32 = (16 : Int32) := len_of sl403 nz403
  refine Goes.step (T' := T401) (g' := (mkF m 21 #[.val (.ref t), .val (.int (0 : Int32)), .val (.int (9 : Int32)), .val (.int (9 : Int32)), .val (.ref b401)] [(.int (16 : Int32)), (.int (0 : Int32)), (.ref b401), (.int (0 : Int32)), (.ref t)])) (fun t_ k_ => X401.arraylength hx (by rw [e401]; exact Ar403.1) (State.isArrayOf_alike hZ.alike Ar403.2.1) (g := (mkF m 20 #[.val (.ref t), .val (.int (0 : Int32)), .val (.int (9 : Int32)), .val (.int (9 : Int32)), .val (.ref b401)] [(.ref t), (.int (0 : Int32)), (.ref b401), (.int (0 : Int32)), (.ref t)])) rfl rfl (hb hby d27_20) _ <| by rw [al404]; exact k_) ?_
  refine P1.iloadN X401.here hx (hb hby d27_21) rfl ?_
  refine P1.isub X401.here hx (hb hby d27_22) ?_
  have rw405 : ((16 : Int32) - (0 : Int32)) = (16 : Int32) := by decide
  rw [rw405]
  refine P1.iloadN X401.here hx (hb hby d27_23) rfl ?_
  have Z406 : n0 ≤ h401.size := Nat.le_trans Z0 E401.1
  have O407 : Old Z n0 h401 := O0.ext E401
  refine Goes.callS X401 hx (y := y9_) hown (mvT hZ (own_w hw 148 rfl)) (mvT hZ (own_w hw 149 rfl)) (mvT hZ (own_w hw 150 rfl)) (mvT hZ (own_w hw 151 rfl)) (by decide) (kc' := 0) (ks' := 0) (backOf (W := 4) (rmMin16_9 l Z a0 hw []  h401 n0 Z406 O407 ) hZ (own_w hw 151 rfl) (own_w hw 150 rfl) (ok rfl) (ok rfl)) (g := (mkF m 24 #[.val (.ref t), .val (.int (0 : Int32)), .val (.int (9 : Int32)), .val (.int (9 : Int32)), .val (.ref b401)] [(.int (9 : Int32)), (.int (16 : Int32)), (.int (0 : Int32)), (.ref b401), (.int (0 : Int32)), (.ref t)])) rfl (by rw [hml]; rfl) (argsL := [(.int (16 : Int32)), (.int (9 : Int32))]) (rest := [(.int (0 : Int32)), (.ref b401), (.int (0 : Int32)), (.ref t)]) (lenOf pd_934 rfl) rfl (by show 2 * 0 + _ ≤ _; exact Nat.le_of_eq rfl) (hb hby d27_24) rfl e401 (ok rfl) (ok rfl) ?_
  intro v408 T408 L408 q408 X408
  obtain ⟨rfl, N408q, hE408⟩ := q408
  have N408 := Fr.app N399 N408q
  show Goes p e below _ T408 (mkF m 27 #[.val (.ref t), .val (.int (0 : Int32)), .val (.int (9 : Int32)), .val (.int (9 : Int32)), .val (.ref b401)] [(.int (9 : Int32)), (.int (0 : Int32)), (.ref b401), (.int (0 : Int32)), (.ref t)])
  obtain ⟨T409, h409, L409, X409, e409, N409, K409, Va409, st409⟩ := cpA X408 hx hZ hown (own_w hw 152 rfl) (own_w hw 106 rfl) (own_w hw 104 rfl) (own_w hw 105 rfl) hE408 V402 V401 (us := [(.int b0), (.int b1), (.int b2), (.int b3), (.int b4), (.int b5), (.int b6), (.int b7), (.int b8)]) (Or.inl ⟨rfl, rfl⟩) (by decide) (by decide) (by decide) (ok rfl) (ok rfl) rfl (ok rfl) N408 ge_b401 (g := (mkF m 27 #[.val (.ref t), .val (.int (0 : Int32)), .val (.int (9 : Int32)), .val (.int (9 : Int32)), .val (.ref b401)] [(.int (9 : Int32)), (.int (0 : Int32)), (.ref b401), (.int (0 : Int32)), (.ref t)])) rfl (by rw [hml]; rfl) rfl (hb hby d27_27) (ok rfl) (W := 0) (by show 2 * 0 + _ ≤ _; exact Nat.le_of_eq rfl) (ok rfl)
  have V409 : Arv Z h409 b401 k401 .byte (9 : Int32) [(.int b0), (.int b1), (.int b2), (.int b3), (.int b4), (.int b5), (.int b6), (.int b7), (.int b8)] (.int (0 : Int32)) := Va409
  refine Goes.step (T' := T409) (g' := (mkF m 30 #[.val (.ref t), .val (.int (0 : Int32)), .val (.int (9 : Int32)), .val (.int (9 : Int32)), .val (.ref b401)] [])) st409 ?_
  refine P1.aload X409.here hx (hb hby d27_30) rfl rfl ?_
  refine Goes.retA X409 hx Bd.notSynchronized Bd.returns rfl rfl (hb hby d27_32) (ok rfl) (ok rfl) ?_
  rw [e409]
  have K410 : Keep h0 h401 [] := K0.ext E401
  have K411 : Keep h0 h409 [] := K410.trans K409 (allS (Or.inr sz_b401) all0)
  exact ⟨b401, k401, rfl, N409, K411, sz_b401, V409⟩
theorem efCr0_9_16_9 (t : Addr) (m : MethodId) : entryFrame m #[(.ref t), (.int (0 : Int32)), (.int (9 : Int32))] 3 = mkF m 0 #[.val (.ref t), .val (.int (0 : Int32)), .val (.int (9 : Int32))] [] := by first | (simp [entryFrame, mkF, argsToLocals, Value.category]; done) | rfl
def QCr0_9_16_9 (Z : State) (t : Addr) (kt : ClassId) (b0 b1 b2 b3 b4 b5 b6 b7 b8 : Int32) (h0 : Heap) (n0 : Nat) (v : Option Value) (h : Heap) (L : List Loc) : Prop := ∃ r kr, v = some (.ref r) ∧ Fr n0 L ∧ Keep h0 h [] ∧ h0.size ≤ r ∧ Arv Z h r kr .byte (9 : Int32) [(.int b0), (.int b1), (.int b2), (.int b3), (.int b4), (.int b5), (.int b6), (.int b7), (.int b8)] (.int (0 : Int32))
set_option maxRecDepth 65536 in
set_option maxHeartbeats 40000000 in
theorem rmCr0_9_16_9 (l : Launch) (Z : State) (a0 : Array Value) (hw : ∀ d ∈ tables_1, d.before a0 Z = true) (ws : List Jvm.Cond) (t : Addr) (kt : ClassId) (b0 b1 b2 b3 b4 b5 b6 b7 b8 : Int32) (h0 : Heap) (n0 : Nat) (Z0 : n0 ≤ h0.size) (O0 : Old Z n0 h0) (Vt : Arv Z h0 t kt .byte (16 : Int32) [(.int b0), (.int b1), (.int b2), (.int b3), (.int b4), (.int b5), (.int b6), (.int b7), (.int b8)] (.int (0 : Int32))) :
    OwnLaw l y23_ jdk_65_method_132_code 3 (some (.array .byte)) ws (rR 2 1 9 34) #[(.ref t), (.int (0 : Int32)), (.int (9 : Int32))] Z h0 (QCr0_9_16_9 Z t kt b0 b1 b2 b3 b4 b5 b6 b7 b8 h0 n0) := by
  refine own_enter (plainFor_of_name pn_java_util_Arrays) (efCr0_9_16_9 t) ?_
  intro p e s m below meth c s₁ Bd hx hby hml hZ hown X0 e0
  have N0 := Fr.nil n0
  have K0 : Keep h0 h0 [] := Keep.refl _ _
  refine P1.iloadN X0.here hx (hb hby d26_0) rfl ?_
  refine P1.ifNo X0.here hx (hb hby d26_1) ((if0 _ _).trans (teq (by decide : (0 : Int32) = (0 : Int32))).2) ?_
  refine P1.iloadN X0.here hx (hb hby d26_4) rfl ?_
  refine P1.aloadN X0.here hx (hb hby d26_5) rfl rfl ?_
  obtain ⟨cl412, Ar412, qk412, sl412, nz412, ha412, fi412⟩ := id Vt
  have al413 : cl412.slots.size.toInt32 = (16 : Int32) := len_of sl412 nz412
  refine Goes.step (T' := s₁) (g' := (mkF m 7 #[.val (.ref t), .val (.int (0 : Int32)), .val (.int (9 : Int32))] [(.int (16 : Int32)), (.int (9 : Int32))])) (fun t_ k_ => X0.arraylength hx (by rw [e0]; exact Ar412.1) (State.isArrayOf_alike hZ.alike Ar412.2.1) (g := (mkF m 6 #[.val (.ref t), .val (.int (0 : Int32)), .val (.int (9 : Int32))] [(.ref t), (.int (9 : Int32))])) rfl rfl (hb hby d26_6) _ <| by rw [al413]; exact k_) ?_
  refine P1.icmpNo X0.here hx (hb hby d26_7) (feq (by decide : ¬ ((9 : Int32) = (16 : Int32)))).1 ?_
  refine P1.aloadN X0.here hx (hb hby d26_10) rfl rfl ?_
  refine P1.iloadN X0.here hx (hb hby d26_11) rfl ?_
  refine P1.iloadN X0.here hx (hb hby d26_12) rfl ?_
  refine Goes.callS X0 hx (y := y24_) hown (mvT hZ (own_w hw 142 rfl)) (mvT hZ (own_w hw 143 rfl)) (mvT hZ (own_w hw 140 rfl)) (mvT hZ (own_w hw 144 rfl)) (by decide) (kc' := 1) (ks' := 9) (backOf (W := 0) (rmCb0_9_16_9 l Z a0 hw [] t kt b0 b1 b2 b3 b4 b5 b6 b7 b8 h0 n0 Z0 O0 Vt) hZ (own_w hw 144 rfl) (own_w hw 140 rfl) (ok rfl) (ok rfl)) (g := (mkF m 13 #[.val (.ref t), .val (.int (0 : Int32)), .val (.int (9 : Int32))] [(.int (9 : Int32)), (.int (0 : Int32)), (.ref t)])) rfl (by rw [hml]; rfl) (argsL := [(.ref t), (.int (0 : Int32)), (.int (9 : Int32))]) (rest := []) (lenOf pd_2488 rfl) rfl (by show 2 * 0 + _ ≤ _; exact Nat.le_of_eq rfl) (hb hby d26_13) rfl e0 (ok rfl) (ok rfl) ?_
  intro v414 T414 L414 q414 X414
  obtain ⟨r414, kr414, rfl, N414q, K414, szr414, g414V⟩ := q414
  have ge_r414 : n0 ≤ r414 := Nat.le_trans Z0 szr414
  have sz_r414 : h0.size ≤ r414 := Nat.le_trans K0.1 szr414
  have N414 := Fr.app N0 N414q
  show Goes p e below _ T414 (mkF m 16 #[.val (.ref t), .val (.int (0 : Int32)), .val (.int (9 : Int32))] [(.ref r414)])
  refine Goes.retA X414 hx Bd.notSynchronized Bd.returns rfl rfl (hb hby d26_16) (ok rfl) (ok rfl) ?_
  have K415 : Keep h0 T414.heap [] := K0.trans K414 all0
  exact ⟨r414, kr414, rfl, N414, K415, sz_r414, g414V⟩
theorem efT3_9 (y x : Addr) (m : MethodId) : entryFrame m #[(.ref y), (.ref x), .null] 5 = mkF m 0 #[.val (.ref y), .val (.ref x), .val .null, .unset, .unset] [] := by first | (simp [entryFrame, mkF, argsToLocals, Value.category]; done) | rfl
def QT3_9 (Z : State) (y x t : Addr) (kt : ClassId) (b0 b1 b2 b3 b4 b5 b6 b7 b8 zc : Int32) (fm : Value) (h0 : Heap) (n0 : Nat) (v : Option Value) (h : Heap) (L : List Loc) : Prop := ∃ r kr, v = none ∧ Fr n0 L ∧ Keep h0 h [y] ∧ h0.size ≤ r ∧ Exa Z h y "java/lang/String" ∧ Fld Z h y "java/lang/String" "value" "[B" (.ref r) ∧ Fld Z h y "java/lang/String" "coder" "B" (.int (0 : Int32)) ∧ Arv Z h r kr .byte (9 : Int32) [(.int b0), (.int b1), (.int b2), (.int b3), (.int b4), (.int b5), (.int b6), (.int b7), (.int b8)] (.int (0 : Int32))
set_option maxRecDepth 65536 in
set_option maxHeartbeats 40000000 in
theorem rmT3_9 (l : Launch) (Z : State) (a0 : Array Value) (hw : ∀ d ∈ tables_1, d.before a0 Z = true) (ws : List Jvm.Cond) (y x t : Addr) (kt : ClassId) (b0 b1 b2 b3 b4 b5 b6 b7 b8 zc : Int32) (fm : Value) (h0 : Heap) (n0 : Nat) (Z0 : n0 ≤ h0.size) (O0 : Old Z n0 h0) (S_CS : Sta Z Z.heap "java/lang/String" "COMPACT_STRINGS" "Z" (.int zc)) (hzc : ¬ zc = 0) (S_FM : Sta Z Z.heap "jdk/internal/util/Preconditions" "SIOOBE_FORMATTER" "Ljava/util/function/BiFunction;" fm) (hfm : fm.isRef = true) (gy : n0 ≤ y) (Ey : Exa Z h0 y "java/lang/String") (Vy : Fld Z h0 y "java/lang/String" "value" "[B" .null) (Cy : Fld Z h0 y "java/lang/String" "coder" "B" (.int (0 : Int32))) (gx : n0 ≤ x) (gt : n0 ≤ t) (Ex : Exa Z h0 x "java/lang/StringBuilder") (Fv : Fld Z h0 x "java/lang/AbstractStringBuilder" "value" "[B" (.ref t)) (Fc : Fld Z h0 x "java/lang/AbstractStringBuilder" "coder" "B" (.int (0 : Int32))) (Fn : Fld Z h0 x "java/lang/AbstractStringBuilder" "count" "I" (.int (9 : Int32))) (Vt : Arv Z h0 t kt .byte (16 : Int32) [(.int b0), (.int b1), (.int b2), (.int b3), (.int b4), (.int b5), (.int b6), (.int b7), (.int b8)] (.int (0 : Int32))) :
    OwnLaw l y10_ jdk_42_method_150_code 5 none ws (rR 3 1 9 49) #[(.ref y), (.ref x), .null] Z h0 (QT3_9 Z y x t kt b0 b1 b2 b3 b4 b5 b6 b7 b8 zc fm h0 n0) := by
  refine own_enter (plainFor_of_name pn_java_lang_String) (efT3_9 y x) ?_
  intro p e s m below meth c s₁ Bd hx hby hml hZ hown X0 e0
  have hnm := (name_of_methodNamed Bd.named Bd.method).1
  have N0 := Fr.nil n0
  have K0 : Keep h0 h0 [] := Keep.refl _ _
  have K0 : Keep h0 h0 [y] := Keep.refl _ _
  refine P1.aloadN X0.here hx (hb hby d21_0) rfl rfl ?_
  obtain ⟨T416, X416, e416, st416⟩ := initO X0 hx hZ hown (own_w hw 11 rfl) (own_w hw 12 rfl) (own_w hw 13 rfl) e0 (g := (mkF m 1 #[.val (.ref y), .val (.ref x), .val .null, .unset, .unset] [(.ref y)])) rfl (by rw [hml]; rfl) rfl (hb hby d21_1) (by decide) (W := 0) (by show 2 * 0 + _ ≤ _; exact Nat.le_of_eq rfl) (by decide)
  refine Goes.step (T' := T416) (g' := (mkF m 4 #[.val (.ref y), .val (.ref x), .val .null, .unset, .unset] [])) st416 ?_
  refine P1.aloadN X416.here hx (hb hby d21_4) rfl rfl ?_
  refine Goes.callV X416 hx hZ (y := y4_) (z := y4_) hown (mvT hZ (own_w hw 120 rfl)) (mvT hZ (own_w hw 121 rfl)) (notFace_of_selects (args := #[]) (mvT hZ (own_w hw 123 rfl))) (mvT hZ (own_w hw 123 rfl)) (mvT hZ (own_w hw 122 rfl)) (by decide) (kc' := 0) (ks' := 0) (backOf (W := 0) (rmGv l Z a0 hw [] x t h0 n0 Z0 O0 Fv) hZ (own_w hw 124 rfl) (own_w hw 49 rfl) (ok rfl) (ok rfl)) (b := x) e416 Ex (g := (mkF m 5 #[.val (.ref y), .val (.ref x), .val .null, .unset, .unset] [(.ref x)])) rfl (by rw [hml]; rfl) (argsL := []) (rest := []) (lenOf pd_659 rfl) rfl (by show 2 * 0 + _ ≤ _; exact Nat.le_of_eq rfl) (hb hby d21_5) rfl (ok rfl) (ok rfl) ?_
  intro v417 T417 L417 q417 X417
  obtain ⟨rfl, N417q, hE417⟩ := q417
  have N417 := Fr.app N0 N417q
  show Goes p e below _ T417 (mkF m 8 #[.val (.ref y), .val (.ref x), .val .null, .unset, .unset] [(.ref t)])
  refine P1.astoreN X417.here hx #[.val (.ref y), .val (.ref x), .val .null, .val (.ref t), .unset] (hb hby d21_8) rfl rfl ?_
  refine P1.aloadN X417.here hx (hb hby d21_9) rfl rfl ?_
  refine Goes.callV X417 hx hZ (y := y7_) (z := y20_) hown (mvT hZ (own_w hw 125 rfl)) (mvT hZ (own_w hw 126 rfl)) (own_notFace (a0 := #[]) (mvT hZ (own_w hw 85 rfl)) rfl) (mvT hZ (own_w hw 128 rfl)) (mvT hZ (own_w hw 129 rfl)) (by decide) (kc' := 0) (ks' := 0) (backOf (W := 0) (rmSl l Z a0 hw [] x (9 : Int32) h0 n0 Z0 O0 Ex Fn) hZ (own_w hw 130 rfl) (own_w hw 41 rfl) (ok rfl) (ok rfl)) (b := x) hE417 Ex (g := (mkF m 10 #[.val (.ref y), .val (.ref x), .val .null, .val (.ref t), .unset] [(.ref x)])) rfl (by rw [hml]; rfl) (argsL := []) (rest := []) (lenOf pd_341 rfl) rfl (by show 2 * 0 + _ ≤ _; exact Nat.le_of_eq rfl) (hb hby d21_10) rfl (ok rfl) (ok rfl) ?_
  intro v418 T418 L418 q418 X418
  obtain ⟨rfl, N418q, hE418⟩ := q418
  have N418 := Fr.app N417 N418q
  show Goes p e below _ T418 (mkF m 13 #[.val (.ref y), .val (.ref x), .val .null, .val (.ref t), .unset] [(.int (9 : Int32))])
  refine P1.istore X418.here hx #[.val (.ref y), .val (.ref x), .val .null, .val (.ref t), .val (.int (9 : Int32))] (hb hby d21_13) rfl ?_
  refine P1.aloadN X418.here hx (hb hby d21_15) rfl rfl ?_
  refine Goes.callV X418 hx hZ (y := y6_) (z := y6_) hown (mvT hZ (own_w hw 133 rfl)) (mvT hZ (own_w hw 134 rfl)) (notFace_of_selects (args := #[]) (mvT hZ (own_w hw 136 rfl))) (mvT hZ (own_w hw 136 rfl)) (mvT hZ (own_w hw 135 rfl)) (by decide) (kc' := 0) (ks' := 0) (backOf (W := 0) (rmIl l Z a0 hw [] x zc fm h0 n0 Z0 O0 S_CS hzc S_FM hfm Fc) hZ (own_w hw 137 rfl) (own_w hw 49 rfl) (ok rfl) (ok rfl)) (b := x) hE418 Ex (g := (mkF m 16 #[.val (.ref y), .val (.ref x), .val .null, .val (.ref t), .val (.int (9 : Int32))] [(.ref x)])) rfl (by rw [hml]; rfl) (argsL := []) (rest := []) (lenOf pd_392 rfl) rfl (by show 2 * 0 + _ ≤ _; exact Nat.le_of_eq rfl) (hb hby d21_16) rfl (ok rfl) (ok rfl) ?_
  intro v419 T419 L419 q419 X419
  obtain ⟨rfl, N419q, hE419⟩ := q419
  have N419 := Fr.app N418 N419q
  show Goes p e below _ T419 (mkF m 19 #[.val (.ref y), .val (.ref x), .val .null, .val (.ref t), .val (.int (9 : Int32))] [(.int (1 : Int32))])
  refine P1.ifNo X419.here hx (hb hby d21_19) ((if0 _ _).trans (feq (by decide : ¬ ((1 : Int32) = (0 : Int32)))).1) ?_
  refine P1.aloadN X419.here hx (hb hby d21_22) rfl rfl ?_
  refine P1.iconst X419.here hx (0 : Int32) (hb hby d21_23) rfl ?_
  obtain ⟨T420, h420, X420, e420, W420, st420⟩ := putFN X419 hx hZ hown (own_w hw 26 rfl) Via.refl hE419 Cy Ey (Or.inr ⟨(own_w hw 27 rfl), rfl, hnm⟩) (own_w hw 1 rfl) (ty := .byte) (v' := (.int (0 : Int32))) (by decide) rfl (by decide) (g := (mkF m 24 #[.val (.ref y), .val (.ref x), .val .null, .val (.ref t), .val (.int (9 : Int32))] [(.int (0 : Int32)), (.ref y)])) rfl rfl (hb hby d21_24)
  have Fw420 : Fld Z h420 y "java/lang/String" "coder" "B" (.int (0 : Int32)) := Cy.same W420
  have N420 := Fr.snoc X420 N419 gy
  refine Goes.step (T' := T420) (g' := (mkF m 27 #[.val (.ref y), .val (.ref x), .val .null, .val (.ref t), .val (.int (9 : Int32))] [])) st420 ?_
  refine P1.aloadN X420.here hx (hb hby d21_27) rfl rfl ?_
  refine P1.aloadN X420.here hx (hb hby d21_28) rfl rfl ?_
  refine P1.iconst X420.here hx (0 : Int32) (hb hby d21_29) rfl ?_
  refine P1.iload X420.here hx (hb hby d21_30) rfl ?_
  have K421 : Keep h0 h420 [y] := K0.wr W420 (Or.inl (by simp))
  have Z422 : n0 ≤ h420.size := Nat.le_trans Z0 (Keep.of_wr W420).1
  have ne423 : y ≠ t := own_ne_arv Ey (own_w hw 1 rfl) Vt
  have V424 : Arv Z h420 t kt .byte (16 : Int32) [(.int b0), (.int b1), (.int b2), (.int b3), (.int b4), (.int b5), (.int b6), (.int b7), (.int b8)] (.int (0 : Int32)) := Vt.other W420 (Ne.symm ne423)
  have O425 : Old Z n0 h420 := O0.wr W420 gy
  refine Goes.callS X420 hx (y := y23_) hown (mvT hZ (own_w hw 138 rfl)) (mvT hZ (own_w hw 139 rfl)) (mvT hZ (own_w hw 140 rfl)) (mvT hZ (own_w hw 141 rfl)) (by decide) (kc' := 1) (ks' := 9) (backOf (W := 1) (rmCr0_9_16_9 l Z a0 hw [] t kt b0 b1 b2 b3 b4 b5 b6 b7 b8 h420 n0 Z422 O425 V424) hZ (own_w hw 141 rfl) (own_w hw 140 rfl) (ok rfl) (ok rfl)) (g := (mkF m 32 #[.val (.ref y), .val (.ref x), .val .null, .val (.ref t), .val (.int (9 : Int32))] [(.int (9 : Int32)), (.int (0 : Int32)), (.ref t), (.ref y)])) rfl (by rw [hml]; rfl) (argsL := [(.ref t), (.int (0 : Int32)), (.int (9 : Int32))]) (rest := [(.ref y)]) (lenOf pd_2488 rfl) rfl (by show 2 * 0 + _ ≤ _; exact Nat.le_of_eq rfl) (hb hby d21_32) rfl e420 (ok rfl) (ok rfl) ?_
  intro v426 T426 L426 q426 X426
  obtain ⟨r426, kr426, rfl, N426q, K426, szr426, g426V⟩ := q426
  have ge_r426 : n0 ≤ r426 := Nat.le_trans Z422 szr426
  have sz_r426 : h0.size ≤ r426 := Nat.le_trans K421.1 szr426
  have N426 := Fr.app N420 N426q
  show Goes p e below _ T426 (mkF m 35 #[.val (.ref y), .val (.ref x), .val .null, .val (.ref t), .val (.int (9 : Int32))] [(.ref r426), (.ref y)])
  have F427 : Fld Z h420 y "java/lang/String" "value" "[B" .null := Vy.other W420 (Or.inr (slot_ne (Or.inr (own_w hw 29 rfl)) (Or.inr (own_w hw 27 rfl)) (by decide) (t := (.array .byte)) (t' := .byte) (by decide) (by decide)))
  have F428 : Fld Z T426.heap y "java/lang/String" "value" "[B" .null := F427.keep K426 nin0
  have E429 : Exa Z h420 y "java/lang/String" := Ey.wr W420
  have E430 : Exa Z T426.heap y "java/lang/String" := E429.keep K426
  obtain ⟨T431, h431, X431, e431, W431, st431⟩ := putF X426 hx hZ hown (host := "") (Or.inl (own_w hw 28 rfl)) Via.refl rfl F428 E430 (Or.inr ⟨(own_w hw 29 rfl), rfl, hnm⟩) (own_w hw 1 rfl) (ty := (.array .byte)) (by decide) rfl rfl (g := (mkF m 35 #[.val (.ref y), .val (.ref x), .val .null, .val (.ref t), .val (.int (9 : Int32))] [(.ref r426), (.ref y)])) rfl rfl (hb hby d21_35)
  have Fw431 : Fld Z h431 y "java/lang/String" "value" "[B" (.ref r426) := F428.same W431
  have N431 := Fr.snoc X431 N426 gy
  refine Goes.step (T' := T431) (g' := (mkF m 38 #[.val (.ref y), .val (.ref x), .val .null, .val (.ref t), .val (.int (9 : Int32))] [])) st431 ?_
  refine P1.goto X431.here hx 97 (hb hby d21_38) (by decide) (by decide) ?_
  refine Goes.retV X431 hx Bd.notSynchronized Bd.returns (hb hby d21_97) (ok rfl) (ok rfl) ?_
  rw [e431]
  have E432 : Exa Z h431 y "java/lang/String" := E430.wr W431
  have F433 : Fld Z T426.heap y "java/lang/String" "coder" "B" (.int (0 : Int32)) := Fw420.keep K426 nin0
  have F434 : Fld Z h431 y "java/lang/String" "coder" "B" (.int (0 : Int32)) := F433.other W431 (Or.inr (slot_ne (Or.inr (own_w hw 27 rfl)) (Or.inr (own_w hw 29 rfl)) (by decide) (t := .byte) (t' := (.array .byte)) (by decide) (by decide)))
  have ne435 : y ≠ r426 := Nat.ne_of_lt (Nat.lt_of_lt_of_le E429.lt szr426)
  have V436 : Arv Z h431 r426 kr426 .byte (9 : Int32) [(.int b0), (.int b1), (.int b2), (.int b3), (.int b4), (.int b5), (.int b6), (.int b7), (.int b8)] (.int (0 : Int32)) := g426V.other W431 (Ne.symm ne435)
  have K437 : Keep h0 T426.heap [y] := K421.trans K426 all0
  have K438 : Keep h0 h431 [y] := K437.wr W431 (Or.inl (by simp))
  exact ⟨r426, kr426, rfl, N431, K438, sz_r426, E432, Fw431, F434, V436⟩
theorem efT2_9 (y x : Addr) (m : MethodId) : entryFrame m #[(.ref y), (.ref x)] 2 = mkF m 0 #[.val (.ref y), .val (.ref x)] [] := by first | (simp [entryFrame, mkF, argsToLocals, Value.category]; done) | rfl
def QT2_9 (Z : State) (y x t : Addr) (kt : ClassId) (b0 b1 b2 b3 b4 b5 b6 b7 b8 zc : Int32) (fm : Value) (h0 : Heap) (n0 : Nat) (v : Option Value) (h : Heap) (L : List Loc) : Prop := ∃ r kr, v = none ∧ Fr n0 L ∧ Keep h0 h [y] ∧ h0.size ≤ r ∧ Exa Z h y "java/lang/String" ∧ Fld Z h y "java/lang/String" "value" "[B" (.ref r) ∧ Fld Z h y "java/lang/String" "coder" "B" (.int (0 : Int32)) ∧ Arv Z h r kr .byte (9 : Int32) [(.int b0), (.int b1), (.int b2), (.int b3), (.int b4), (.int b5), (.int b6), (.int b7), (.int b8)] (.int (0 : Int32))
set_option maxRecDepth 65536 in
set_option maxHeartbeats 40000000 in
theorem rmT2_9 (l : Launch) (Z : State) (a0 : Array Value) (hw : ∀ d ∈ tables_1, d.before a0 Z = true) (ws : List Jvm.Cond) (y x t : Addr) (kt : ClassId) (b0 b1 b2 b3 b4 b5 b6 b7 b8 zc : Int32) (fm : Value) (h0 : Heap) (n0 : Nat) (Z0 : n0 ≤ h0.size) (O0 : Old Z n0 h0) (S_CS : Sta Z Z.heap "java/lang/String" "COMPACT_STRINGS" "Z" (.int zc)) (hzc : ¬ zc = 0) (S_FM : Sta Z Z.heap "jdk/internal/util/Preconditions" "SIOOBE_FORMATTER" "Ljava/util/function/BiFunction;" fm) (hfm : fm.isRef = true) (gy : n0 ≤ y) (Ey : Exa Z h0 y "java/lang/String") (Vy : Fld Z h0 y "java/lang/String" "value" "[B" .null) (Cy : Fld Z h0 y "java/lang/String" "coder" "B" (.int (0 : Int32))) (gx : n0 ≤ x) (gt : n0 ≤ t) (Ex : Exa Z h0 x "java/lang/StringBuilder") (Fv : Fld Z h0 x "java/lang/AbstractStringBuilder" "value" "[B" (.ref t)) (Fc : Fld Z h0 x "java/lang/AbstractStringBuilder" "coder" "B" (.int (0 : Int32))) (Fn : Fld Z h0 x "java/lang/AbstractStringBuilder" "count" "I" (.int (9 : Int32))) (Vt : Arv Z h0 t kt .byte (16 : Int32) [(.int b0), (.int b1), (.int b2), (.int b3), (.int b4), (.int b5), (.int b6), (.int b7), (.int b8)] (.int (0 : Int32))) :
    OwnLaw l y11_ jdk_42_method_53_code 2 none ws (rR 4 1 9 65) #[(.ref y), (.ref x)] Z h0 (QT2_9 Z y x t kt b0 b1 b2 b3 b4 b5 b6 b7 b8 zc fm h0 n0) := by
  refine own_enter (plainFor_of_name pn_java_lang_String) (efT2_9 y x) ?_
  intro p e s m below meth c s₁ Bd hx hby hml hZ hown X0 e0
  have N0 := Fr.nil n0
  have K0 : Keep h0 h0 [] := Keep.refl _ _
  have K0 : Keep h0 h0 [y] := Keep.refl _ _
  refine P1.aloadN X0.here hx (hb hby d20_0) rfl rfl ?_
  refine P1.aloadN X0.here hx (hb hby d20_1) rfl rfl ?_
  refine P1.aconstNull X0.here hx (hb hby d20_2) ?_
  refine Goes.callC X0 hx (y := y10_) rfl hown (mvT hZ (own_w hw 117 rfl)) (mvT hZ (own_w hw 118 rfl)) (mvT hZ (own_w hw 119 rfl)) (by decide) (kc' := 1) (ks' := 9) (backOf (W := 0) (rmT3_9 l Z a0 hw [] y x t kt b0 b1 b2 b3 b4 b5 b6 b7 b8 zc fm h0 n0 Z0 O0 S_CS hzc S_FM hfm gy Ey Vy Cy gx gt Ex Fv Fc Fn Vt) hZ (own_w hw 119 rfl) (own_w hw 2 rfl) (ok rfl) (ok rfl)) (g := (mkF m 3 #[.val (.ref y), .val (.ref x)] [.null, (.ref x), (.ref y)])) (a := y) rfl (by rw [hml]; rfl) (argsL := [(.ref x), .null]) (rest := []) (lenOf pd_127641 rfl) rfl (by show 2 * 0 + _ ≤ _; exact Nat.le_of_eq rfl) (hb hby d20_3) rfl e0 (ok rfl) (ok rfl) ?_
  intro v439 T439 L439 q439 X439
  obtain ⟨r439, kr439, rfl, N439q, K439, szr439, g439E, g439v, g439c, g439V⟩ := q439
  have ge_r439 : n0 ≤ r439 := Nat.le_trans Z0 szr439
  have sz_r439 : h0.size ≤ r439 := Nat.le_trans K0.1 szr439
  have N439 := Fr.app N0 N439q
  show Goes p e below _ T439 (mkF m 6 #[.val (.ref y), .val (.ref x)] [])
  refine Goes.retV X439 hx Bd.notSynchronized Bd.returns (hb hby d20_6) (ok rfl) (ok rfl) ?_
  have K440 : Keep h0 T439.heap [y] := K0.trans K439 (allS (Or.inl (by simp)) all0)
  exact ⟨r439, kr439, rfl, N439, K440, sz_r439, g439E, g439v, g439c, g439V⟩
theorem efTs9 (x : Addr) (m : MethodId) : entryFrame m #[(.ref x)] 1 = mkF m 0 #[.val (.ref x)] [] := by first | (simp [entryFrame, mkF, argsToLocals, Value.category]; done) | rfl
def QTs9 (Z : State) (x t : Addr) (kt : ClassId) (b0 b1 b2 b3 b4 b5 b6 b7 b8 zc : Int32) (fm : Value) (h0 : Heap) (n0 : Nat) (v : Option Value) (h : Heap) (L : List Loc) : Prop := ∃ y r kr, v = some (.ref y) ∧ Fr n0 L ∧ Keep h0 h [] ∧ Exa Z h y "java/lang/String" ∧ Fld Z h y "java/lang/String" "value" "[B" (.ref r) ∧ Fld Z h y "java/lang/String" "coder" "B" (.int (0 : Int32)) ∧ Arv Z h r kr .byte (9 : Int32) [(.int b0), (.int b1), (.int b2), (.int b3), (.int b4), (.int b5), (.int b6), (.int b7), (.int b8)] (.int (0 : Int32))
set_option maxRecDepth 65536 in
set_option maxHeartbeats 40000000 in
theorem rmTs9 (l : Launch) (Z : State) (a0 : Array Value) (hw : ∀ d ∈ tables_1, d.before a0 Z = true) (ws : List Jvm.Cond) (x t : Addr) (kt : ClassId) (b0 b1 b2 b3 b4 b5 b6 b7 b8 zc : Int32) (fm : Value) (h0 : Heap) (n0 : Nat) (Z0 : n0 ≤ h0.size) (O0 : Old Z n0 h0) (S_CS : Sta Z Z.heap "java/lang/String" "COMPACT_STRINGS" "Z" (.int zc)) (hzc : ¬ zc = 0) (S_FM : Sta Z Z.heap "jdk/internal/util/Preconditions" "SIOOBE_FORMATTER" "Ljava/util/function/BiFunction;" fm) (hfm : fm.isRef = true) (gx : n0 ≤ x) (gt : n0 ≤ t) (Ex : Exa Z h0 x "java/lang/StringBuilder") (Fv : Fld Z h0 x "java/lang/AbstractStringBuilder" "value" "[B" (.ref t)) (Fc : Fld Z h0 x "java/lang/AbstractStringBuilder" "coder" "B" (.int (0 : Int32))) (Fn : Fld Z h0 x "java/lang/AbstractStringBuilder" "count" "I" (.int (9 : Int32))) (Vt : Arv Z h0 t kt .byte (16 : Int32) [(.int b0), (.int b1), (.int b2), (.int b3), (.int b4), (.int b5), (.int b6), (.int b7), (.int b8)] (.int (0 : Int32))) :
    OwnLaw l y21_ jdk_67_method_42_code 1 (some (.object "java/lang/String")) ws (rR 5 2 13 79) #[(.ref x)] Z h0 (QTs9 Z x t kt b0 b1 b2 b3 b4 b5 b6 b7 b8 zc fm h0 n0) := by
  refine own_enter (plainFor_of_name pn_java_lang_StringBuilder) (efTs9 x) ?_
  intro p e s m below meth c s₁ Bd hx hby hml hZ hown X0 e0
  have N0 := Fr.nil n0
  have K0 : Keep h0 h0 [] := Keep.refl _ _
  obtain ⟨T441, h441, X441, e441, E441, A441, D441, -, st441⟩ := newO X0 hx hZ hown (own_w hw 113 rfl) (own_w hw 1 rfl) (own_w hw 2 rfl) e0 (g := (mkF m 0 #[.val (.ref x)] [])) rfl (hb hby d19_0) (ok rfl) (ok rfl)
  obtain ⟨b441, g441⟩ : ∃ z, z = h0.size := ⟨_, rfl⟩
  rw [← g441] at A441 D441 st441
  have ge_b441 : n0 ≤ b441 := Nat.le_trans Z0 (Nat.le_of_eq g441.symm)
  have sz_b441 : h0.size ≤ b441 := Nat.le_trans K0.1 (Nat.le_of_eq g441.symm)
  have F441_coder : Fld Z h441 b441 "java/lang/String" "coder" "B" (.int (0 : Int32)) := D441 (Or.inr (own_w hw 27 rfl)) (ty := .byte) (by decide)
  have F441_value : Fld Z h441 b441 "java/lang/String" "value" "[B" .null := D441 (Or.inr (own_w hw 29 rfl)) (ty := (.array .byte)) (by decide)
  refine Goes.step (T' := T441) (g' := (mkF m 3 #[.val (.ref x)] [(.ref b441)])) st441 ?_
  refine P1.dup X441.here hx (hb hby d19_3) rfl ?_
  refine P1.aloadN X441.here hx (hb hby d19_4) rfl rfl ?_
  have E442 : Exa Z h441 x "java/lang/StringBuilder" := Ex.ext E441
  have F443 : Fld Z h441 x "java/lang/AbstractStringBuilder" "value" "[B" (.ref t) := Fv.ext E441
  have F444 : Fld Z h441 x "java/lang/AbstractStringBuilder" "coder" "B" (.int (0 : Int32)) := Fc.ext E441
  have F445 : Fld Z h441 x "java/lang/AbstractStringBuilder" "count" "I" (.int (9 : Int32)) := Fn.ext E441
  have V446 : Arv Z h441 t kt .byte (16 : Int32) [(.int b0), (.int b1), (.int b2), (.int b3), (.int b4), (.int b5), (.int b6), (.int b7), (.int b8)] (.int (0 : Int32)) := Vt.ext E441
  have K447 : Keep h0 h441 [] := K0.ext E441
  have Z448 : n0 ≤ h441.size := Nat.le_trans Z0 E441.1
  have O449 : Old Z n0 h441 := O0.ext E441
  refine Goes.callC X441 hx (y := y11_) rfl hown (mvT hZ (own_w hw 114 rfl)) (mvT hZ (own_w hw 115 rfl)) (mvT hZ (own_w hw 116 rfl)) (by decide) (kc' := 1) (ks' := 9) (backOf (W := 1) (rmT2_9 l Z a0 hw [] b441 x t kt b0 b1 b2 b3 b4 b5 b6 b7 b8 zc fm h441 n0 Z448 O449 S_CS hzc S_FM hfm ge_b441 A441 F441_value F441_coder gx gt E442 F443 F444 F445 V446) hZ (own_w hw 116 rfl) (own_w hw 2 rfl) (ok rfl) (ok rfl)) (g := (mkF m 5 #[.val (.ref x)] [(.ref x), (.ref b441), (.ref b441)])) (a := b441) rfl (by rw [hml]; rfl) (argsL := [(.ref x)]) (rest := [(.ref b441)]) (lenOf pd_37548 rfl) rfl (by show 2 * 0 + _ ≤ _; exact Nat.le_of_eq rfl) (hb hby d19_5) rfl e441 (ok rfl) (ok rfl) ?_
  intro v450 T450 L450 q450 X450
  obtain ⟨r450, kr450, rfl, N450q, K450, szr450, g450E, g450v, g450c, g450V⟩ := q450
  have ge_r450 : n0 ≤ r450 := Nat.le_trans Z448 szr450
  have sz_r450 : h0.size ≤ r450 := Nat.le_trans K447.1 szr450
  have N450 := Fr.app N0 N450q
  show Goes p e below _ T450 (mkF m 8 #[.val (.ref x)] [(.ref b441)])
  refine Goes.retA X450 hx Bd.notSynchronized Bd.returns rfl rfl (hb hby d19_8) (ok rfl) (ok rfl) ?_
  have K451 : Keep h0 T450.heap [] := K447.trans K450 (allS (Or.inr sz_b441) all0)
  exact ⟨b441, r450, kr450, rfl, N450, K451, g450E, g450v, g450c, g450V⟩
theorem efLk2 (y : Addr) (m : MethodId) : entryFrame m #[(.ref y)] 1 = mkF m 0 #[.val (.ref y)] [] := by first | (simp [entryFrame, mkF, argsToLocals, Value.category]; done) | rfl
def QLk2 (Z : State) (y ty : Addr) (ky : ClassId) (c0 c1 zc : Int32) (fm : Value) (h0 : Heap) (n0 : Nat) (v : Option Value) (h : Heap) (L : List Loc) : Prop := ∃ x r kr, v = some (.ref x) ∧ Fr n0 L ∧ Keep h0 h [] ∧ Exa Z h x "java/lang/String" ∧ Fld Z h x "java/lang/String" "value" "[B" (.ref r) ∧ Fld Z h x "java/lang/String" "coder" "B" (.int (0 : Int32)) ∧ Arv Z h r kr .byte (9 : Int32) [(.int (109 : Int32)), (.int (117 : Int32)), (.int (116 : Int32)), (.int (120 : Int32)), (.int (58 : Int32)), (.int (123 : Int32)), (.int (c0).toInt8.toInt32), (.int (c1).toInt8.toInt32), (.int (125 : Int32))] (.int (0 : Int32))
set_option maxRecDepth 65536 in
set_option maxHeartbeats 40000000 in
theorem rmLk2 (l : Launch) (Z : State) (a0 : Array Value) (hw : ∀ d ∈ tables_1, d.before a0 Z = true) (ws : List Jvm.Cond) (y ty : Addr) (ky : ClassId) (c0 c1 zc : Int32) (fm : Value) (h0 : Heap) (n0 : Nat) (Z0 : n0 ≤ h0.size) (O0 : Old Z n0 h0) (S_CS : Sta Z Z.heap "java/lang/String" "COMPACT_STRINGS" "Z" (.int zc)) (hzc : ¬ zc = 0) (S_FM : Sta Z Z.heap "jdk/internal/util/Preconditions" "SIOOBE_FORMATTER" "Ljava/util/function/BiFunction;" fm) (hfm : fm.isRef = true) (Ey : Exa Z h0 y "java/lang/String") (Vy : Fld Z h0 y "java/lang/String" "value" "[B" (.ref ty)) (Cy : Fld Z h0 y "java/lang/String" "coder" "B" (.int (0 : Int32))) (Ky : Arv Z h0 ty ky .byte (2 : Int32) [(.int (c0).toInt8.toInt32), (.int (c1).toInt8.toInt32)] (.int (0 : Int32))) (hy : ∀ c ∈ ([c0, c1] : List Int32), ¬ c < 0 ∧ ¬ (255 : Int32) < c) :
    OwnLawW l y0_ prog_10_method_2_code 1 (some (.object "java/lang/String")) ws (rR 6 8 69 91) #[(.ref y)] Z EL1 h0 (QLk2 Z y ty ky c0 c1 zc fm h0 n0) := by
  refine own_enterW (plainFor_of_name pn_com_example_mutx_mutx_redis_RedisNames) (efLk2 y) ?_
  intro p e s m below meth c s₁ Bd hx hby hml hZ hown X0 e0 hh hS0 CR0
  have N0 := Fr.nil n0
  have hEL : EW Z a0 EL1 := own_EL hw
  have ks0 : h0.size ≤ h0.size := Nat.le_refl _
  have K0 : Keep h0 h0 [] := Keep.refl _ _
  refine P1.aloadN X0.here hx (hb hby d7_0) rfl rfl ?_
  refine P1.ifnullNo X0.here hx (hb hby d7_1) ?_
  refine P1.aloadN X0.here hx (hb hby d7_4) rfl rfl ?_
  refine Goes.callV X0 hx hZ (y := y16_) (z := y16_) (Qc := fun v h' L => (v = some (.int (if ([c0, c1] : List Int32).length = 0 then 1 else 0)) ∧ L = [] ∧ h' = h0)) hown (mvT hZ (own_w hw 34 rfl)) (mvT hZ (own_w hw 35 rfl)) (notFace_of_selects (args := #[]) (mvT hZ (own_w hw 37 rfl))) (mvT hZ (own_w hw 37 rfl)) (mvT hZ (own_w hw 36 rfl)) (by decide) (kc' := 0) (ks' := 0) (StrChars.Road.empW (W := 0) hZ (fun d hd => hw d (in_wordsEmp d hd)) (kI := 4) (own_w hw 1 rfl) Ey Vy Cy Ky (StrChars.Road.codOf (cs := ([c0, c1] : List Int32)) (n := 2) rfl (fun c hc => (hy c hc).2)) (own_up hy) (ok rfl) (ok rfl) (ok rfl)) (b := y) e0 Ey (g := (mkF m 5 #[.val (.ref y)] [(.ref y)])) rfl (by rw [hml]; rfl) (argsL := []) (rest := []) (lenOf pd_392 rfl) rfl (by show 2 * 0 + _ ≤ _; exact Nat.le_of_eq rfl) (hb hby d7_5) rfl (ok rfl) (ok rfl) ?_
  intro v452 T452 L452 q452 X452
  obtain ⟨rfl, rfl, hE452⟩ := q452
  have N452 := Fr.app N0 (Fr.nil n0)
  show Goes p e below _ T452 (mkF m 8 #[.val (.ref y)] [(.int (0 : Int32))])
  refine P1.ifYes X452.here hx 21 (hb hby d7_8) ((if0 _ _).trans (teq (by decide : (0 : Int32) = (0 : Int32))).1) (by decide) (by decide) ?_
  obtain ⟨T453, h453, X453, e453, E453, A453, D453, -, st453⟩ := newO X452 hx hZ hown (own_w hw 39 rfl) (own_w hw 40 rfl) (own_w hw 41 rfl) hE452 (g := (mkF m 21 #[.val (.ref y)] [])) rfl (hb hby d7_21) (ok rfl) (ok rfl)
  obtain ⟨b453, g453⟩ : ∃ z, z = h0.size := ⟨_, rfl⟩
  rw [← g453] at A453 D453 st453
  have ge_b453 : n0 ≤ b453 := Nat.le_trans Z0 (Nat.le_of_eq g453.symm)
  have sz_b453 : h0.size ≤ b453 := Nat.le_trans K0.1 (Nat.le_of_eq g453.symm)
  have sf_b453 : Safe Z EL1 s.vm h0 b453 := Safe.new (Nat.le_of_eq g453.symm)
  have F453_value : Fld Z h453 b453 "java/lang/AbstractStringBuilder" "value" "[B" .null := D453 (Or.inl (own_w hw 54 rfl)) (ty := (.array .byte)) (by decide)
  have F453_coder : Fld Z h453 b453 "java/lang/AbstractStringBuilder" "coder" "B" (.int (0 : Int32)) := D453 (Or.inl (own_w hw 56 rfl)) (ty := .byte) (by decide)
  have F453_count : Fld Z h453 b453 "java/lang/AbstractStringBuilder" "count" "I" (.int (0 : Int32)) := D453 (Or.inl (own_w hw 81 rfl)) (ty := .int) (by decide)
  refine Goes.step (T' := T453) (g' := (mkF m 24 #[.val (.ref y)] [(.ref b453)])) st453 ?_
  refine P1.dup X453.here hx (hb hby d7_24) rfl ?_
  have K454 : Keep h0 h453 [] := K0.ext E453
  have Z455 : n0 ≤ h453.size := Nat.le_trans Z0 E453.1
  have O456 : Old Z n0 h453 := O0.ext E453
  refine Goes.callC X453 hx (y := y18_) rfl hown (mvT hZ (own_w hw 42 rfl)) (mvT hZ (own_w hw 43 rfl)) (mvT hZ (own_w hw 44 rfl)) (by decide) (kc' := 1) (ks' := 16) (backOf (W := 1) (rmBI l Z a0 hw [] b453 zc fm h453 n0 Z455 O456 S_CS hzc S_FM hfm ge_b453 A453 F453_value F453_coder F453_count) hZ (own_w hw 44 rfl) (own_w hw 41 rfl) (ok rfl) (ok rfl)) (g := (mkF m 25 #[.val (.ref y)] [(.ref b453), (.ref b453)])) (a := b453) rfl (by rw [hml]; rfl) (argsL := []) (rest := [(.ref b453)]) (lenOf pd_380 rfl) rfl (by show 2 * 0 + _ ≤ _; exact Nat.le_of_eq rfl) (hb hby d7_25) rfl e453 (ok rfl) (ok rfl) ?_
  intro v457 T457 L457 q457 X457
  obtain ⟨t457, kt457, rfl, N457q, K457, szt457, g457E, g457v, g457c, g457n, g457V⟩ := q457
  have ge_t457 : n0 ≤ t457 := Nat.le_trans Z455 szt457
  have sz_t457 : h0.size ≤ t457 := Nat.le_trans K454.1 szt457
  have sf_t457 : Safe Z EL1 s.vm h453 t457 := Safe.new szt457
  have N457 := Fr.app N452 N457q
  show Goes p e below _ T457 (mkF m 28 #[.val (.ref y)] [(.ref b453)])
  have ks459 : h0.size ≤ h453.size := Nat.le_trans ks0 E453.1
  have ks460 : h0.size ≤ T457.heap.size := Nat.le_trans ks459 K457.1
  have CR461 : CHr Z EL1 s.vm h0 s.vm h453 := CR0.trans (CHr.ext E453 CR0.1)
  have sf462 : Safe Z EL1 s.vm h453 b453 := Safe.ext E453 CR0.1 sf_b453
  have CR463 : CHr Z EL1 s.vm h0 s.vm T457.heap := CR461.trans (CHr.keep K457 (sfS sf462 sf0) CR461.1)
  obtain ⟨la458, T458, h458, k1_458, lb458, lk458, X458, e458, E458, hS458, ks458, hZ, hown, LE458, LC458, LV458, LK458, -, -, CW458, -, hsf458, st458⟩ := ldcCH X457 hx hZ hown (own_w hw 57 rfl) (fun d hd => hw d (in_atoms d hd)) rfl hS0 ks460 hEL (by decide) CR463.1 (vs := [(.int (109 : Int32)), (.int (117 : Int32)), (.int (116 : Int32)), (.int (120 : Int32)), (.int (58 : Int32)), (.int (123 : Int32))]) (z := (6 : Int32)) (by decide) (by decide) rfl (g := (mkF m 28 #[.val (.ref y)] [(.ref b453)])) rfl (hb hby d7_28) (n := 24) (by decide) (by decide) (ok rfl) (ok rfl)
  refine Goes.step (T' := T458) (g' := (mkF m 30 #[.val (.ref y)] [(.ref la458), (.ref b453)])) st458 ?_
  have E464 : Exa Z h458 b453 "java/lang/StringBuilder" := g457E.ext E458
  have F465 : Fld Z h458 b453 "java/lang/AbstractStringBuilder" "value" "[B" (.ref t457) := g457v.ext E458
  have F466 : Fld Z h458 b453 "java/lang/AbstractStringBuilder" "coder" "B" (.int (0 : Int32)) := g457c.ext E458
  have F467 : Fld Z h458 b453 "java/lang/AbstractStringBuilder" "count" "I" (.int (0 : Int32)) := g457n.ext E458
  have V468 : Arv Z h458 t457 kt457 .byte (16 : Int32) [] (.int (0 : Int32)) := g457V.ext E458
  have sf470 : Safe Z EL1 s.vm T457.heap t457 := Safe.keep K457 (sfS sf462 sf0) CR461.1 sf_t457
  have sf471 : Safe Z EL1 T458.vm h458 t457 := CHr.safe CW458 g457V.lt sf470
  have ne469 : t457 ≠ lb458 := (hsf458 t457 sf471).2
  have Z472 : n0 ≤ T457.heap.size := Nat.le_trans Z455 K457.1
  have Z473 : n0 ≤ h458.size := Nat.le_trans Z472 E458.1
  have O474 : Old Z n0 T457.heap := O456.keep K457 (allS ge_b453 all0)
  have O475 : Old Z n0 h458 := O474.ext E458
  refine Goes.callV X458 hx hZ (y := y19_) (z := y19_) hown (mvT hZ (own_w hw 60 rfl)) (mvT hZ (own_w hw 61 rfl)) (notFace_of_selects (args := #[]) (mvT hZ (own_w hw 63 rfl))) (mvT hZ (own_w hw 63 rfl)) (mvT hZ (own_w hw 62 rfl)) (by decide) (kc' := 0) (ks' := 0) (backOf (W := 0) (rmSp0_6 l Z a0 hw [] b453 t457 kt457 la458 lb458 lk458 (109 : Int32) (117 : Int32) (116 : Int32) (120 : Int32) (58 : Int32) (123 : Int32) zc fm h458 n0 Z473 O475 S_CS hzc S_FM hfm ge_b453 ge_t457 E464 F465 F466 F467 V468 LE458 LV458 LC458 LK458 (Ne.symm ne469)) hZ (own_w hw 64 rfl) (own_w hw 41 rfl) (ok rfl) (ok rfl)) (b := b453) e458 E464 (g := (mkF m 30 #[.val (.ref y)] [(.ref la458), (.ref b453)])) rfl (by rw [hml]; rfl) (argsL := [(.ref la458)]) (rest := []) (lenOf pd_98417 rfl) rfl (by show 2 * 0 + _ ≤ _; exact Nat.le_of_eq rfl) (hb hby d7_30) rfl (ok rfl) (ok rfl) ?_
  intro v476 T476 L476 q476 X476
  obtain ⟨rfl, N476q, K476, g476E, g476v, g476c, g476n, g476V⟩ := q476
  have N476 := Fr.app N457 N476q
  show Goes p e below _ T476 (mkF m 33 #[.val (.ref y)] [(.ref b453)])
  refine P1.aloadN X476.here hx (hb hby d7_33) rfl rfl ?_
  have E477 : Exa Z h453 y "java/lang/String" := Ey.ext E453
  have E478 : Exa Z T457.heap y "java/lang/String" := E477.keep K457
  have E479 : Exa Z h458 y "java/lang/String" := E478.ext E458
  have E480 : Exa Z T476.heap y "java/lang/String" := E479.keep K476
  have F481 : Fld Z h453 y "java/lang/String" "value" "[B" (.ref ty) := Vy.ext E453
  have ne482 : y ≠ b453 := Nat.ne_of_lt (Nat.lt_of_lt_of_le Ey.lt (Nat.le_of_eq g453.symm))
  have F483 : Fld Z T457.heap y "java/lang/String" "value" "[B" (.ref ty) := F481.keep K457 (ninS ne482 nin0)
  have F484 : Fld Z h458 y "java/lang/String" "value" "[B" (.ref ty) := F483.ext E458
  have ne485 : y ≠ t457 := Nat.ne_of_lt (Nat.lt_of_lt_of_le E477.lt szt457)
  have F486 : Fld Z T476.heap y "java/lang/String" "value" "[B" (.ref ty) := F484.keep K476 (ninS ne482 (ninS ne485 nin0))
  have F487 : Fld Z h453 y "java/lang/String" "coder" "B" (.int (0 : Int32)) := Cy.ext E453
  have F488 : Fld Z T457.heap y "java/lang/String" "coder" "B" (.int (0 : Int32)) := F487.keep K457 (ninS ne482 nin0)
  have F489 : Fld Z h458 y "java/lang/String" "coder" "B" (.int (0 : Int32)) := F488.ext E458
  have F490 : Fld Z T476.heap y "java/lang/String" "coder" "B" (.int (0 : Int32)) := F489.keep K476 (ninS ne482 (ninS ne485 nin0))
  have V491 : Arv Z h453 ty ky .byte (2 : Int32) [(.int (c0).toInt8.toInt32), (.int (c1).toInt8.toInt32)] (.int (0 : Int32)) := Ky.ext E453
  have ne492 : ty ≠ b453 := Nat.ne_of_lt (Nat.lt_of_lt_of_le Ky.lt (Nat.le_of_eq g453.symm))
  have V493 : Arv Z T457.heap ty ky .byte (2 : Int32) [(.int (c0).toInt8.toInt32), (.int (c1).toInt8.toInt32)] (.int (0 : Int32)) := V491.keep K457 (ninS ne492 nin0)
  have V494 : Arv Z h458 ty ky .byte (2 : Int32) [(.int (c0).toInt8.toInt32), (.int (c1).toInt8.toInt32)] (.int (0 : Int32)) := V493.ext E458
  have ne495 : ty ≠ t457 := Nat.ne_of_lt (Nat.lt_of_lt_of_le V491.lt szt457)
  have V496 : Arv Z T476.heap ty ky .byte (2 : Int32) [(.int (c0).toInt8.toInt32), (.int (c1).toInt8.toInt32)] (.int (0 : Int32)) := V494.keep K476 (ninS ne492 (ninS ne495 nin0))
  have Z497 : n0 ≤ T476.heap.size := Nat.le_trans Z473 K476.1
  have O498 : Old Z n0 T476.heap := O475.keep K476 (allS ge_b453 (allS ge_t457 all0))
  refine Goes.callV X476 hx hZ (y := y19_) (z := y19_) hown (mvT hZ (own_w hw 60 rfl)) (mvT hZ (own_w hw 61 rfl)) (notFace_of_selects (args := #[]) (mvT hZ (own_w hw 63 rfl))) (mvT hZ (own_w hw 63 rfl)) (mvT hZ (own_w hw 62 rfl)) (by decide) (kc' := 0) (ks' := 0) (backOf (W := 0) (rmSp6_2 l Z a0 hw [] b453 t457 kt457 y ty ky (109 : Int32) (117 : Int32) (116 : Int32) (120 : Int32) (58 : Int32) (123 : Int32) (c0).toInt8.toInt32 (c1).toInt8.toInt32 zc fm T476.heap n0 Z497 O498 S_CS hzc S_FM hfm ge_b453 ge_t457 g476E g476v g476c g476n g476V E480 F486 F490 V496 ne495) hZ (own_w hw 64 rfl) (own_w hw 41 rfl) (ok rfl) (ok rfl)) (b := b453) rfl g476E (g := (mkF m 34 #[.val (.ref y)] [(.ref y), (.ref b453)])) rfl (by rw [hml]; rfl) (argsL := [(.ref y)]) (rest := []) (lenOf pd_98417 rfl) rfl (by show 2 * 0 + _ ≤ _; exact Nat.le_of_eq rfl) (hb hby d7_34) rfl (ok rfl) (ok rfl) ?_
  intro v499 T499 L499 q499 X499
  obtain ⟨rfl, N499q, K499, g499E, g499v, g499c, g499n, g499V⟩ := q499
  have N499 := Fr.app N476 N499q
  show Goes p e below _ T499 (mkF m 37 #[.val (.ref y)] [(.ref b453)])
  have ks501 : k1_458 ≤ T476.heap.size := Nat.le_trans ks458 K476.1
  have ks502 : k1_458 ≤ T499.heap.size := Nat.le_trans ks501 K499.1
  have CR503 : CHr Z EL1 s.vm h0 T458.vm h458 := CR463.trans CW458
  have sf504 : Safe Z EL1 s.vm T457.heap b453 := Safe.keep K457 (sfS sf462 sf0) CR461.1 sf462
  have sf505 : Safe Z EL1 T458.vm h458 b453 := CHr.safe CW458 g457E.lt sf504
  have CR506 : CHr Z EL1 s.vm h0 T458.vm T476.heap := CR503.trans (CHr.keep K476 (sfS sf505 (sfS sf471 sf0)) CR503.1)
  have sf507 : Safe Z EL1 T458.vm T476.heap t457 := Safe.keep K476 (sfS sf505 (sfS sf471 sf0)) CR503.1 sf471
  have sf508 : Safe Z EL1 T458.vm T476.heap b453 := Safe.keep K476 (sfS sf505 (sfS sf471 sf0)) CR503.1 sf505
  have CR509 : CHr Z EL1 s.vm h0 T458.vm T499.heap := CR506.trans (CHr.keep K499 (sfS sf508 (sfS sf507 sf0)) CR506.1)
  obtain ⟨la500, T500, h500, k1_500, lb500, lk500, X500, e500, E500, hS500, ks500, hZ, hown, LE500, LC500, LV500, LK500, -, -, CW500, -, hsf500, st500⟩ := ldcCH X499 hx hZ hown (own_w hw 107 rfl) (fun d hd => hw d (in_atoms d hd)) rfl hS458 ks502 hEL (by decide) CR509.1 (vs := [(.int (125 : Int32))]) (z := (1 : Int32)) (by decide) (by decide) rfl (g := (mkF m 37 #[.val (.ref y)] [(.ref b453)])) rfl (hb hby d7_37) (n := 4) (by decide) (by decide) (ok rfl) (ok rfl)
  refine Goes.step (T' := T500) (g' := (mkF m 39 #[.val (.ref y)] [(.ref la500), (.ref b453)])) st500 ?_
  have E510 : Exa Z h500 b453 "java/lang/StringBuilder" := g499E.ext E500
  have F511 : Fld Z h500 b453 "java/lang/AbstractStringBuilder" "value" "[B" (.ref t457) := g499v.ext E500
  have F512 : Fld Z h500 b453 "java/lang/AbstractStringBuilder" "coder" "B" (.int (0 : Int32)) := g499c.ext E500
  have F513 : Fld Z h500 b453 "java/lang/AbstractStringBuilder" "count" "I" (.int (8 : Int32)) := g499n.ext E500
  have V514 : Arv Z h500 t457 kt457 .byte (16 : Int32) [(.int (109 : Int32)), (.int (117 : Int32)), (.int (116 : Int32)), (.int (120 : Int32)), (.int (58 : Int32)), (.int (123 : Int32)), (.int (c0).toInt8.toInt32), (.int (c1).toInt8.toInt32)] (.int (0 : Int32)) := g499V.ext E500
  have sf516 : Safe Z EL1 T458.vm T499.heap t457 := Safe.keep K499 (sfS sf508 (sfS sf507 sf0)) CR506.1 sf507
  have sf517 : Safe Z EL1 T500.vm h500 t457 := CHr.safe CW500 g499V.lt sf516
  have ne515 : t457 ≠ lb500 := (hsf500 t457 sf517).2
  have Z518 : n0 ≤ T499.heap.size := Nat.le_trans Z497 K499.1
  have Z519 : n0 ≤ h500.size := Nat.le_trans Z518 E500.1
  have O520 : Old Z n0 T499.heap := O498.keep K499 (allS ge_b453 (allS ge_t457 all0))
  have O521 : Old Z n0 h500 := O520.ext E500
  refine Goes.callV X500 hx hZ (y := y19_) (z := y19_) hown (mvT hZ (own_w hw 60 rfl)) (mvT hZ (own_w hw 61 rfl)) (notFace_of_selects (args := #[]) (mvT hZ (own_w hw 63 rfl))) (mvT hZ (own_w hw 63 rfl)) (mvT hZ (own_w hw 62 rfl)) (by decide) (kc' := 0) (ks' := 0) (backOf (W := 0) (rmSp8_1 l Z a0 hw [] b453 t457 kt457 la500 lb500 lk500 (109 : Int32) (117 : Int32) (116 : Int32) (120 : Int32) (58 : Int32) (123 : Int32) (c0).toInt8.toInt32 (c1).toInt8.toInt32 (125 : Int32) zc fm h500 n0 Z519 O521 S_CS hzc S_FM hfm ge_b453 ge_t457 E510 F511 F512 F513 V514 LE500 LV500 LC500 LK500 (Ne.symm ne515)) hZ (own_w hw 64 rfl) (own_w hw 41 rfl) (ok rfl) (ok rfl)) (b := b453) e500 E510 (g := (mkF m 39 #[.val (.ref y)] [(.ref la500), (.ref b453)])) rfl (by rw [hml]; rfl) (argsL := [(.ref la500)]) (rest := []) (lenOf pd_98417 rfl) rfl (by show 2 * 0 + _ ≤ _; exact Nat.le_of_eq rfl) (hb hby d7_39) rfl (ok rfl) (ok rfl) ?_
  intro v522 T522 L522 q522 X522
  obtain ⟨rfl, N522q, K522, g522E, g522v, g522c, g522n, g522V⟩ := q522
  have N522 := Fr.app N499 N522q
  show Goes p e below _ T522 (mkF m 42 #[.val (.ref y)] [(.ref b453)])
  have Z523 : n0 ≤ T522.heap.size := Nat.le_trans Z519 K522.1
  have O524 : Old Z n0 T522.heap := O521.keep K522 (allS ge_b453 (allS ge_t457 all0))
  refine Goes.callV X522 hx hZ (y := y21_) (z := y21_) hown (mvT hZ (own_w hw 108 rfl)) (mvT hZ (own_w hw 109 rfl)) (notFace_of_selects (args := #[]) (mvT hZ (own_w hw 111 rfl))) (mvT hZ (own_w hw 111 rfl)) (mvT hZ (own_w hw 110 rfl)) (by decide) (kc' := 2) (ks' := 13) (backOf (W := 0) (rmTs9 l Z a0 hw [] b453 t457 kt457 (109 : Int32) (117 : Int32) (116 : Int32) (120 : Int32) (58 : Int32) (123 : Int32) (c0).toInt8.toInt32 (c1).toInt8.toInt32 (125 : Int32) zc fm T522.heap n0 Z523 O524 S_CS hzc S_FM hfm ge_b453 ge_t457 g522E g522v g522c g522n g522V) hZ (own_w hw 112 rfl) (own_w hw 41 rfl) (ok rfl) (ok rfl)) (b := b453) rfl g522E (g := (mkF m 42 #[.val (.ref y)] [(.ref b453)])) rfl (by rw [hml]; rfl) (argsL := []) (rest := []) (lenOf pd_19649 rfl) rfl (by show 2 * 0 + _ ≤ _; exact Nat.le_of_eq rfl) (hb hby d7_42) rfl (ok rfl) (ok rfl) ?_
  intro v525 T525 L525 q525 X525
  obtain ⟨y525, r525, kr525, rfl, N525q, K525, g525E, g525v, g525c, g525V⟩ := q525
  have N525 := Fr.app N522 N525q
  show Goes p e below _ T525 (mkF m 45 #[.val (.ref y)] [(.ref y525)])
  have ks526 : k1_500 ≤ T522.heap.size := Nat.le_trans ks500 K522.1
  have ks527 : k1_500 ≤ T525.heap.size := Nat.le_trans ks526 K525.1
  have CR528 : CHr Z EL1 s.vm h0 T500.vm h500 := CR509.trans CW500
  have sf529 : Safe Z EL1 T458.vm T499.heap b453 := Safe.keep K499 (sfS sf508 (sfS sf507 sf0)) CR506.1 sf508
  have sf530 : Safe Z EL1 T500.vm h500 b453 := CHr.safe CW500 g499E.lt sf529
  have CR531 : CHr Z EL1 s.vm h0 T500.vm T522.heap := CR528.trans (CHr.keep K522 (sfS sf530 (sfS sf517 sf0)) CR528.1)
  have CR532 : CHr Z EL1 s.vm h0 T500.vm T525.heap := CR531.trans (CHr.keep K525 sf0 CR531.1)
  refine Goes.retAW X525 hx Bd.notSynchronized hS500 ks527 hZ hEL (hh ▸ CR532) rfl Bd.returns rfl rfl (hb hby d7_45) (ok rfl) (ok rfl) ?_
  have K533 : Keep h0 T457.heap [] := K454.trans K457 (allS (Or.inr sz_b453) all0)
  have K534 : Keep h0 h458 [] := K533.ext E458
  have K535 : Keep h0 T476.heap [] := K534.trans K476 (allS (Or.inr sz_b453) (allS (Or.inr sz_t457) all0))
  have K536 : Keep h0 T499.heap [] := K535.trans K499 (allS (Or.inr sz_b453) (allS (Or.inr sz_t457) all0))
  have K537 : Keep h0 h500 [] := K536.ext E500
  have K538 : Keep h0 T522.heap [] := K537.trans K522 (allS (Or.inr sz_b453) (allS (Or.inr sz_t457) all0))
  have K539 : Keep h0 T525.heap [] := K538.trans K525 all0
  exact ⟨y525, r525, kr525, rfl, N525, K539, g525E, g525v, g525c, g525V⟩
theorem efGb6_3 (y t : Addr) (m : MethodId) : entryFrame m #[(.ref y), (.ref t), (.int (6 : Int32)), (.int (0 : Int32))] 4 = mkF m 0 #[.val (.ref y), .val (.ref t), .val (.int (6 : Int32)), .val (.int (0 : Int32))] [] := by first | (simp [entryFrame, mkF, argsToLocals, Value.category]; done) | rfl
def QGb6_3 (Z : State) (t : Addr) (kt : ClassId) (y ty : Addr) (ky : ClassId) (b0 b1 b2 b3 b4 b5 c0 c1 c2 zc : Int32) (fm : Value) (h0 : Heap) (n0 : Nat) (v : Option Value) (h : Heap) (L : List Loc) : Prop := v = none ∧ Fr n0 L ∧ Keep h0 h [t] ∧ Arv Z h t kt .byte (16 : Int32) [(.int b0), (.int b1), (.int b2), (.int b3), (.int b4), (.int b5), (.int c0), (.int c1), (.int c2)] (.int (0 : Int32))
set_option maxRecDepth 65536 in
set_option maxHeartbeats 40000000 in
theorem rmGb6_3 (l : Launch) (Z : State) (a0 : Array Value) (hw : ∀ d ∈ tables_1, d.before a0 Z = true) (ws : List Jvm.Cond) (t : Addr) (kt : ClassId) (y ty : Addr) (ky : ClassId) (b0 b1 b2 b3 b4 b5 c0 c1 c2 zc : Int32) (fm : Value) (h0 : Heap) (n0 : Nat) (Z0 : n0 ≤ h0.size) (O0 : Old Z n0 h0) (S_CS : Sta Z Z.heap "java/lang/String" "COMPACT_STRINGS" "Z" (.int zc)) (hzc : ¬ zc = 0) (S_FM : Sta Z Z.heap "jdk/internal/util/Preconditions" "SIOOBE_FORMATTER" "Ljava/util/function/BiFunction;" fm) (hfm : fm.isRef = true) (gt : n0 ≤ t) (Vt : Arv Z h0 t kt .byte (16 : Int32) [(.int b0), (.int b1), (.int b2), (.int b3), (.int b4), (.int b5)] (.int (0 : Int32))) (Ey : Exa Z h0 y "java/lang/String") (Vy : Fld Z h0 y "java/lang/String" "value" "[B" (.ref ty)) (Cy : Fld Z h0 y "java/lang/String" "coder" "B" (.int (0 : Int32))) (Ky : Arv Z h0 ty ky .byte (3 : Int32) [(.int c0), (.int c1), (.int c2)] (.int (0 : Int32))) (nety : ty ≠ t) :
    OwnLaw l y15_ jdk_42_method_147_code 4 none ws (rR 1 0 0 18) #[(.ref y), (.ref t), (.int (6 : Int32)), (.int (0 : Int32))] Z h0 (QGb6_3 Z t kt y ty ky b0 b1 b2 b3 b4 b5 c0 c1 c2 zc fm h0 n0) := by
  refine own_enter (plainFor_of_name pn_java_lang_String) (efGb6_3 y t) ?_
  intro p e s m below meth c s₁ Bd hx hby hml hZ hown X0 e0
  have N0 := Fr.nil n0
  have K0 : Keep h0 h0 [] := Keep.refl _ _
  have K0 : Keep h0 h0 [t] := Keep.refl _ _
  refine P1.aloadN X0.here hx (hb hby d18_0) rfl rfl ?_
  refine Goes.callV X0 hx hZ (y := y14_) (z := y14_) hown (mvT hZ (own_w hw 75 rfl)) (mvT hZ (own_w hw 76 rfl)) (notFace_of_selects (args := #[]) (mvT hZ (own_w hw 78 rfl))) (mvT hZ (own_w hw 78 rfl)) (mvT hZ (own_w hw 77 rfl)) (by decide) (kc' := 0) (ks' := 0) (backOf (W := 0) (rmCod l Z a0 hw [] y zc fm h0 n0 Z0 O0 S_CS hzc S_FM hfm Cy) hZ (own_w hw 79 rfl) (own_w hw 2 rfl) (ok rfl) (ok rfl)) (b := y) e0 Ey (g := (mkF m 1 #[.val (.ref y), .val (.ref t), .val (.int (6 : Int32)), .val (.int (0 : Int32))] [(.ref y)])) rfl (by rw [hml]; rfl) (argsL := []) (rest := []) (lenOf pd_320 rfl) rfl (by show 2 * 0 + _ ≤ _; exact Nat.le_of_eq rfl) (hb hby d18_1) rfl (ok rfl) (ok rfl) ?_
  intro v540 T540 L540 q540 X540
  obtain ⟨rfl, N540q, hE540⟩ := q540
  have N540 := Fr.app N0 N540q
  show Goes p e below _ T540 (mkF m 4 #[.val (.ref y), .val (.ref t), .val (.int (6 : Int32)), .val (.int (0 : Int32))] [(.int (0 : Int32))])
  refine P1.iloadN X540.here hx (hb hby d18_4) rfl ?_
  refine P1.icmpNo X540.here hx (hb hby d18_5) (teq (by decide : (0 : Int32) = (0 : Int32))).2 ?_
  refine P1.aloadN X540.here hx (hb hby d18_8) rfl rfl ?_
  obtain ⟨T541, X541, e541, st541⟩ := getF X540 hx hZ hown (host := "") (Or.inl (own_w hw 28 rfl)) Via.refl hE540 Vy (g := (mkF m 9 #[.val (.ref y), .val (.ref t), .val (.int (6 : Int32)), .val (.int (0 : Int32))] [(.ref y)])) rfl rfl (hb hby d18_9)
  refine Goes.step (T' := T541) (g' := (mkF m 12 #[.val (.ref y), .val (.ref t), .val (.int (6 : Int32)), .val (.int (0 : Int32))] [(.ref ty)])) st541 ?_
  refine P1.iconst X541.here hx (0 : Int32) (hb hby d18_12) rfl ?_
  refine P1.aloadN X541.here hx (hb hby d18_13) rfl rfl ?_
  refine P1.iloadN X541.here hx (hb hby d18_14) rfl ?_
  refine P1.iloadN X541.here hx (hb hby d18_15) rfl ?_
  refine Goes.step (T' := T541) (g' := (mkF m 17 #[.val (.ref y), .val (.ref t), .val (.int (6 : Int32)), .val (.int (0 : Int32))] [(.int ((6 : Int32) <<< ((0 : Int32) &&& 31))), (.ref t), (.int (0 : Int32)), (.ref ty)])) (fun t_ k_ => XS.ishl X541.here hx rfl (hb hby d18_16) rfl k_) ?_
  have rw542 : ((6 : Int32) <<< ((0 : Int32) &&& 31)) = (6 : Int32) := by decide
  rw [rw542]
  refine P1.aloadN X541.here hx (hb hby d18_17) rfl rfl ?_
  obtain ⟨T543, X543, e543, st543⟩ := getF X541 hx hZ hown (host := "") (Or.inl (own_w hw 28 rfl)) Via.refl e541 Vy (g := (mkF m 18 #[.val (.ref y), .val (.ref t), .val (.int (6 : Int32)), .val (.int (0 : Int32))] [(.ref y), (.int (6 : Int32)), (.ref t), (.int (0 : Int32)), (.ref ty)])) rfl rfl (hb hby d18_18)
  refine Goes.step (T' := T543) (g' := (mkF m 21 #[.val (.ref y), .val (.ref t), .val (.int (6 : Int32)), .val (.int (0 : Int32))] [(.ref ty), (.int (6 : Int32)), (.ref t), (.int (0 : Int32)), (.ref ty)])) st543 ?_
  obtain ⟨cl544, Ar544, qk544, sl544, nz544, ha544, fi544⟩ := id Ky
  have al545 : cl544.slots.size.toInt32 = (3 : Int32) := len_of sl544 nz544
  refine Goes.step (T' := T543) (g' := (mkF m 22 #[.val (.ref y), .val (.ref t), .val (.int (6 : Int32)), .val (.int (0 : Int32))] [(.int (3 : Int32)), (.int (6 : Int32)), (.ref t), (.int (0 : Int32)), (.ref ty)])) (fun t_ k_ => X543.arraylength hx (by rw [e543]; exact Ar544.1) (State.isArrayOf_alike hZ.alike Ar544.2.1) (g := (mkF m 21 #[.val (.ref y), .val (.ref t), .val (.int (6 : Int32)), .val (.int (0 : Int32))] [(.ref ty), (.int (6 : Int32)), (.ref t), (.int (0 : Int32)), (.ref ty)])) rfl rfl (hb hby d18_21) _ <| by rw [al545]; exact k_) ?_
  have V546 : Arv Z h0 t kt .byte (16 : Int32) [(.int b0), (.int b1), (.int b2), (.int b3), (.int b4), (.int b5), (.int (0 : Int32)), (.int (0 : Int32)), (.int (0 : Int32))] (.int (0 : Int32)) := Vt.pad (pad_rep [(.int b0), (.int b1), (.int b2), (.int b3), (.int b4), (.int b5)] (.int (0 : Int32)) 3)
  obtain ⟨T547, h547, L547, X547, e547, N547, K547, Va547, st547⟩ := cpA X543 hx hZ hown (own_w hw 103 rfl) (own_w hw 106 rfl) (own_w hw 104 rfl) (own_w hw 105 rfl) e543 Ky V546 (us := [(.int c0), (.int c1), (.int c2)]) (Or.inl ⟨rfl, rfl⟩) (by decide) (by decide) (by decide) (ok rfl) (ok rfl) rfl (ok rfl) N540 gt (g := (mkF m 22 #[.val (.ref y), .val (.ref t), .val (.int (6 : Int32)), .val (.int (0 : Int32))] [(.int (3 : Int32)), (.int (6 : Int32)), (.ref t), (.int (0 : Int32)), (.ref ty)])) rfl (by rw [hml]; rfl) rfl (hb hby d18_22) (ok rfl) (W := 0) (by show 2 * 0 + _ ≤ _; exact Nat.le_of_eq rfl) (ok rfl)
  have V547 : Arv Z h547 t kt .byte (16 : Int32) [(.int b0), (.int b1), (.int b2), (.int b3), (.int b4), (.int b5), (.int c0), (.int c1), (.int c2)] (.int (0 : Int32)) := Va547
  refine Goes.step (T' := T547) (g' := (mkF m 25 #[.val (.ref y), .val (.ref t), .val (.int (6 : Int32)), .val (.int (0 : Int32))] [])) st547 ?_
  refine P1.goto X547.here hx 43 (hb hby d18_25) (by decide) (by decide) ?_
  refine Goes.retV X547 hx Bd.notSynchronized Bd.returns (hb hby d18_43) (ok rfl) (ok rfl) ?_
  rw [e547]
  have K548 : Keep h0 h547 [t] := K0.trans K547 (allS (Or.inl (by simp)) all0)
  exact ⟨rfl, N547, K548, V547⟩
theorem efPu6_3 (x y : Addr) (m : MethodId) : entryFrame m #[(.ref x), (.int (6 : Int32)), (.ref y)] 3 = mkF m 0 #[.val (.ref x), .val (.int (6 : Int32)), .val (.ref y)] [] := by first | (simp [entryFrame, mkF, argsToLocals, Value.category]; done) | rfl
def QPu6_3 (Z : State) (x t : Addr) (kt : ClassId) (y ty : Addr) (ky : ClassId) (b0 b1 b2 b3 b4 b5 c0 c1 c2 zc : Int32) (fm : Value) (h0 : Heap) (n0 : Nat) (v : Option Value) (h : Heap) (L : List Loc) : Prop := v = none ∧ Fr n0 L ∧ Keep h0 h [x, t] ∧ Exa Z h x "java/lang/StringBuilder" ∧ Fld Z h x "java/lang/AbstractStringBuilder" "value" "[B" (.ref t) ∧ Fld Z h x "java/lang/AbstractStringBuilder" "coder" "B" (.int (0 : Int32)) ∧ Fld Z h x "java/lang/AbstractStringBuilder" "count" "I" (.int (6 : Int32)) ∧ Arv Z h t kt .byte (16 : Int32) [(.int b0), (.int b1), (.int b2), (.int b3), (.int b4), (.int b5), (.int c0), (.int c1), (.int c2)] (.int (0 : Int32))
set_option maxRecDepth 65536 in
set_option maxHeartbeats 40000000 in
theorem rmPu6_3 (l : Launch) (Z : State) (a0 : Array Value) (hw : ∀ d ∈ tables_1, d.before a0 Z = true) (ws : List Jvm.Cond) (x t : Addr) (kt : ClassId) (y ty : Addr) (ky : ClassId) (b0 b1 b2 b3 b4 b5 c0 c1 c2 zc : Int32) (fm : Value) (h0 : Heap) (n0 : Nat) (Z0 : n0 ≤ h0.size) (O0 : Old Z n0 h0) (S_CS : Sta Z Z.heap "java/lang/String" "COMPACT_STRINGS" "Z" (.int zc)) (hzc : ¬ zc = 0) (S_FM : Sta Z Z.heap "jdk/internal/util/Preconditions" "SIOOBE_FORMATTER" "Ljava/util/function/BiFunction;" fm) (hfm : fm.isRef = true) (gx : n0 ≤ x) (gt : n0 ≤ t) (Ex : Exa Z h0 x "java/lang/StringBuilder") (Fv : Fld Z h0 x "java/lang/AbstractStringBuilder" "value" "[B" (.ref t)) (Fc : Fld Z h0 x "java/lang/AbstractStringBuilder" "coder" "B" (.int (0 : Int32))) (Fn : Fld Z h0 x "java/lang/AbstractStringBuilder" "count" "I" (.int (6 : Int32))) (Vt : Arv Z h0 t kt .byte (16 : Int32) [(.int b0), (.int b1), (.int b2), (.int b3), (.int b4), (.int b5)] (.int (0 : Int32))) (Ey : Exa Z h0 y "java/lang/String") (Vy : Fld Z h0 y "java/lang/String" "value" "[B" (.ref ty)) (Cy : Fld Z h0 y "java/lang/String" "coder" "B" (.int (0 : Int32))) (Ky : Arv Z h0 ty ky .byte (3 : Int32) [(.int c0), (.int c1), (.int c2)] (.int (0 : Int32))) (nety : ty ≠ t) :
    OwnLaw l y8_ jdk_68_method_73_code 3 none ws (rR 2 0 0 33) #[(.ref x), (.int (6 : Int32)), (.ref y)] Z h0 (QPu6_3 Z x t kt y ty ky b0 b1 b2 b3 b4 b5 c0 c1 c2 zc fm h0 n0) := by
  refine own_enter (plainFor_of_name pn_java_lang_AbstractStringBuilder) (efPu6_3 x y) ?_
  intro p e s m below meth c s₁ Bd hx hby hml hZ hown X0 e0
  have N0 := Fr.nil n0
  have K0 : Keep h0 h0 [] := Keep.refl _ _
  have K0 : Keep h0 h0 [x, t] := Keep.refl _ _
  refine P1.aloadN X0.here hx (hb hby d16_0) rfl rfl ?_
  refine P1.aloadN X0.here hx (hb hby d16_1) rfl rfl ?_
  refine Goes.callV X0 hx hZ (y := y5_) (z := y5_) hown (mvT hZ (own_w hw 92 rfl)) (mvT hZ (own_declares (own_w hw 93 rfl) (own_w hw 96 rfl))) (notFace_of_selects (args := #[]) (mvT hZ (own_w hw 95 rfl))) (mvT hZ (own_w hw 95 rfl)) (mvT hZ (own_w hw 93 rfl)) (by decide) (kc' := 0) (ks' := 0) (backOf (W := 0) (rmInf l Z a0 hw [] x y zc fm h0 n0 Z0 O0 S_CS hzc S_FM hfm Fc Ey Cy) hZ (own_w hw 96 rfl) (own_w hw 49 rfl) (ok rfl) (ok rfl)) (b := x) e0 Ex (g := (mkF m 2 #[.val (.ref x), .val (.int (6 : Int32)), .val (.ref y)] [(.ref y), (.ref x)])) rfl (by rw [hml]; rfl) (argsL := [(.ref y)]) (rest := []) (lenOf pd_20497 rfl) rfl (by show 2 * 0 + _ ≤ _; exact Nat.le_of_eq rfl) (hb hby d16_2) rfl (ok rfl) (ok rfl) ?_
  intro v549 T549 L549 q549 X549
  obtain ⟨rfl, N549q, hE549⟩ := q549
  have N549 := Fr.app N0 N549q
  show Goes p e below _ T549 (mkF m 5 #[.val (.ref x), .val (.int (6 : Int32)), .val (.ref y)] [])
  refine P1.aloadN X549.here hx (hb hby d16_5) rfl rfl ?_
  refine P1.aloadN X549.here hx (hb hby d16_6) rfl rfl ?_
  obtain ⟨T550, X550, e550, st550⟩ := getF X549 hx hZ hown (host := "") (Or.inl (own_w hw 53 rfl)) Via.refl hE549 Fv (g := (mkF m 7 #[.val (.ref x), .val (.int (6 : Int32)), .val (.ref y)] [(.ref x), (.ref y)])) rfl rfl (hb hby d16_7)
  refine Goes.step (T' := T550) (g' := (mkF m 10 #[.val (.ref x), .val (.int (6 : Int32)), .val (.ref y)] [(.ref t), (.ref y)])) st550 ?_
  refine P1.iloadN X550.here hx (hb hby d16_10) rfl ?_
  refine P1.aloadN X550.here hx (hb hby d16_11) rfl rfl ?_
  obtain ⟨T551, X551, e551, st551⟩ := getF X550 hx hZ hown (host := "") (Or.inl (own_w hw 55 rfl)) Via.refl e550 Fc (g := (mkF m 12 #[.val (.ref x), .val (.int (6 : Int32)), .val (.ref y)] [(.ref x), (.int (6 : Int32)), (.ref t), (.ref y)])) rfl rfl (hb hby d16_12)
  refine Goes.step (T' := T551) (g' := (mkF m 15 #[.val (.ref x), .val (.int (6 : Int32)), .val (.ref y)] [(.int (0 : Int32)), (.int (6 : Int32)), (.ref t), (.ref y)])) st551 ?_
  refine Goes.callV X551 hx hZ (y := y15_) (z := y15_) hown (mvT hZ (own_w hw 98 rfl)) (mvT hZ (own_w hw 99 rfl)) (notFace_of_selects (args := #[]) (mvT hZ (own_w hw 101 rfl))) (mvT hZ (own_w hw 101 rfl)) (mvT hZ (own_w hw 100 rfl)) (by decide) (kc' := 0) (ks' := 0) (backOf (W := 0) (rmGb6_3 l Z a0 hw [] t kt y ty ky b0 b1 b2 b3 b4 b5 c0 c1 c2 zc fm h0 n0 Z0 O0 S_CS hzc S_FM hfm gt Vt Ey Vy Cy Ky nety) hZ (own_w hw 102 rfl) (own_w hw 2 rfl) (ok rfl) (ok rfl)) (b := y) e551 Ey (g := (mkF m 15 #[.val (.ref x), .val (.int (6 : Int32)), .val (.ref y)] [(.int (0 : Int32)), (.int (6 : Int32)), (.ref t), (.ref y)])) rfl (by rw [hml]; rfl) (argsL := [(.ref t), (.int (6 : Int32)), (.int (0 : Int32))]) (rest := []) (lenOf pd_1890 rfl) rfl (by show 2 * 0 + _ ≤ _; exact Nat.le_of_eq rfl) (hb hby d16_15) rfl (ok rfl) (ok rfl) ?_
  intro v552 T552 L552 q552 X552
  obtain ⟨rfl, N552q, K552, g552V⟩ := q552
  have N552 := Fr.app N549 N552q
  show Goes p e below _ T552 (mkF m 18 #[.val (.ref x), .val (.int (6 : Int32)), .val (.ref y)] [])
  refine Goes.retV X552 hx Bd.notSynchronized Bd.returns (hb hby d16_18) (ok rfl) (ok rfl) ?_
  have K553 : Keep h0 T552.heap [x, t] := K0.trans K552 (allS (Or.inl (by simp)) all0)
  have E554 : Exa Z T552.heap x "java/lang/StringBuilder" := Ex.keep K552
  have ne555 : x ≠ t := own_ne_arv E554 (own_w hw 40 rfl) g552V
  have F556 : Fld Z T552.heap x "java/lang/AbstractStringBuilder" "value" "[B" (.ref t) := Fv.keep K552 (ninS ne555 nin0)
  have F557 : Fld Z T552.heap x "java/lang/AbstractStringBuilder" "coder" "B" (.int (0 : Int32)) := Fc.keep K552 (ninS ne555 nin0)
  have F558 : Fld Z T552.heap x "java/lang/AbstractStringBuilder" "count" "I" (.int (6 : Int32)) := Fn.keep K552 (ninS ne555 nin0)
  exact ⟨rfl, N552, K553, E554, F556, F557, F558, g552V⟩
theorem efLen3 (a : Addr) (m : MethodId) : entryFrame m #[(.ref a)] 1 = mkF m 0 #[.val (.ref a)] [] := by first | (simp [entryFrame, mkF, argsToLocals, Value.category]; done) | rfl
def QLen3 (Z : State) (a t : Addr) (kt : ClassId) (vs : List Value) (zc : Int32) (fm : Value) (h0 : Heap) (n0 : Nat) (v : Option Value) (h : Heap) (L : List Loc) : Prop := v = some (.int (3 : Int32)) ∧ Fr n0 L ∧ h = h0
set_option maxRecDepth 65536 in
set_option maxHeartbeats 40000000 in
theorem rmLen3 (l : Launch) (Z : State) (a0 : Array Value) (hw : ∀ d ∈ tables_1, d.before a0 Z = true) (ws : List Jvm.Cond) (a t : Addr) (kt : ClassId) (vs : List Value) (zc : Int32) (fm : Value) (h0 : Heap) (n0 : Nat) (Z0 : n0 ≤ h0.size) (O0 : Old Z n0 h0) (S_CS : Sta Z Z.heap "java/lang/String" "COMPACT_STRINGS" "Z" (.int zc)) (hzc : ¬ zc = 0) (S_FM : Sta Z Z.heap "jdk/internal/util/Preconditions" "SIOOBE_FORMATTER" "Ljava/util/function/BiFunction;" fm) (hfm : fm.isRef = true) (Ea : Exa Z h0 a "java/lang/String") (Fa : Fld Z h0 a "java/lang/String" "value" "[B" (.ref t)) (Fc : Fld Z h0 a "java/lang/String" "coder" "B" (.int (0 : Int32))) (Vt : Arv Z h0 t kt .byte (3 : Int32) vs (.int (0 : Int32))) :
    OwnLaw l y17_ jdk_42_method_54_code 1 (some .int) ws (rR 1 0 0 13) #[(.ref a)] Z h0 (QLen3 Z a t kt vs zc fm h0 n0) := by
  refine own_enter (plainFor_of_name pn_java_lang_String) (efLen3 a) ?_
  intro p e s m below meth c s₁ Bd hx hby hml hZ hown X0 e0
  have N0 := Fr.nil n0
  have K0 : Keep h0 h0 [] := Keep.refl _ _
  refine P1.aloadN X0.here hx (hb hby d13_0) rfl rfl ?_
  obtain ⟨T559, X559, e559, st559⟩ := getF X0 hx hZ hown (host := "") (Or.inl (own_w hw 28 rfl)) Via.refl e0 Fa (g := (mkF m 1 #[.val (.ref a)] [(.ref a)])) rfl rfl (hb hby d13_1)
  refine Goes.step (T' := T559) (g' := (mkF m 4 #[.val (.ref a)] [(.ref t)])) st559 ?_
  obtain ⟨cl560, Ar560, qk560, sl560, nz560, ha560, fi560⟩ := id Vt
  have al561 : cl560.slots.size.toInt32 = (3 : Int32) := len_of sl560 nz560
  refine Goes.step (T' := T559) (g' := (mkF m 5 #[.val (.ref a)] [(.int (3 : Int32))])) (fun t_ k_ => X559.arraylength hx (by rw [e559]; exact Ar560.1) (State.isArrayOf_alike hZ.alike Ar560.2.1) (g := (mkF m 4 #[.val (.ref a)] [(.ref t)])) rfl rfl (hb hby d13_4) _ <| by rw [al561]; exact k_) ?_
  refine P1.aloadN X559.here hx (hb hby d13_5) rfl rfl ?_
  refine Goes.callV X559 hx hZ (y := y14_) (z := y14_) hown (mvT hZ (own_w hw 75 rfl)) (mvT hZ (own_w hw 76 rfl)) (notFace_of_selects (args := #[]) (mvT hZ (own_w hw 78 rfl))) (mvT hZ (own_w hw 78 rfl)) (mvT hZ (own_w hw 77 rfl)) (by decide) (kc' := 0) (ks' := 0) (backOf (W := 1) (rmCod l Z a0 hw [] a zc fm h0 n0 Z0 O0 S_CS hzc S_FM hfm Fc) hZ (own_w hw 79 rfl) (own_w hw 2 rfl) (ok rfl) (ok rfl)) (b := a) e559 Ea (g := (mkF m 6 #[.val (.ref a)] [(.ref a), (.int (3 : Int32))])) rfl (by rw [hml]; rfl) (argsL := []) (rest := [(.int (3 : Int32))]) (lenOf pd_320 rfl) rfl (by show 2 * 0 + _ ≤ _; exact Nat.le_of_eq rfl) (hb hby d13_6) rfl (ok rfl) (ok rfl) ?_
  intro v562 T562 L562 q562 X562
  obtain ⟨rfl, N562q, hE562⟩ := q562
  have N562 := Fr.app N0 N562q
  show Goes p e below _ T562 (mkF m 9 #[.val (.ref a)] [(.int (0 : Int32)), (.int (3 : Int32))])
  refine Goes.step (T' := T562) (g' := (mkF m 10 #[.val (.ref a)] [(.int ((3 : Int32) >>> ((0 : Int32) &&& 31)))])) (fun t_ k_ => XS.ishr X562.here hx rfl (hb hby d13_9) rfl k_) ?_
  have rw563 : ((3 : Int32) >>> ((0 : Int32) &&& 31)) = (3 : Int32) := by decide
  rw [rw563]
  refine Goes.retI X562 hx Bd.notSynchronized Bd.returns (hb hby d13_10) (ok rfl) (ok rfl) ?_
  rw [hE562]
  exact ⟨rfl, N562, rfl⟩
theorem efAp6_3 (x y : Addr) (m : MethodId) : entryFrame m #[(.ref x), (.ref y)] 3 = mkF m 0 #[.val (.ref x), .val (.ref y), .unset] [] := by first | (simp [entryFrame, mkF, argsToLocals, Value.category]; done) | rfl
def QAp6_3 (Z : State) (x t : Addr) (kt : ClassId) (y ty : Addr) (ky : ClassId) (b0 b1 b2 b3 b4 b5 c0 c1 c2 zc : Int32) (fm : Value) (h0 : Heap) (n0 : Nat) (v : Option Value) (h : Heap) (L : List Loc) : Prop := v = some (.ref x) ∧ Fr n0 L ∧ Keep h0 h [x, t] ∧ Exa Z h x "java/lang/StringBuilder" ∧ Fld Z h x "java/lang/AbstractStringBuilder" "value" "[B" (.ref t) ∧ Fld Z h x "java/lang/AbstractStringBuilder" "coder" "B" (.int (0 : Int32)) ∧ Fld Z h x "java/lang/AbstractStringBuilder" "count" "I" (.int (9 : Int32)) ∧ Arv Z h t kt .byte (16 : Int32) [(.int b0), (.int b1), (.int b2), (.int b3), (.int b4), (.int b5), (.int c0), (.int c1), (.int c2)] (.int (0 : Int32))
set_option maxRecDepth 65536 in
set_option maxHeartbeats 40000000 in
theorem rmAp6_3 (l : Launch) (Z : State) (a0 : Array Value) (hw : ∀ d ∈ tables_1, d.before a0 Z = true) (ws : List Jvm.Cond) (x t : Addr) (kt : ClassId) (y ty : Addr) (ky : ClassId) (b0 b1 b2 b3 b4 b5 c0 c1 c2 zc : Int32) (fm : Value) (h0 : Heap) (n0 : Nat) (Z0 : n0 ≤ h0.size) (O0 : Old Z n0 h0) (S_CS : Sta Z Z.heap "java/lang/String" "COMPACT_STRINGS" "Z" (.int zc)) (hzc : ¬ zc = 0) (S_FM : Sta Z Z.heap "jdk/internal/util/Preconditions" "SIOOBE_FORMATTER" "Ljava/util/function/BiFunction;" fm) (hfm : fm.isRef = true) (gx : n0 ≤ x) (gt : n0 ≤ t) (Ex : Exa Z h0 x "java/lang/StringBuilder") (Fv : Fld Z h0 x "java/lang/AbstractStringBuilder" "value" "[B" (.ref t)) (Fc : Fld Z h0 x "java/lang/AbstractStringBuilder" "coder" "B" (.int (0 : Int32))) (Fn : Fld Z h0 x "java/lang/AbstractStringBuilder" "count" "I" (.int (6 : Int32))) (Vt : Arv Z h0 t kt .byte (16 : Int32) [(.int b0), (.int b1), (.int b2), (.int b3), (.int b4), (.int b5)] (.int (0 : Int32))) (Ey : Exa Z h0 y "java/lang/String") (Vy : Fld Z h0 y "java/lang/String" "value" "[B" (.ref ty)) (Cy : Fld Z h0 y "java/lang/String" "coder" "B" (.int (0 : Int32))) (Ky : Arv Z h0 ty ky .byte (3 : Int32) [(.int c0), (.int c1), (.int c2)] (.int (0 : Int32))) (nety : ty ≠ t) :
    OwnLaw l y2_ jdk_68_method_22_code 3 (some (.object "java/lang/AbstractStringBuilder")) ws (rR 3 0 0 47) #[(.ref x), (.ref y)] Z h0 (QAp6_3 Z x t kt y ty ky b0 b1 b2 b3 b4 b5 c0 c1 c2 zc fm h0 n0) := by
  refine own_enter (plainFor_of_name pn_java_lang_AbstractStringBuilder) (efAp6_3 x y) ?_
  intro p e s m below meth c s₁ Bd hx hby hml hZ hown X0 e0
  have N0 := Fr.nil n0
  have K0 : Keep h0 h0 [] := Keep.refl _ _
  have K0 : Keep h0 h0 [x, t] := Keep.refl _ _
  refine P1.aloadN X0.here hx (hb hby d12_0) rfl rfl ?_
  refine P1.ifnonnullYes X0.here hx 9 (hb hby d12_1) (by decide) (by decide) ?_
  refine P1.aloadN X0.here hx (hb hby d12_9) rfl rfl ?_
  refine Goes.callV X0 hx hZ (y := y17_) (z := y17_) hown (mvT hZ (own_w hw 70 rfl)) (mvT hZ (own_w hw 71 rfl)) (notFace_of_selects (args := #[]) (mvT hZ (own_w hw 73 rfl))) (mvT hZ (own_w hw 73 rfl)) (mvT hZ (own_w hw 72 rfl)) (by decide) (kc' := 0) (ks' := 0) (backOf (W := 0) (rmLen3 l Z a0 hw [] y ty ky [(.int c0), (.int c1), (.int c2)] zc fm h0 n0 Z0 O0 S_CS hzc S_FM hfm Ey Vy Cy Ky) hZ (own_w hw 74 rfl) (own_w hw 2 rfl) (ok rfl) (ok rfl)) (b := y) e0 Ey (g := (mkF m 10 #[.val (.ref x), .val (.ref y), .unset] [(.ref y)])) rfl (by rw [hml]; rfl) (argsL := []) (rest := []) (lenOf pd_341 rfl) rfl (by show 2 * 0 + _ ≤ _; exact Nat.le_of_eq rfl) (hb hby d12_10) rfl (ok rfl) (ok rfl) ?_
  intro v564 T564 L564 q564 X564
  obtain ⟨rfl, N564q, hE564⟩ := q564
  have N564 := Fr.app N0 N564q
  show Goes p e below _ T564 (mkF m 13 #[.val (.ref x), .val (.ref y), .unset] [(.int (3 : Int32))])
  refine P1.istoreN X564.here hx #[.val (.ref x), .val (.ref y), .val (.int (3 : Int32))] (hb hby d12_13) rfl ?_
  refine P1.aloadN X564.here hx (hb hby d12_14) rfl rfl ?_
  refine P1.aloadN X564.here hx (hb hby d12_15) rfl rfl ?_
  obtain ⟨T565, X565, e565, st565⟩ := getF X564 hx hZ hown (host := "") (Or.inl (own_w hw 80 rfl)) Via.refl hE564 Fn (g := (mkF m 16 #[.val (.ref x), .val (.ref y), .val (.int (3 : Int32))] [(.ref x), (.ref x)])) rfl rfl (hb hby d12_16)
  refine Goes.step (T' := T565) (g' := (mkF m 19 #[.val (.ref x), .val (.ref y), .val (.int (3 : Int32))] [(.int (6 : Int32)), (.ref x)])) st565 ?_
  refine P1.iloadN X565.here hx (hb hby d12_19) rfl ?_
  refine P1.iadd X565.here hx (hb hby d12_20) ?_
  have rw566 : ((6 : Int32) + (3 : Int32)) = (9 : Int32) := by decide
  rw [rw566]
  refine Goes.callV X565 hx hZ (y := y3_) (z := y3_) hown (mvT hZ (own_w hw 82 rfl)) (mvT hZ (own_declares (own_w hw 83 rfl) (own_w hw 86 rfl))) (notFace_of_selects (args := #[]) (mvT hZ (own_w hw 85 rfl))) (mvT hZ (own_w hw 85 rfl)) (mvT hZ (own_w hw 83 rfl)) (by decide) (kc' := 0) (ks' := 0) (backOf (W := 0) (rmEns9 l Z a0 hw [] x t kt [(.int b0), (.int b1), (.int b2), (.int b3), (.int b4), (.int b5)] h0 n0 Z0 O0 Ex Fv Fc Vt) hZ (own_w hw 86 rfl) (own_w hw 49 rfl) (ok rfl) (ok rfl)) (b := x) e565 Ex (g := (mkF m 21 #[.val (.ref x), .val (.ref y), .val (.int (3 : Int32))] [(.int (9 : Int32)), (.ref x)])) rfl (by rw [hml]; rfl) (argsL := [(.int (9 : Int32))]) (rest := []) (lenOf pd_653 rfl) rfl (by show 2 * 0 + _ ≤ _; exact Nat.le_of_eq rfl) (hb hby d12_21) rfl (ok rfl) (ok rfl) ?_
  intro v567 T567 L567 q567 X567
  obtain ⟨rfl, N567q, hE567⟩ := q567
  have N567 := Fr.app N564 N567q
  show Goes p e below _ T567 (mkF m 24 #[.val (.ref x), .val (.ref y), .val (.int (3 : Int32))] [])
  refine P1.aloadN X567.here hx (hb hby d12_24) rfl rfl ?_
  refine P1.aloadN X567.here hx (hb hby d12_25) rfl rfl ?_
  obtain ⟨T568, X568, e568, st568⟩ := getF X567 hx hZ hown (host := "") (Or.inl (own_w hw 80 rfl)) Via.refl hE567 Fn (g := (mkF m 26 #[.val (.ref x), .val (.ref y), .val (.int (3 : Int32))] [(.ref x), (.ref x)])) rfl rfl (hb hby d12_26)
  refine Goes.step (T' := T568) (g' := (mkF m 29 #[.val (.ref x), .val (.ref y), .val (.int (3 : Int32))] [(.int (6 : Int32)), (.ref x)])) st568 ?_
  refine P1.aloadN X568.here hx (hb hby d12_29) rfl rfl ?_
  refine Goes.callV X568 hx hZ (y := y8_) (z := y8_) hown (mvT hZ (own_w hw 87 rfl)) (mvT hZ (own_declares (own_w hw 88 rfl) (own_w hw 91 rfl))) (notFace_of_selects (args := #[]) (mvT hZ (own_w hw 90 rfl))) (mvT hZ (own_w hw 90 rfl)) (mvT hZ (own_w hw 88 rfl)) (by decide) (kc' := 0) (ks' := 0) (backOf (W := 0) (rmPu6_3 l Z a0 hw [] x t kt y ty ky b0 b1 b2 b3 b4 b5 c0 c1 c2 zc fm h0 n0 Z0 O0 S_CS hzc S_FM hfm gx gt Ex Fv Fc Fn Vt Ey Vy Cy Ky nety) hZ (own_w hw 91 rfl) (own_w hw 49 rfl) (ok rfl) (ok rfl)) (b := x) e568 Ex (g := (mkF m 30 #[.val (.ref x), .val (.ref y), .val (.int (3 : Int32))] [(.ref y), (.int (6 : Int32)), (.ref x)])) rfl (by rw [hml]; rfl) (argsL := [(.int (6 : Int32)), (.ref y)]) (rest := []) (lenOf pd_22466 rfl) rfl (by show 2 * 0 + _ ≤ _; exact Nat.le_of_eq rfl) (hb hby d12_30) rfl (ok rfl) (ok rfl) ?_
  intro v569 T569 L569 q569 X569
  obtain ⟨rfl, N569q, K569, g569E, g569v, g569c, g569n, g569V⟩ := q569
  have N569 := Fr.app N567 N569q
  show Goes p e below _ T569 (mkF m 33 #[.val (.ref x), .val (.ref y), .val (.int (3 : Int32))] [])
  refine P1.aloadN X569.here hx (hb hby d12_33) rfl rfl ?_
  refine P1.dup X569.here hx (hb hby d12_34) rfl ?_
  obtain ⟨T570, X570, e570, st570⟩ := getF X569 hx hZ hown (host := "") (Or.inl (own_w hw 80 rfl)) Via.refl rfl g569n (g := (mkF m 35 #[.val (.ref x), .val (.ref y), .val (.int (3 : Int32))] [(.ref x), (.ref x)])) rfl rfl (hb hby d12_35)
  refine Goes.step (T' := T570) (g' := (mkF m 38 #[.val (.ref x), .val (.ref y), .val (.int (3 : Int32))] [(.int (6 : Int32)), (.ref x)])) st570 ?_
  refine P1.iloadN X570.here hx (hb hby d12_38) rfl ?_
  refine P1.iadd X570.here hx (hb hby d12_39) ?_
  have rw571 : ((6 : Int32) + (3 : Int32)) = (9 : Int32) := by decide
  rw [rw571]
  obtain ⟨T572, h572, X572, e572, W572, st572⟩ := putF X570 hx hZ hown (host := "") (Or.inl (own_w hw 80 rfl)) Via.refl e570 g569n g569E (Or.inl (own_w hw 81 rfl)) (own_w hw 40 rfl) (ty := .int) (by decide) rfl rfl (g := (mkF m 40 #[.val (.ref x), .val (.ref y), .val (.int (3 : Int32))] [(.int (9 : Int32)), (.ref x)])) rfl rfl (hb hby d12_40)
  have Fw572 : Fld Z h572 x "java/lang/AbstractStringBuilder" "count" "I" (.int (9 : Int32)) := g569n.same W572
  have N572 := Fr.snoc X572 N569 gx
  refine Goes.step (T' := T572) (g' := (mkF m 43 #[.val (.ref x), .val (.ref y), .val (.int (3 : Int32))] [])) st572 ?_
  refine P1.aloadN X572.here hx (hb hby d12_43) rfl rfl ?_
  refine Goes.retA X572 hx Bd.notSynchronized Bd.returns rfl rfl (hb hby d12_44) (ok rfl) (ok rfl) ?_
  rw [e572]
  have K573 : Keep h0 T569.heap [x, t] := K0.trans K569 (allS (Or.inl (by simp)) (allS (Or.inl (by simp)) all0))
  have K574 : Keep h0 h572 [x, t] := K573.wr W572 (Or.inl (by simp))
  have E575 : Exa Z h572 x "java/lang/StringBuilder" := g569E.wr W572
  have F576 : Fld Z h572 x "java/lang/AbstractStringBuilder" "value" "[B" (.ref t) := g569v.other W572 (Or.inr (slot_ne (Or.inl (own_w hw 54 rfl)) (Or.inl (own_w hw 81 rfl)) (by decide) (t := (.array .byte)) (t' := .int) (by decide) (by decide)))
  have F577 : Fld Z h572 x "java/lang/AbstractStringBuilder" "coder" "B" (.int (0 : Int32)) := g569c.other W572 (Or.inr (slot_ne (Or.inl (own_w hw 56 rfl)) (Or.inl (own_w hw 81 rfl)) (by decide) (t := .byte) (t' := .int) (by decide) (by decide)))
  have ne578 : x ≠ t := own_ne_arv g569E (own_w hw 40 rfl) g569V
  have V579 : Arv Z h572 t kt .byte (16 : Int32) [(.int b0), (.int b1), (.int b2), (.int b3), (.int b4), (.int b5), (.int c0), (.int c1), (.int c2)] (.int (0 : Int32)) := g569V.other W572 (Ne.symm ne578)
  exact ⟨rfl, N572, K574, E575, F576, F577, Fw572, V579⟩
theorem efSp6_3 (x y : Addr) (m : MethodId) : entryFrame m #[(.ref x), (.ref y)] 2 = mkF m 0 #[.val (.ref x), .val (.ref y)] [] := by first | (simp [entryFrame, mkF, argsToLocals, Value.category]; done) | rfl
def QSp6_3 (Z : State) (x t : Addr) (kt : ClassId) (y ty : Addr) (ky : ClassId) (b0 b1 b2 b3 b4 b5 c0 c1 c2 zc : Int32) (fm : Value) (h0 : Heap) (n0 : Nat) (v : Option Value) (h : Heap) (L : List Loc) : Prop := v = some (.ref x) ∧ Fr n0 L ∧ Keep h0 h [x, t] ∧ Exa Z h x "java/lang/StringBuilder" ∧ Fld Z h x "java/lang/AbstractStringBuilder" "value" "[B" (.ref t) ∧ Fld Z h x "java/lang/AbstractStringBuilder" "coder" "B" (.int (0 : Int32)) ∧ Fld Z h x "java/lang/AbstractStringBuilder" "count" "I" (.int (9 : Int32)) ∧ Arv Z h t kt .byte (16 : Int32) [(.int b0), (.int b1), (.int b2), (.int b3), (.int b4), (.int b5), (.int c0), (.int c1), (.int c2)] (.int (0 : Int32))
set_option maxRecDepth 65536 in
set_option maxHeartbeats 40000000 in
theorem rmSp6_3 (l : Launch) (Z : State) (a0 : Array Value) (hw : ∀ d ∈ tables_1, d.before a0 Z = true) (ws : List Jvm.Cond) (x t : Addr) (kt : ClassId) (y ty : Addr) (ky : ClassId) (b0 b1 b2 b3 b4 b5 c0 c1 c2 zc : Int32) (fm : Value) (h0 : Heap) (n0 : Nat) (Z0 : n0 ≤ h0.size) (O0 : Old Z n0 h0) (S_CS : Sta Z Z.heap "java/lang/String" "COMPACT_STRINGS" "Z" (.int zc)) (hzc : ¬ zc = 0) (S_FM : Sta Z Z.heap "jdk/internal/util/Preconditions" "SIOOBE_FORMATTER" "Ljava/util/function/BiFunction;" fm) (hfm : fm.isRef = true) (gx : n0 ≤ x) (gt : n0 ≤ t) (Ex : Exa Z h0 x "java/lang/StringBuilder") (Fv : Fld Z h0 x "java/lang/AbstractStringBuilder" "value" "[B" (.ref t)) (Fc : Fld Z h0 x "java/lang/AbstractStringBuilder" "coder" "B" (.int (0 : Int32))) (Fn : Fld Z h0 x "java/lang/AbstractStringBuilder" "count" "I" (.int (6 : Int32))) (Vt : Arv Z h0 t kt .byte (16 : Int32) [(.int b0), (.int b1), (.int b2), (.int b3), (.int b4), (.int b5)] (.int (0 : Int32))) (Ey : Exa Z h0 y "java/lang/String") (Vy : Fld Z h0 y "java/lang/String" "value" "[B" (.ref ty)) (Cy : Fld Z h0 y "java/lang/String" "coder" "B" (.int (0 : Int32))) (Ky : Arv Z h0 ty ky .byte (3 : Int32) [(.int c0), (.int c1), (.int c2)] (.int (0 : Int32))) (nety : ty ≠ t) :
    OwnLaw l y19_ jdk_67_method_7_code 2 (some (.object "java/lang/StringBuilder")) ws (rR 4 0 0 61) #[(.ref x), (.ref y)] Z h0 (QSp6_3 Z x t kt y ty ky b0 b1 b2 b3 b4 b5 c0 c1 c2 zc fm h0 n0) := by
  refine own_enter (plainFor_of_name pn_java_lang_StringBuilder) (efSp6_3 x y) ?_
  intro p e s m below meth c s₁ Bd hx hby hml hZ hown X0 e0
  have N0 := Fr.nil n0
  have K0 : Keep h0 h0 [] := Keep.refl _ _
  have K0 : Keep h0 h0 [x, t] := Keep.refl _ _
  refine P1.aloadN X0.here hx (hb hby d11_0) rfl rfl ?_
  refine P1.aloadN X0.here hx (hb hby d11_1) rfl rfl ?_
  refine Goes.callSup X0 hx hZ (y := y2_) hown (own_w hw 65 rfl) (own_sameMethod (own_w hw 66 rfl) (own_w hw 85 rfl) rfl (by decide)) (own_w hw 66 rfl) (own_w hw 67 rfl) (by decide) (kc' := 0) (ks' := 0) (backOf (W := 0) (rmAp6_3 l Z a0 hw [] x t kt y ty ky b0 b1 b2 b3 b4 b5 c0 c1 c2 zc fm h0 n0 Z0 O0 S_CS hzc S_FM hfm gx gt Ex Fv Fc Fn Vt Ey Vy Cy Ky nety) hZ (own_w hw 69 rfl) (own_w hw 49 rfl) (ok rfl) (ok rfl)) (a := x) e0 (Ins.of_exa Ex (own_w hw 48 rfl)) (own_w hw 69 rfl) (g := (mkF m 2 #[.val (.ref x), .val (.ref y)] [(.ref y), (.ref x)])) rfl (by rw [hml]; rfl) (argsL := [(.ref y)]) (rest := []) (lenOf pd_138888 rfl) rfl (by show 2 * 0 + _ ≤ _; exact Nat.le_of_eq rfl) (hb hby d11_2) rfl (ok rfl) (ok rfl) ?_
  intro v580 T580 L580 q580 X580
  obtain ⟨rfl, N580q, K580, g580E, g580v, g580c, g580n, g580V⟩ := q580
  have N580 := Fr.app N0 N580q
  show Goes p e below _ T580 (mkF m 5 #[.val (.ref x), .val (.ref y)] [(.ref x)])
  refine P1.pop X580.here hx (hb hby d11_5) rfl ?_
  refine P1.aloadN X580.here hx (hb hby d11_6) rfl rfl ?_
  refine Goes.retA X580 hx Bd.notSynchronized Bd.returns rfl rfl (hb hby d11_7) (ok rfl) (ok rfl) ?_
  have K581 : Keep h0 T580.heap [x, t] := K0.trans K580 (allS (Or.inl (by simp)) (allS (Or.inl (by simp)) all0))
  exact ⟨rfl, N580, K581, g580E, g580v, g580c, g580n, g580V⟩
theorem efGb9_1 (y t : Addr) (m : MethodId) : entryFrame m #[(.ref y), (.ref t), (.int (9 : Int32)), (.int (0 : Int32))] 4 = mkF m 0 #[.val (.ref y), .val (.ref t), .val (.int (9 : Int32)), .val (.int (0 : Int32))] [] := by first | (simp [entryFrame, mkF, argsToLocals, Value.category]; done) | rfl
def QGb9_1 (Z : State) (t : Addr) (kt : ClassId) (y ty : Addr) (ky : ClassId) (b0 b1 b2 b3 b4 b5 b6 b7 b8 c0 zc : Int32) (fm : Value) (h0 : Heap) (n0 : Nat) (v : Option Value) (h : Heap) (L : List Loc) : Prop := v = none ∧ Fr n0 L ∧ Keep h0 h [t] ∧ Arv Z h t kt .byte (16 : Int32) [(.int b0), (.int b1), (.int b2), (.int b3), (.int b4), (.int b5), (.int b6), (.int b7), (.int b8), (.int c0)] (.int (0 : Int32))
set_option maxRecDepth 65536 in
set_option maxHeartbeats 40000000 in
theorem rmGb9_1 (l : Launch) (Z : State) (a0 : Array Value) (hw : ∀ d ∈ tables_1, d.before a0 Z = true) (ws : List Jvm.Cond) (t : Addr) (kt : ClassId) (y ty : Addr) (ky : ClassId) (b0 b1 b2 b3 b4 b5 b6 b7 b8 c0 zc : Int32) (fm : Value) (h0 : Heap) (n0 : Nat) (Z0 : n0 ≤ h0.size) (O0 : Old Z n0 h0) (S_CS : Sta Z Z.heap "java/lang/String" "COMPACT_STRINGS" "Z" (.int zc)) (hzc : ¬ zc = 0) (S_FM : Sta Z Z.heap "jdk/internal/util/Preconditions" "SIOOBE_FORMATTER" "Ljava/util/function/BiFunction;" fm) (hfm : fm.isRef = true) (gt : n0 ≤ t) (Vt : Arv Z h0 t kt .byte (16 : Int32) [(.int b0), (.int b1), (.int b2), (.int b3), (.int b4), (.int b5), (.int b6), (.int b7), (.int b8)] (.int (0 : Int32))) (Ey : Exa Z h0 y "java/lang/String") (Vy : Fld Z h0 y "java/lang/String" "value" "[B" (.ref ty)) (Cy : Fld Z h0 y "java/lang/String" "coder" "B" (.int (0 : Int32))) (Ky : Arv Z h0 ty ky .byte (1 : Int32) [(.int c0)] (.int (0 : Int32))) (nety : ty ≠ t) :
    OwnLaw l y15_ jdk_42_method_147_code 4 none ws (rR 1 0 0 18) #[(.ref y), (.ref t), (.int (9 : Int32)), (.int (0 : Int32))] Z h0 (QGb9_1 Z t kt y ty ky b0 b1 b2 b3 b4 b5 b6 b7 b8 c0 zc fm h0 n0) := by
  refine own_enter (plainFor_of_name pn_java_lang_String) (efGb9_1 y t) ?_
  intro p e s m below meth c s₁ Bd hx hby hml hZ hown X0 e0
  have N0 := Fr.nil n0
  have K0 : Keep h0 h0 [] := Keep.refl _ _
  have K0 : Keep h0 h0 [t] := Keep.refl _ _
  refine P1.aloadN X0.here hx (hb hby d18_0) rfl rfl ?_
  refine Goes.callV X0 hx hZ (y := y14_) (z := y14_) hown (mvT hZ (own_w hw 75 rfl)) (mvT hZ (own_w hw 76 rfl)) (notFace_of_selects (args := #[]) (mvT hZ (own_w hw 78 rfl))) (mvT hZ (own_w hw 78 rfl)) (mvT hZ (own_w hw 77 rfl)) (by decide) (kc' := 0) (ks' := 0) (backOf (W := 0) (rmCod l Z a0 hw [] y zc fm h0 n0 Z0 O0 S_CS hzc S_FM hfm Cy) hZ (own_w hw 79 rfl) (own_w hw 2 rfl) (ok rfl) (ok rfl)) (b := y) e0 Ey (g := (mkF m 1 #[.val (.ref y), .val (.ref t), .val (.int (9 : Int32)), .val (.int (0 : Int32))] [(.ref y)])) rfl (by rw [hml]; rfl) (argsL := []) (rest := []) (lenOf pd_320 rfl) rfl (by show 2 * 0 + _ ≤ _; exact Nat.le_of_eq rfl) (hb hby d18_1) rfl (ok rfl) (ok rfl) ?_
  intro v582 T582 L582 q582 X582
  obtain ⟨rfl, N582q, hE582⟩ := q582
  have N582 := Fr.app N0 N582q
  show Goes p e below _ T582 (mkF m 4 #[.val (.ref y), .val (.ref t), .val (.int (9 : Int32)), .val (.int (0 : Int32))] [(.int (0 : Int32))])
  refine P1.iloadN X582.here hx (hb hby d18_4) rfl ?_
  refine P1.icmpNo X582.here hx (hb hby d18_5) (teq (by decide : (0 : Int32) = (0 : Int32))).2 ?_
  refine P1.aloadN X582.here hx (hb hby d18_8) rfl rfl ?_
  obtain ⟨T583, X583, e583, st583⟩ := getF X582 hx hZ hown (host := "") (Or.inl (own_w hw 28 rfl)) Via.refl hE582 Vy (g := (mkF m 9 #[.val (.ref y), .val (.ref t), .val (.int (9 : Int32)), .val (.int (0 : Int32))] [(.ref y)])) rfl rfl (hb hby d18_9)
  refine Goes.step (T' := T583) (g' := (mkF m 12 #[.val (.ref y), .val (.ref t), .val (.int (9 : Int32)), .val (.int (0 : Int32))] [(.ref ty)])) st583 ?_
  refine P1.iconst X583.here hx (0 : Int32) (hb hby d18_12) rfl ?_
  refine P1.aloadN X583.here hx (hb hby d18_13) rfl rfl ?_
  refine P1.iloadN X583.here hx (hb hby d18_14) rfl ?_
  refine P1.iloadN X583.here hx (hb hby d18_15) rfl ?_
  refine Goes.step (T' := T583) (g' := (mkF m 17 #[.val (.ref y), .val (.ref t), .val (.int (9 : Int32)), .val (.int (0 : Int32))] [(.int ((9 : Int32) <<< ((0 : Int32) &&& 31))), (.ref t), (.int (0 : Int32)), (.ref ty)])) (fun t_ k_ => XS.ishl X583.here hx rfl (hb hby d18_16) rfl k_) ?_
  have rw584 : ((9 : Int32) <<< ((0 : Int32) &&& 31)) = (9 : Int32) := by decide
  rw [rw584]
  refine P1.aloadN X583.here hx (hb hby d18_17) rfl rfl ?_
  obtain ⟨T585, X585, e585, st585⟩ := getF X583 hx hZ hown (host := "") (Or.inl (own_w hw 28 rfl)) Via.refl e583 Vy (g := (mkF m 18 #[.val (.ref y), .val (.ref t), .val (.int (9 : Int32)), .val (.int (0 : Int32))] [(.ref y), (.int (9 : Int32)), (.ref t), (.int (0 : Int32)), (.ref ty)])) rfl rfl (hb hby d18_18)
  refine Goes.step (T' := T585) (g' := (mkF m 21 #[.val (.ref y), .val (.ref t), .val (.int (9 : Int32)), .val (.int (0 : Int32))] [(.ref ty), (.int (9 : Int32)), (.ref t), (.int (0 : Int32)), (.ref ty)])) st585 ?_
  obtain ⟨cl586, Ar586, qk586, sl586, nz586, ha586, fi586⟩ := id Ky
  have al587 : cl586.slots.size.toInt32 = (1 : Int32) := len_of sl586 nz586
  refine Goes.step (T' := T585) (g' := (mkF m 22 #[.val (.ref y), .val (.ref t), .val (.int (9 : Int32)), .val (.int (0 : Int32))] [(.int (1 : Int32)), (.int (9 : Int32)), (.ref t), (.int (0 : Int32)), (.ref ty)])) (fun t_ k_ => X585.arraylength hx (by rw [e585]; exact Ar586.1) (State.isArrayOf_alike hZ.alike Ar586.2.1) (g := (mkF m 21 #[.val (.ref y), .val (.ref t), .val (.int (9 : Int32)), .val (.int (0 : Int32))] [(.ref ty), (.int (9 : Int32)), (.ref t), (.int (0 : Int32)), (.ref ty)])) rfl rfl (hb hby d18_21) _ <| by rw [al587]; exact k_) ?_
  have V588 : Arv Z h0 t kt .byte (16 : Int32) [(.int b0), (.int b1), (.int b2), (.int b3), (.int b4), (.int b5), (.int b6), (.int b7), (.int b8), (.int (0 : Int32))] (.int (0 : Int32)) := Vt.pad (pad_rep [(.int b0), (.int b1), (.int b2), (.int b3), (.int b4), (.int b5), (.int b6), (.int b7), (.int b8)] (.int (0 : Int32)) 1)
  obtain ⟨T589, h589, L589, X589, e589, N589, K589, Va589, st589⟩ := cpA X585 hx hZ hown (own_w hw 103 rfl) (own_w hw 106 rfl) (own_w hw 104 rfl) (own_w hw 105 rfl) e585 Ky V588 (us := [(.int c0)]) (Or.inl ⟨rfl, rfl⟩) (by decide) (by decide) (by decide) (ok rfl) (ok rfl) rfl (ok rfl) N582 gt (g := (mkF m 22 #[.val (.ref y), .val (.ref t), .val (.int (9 : Int32)), .val (.int (0 : Int32))] [(.int (1 : Int32)), (.int (9 : Int32)), (.ref t), (.int (0 : Int32)), (.ref ty)])) rfl (by rw [hml]; rfl) rfl (hb hby d18_22) (ok rfl) (W := 0) (by show 2 * 0 + _ ≤ _; exact Nat.le_of_eq rfl) (ok rfl)
  have V589 : Arv Z h589 t kt .byte (16 : Int32) [(.int b0), (.int b1), (.int b2), (.int b3), (.int b4), (.int b5), (.int b6), (.int b7), (.int b8), (.int c0)] (.int (0 : Int32)) := Va589
  refine Goes.step (T' := T589) (g' := (mkF m 25 #[.val (.ref y), .val (.ref t), .val (.int (9 : Int32)), .val (.int (0 : Int32))] [])) st589 ?_
  refine P1.goto X589.here hx 43 (hb hby d18_25) (by decide) (by decide) ?_
  refine Goes.retV X589 hx Bd.notSynchronized Bd.returns (hb hby d18_43) (ok rfl) (ok rfl) ?_
  rw [e589]
  have K590 : Keep h0 h589 [t] := K0.trans K589 (allS (Or.inl (by simp)) all0)
  exact ⟨rfl, N589, K590, V589⟩
theorem efPu9_1 (x y : Addr) (m : MethodId) : entryFrame m #[(.ref x), (.int (9 : Int32)), (.ref y)] 3 = mkF m 0 #[.val (.ref x), .val (.int (9 : Int32)), .val (.ref y)] [] := by first | (simp [entryFrame, mkF, argsToLocals, Value.category]; done) | rfl
def QPu9_1 (Z : State) (x t : Addr) (kt : ClassId) (y ty : Addr) (ky : ClassId) (b0 b1 b2 b3 b4 b5 b6 b7 b8 c0 zc : Int32) (fm : Value) (h0 : Heap) (n0 : Nat) (v : Option Value) (h : Heap) (L : List Loc) : Prop := v = none ∧ Fr n0 L ∧ Keep h0 h [x, t] ∧ Exa Z h x "java/lang/StringBuilder" ∧ Fld Z h x "java/lang/AbstractStringBuilder" "value" "[B" (.ref t) ∧ Fld Z h x "java/lang/AbstractStringBuilder" "coder" "B" (.int (0 : Int32)) ∧ Fld Z h x "java/lang/AbstractStringBuilder" "count" "I" (.int (9 : Int32)) ∧ Arv Z h t kt .byte (16 : Int32) [(.int b0), (.int b1), (.int b2), (.int b3), (.int b4), (.int b5), (.int b6), (.int b7), (.int b8), (.int c0)] (.int (0 : Int32))
set_option maxRecDepth 65536 in
set_option maxHeartbeats 40000000 in
theorem rmPu9_1 (l : Launch) (Z : State) (a0 : Array Value) (hw : ∀ d ∈ tables_1, d.before a0 Z = true) (ws : List Jvm.Cond) (x t : Addr) (kt : ClassId) (y ty : Addr) (ky : ClassId) (b0 b1 b2 b3 b4 b5 b6 b7 b8 c0 zc : Int32) (fm : Value) (h0 : Heap) (n0 : Nat) (Z0 : n0 ≤ h0.size) (O0 : Old Z n0 h0) (S_CS : Sta Z Z.heap "java/lang/String" "COMPACT_STRINGS" "Z" (.int zc)) (hzc : ¬ zc = 0) (S_FM : Sta Z Z.heap "jdk/internal/util/Preconditions" "SIOOBE_FORMATTER" "Ljava/util/function/BiFunction;" fm) (hfm : fm.isRef = true) (gx : n0 ≤ x) (gt : n0 ≤ t) (Ex : Exa Z h0 x "java/lang/StringBuilder") (Fv : Fld Z h0 x "java/lang/AbstractStringBuilder" "value" "[B" (.ref t)) (Fc : Fld Z h0 x "java/lang/AbstractStringBuilder" "coder" "B" (.int (0 : Int32))) (Fn : Fld Z h0 x "java/lang/AbstractStringBuilder" "count" "I" (.int (9 : Int32))) (Vt : Arv Z h0 t kt .byte (16 : Int32) [(.int b0), (.int b1), (.int b2), (.int b3), (.int b4), (.int b5), (.int b6), (.int b7), (.int b8)] (.int (0 : Int32))) (Ey : Exa Z h0 y "java/lang/String") (Vy : Fld Z h0 y "java/lang/String" "value" "[B" (.ref ty)) (Cy : Fld Z h0 y "java/lang/String" "coder" "B" (.int (0 : Int32))) (Ky : Arv Z h0 ty ky .byte (1 : Int32) [(.int c0)] (.int (0 : Int32))) (nety : ty ≠ t) :
    OwnLaw l y8_ jdk_68_method_73_code 3 none ws (rR 2 0 0 33) #[(.ref x), (.int (9 : Int32)), (.ref y)] Z h0 (QPu9_1 Z x t kt y ty ky b0 b1 b2 b3 b4 b5 b6 b7 b8 c0 zc fm h0 n0) := by
  refine own_enter (plainFor_of_name pn_java_lang_AbstractStringBuilder) (efPu9_1 x y) ?_
  intro p e s m below meth c s₁ Bd hx hby hml hZ hown X0 e0
  have N0 := Fr.nil n0
  have K0 : Keep h0 h0 [] := Keep.refl _ _
  have K0 : Keep h0 h0 [x, t] := Keep.refl _ _
  refine P1.aloadN X0.here hx (hb hby d16_0) rfl rfl ?_
  refine P1.aloadN X0.here hx (hb hby d16_1) rfl rfl ?_
  refine Goes.callV X0 hx hZ (y := y5_) (z := y5_) hown (mvT hZ (own_w hw 92 rfl)) (mvT hZ (own_declares (own_w hw 93 rfl) (own_w hw 96 rfl))) (notFace_of_selects (args := #[]) (mvT hZ (own_w hw 95 rfl))) (mvT hZ (own_w hw 95 rfl)) (mvT hZ (own_w hw 93 rfl)) (by decide) (kc' := 0) (ks' := 0) (backOf (W := 0) (rmInf l Z a0 hw [] x y zc fm h0 n0 Z0 O0 S_CS hzc S_FM hfm Fc Ey Cy) hZ (own_w hw 96 rfl) (own_w hw 49 rfl) (ok rfl) (ok rfl)) (b := x) e0 Ex (g := (mkF m 2 #[.val (.ref x), .val (.int (9 : Int32)), .val (.ref y)] [(.ref y), (.ref x)])) rfl (by rw [hml]; rfl) (argsL := [(.ref y)]) (rest := []) (lenOf pd_20497 rfl) rfl (by show 2 * 0 + _ ≤ _; exact Nat.le_of_eq rfl) (hb hby d16_2) rfl (ok rfl) (ok rfl) ?_
  intro v591 T591 L591 q591 X591
  obtain ⟨rfl, N591q, hE591⟩ := q591
  have N591 := Fr.app N0 N591q
  show Goes p e below _ T591 (mkF m 5 #[.val (.ref x), .val (.int (9 : Int32)), .val (.ref y)] [])
  refine P1.aloadN X591.here hx (hb hby d16_5) rfl rfl ?_
  refine P1.aloadN X591.here hx (hb hby d16_6) rfl rfl ?_
  obtain ⟨T592, X592, e592, st592⟩ := getF X591 hx hZ hown (host := "") (Or.inl (own_w hw 53 rfl)) Via.refl hE591 Fv (g := (mkF m 7 #[.val (.ref x), .val (.int (9 : Int32)), .val (.ref y)] [(.ref x), (.ref y)])) rfl rfl (hb hby d16_7)
  refine Goes.step (T' := T592) (g' := (mkF m 10 #[.val (.ref x), .val (.int (9 : Int32)), .val (.ref y)] [(.ref t), (.ref y)])) st592 ?_
  refine P1.iloadN X592.here hx (hb hby d16_10) rfl ?_
  refine P1.aloadN X592.here hx (hb hby d16_11) rfl rfl ?_
  obtain ⟨T593, X593, e593, st593⟩ := getF X592 hx hZ hown (host := "") (Or.inl (own_w hw 55 rfl)) Via.refl e592 Fc (g := (mkF m 12 #[.val (.ref x), .val (.int (9 : Int32)), .val (.ref y)] [(.ref x), (.int (9 : Int32)), (.ref t), (.ref y)])) rfl rfl (hb hby d16_12)
  refine Goes.step (T' := T593) (g' := (mkF m 15 #[.val (.ref x), .val (.int (9 : Int32)), .val (.ref y)] [(.int (0 : Int32)), (.int (9 : Int32)), (.ref t), (.ref y)])) st593 ?_
  refine Goes.callV X593 hx hZ (y := y15_) (z := y15_) hown (mvT hZ (own_w hw 98 rfl)) (mvT hZ (own_w hw 99 rfl)) (notFace_of_selects (args := #[]) (mvT hZ (own_w hw 101 rfl))) (mvT hZ (own_w hw 101 rfl)) (mvT hZ (own_w hw 100 rfl)) (by decide) (kc' := 0) (ks' := 0) (backOf (W := 0) (rmGb9_1 l Z a0 hw [] t kt y ty ky b0 b1 b2 b3 b4 b5 b6 b7 b8 c0 zc fm h0 n0 Z0 O0 S_CS hzc S_FM hfm gt Vt Ey Vy Cy Ky nety) hZ (own_w hw 102 rfl) (own_w hw 2 rfl) (ok rfl) (ok rfl)) (b := y) e593 Ey (g := (mkF m 15 #[.val (.ref x), .val (.int (9 : Int32)), .val (.ref y)] [(.int (0 : Int32)), (.int (9 : Int32)), (.ref t), (.ref y)])) rfl (by rw [hml]; rfl) (argsL := [(.ref t), (.int (9 : Int32)), (.int (0 : Int32))]) (rest := []) (lenOf pd_1890 rfl) rfl (by show 2 * 0 + _ ≤ _; exact Nat.le_of_eq rfl) (hb hby d16_15) rfl (ok rfl) (ok rfl) ?_
  intro v594 T594 L594 q594 X594
  obtain ⟨rfl, N594q, K594, g594V⟩ := q594
  have N594 := Fr.app N591 N594q
  show Goes p e below _ T594 (mkF m 18 #[.val (.ref x), .val (.int (9 : Int32)), .val (.ref y)] [])
  refine Goes.retV X594 hx Bd.notSynchronized Bd.returns (hb hby d16_18) (ok rfl) (ok rfl) ?_
  have K595 : Keep h0 T594.heap [x, t] := K0.trans K594 (allS (Or.inl (by simp)) all0)
  have E596 : Exa Z T594.heap x "java/lang/StringBuilder" := Ex.keep K594
  have ne597 : x ≠ t := own_ne_arv E596 (own_w hw 40 rfl) g594V
  have F598 : Fld Z T594.heap x "java/lang/AbstractStringBuilder" "value" "[B" (.ref t) := Fv.keep K594 (ninS ne597 nin0)
  have F599 : Fld Z T594.heap x "java/lang/AbstractStringBuilder" "coder" "B" (.int (0 : Int32)) := Fc.keep K594 (ninS ne597 nin0)
  have F600 : Fld Z T594.heap x "java/lang/AbstractStringBuilder" "count" "I" (.int (9 : Int32)) := Fn.keep K594 (ninS ne597 nin0)
  exact ⟨rfl, N594, K595, E596, F598, F599, F600, g594V⟩
theorem efEns10 (x : Addr) (m : MethodId) : entryFrame m #[(.ref x), (.int (10 : Int32))] 3 = mkF m 0 #[.val (.ref x), .val (.int (10 : Int32)), .unset] [] := by first | (simp [entryFrame, mkF, argsToLocals, Value.category]; done) | rfl
def QEns10 (Z : State) (x t : Addr) (kt : ClassId) (vs : List Value) (h0 : Heap) (n0 : Nat) (v : Option Value) (h : Heap) (L : List Loc) : Prop := v = none ∧ Fr n0 L ∧ h = h0
set_option maxRecDepth 65536 in
set_option maxHeartbeats 40000000 in
theorem rmEns10 (l : Launch) (Z : State) (a0 : Array Value) (hw : ∀ d ∈ tables_1, d.before a0 Z = true) (ws : List Jvm.Cond) (x t : Addr) (kt : ClassId) (vs : List Value) (h0 : Heap) (n0 : Nat) (Z0 : n0 ≤ h0.size) (O0 : Old Z n0 h0) (Ex : Exa Z h0 x "java/lang/StringBuilder") (Fv : Fld Z h0 x "java/lang/AbstractStringBuilder" "value" "[B" (.ref t)) (Fc : Fld Z h0 x "java/lang/AbstractStringBuilder" "coder" "B" (.int (0 : Int32))) (Vt : Arv Z h0 t kt .byte (16 : Int32) vs (.int (0 : Int32))) :
    OwnLaw l y3_ jdk_68_method_9_code 3 none ws (rR 0 0 0 0) #[(.ref x), (.int (10 : Int32))] Z h0 (QEns10 Z x t kt vs h0 n0) := by
  refine own_enter (plainFor_of_name pn_java_lang_AbstractStringBuilder) (efEns10 x) ?_
  intro p e s m below meth c s₁ Bd hx hby hml hZ hown X0 e0
  have N0 := Fr.nil n0
  have K0 : Keep h0 h0 [] := Keep.refl _ _
  refine P1.aloadN X0.here hx (hb hby d15_0) rfl rfl ?_
  obtain ⟨T604, X604, e604, st604⟩ := getF X0 hx hZ hown (host := "") (Or.inl (own_w hw 53 rfl)) Via.refl e0 Fv (g := (mkF m 1 #[.val (.ref x), .val (.int (10 : Int32)), .unset] [(.ref x)])) rfl rfl (hb hby d15_1)
  refine Goes.step (T' := T604) (g' := (mkF m 4 #[.val (.ref x), .val (.int (10 : Int32)), .unset] [(.ref t)])) st604 ?_
  obtain ⟨cl605, Ar605, qk605, sl605, nz605, ha605, fi605⟩ := id Vt
  have al606 : cl605.slots.size.toInt32 = (16 : Int32) := len_of sl605 nz605
  refine Goes.step (T' := T604) (g' := (mkF m 5 #[.val (.ref x), .val (.int (10 : Int32)), .unset] [(.int (16 : Int32))])) (fun t_ k_ => X604.arraylength hx (by rw [e604]; exact Ar605.1) (State.isArrayOf_alike hZ.alike Ar605.2.1) (g := (mkF m 4 #[.val (.ref x), .val (.int (10 : Int32)), .unset] [(.ref t)])) rfl rfl (hb hby d15_4) _ <| by rw [al606]; exact k_) ?_
  refine P1.aloadN X604.here hx (hb hby d15_5) rfl rfl ?_
  obtain ⟨T607, X607, e607, st607⟩ := getF X604 hx hZ hown (host := "") (Or.inl (own_w hw 55 rfl)) Via.refl e604 Fc (g := (mkF m 6 #[.val (.ref x), .val (.int (10 : Int32)), .unset] [(.ref x), (.int (16 : Int32))])) rfl rfl (hb hby d15_6)
  refine Goes.step (T' := T607) (g' := (mkF m 9 #[.val (.ref x), .val (.int (10 : Int32)), .unset] [(.int (0 : Int32)), (.int (16 : Int32))])) st607 ?_
  refine Goes.step (T' := T607) (g' := (mkF m 10 #[.val (.ref x), .val (.int (10 : Int32)), .unset] [(.int ((16 : Int32) >>> ((0 : Int32) &&& 31)))])) (fun t_ k_ => XS.ishr X607.here hx rfl (hb hby d15_9) rfl k_) ?_
  have rw608 : ((16 : Int32) >>> ((0 : Int32) &&& 31)) = (16 : Int32) := by decide
  rw [rw608]
  refine P1.istoreN X607.here hx #[.val (.ref x), .val (.int (10 : Int32)), .val (.int (16 : Int32))] (hb hby d15_10) rfl ?_
  refine P1.iloadN X607.here hx (hb hby d15_11) rfl ?_
  refine P1.iloadN X607.here hx (hb hby d15_12) rfl ?_
  refine P1.isub X607.here hx (hb hby d15_13) ?_
  have rw609 : ((10 : Int32) - (16 : Int32)) = (-6 : Int32) := by decide
  rw [rw609]
  refine P1.ifYes X607.here hx 38 (hb hby d15_14) ((if0 _ _).trans (flt (by decide : ¬ ((0 : Int32) < (-6 : Int32)))).2.2.2) (by decide) (by decide) ?_
  refine Goes.retV X607 hx Bd.notSynchronized Bd.returns (hb hby d15_38) (ok rfl) (ok rfl) ?_
  rw [e607]
  exact ⟨rfl, N0, rfl⟩
theorem efAp9_1 (x y : Addr) (m : MethodId) : entryFrame m #[(.ref x), (.ref y)] 3 = mkF m 0 #[.val (.ref x), .val (.ref y), .unset] [] := by first | (simp [entryFrame, mkF, argsToLocals, Value.category]; done) | rfl
def QAp9_1 (Z : State) (x t : Addr) (kt : ClassId) (y ty : Addr) (ky : ClassId) (b0 b1 b2 b3 b4 b5 b6 b7 b8 c0 zc : Int32) (fm : Value) (h0 : Heap) (n0 : Nat) (v : Option Value) (h : Heap) (L : List Loc) : Prop := v = some (.ref x) ∧ Fr n0 L ∧ Keep h0 h [x, t] ∧ Exa Z h x "java/lang/StringBuilder" ∧ Fld Z h x "java/lang/AbstractStringBuilder" "value" "[B" (.ref t) ∧ Fld Z h x "java/lang/AbstractStringBuilder" "coder" "B" (.int (0 : Int32)) ∧ Fld Z h x "java/lang/AbstractStringBuilder" "count" "I" (.int (10 : Int32)) ∧ Arv Z h t kt .byte (16 : Int32) [(.int b0), (.int b1), (.int b2), (.int b3), (.int b4), (.int b5), (.int b6), (.int b7), (.int b8), (.int c0)] (.int (0 : Int32))
set_option maxRecDepth 65536 in
set_option maxHeartbeats 40000000 in
theorem rmAp9_1 (l : Launch) (Z : State) (a0 : Array Value) (hw : ∀ d ∈ tables_1, d.before a0 Z = true) (ws : List Jvm.Cond) (x t : Addr) (kt : ClassId) (y ty : Addr) (ky : ClassId) (b0 b1 b2 b3 b4 b5 b6 b7 b8 c0 zc : Int32) (fm : Value) (h0 : Heap) (n0 : Nat) (Z0 : n0 ≤ h0.size) (O0 : Old Z n0 h0) (S_CS : Sta Z Z.heap "java/lang/String" "COMPACT_STRINGS" "Z" (.int zc)) (hzc : ¬ zc = 0) (S_FM : Sta Z Z.heap "jdk/internal/util/Preconditions" "SIOOBE_FORMATTER" "Ljava/util/function/BiFunction;" fm) (hfm : fm.isRef = true) (gx : n0 ≤ x) (gt : n0 ≤ t) (Ex : Exa Z h0 x "java/lang/StringBuilder") (Fv : Fld Z h0 x "java/lang/AbstractStringBuilder" "value" "[B" (.ref t)) (Fc : Fld Z h0 x "java/lang/AbstractStringBuilder" "coder" "B" (.int (0 : Int32))) (Fn : Fld Z h0 x "java/lang/AbstractStringBuilder" "count" "I" (.int (9 : Int32))) (Vt : Arv Z h0 t kt .byte (16 : Int32) [(.int b0), (.int b1), (.int b2), (.int b3), (.int b4), (.int b5), (.int b6), (.int b7), (.int b8)] (.int (0 : Int32))) (Ey : Exa Z h0 y "java/lang/String") (Vy : Fld Z h0 y "java/lang/String" "value" "[B" (.ref ty)) (Cy : Fld Z h0 y "java/lang/String" "coder" "B" (.int (0 : Int32))) (Ky : Arv Z h0 ty ky .byte (1 : Int32) [(.int c0)] (.int (0 : Int32))) (nety : ty ≠ t) :
    OwnLaw l y2_ jdk_68_method_22_code 3 (some (.object "java/lang/AbstractStringBuilder")) ws (rR 3 0 0 47) #[(.ref x), (.ref y)] Z h0 (QAp9_1 Z x t kt y ty ky b0 b1 b2 b3 b4 b5 b6 b7 b8 c0 zc fm h0 n0) := by
  refine own_enter (plainFor_of_name pn_java_lang_AbstractStringBuilder) (efAp9_1 x y) ?_
  intro p e s m below meth c s₁ Bd hx hby hml hZ hown X0 e0
  have N0 := Fr.nil n0
  have K0 : Keep h0 h0 [] := Keep.refl _ _
  have K0 : Keep h0 h0 [x, t] := Keep.refl _ _
  refine P1.aloadN X0.here hx (hb hby d12_0) rfl rfl ?_
  refine P1.ifnonnullYes X0.here hx 9 (hb hby d12_1) (by decide) (by decide) ?_
  refine P1.aloadN X0.here hx (hb hby d12_9) rfl rfl ?_
  refine Goes.callV X0 hx hZ (y := y17_) (z := y17_) hown (mvT hZ (own_w hw 70 rfl)) (mvT hZ (own_w hw 71 rfl)) (notFace_of_selects (args := #[]) (mvT hZ (own_w hw 73 rfl))) (mvT hZ (own_w hw 73 rfl)) (mvT hZ (own_w hw 72 rfl)) (by decide) (kc' := 0) (ks' := 0) (backOf (W := 0) (rmLen1 l Z a0 hw [] y ty ky [(.int c0)] zc fm h0 n0 Z0 O0 S_CS hzc S_FM hfm Ey Vy Cy Ky) hZ (own_w hw 74 rfl) (own_w hw 2 rfl) (ok rfl) (ok rfl)) (b := y) e0 Ey (g := (mkF m 10 #[.val (.ref x), .val (.ref y), .unset] [(.ref y)])) rfl (by rw [hml]; rfl) (argsL := []) (rest := []) (lenOf pd_341 rfl) rfl (by show 2 * 0 + _ ≤ _; exact Nat.le_of_eq rfl) (hb hby d12_10) rfl (ok rfl) (ok rfl) ?_
  intro v601 T601 L601 q601 X601
  obtain ⟨rfl, N601q, hE601⟩ := q601
  have N601 := Fr.app N0 N601q
  show Goes p e below _ T601 (mkF m 13 #[.val (.ref x), .val (.ref y), .unset] [(.int (1 : Int32))])
  refine P1.istoreN X601.here hx #[.val (.ref x), .val (.ref y), .val (.int (1 : Int32))] (hb hby d12_13) rfl ?_
  refine P1.aloadN X601.here hx (hb hby d12_14) rfl rfl ?_
  refine P1.aloadN X601.here hx (hb hby d12_15) rfl rfl ?_
  obtain ⟨T602, X602, e602, st602⟩ := getF X601 hx hZ hown (host := "") (Or.inl (own_w hw 80 rfl)) Via.refl hE601 Fn (g := (mkF m 16 #[.val (.ref x), .val (.ref y), .val (.int (1 : Int32))] [(.ref x), (.ref x)])) rfl rfl (hb hby d12_16)
  refine Goes.step (T' := T602) (g' := (mkF m 19 #[.val (.ref x), .val (.ref y), .val (.int (1 : Int32))] [(.int (9 : Int32)), (.ref x)])) st602 ?_
  refine P1.iloadN X602.here hx (hb hby d12_19) rfl ?_
  refine P1.iadd X602.here hx (hb hby d12_20) ?_
  have rw603 : ((9 : Int32) + (1 : Int32)) = (10 : Int32) := by decide
  rw [rw603]
  refine Goes.callV X602 hx hZ (y := y3_) (z := y3_) hown (mvT hZ (own_w hw 82 rfl)) (mvT hZ (own_declares (own_w hw 83 rfl) (own_w hw 86 rfl))) (notFace_of_selects (args := #[]) (mvT hZ (own_w hw 85 rfl))) (mvT hZ (own_w hw 85 rfl)) (mvT hZ (own_w hw 83 rfl)) (by decide) (kc' := 0) (ks' := 0) (backOf (W := 0) (rmEns10 l Z a0 hw [] x t kt [(.int b0), (.int b1), (.int b2), (.int b3), (.int b4), (.int b5), (.int b6), (.int b7), (.int b8)] h0 n0 Z0 O0 Ex Fv Fc Vt) hZ (own_w hw 86 rfl) (own_w hw 49 rfl) (ok rfl) (ok rfl)) (b := x) e602 Ex (g := (mkF m 21 #[.val (.ref x), .val (.ref y), .val (.int (1 : Int32))] [(.int (10 : Int32)), (.ref x)])) rfl (by rw [hml]; rfl) (argsL := [(.int (10 : Int32))]) (rest := []) (lenOf pd_653 rfl) rfl (by show 2 * 0 + _ ≤ _; exact Nat.le_of_eq rfl) (hb hby d12_21) rfl (ok rfl) (ok rfl) ?_
  intro v610 T610 L610 q610 X610
  obtain ⟨rfl, N610q, hE610⟩ := q610
  have N610 := Fr.app N601 N610q
  show Goes p e below _ T610 (mkF m 24 #[.val (.ref x), .val (.ref y), .val (.int (1 : Int32))] [])
  refine P1.aloadN X610.here hx (hb hby d12_24) rfl rfl ?_
  refine P1.aloadN X610.here hx (hb hby d12_25) rfl rfl ?_
  obtain ⟨T611, X611, e611, st611⟩ := getF X610 hx hZ hown (host := "") (Or.inl (own_w hw 80 rfl)) Via.refl hE610 Fn (g := (mkF m 26 #[.val (.ref x), .val (.ref y), .val (.int (1 : Int32))] [(.ref x), (.ref x)])) rfl rfl (hb hby d12_26)
  refine Goes.step (T' := T611) (g' := (mkF m 29 #[.val (.ref x), .val (.ref y), .val (.int (1 : Int32))] [(.int (9 : Int32)), (.ref x)])) st611 ?_
  refine P1.aloadN X611.here hx (hb hby d12_29) rfl rfl ?_
  refine Goes.callV X611 hx hZ (y := y8_) (z := y8_) hown (mvT hZ (own_w hw 87 rfl)) (mvT hZ (own_declares (own_w hw 88 rfl) (own_w hw 91 rfl))) (notFace_of_selects (args := #[]) (mvT hZ (own_w hw 90 rfl))) (mvT hZ (own_w hw 90 rfl)) (mvT hZ (own_w hw 88 rfl)) (by decide) (kc' := 0) (ks' := 0) (backOf (W := 0) (rmPu9_1 l Z a0 hw [] x t kt y ty ky b0 b1 b2 b3 b4 b5 b6 b7 b8 c0 zc fm h0 n0 Z0 O0 S_CS hzc S_FM hfm gx gt Ex Fv Fc Fn Vt Ey Vy Cy Ky nety) hZ (own_w hw 91 rfl) (own_w hw 49 rfl) (ok rfl) (ok rfl)) (b := x) e611 Ex (g := (mkF m 30 #[.val (.ref x), .val (.ref y), .val (.int (1 : Int32))] [(.ref y), (.int (9 : Int32)), (.ref x)])) rfl (by rw [hml]; rfl) (argsL := [(.int (9 : Int32)), (.ref y)]) (rest := []) (lenOf pd_22466 rfl) rfl (by show 2 * 0 + _ ≤ _; exact Nat.le_of_eq rfl) (hb hby d12_30) rfl (ok rfl) (ok rfl) ?_
  intro v612 T612 L612 q612 X612
  obtain ⟨rfl, N612q, K612, g612E, g612v, g612c, g612n, g612V⟩ := q612
  have N612 := Fr.app N610 N612q
  show Goes p e below _ T612 (mkF m 33 #[.val (.ref x), .val (.ref y), .val (.int (1 : Int32))] [])
  refine P1.aloadN X612.here hx (hb hby d12_33) rfl rfl ?_
  refine P1.dup X612.here hx (hb hby d12_34) rfl ?_
  obtain ⟨T613, X613, e613, st613⟩ := getF X612 hx hZ hown (host := "") (Or.inl (own_w hw 80 rfl)) Via.refl rfl g612n (g := (mkF m 35 #[.val (.ref x), .val (.ref y), .val (.int (1 : Int32))] [(.ref x), (.ref x)])) rfl rfl (hb hby d12_35)
  refine Goes.step (T' := T613) (g' := (mkF m 38 #[.val (.ref x), .val (.ref y), .val (.int (1 : Int32))] [(.int (9 : Int32)), (.ref x)])) st613 ?_
  refine P1.iloadN X613.here hx (hb hby d12_38) rfl ?_
  refine P1.iadd X613.here hx (hb hby d12_39) ?_
  have rw614 : ((9 : Int32) + (1 : Int32)) = (10 : Int32) := by decide
  rw [rw614]
  obtain ⟨T615, h615, X615, e615, W615, st615⟩ := putF X613 hx hZ hown (host := "") (Or.inl (own_w hw 80 rfl)) Via.refl e613 g612n g612E (Or.inl (own_w hw 81 rfl)) (own_w hw 40 rfl) (ty := .int) (by decide) rfl rfl (g := (mkF m 40 #[.val (.ref x), .val (.ref y), .val (.int (1 : Int32))] [(.int (10 : Int32)), (.ref x)])) rfl rfl (hb hby d12_40)
  have Fw615 : Fld Z h615 x "java/lang/AbstractStringBuilder" "count" "I" (.int (10 : Int32)) := g612n.same W615
  have N615 := Fr.snoc X615 N612 gx
  refine Goes.step (T' := T615) (g' := (mkF m 43 #[.val (.ref x), .val (.ref y), .val (.int (1 : Int32))] [])) st615 ?_
  refine P1.aloadN X615.here hx (hb hby d12_43) rfl rfl ?_
  refine Goes.retA X615 hx Bd.notSynchronized Bd.returns rfl rfl (hb hby d12_44) (ok rfl) (ok rfl) ?_
  rw [e615]
  have K616 : Keep h0 T612.heap [x, t] := K0.trans K612 (allS (Or.inl (by simp)) (allS (Or.inl (by simp)) all0))
  have K617 : Keep h0 h615 [x, t] := K616.wr W615 (Or.inl (by simp))
  have E618 : Exa Z h615 x "java/lang/StringBuilder" := g612E.wr W615
  have F619 : Fld Z h615 x "java/lang/AbstractStringBuilder" "value" "[B" (.ref t) := g612v.other W615 (Or.inr (slot_ne (Or.inl (own_w hw 54 rfl)) (Or.inl (own_w hw 81 rfl)) (by decide) (t := (.array .byte)) (t' := .int) (by decide) (by decide)))
  have F620 : Fld Z h615 x "java/lang/AbstractStringBuilder" "coder" "B" (.int (0 : Int32)) := g612c.other W615 (Or.inr (slot_ne (Or.inl (own_w hw 56 rfl)) (Or.inl (own_w hw 81 rfl)) (by decide) (t := .byte) (t' := .int) (by decide) (by decide)))
  have ne621 : x ≠ t := own_ne_arv g612E (own_w hw 40 rfl) g612V
  have V622 : Arv Z h615 t kt .byte (16 : Int32) [(.int b0), (.int b1), (.int b2), (.int b3), (.int b4), (.int b5), (.int b6), (.int b7), (.int b8), (.int c0)] (.int (0 : Int32)) := g612V.other W615 (Ne.symm ne621)
  exact ⟨rfl, N615, K617, E618, F619, F620, Fw615, V622⟩
theorem efSp9_1 (x y : Addr) (m : MethodId) : entryFrame m #[(.ref x), (.ref y)] 2 = mkF m 0 #[.val (.ref x), .val (.ref y)] [] := by first | (simp [entryFrame, mkF, argsToLocals, Value.category]; done) | rfl
def QSp9_1 (Z : State) (x t : Addr) (kt : ClassId) (y ty : Addr) (ky : ClassId) (b0 b1 b2 b3 b4 b5 b6 b7 b8 c0 zc : Int32) (fm : Value) (h0 : Heap) (n0 : Nat) (v : Option Value) (h : Heap) (L : List Loc) : Prop := v = some (.ref x) ∧ Fr n0 L ∧ Keep h0 h [x, t] ∧ Exa Z h x "java/lang/StringBuilder" ∧ Fld Z h x "java/lang/AbstractStringBuilder" "value" "[B" (.ref t) ∧ Fld Z h x "java/lang/AbstractStringBuilder" "coder" "B" (.int (0 : Int32)) ∧ Fld Z h x "java/lang/AbstractStringBuilder" "count" "I" (.int (10 : Int32)) ∧ Arv Z h t kt .byte (16 : Int32) [(.int b0), (.int b1), (.int b2), (.int b3), (.int b4), (.int b5), (.int b6), (.int b7), (.int b8), (.int c0)] (.int (0 : Int32))
set_option maxRecDepth 65536 in
set_option maxHeartbeats 40000000 in
theorem rmSp9_1 (l : Launch) (Z : State) (a0 : Array Value) (hw : ∀ d ∈ tables_1, d.before a0 Z = true) (ws : List Jvm.Cond) (x t : Addr) (kt : ClassId) (y ty : Addr) (ky : ClassId) (b0 b1 b2 b3 b4 b5 b6 b7 b8 c0 zc : Int32) (fm : Value) (h0 : Heap) (n0 : Nat) (Z0 : n0 ≤ h0.size) (O0 : Old Z n0 h0) (S_CS : Sta Z Z.heap "java/lang/String" "COMPACT_STRINGS" "Z" (.int zc)) (hzc : ¬ zc = 0) (S_FM : Sta Z Z.heap "jdk/internal/util/Preconditions" "SIOOBE_FORMATTER" "Ljava/util/function/BiFunction;" fm) (hfm : fm.isRef = true) (gx : n0 ≤ x) (gt : n0 ≤ t) (Ex : Exa Z h0 x "java/lang/StringBuilder") (Fv : Fld Z h0 x "java/lang/AbstractStringBuilder" "value" "[B" (.ref t)) (Fc : Fld Z h0 x "java/lang/AbstractStringBuilder" "coder" "B" (.int (0 : Int32))) (Fn : Fld Z h0 x "java/lang/AbstractStringBuilder" "count" "I" (.int (9 : Int32))) (Vt : Arv Z h0 t kt .byte (16 : Int32) [(.int b0), (.int b1), (.int b2), (.int b3), (.int b4), (.int b5), (.int b6), (.int b7), (.int b8)] (.int (0 : Int32))) (Ey : Exa Z h0 y "java/lang/String") (Vy : Fld Z h0 y "java/lang/String" "value" "[B" (.ref ty)) (Cy : Fld Z h0 y "java/lang/String" "coder" "B" (.int (0 : Int32))) (Ky : Arv Z h0 ty ky .byte (1 : Int32) [(.int c0)] (.int (0 : Int32))) (nety : ty ≠ t) :
    OwnLaw l y19_ jdk_67_method_7_code 2 (some (.object "java/lang/StringBuilder")) ws (rR 4 0 0 61) #[(.ref x), (.ref y)] Z h0 (QSp9_1 Z x t kt y ty ky b0 b1 b2 b3 b4 b5 b6 b7 b8 c0 zc fm h0 n0) := by
  refine own_enter (plainFor_of_name pn_java_lang_StringBuilder) (efSp9_1 x y) ?_
  intro p e s m below meth c s₁ Bd hx hby hml hZ hown X0 e0
  have N0 := Fr.nil n0
  have K0 : Keep h0 h0 [] := Keep.refl _ _
  have K0 : Keep h0 h0 [x, t] := Keep.refl _ _
  refine P1.aloadN X0.here hx (hb hby d11_0) rfl rfl ?_
  refine P1.aloadN X0.here hx (hb hby d11_1) rfl rfl ?_
  refine Goes.callSup X0 hx hZ (y := y2_) hown (own_w hw 65 rfl) (own_sameMethod (own_w hw 66 rfl) (own_w hw 85 rfl) rfl (by decide)) (own_w hw 66 rfl) (own_w hw 67 rfl) (by decide) (kc' := 0) (ks' := 0) (backOf (W := 0) (rmAp9_1 l Z a0 hw [] x t kt y ty ky b0 b1 b2 b3 b4 b5 b6 b7 b8 c0 zc fm h0 n0 Z0 O0 S_CS hzc S_FM hfm gx gt Ex Fv Fc Fn Vt Ey Vy Cy Ky nety) hZ (own_w hw 69 rfl) (own_w hw 49 rfl) (ok rfl) (ok rfl)) (a := x) e0 (Ins.of_exa Ex (own_w hw 48 rfl)) (own_w hw 69 rfl) (g := (mkF m 2 #[.val (.ref x), .val (.ref y)] [(.ref y), (.ref x)])) rfl (by rw [hml]; rfl) (argsL := [(.ref y)]) (rest := []) (lenOf pd_138888 rfl) rfl (by show 2 * 0 + _ ≤ _; exact Nat.le_of_eq rfl) (hb hby d11_2) rfl (ok rfl) (ok rfl) ?_
  intro v623 T623 L623 q623 X623
  obtain ⟨rfl, N623q, K623, g623E, g623v, g623c, g623n, g623V⟩ := q623
  have N623 := Fr.app N0 N623q
  show Goes p e below _ T623 (mkF m 5 #[.val (.ref x), .val (.ref y)] [(.ref x)])
  refine P1.pop X623.here hx (hb hby d11_5) rfl ?_
  refine P1.aloadN X623.here hx (hb hby d11_6) rfl rfl ?_
  refine Goes.retA X623 hx Bd.notSynchronized Bd.returns rfl rfl (hb hby d11_7) (ok rfl) (ok rfl) ?_
  have K624 : Keep h0 T623.heap [x, t] := K0.trans K623 (allS (Or.inl (by simp)) (allS (Or.inl (by simp)) all0))
  exact ⟨rfl, N623, K624, g623E, g623v, g623c, g623n, g623V⟩
theorem efCkl0_10  (m : MethodId) : entryFrame m #[(.int (0 : Int32)), (.int (10 : Int32))] 2 = mkF m 0 #[.val (.int (0 : Int32)), .val (.int (10 : Int32))] [] := by first | (simp [entryFrame, mkF, argsToLocals, Value.category]; done) | rfl
def QCkl0_10 (Z : State)  (h0 : Heap) (n0 : Nat) (v : Option Value) (h : Heap) (L : List Loc) : Prop := v = none ∧ Fr n0 L ∧ h = h0
set_option maxRecDepth 65536 in
set_option maxHeartbeats 40000000 in
theorem rmCkl0_10 (l : Launch) (Z : State) (a0 : Array Value) (hw : ∀ d ∈ tables_1, d.before a0 Z = true) (ws : List Jvm.Cond)  (h0 : Heap) (n0 : Nat) (Z0 : n0 ≤ h0.size) (O0 : Old Z n0 h0) :
    OwnLaw l y22_ jdk_65_method_131_code 2 none ws (rR 0 0 0 0) #[(.int (0 : Int32)), (.int (10 : Int32))] Z h0 (QCkl0_10 Z  h0 n0) := by
  refine own_enter (plainFor_of_name pn_java_util_Arrays) (efCkl0_10 ) ?_
  intro p e s m below meth c s₁ Bd hx hby hml hZ hown X0 e0
  have N0 := Fr.nil n0
  have K0 : Keep h0 h0 [] := Keep.refl _ _
  refine P1.iloadN X0.here hx (hb hby d28_0) rfl ?_
  refine P1.iloadN X0.here hx (hb hby d28_1) rfl ?_
  refine P1.icmpYes X0.here hx 37 (hb hby d28_2) (flt (by decide : ¬ ((10 : Int32) < (0 : Int32)))).2.1 (by decide) (by decide) ?_
  refine Goes.retV X0 hx Bd.notSynchronized Bd.returns (hb hby d28_37) (ok rfl) (ok rfl) ?_
  rw [e0]
  exact ⟨rfl, N0, rfl⟩
theorem efMin16_10  (m : MethodId) : entryFrame m #[(.int (16 : Int32)), (.int (10 : Int32))] 2 = mkF m 0 #[.val (.int (16 : Int32)), .val (.int (10 : Int32))] [] := by first | (simp [entryFrame, mkF, argsToLocals, Value.category]; done) | rfl
def QMin16_10 (Z : State)  (h0 : Heap) (n0 : Nat) (v : Option Value) (h : Heap) (L : List Loc) : Prop := v = some (.int (10 : Int32)) ∧ Fr n0 L ∧ h = h0
set_option maxRecDepth 65536 in
set_option maxHeartbeats 40000000 in
theorem rmMin16_10 (l : Launch) (Z : State) (a0 : Array Value) (hw : ∀ d ∈ tables_1, d.before a0 Z = true) (ws : List Jvm.Cond)  (h0 : Heap) (n0 : Nat) (Z0 : n0 ≤ h0.size) (O0 : Old Z n0 h0) :
    OwnLaw l y9_ jdk_29_method_69_code 2 (some .int) ws (rR 0 0 0 0) #[(.int (16 : Int32)), (.int (10 : Int32))] Z h0 (QMin16_10 Z  h0 n0) := by
  refine own_enter (Jvm.Free.JP.mathPlain rfl (by decide +kernel)) (efMin16_10 ) ?_
  intro p e s m below meth c s₁ Bd hx hby hml hZ hown X0 e0
  have N0 := Fr.nil n0
  have K0 : Keep h0 h0 [] := Keep.refl _ _
  refine P1.iloadN X0.here hx (hb hby d29_0) rfl ?_
  refine P1.iloadN X0.here hx (hb hby d29_1) rfl ?_
  refine P1.icmpYes X0.here hx 9 (hb hby d29_2) (tlt (by decide : (10 : Int32) < (16 : Int32))).2.2.1 (by decide) (by decide) ?_
  refine P1.iloadN X0.here hx (hb hby d29_9) rfl ?_
  refine Goes.retI X0 hx Bd.notSynchronized Bd.returns (hb hby d29_10) (ok rfl) (ok rfl) ?_
  rw [e0]
  exact ⟨rfl, N0, rfl⟩
theorem efCb0_10_16_10 (t : Addr) (m : MethodId) : entryFrame m #[(.ref t), (.int (0 : Int32)), (.int (10 : Int32))] 5 = mkF m 0 #[.val (.ref t), .val (.int (0 : Int32)), .val (.int (10 : Int32)), .unset, .unset] [] := by first | (simp [entryFrame, mkF, argsToLocals, Value.category]; done) | rfl
def QCb0_10_16_10 (Z : State) (t : Addr) (kt : ClassId) (b0 b1 b2 b3 b4 b5 b6 b7 b8 b9 : Int32) (h0 : Heap) (n0 : Nat) (v : Option Value) (h : Heap) (L : List Loc) : Prop := ∃ r kr, v = some (.ref r) ∧ Fr n0 L ∧ Keep h0 h [] ∧ h0.size ≤ r ∧ Arv Z h r kr .byte (10 : Int32) [(.int b0), (.int b1), (.int b2), (.int b3), (.int b4), (.int b5), (.int b6), (.int b7), (.int b8), (.int b9)] (.int (0 : Int32))
set_option maxRecDepth 65536 in
set_option maxHeartbeats 40000000 in
theorem rmCb0_10_16_10 (l : Launch) (Z : State) (a0 : Array Value) (hw : ∀ d ∈ tables_1, d.before a0 Z = true) (ws : List Jvm.Cond) (t : Addr) (kt : ClassId) (b0 b1 b2 b3 b4 b5 b6 b7 b8 b9 : Int32) (h0 : Heap) (n0 : Nat) (Z0 : n0 ≤ h0.size) (O0 : Old Z n0 h0) (Vt : Arv Z h0 t kt .byte (16 : Int32) [(.int b0), (.int b1), (.int b2), (.int b3), (.int b4), (.int b5), (.int b6), (.int b7), (.int b8), (.int b9)] (.int (0 : Int32))) :
    OwnLaw l y24_ jdk_65_method_133_code 5 (some (.array .byte)) ws (rR 1 1 10 18) #[(.ref t), (.int (0 : Int32)), (.int (10 : Int32))] Z h0 (QCb0_10_16_10 Z t kt b0 b1 b2 b3 b4 b5 b6 b7 b8 b9 h0 n0) := by
  refine own_enter (plainFor_of_name pn_java_util_Arrays) (efCb0_10_16_10 t) ?_
  intro p e s m below meth c s₁ Bd hx hby hml hZ hown X0 e0
  have N0 := Fr.nil n0
  have K0 : Keep h0 h0 [] := Keep.refl _ _
  refine P1.iloadN X0.here hx (hb hby d27_0) rfl ?_
  refine P1.iloadN X0.here hx (hb hby d27_1) rfl ?_
  refine Goes.callS X0 hx (y := y22_) hown (mvT hZ (own_w hw 145 rfl)) (mvT hZ (own_w hw 146 rfl)) (mvT hZ (own_w hw 140 rfl)) (mvT hZ (own_w hw 147 rfl)) (by decide) (kc' := 0) (ks' := 0) (backOf (W := 0) (rmCkl0_10 l Z a0 hw []  h0 n0 Z0 O0 ) hZ (own_w hw 147 rfl) (own_w hw 140 rfl) (ok rfl) (ok rfl)) (g := (mkF m 2 #[.val (.ref t), .val (.int (0 : Int32)), .val (.int (10 : Int32)), .unset, .unset] [(.int (10 : Int32)), (.int (0 : Int32))])) rfl (by rw [hml]; rfl) (argsL := [(.int (0 : Int32)), (.int (10 : Int32))]) (rest := []) (lenOf pd_999 rfl) rfl (by show 2 * 0 + _ ≤ _; exact Nat.le_of_eq rfl) (hb hby d27_2) rfl e0 (ok rfl) (ok rfl) ?_
  intro v625 T625 L625 q625 X625
  obtain ⟨rfl, N625q, hE625⟩ := q625
  have N625 := Fr.app N0 N625q
  show Goes p e below _ T625 (mkF m 5 #[.val (.ref t), .val (.int (0 : Int32)), .val (.int (10 : Int32)), .unset, .unset] [])
  refine P1.iloadN X625.here hx (hb hby d27_5) rfl ?_
  refine P1.iloadN X625.here hx (hb hby d27_6) rfl ?_
  refine P1.isub X625.here hx (hb hby d27_7) ?_
  have rw626 : ((10 : Int32) - (0 : Int32)) = (10 : Int32) := by decide
  rw [rw626]
  refine P1.istoreN X625.here hx #[.val (.ref t), .val (.int (0 : Int32)), .val (.int (10 : Int32)), .val (.int (10 : Int32)), .unset] (hb hby d27_8) rfl ?_
  refine P1.iloadN X625.here hx (hb hby d27_9) rfl ?_
  obtain ⟨T627, h627, k627, X627, e627, E627, A627, st627⟩ := newP X625 hx hZ (own_w hw 19 rfl) hE625 (g := (mkF m 10 #[.val (.ref t), .val (.int (0 : Int32)), .val (.int (10 : Int32)), .val (.int (10 : Int32)), .unset] [(.int (10 : Int32))])) rfl (hb hby d27_10) rfl (by decide) (cap := 10) (ok rfl) (ok rfl) (ok rfl) (ok rfl)
  obtain ⟨b627, g627⟩ : ∃ z, z = h0.size := ⟨_, rfl⟩
  rw [← g627] at A627 st627
  have ge_b627 : n0 ≤ b627 := Nat.le_trans Z0 (Nat.le_of_eq g627.symm)
  have sz_b627 : h0.size ≤ b627 := Nat.le_trans K0.1 (Nat.le_of_eq g627.symm)
  have V627 : Arv Z h627 b627 k627 .byte (10 : Int32) [(.int (0 : Int32)), (.int (0 : Int32)), (.int (0 : Int32)), (.int (0 : Int32)), (.int (0 : Int32)), (.int (0 : Int32)), (.int (0 : Int32)), (.int (0 : Int32)), (.int (0 : Int32)), (.int (0 : Int32))] (.int (0 : Int32)) := (Arv.new A627 (by decide)).pad (pad_rep [] (.int (0 : Int32)) 10)
  refine Goes.step (T' := T627) (g' := (mkF m 12 #[.val (.ref t), .val (.int (0 : Int32)), .val (.int (10 : Int32)), .val (.int (10 : Int32)), .unset] [(.ref b627)])) st627 ?_
  refine P1.astore X627.here hx #[.val (.ref t), .val (.int (0 : Int32)), .val (.int (10 : Int32)), .val (.int (10 : Int32)), .val (.ref b627)] (hb hby d27_12) rfl rfl ?_
  refine P1.aloadN X627.here hx (hb hby d27_14) rfl rfl ?_
  refine P1.iloadN X627.here hx (hb hby d27_15) rfl ?_
  refine P1.aload X627.here hx (hb hby d27_16) rfl rfl ?_
  refine P1.iconst X627.here hx (0 : Int32) (hb hby d27_18) rfl ?_
  refine P1.aloadN X627.here hx (hb hby d27_19) rfl rfl ?_
  have V628 : Arv Z h627 t kt .byte (16 : Int32) [(.int b0), (.int b1), (.int b2), (.int b3), (.int b4), (.int b5), (.int b6), (.int b7), (.int b8), (.int b9)] (.int (0 : Int32)) := Vt.ext E627
  obtain ⟨cl629, Ar629, qk629, sl629, nz629, ha629, fi629⟩ := id V628
  have al630 : cl629.slots.size.toInt32 = (16 : Int32) := len_of sl629 nz629
  refine Goes.step (T' := T627) (g' := (mkF m 21 #[.val (.ref t), .val (.int (0 : Int32)), .val (.int (10 : Int32)), .val (.int (10 : Int32)), .val (.ref b627)] [(.int (16 : Int32)), (.int (0 : Int32)), (.ref b627), (.int (0 : Int32)), (.ref t)])) (fun t_ k_ => X627.arraylength hx (by rw [e627]; exact Ar629.1) (State.isArrayOf_alike hZ.alike Ar629.2.1) (g := (mkF m 20 #[.val (.ref t), .val (.int (0 : Int32)), .val (.int (10 : Int32)), .val (.int (10 : Int32)), .val (.ref b627)] [(.ref t), (.int (0 : Int32)), (.ref b627), (.int (0 : Int32)), (.ref t)])) rfl rfl (hb hby d27_20) _ <| by rw [al630]; exact k_) ?_
  refine P1.iloadN X627.here hx (hb hby d27_21) rfl ?_
  refine P1.isub X627.here hx (hb hby d27_22) ?_
  have rw631 : ((16 : Int32) - (0 : Int32)) = (16 : Int32) := by decide
  rw [rw631]
  refine P1.iloadN X627.here hx (hb hby d27_23) rfl ?_
  have Z632 : n0 ≤ h627.size := Nat.le_trans Z0 E627.1
  have O633 : Old Z n0 h627 := O0.ext E627
  refine Goes.callS X627 hx (y := y9_) hown (mvT hZ (own_w hw 148 rfl)) (mvT hZ (own_w hw 149 rfl)) (mvT hZ (own_w hw 150 rfl)) (mvT hZ (own_w hw 151 rfl)) (by decide) (kc' := 0) (ks' := 0) (backOf (W := 4) (rmMin16_10 l Z a0 hw []  h627 n0 Z632 O633 ) hZ (own_w hw 151 rfl) (own_w hw 150 rfl) (ok rfl) (ok rfl)) (g := (mkF m 24 #[.val (.ref t), .val (.int (0 : Int32)), .val (.int (10 : Int32)), .val (.int (10 : Int32)), .val (.ref b627)] [(.int (10 : Int32)), (.int (16 : Int32)), (.int (0 : Int32)), (.ref b627), (.int (0 : Int32)), (.ref t)])) rfl (by rw [hml]; rfl) (argsL := [(.int (16 : Int32)), (.int (10 : Int32))]) (rest := [(.int (0 : Int32)), (.ref b627), (.int (0 : Int32)), (.ref t)]) (lenOf pd_934 rfl) rfl (by show 2 * 0 + _ ≤ _; exact Nat.le_of_eq rfl) (hb hby d27_24) rfl e627 (ok rfl) (ok rfl) ?_
  intro v634 T634 L634 q634 X634
  obtain ⟨rfl, N634q, hE634⟩ := q634
  have N634 := Fr.app N625 N634q
  show Goes p e below _ T634 (mkF m 27 #[.val (.ref t), .val (.int (0 : Int32)), .val (.int (10 : Int32)), .val (.int (10 : Int32)), .val (.ref b627)] [(.int (10 : Int32)), (.int (0 : Int32)), (.ref b627), (.int (0 : Int32)), (.ref t)])
  obtain ⟨T635, h635, L635, X635, e635, N635, K635, Va635, st635⟩ := cpA X634 hx hZ hown (own_w hw 152 rfl) (own_w hw 106 rfl) (own_w hw 104 rfl) (own_w hw 105 rfl) hE634 V628 V627 (us := [(.int b0), (.int b1), (.int b2), (.int b3), (.int b4), (.int b5), (.int b6), (.int b7), (.int b8), (.int b9)]) (Or.inl ⟨rfl, rfl⟩) (by decide) (by decide) (by decide) (ok rfl) (ok rfl) rfl (ok rfl) N634 ge_b627 (g := (mkF m 27 #[.val (.ref t), .val (.int (0 : Int32)), .val (.int (10 : Int32)), .val (.int (10 : Int32)), .val (.ref b627)] [(.int (10 : Int32)), (.int (0 : Int32)), (.ref b627), (.int (0 : Int32)), (.ref t)])) rfl (by rw [hml]; rfl) rfl (hb hby d27_27) (ok rfl) (W := 0) (by show 2 * 0 + _ ≤ _; exact Nat.le_of_eq rfl) (ok rfl)
  have V635 : Arv Z h635 b627 k627 .byte (10 : Int32) [(.int b0), (.int b1), (.int b2), (.int b3), (.int b4), (.int b5), (.int b6), (.int b7), (.int b8), (.int b9)] (.int (0 : Int32)) := Va635
  refine Goes.step (T' := T635) (g' := (mkF m 30 #[.val (.ref t), .val (.int (0 : Int32)), .val (.int (10 : Int32)), .val (.int (10 : Int32)), .val (.ref b627)] [])) st635 ?_
  refine P1.aload X635.here hx (hb hby d27_30) rfl rfl ?_
  refine Goes.retA X635 hx Bd.notSynchronized Bd.returns rfl rfl (hb hby d27_32) (ok rfl) (ok rfl) ?_
  rw [e635]
  have K636 : Keep h0 h627 [] := K0.ext E627
  have K637 : Keep h0 h635 [] := K636.trans K635 (allS (Or.inr sz_b627) all0)
  exact ⟨b627, k627, rfl, N635, K637, sz_b627, V635⟩
theorem efCr0_10_16_10 (t : Addr) (m : MethodId) : entryFrame m #[(.ref t), (.int (0 : Int32)), (.int (10 : Int32))] 3 = mkF m 0 #[.val (.ref t), .val (.int (0 : Int32)), .val (.int (10 : Int32))] [] := by first | (simp [entryFrame, mkF, argsToLocals, Value.category]; done) | rfl
def QCr0_10_16_10 (Z : State) (t : Addr) (kt : ClassId) (b0 b1 b2 b3 b4 b5 b6 b7 b8 b9 : Int32) (h0 : Heap) (n0 : Nat) (v : Option Value) (h : Heap) (L : List Loc) : Prop := ∃ r kr, v = some (.ref r) ∧ Fr n0 L ∧ Keep h0 h [] ∧ h0.size ≤ r ∧ Arv Z h r kr .byte (10 : Int32) [(.int b0), (.int b1), (.int b2), (.int b3), (.int b4), (.int b5), (.int b6), (.int b7), (.int b8), (.int b9)] (.int (0 : Int32))
set_option maxRecDepth 65536 in
set_option maxHeartbeats 40000000 in
theorem rmCr0_10_16_10 (l : Launch) (Z : State) (a0 : Array Value) (hw : ∀ d ∈ tables_1, d.before a0 Z = true) (ws : List Jvm.Cond) (t : Addr) (kt : ClassId) (b0 b1 b2 b3 b4 b5 b6 b7 b8 b9 : Int32) (h0 : Heap) (n0 : Nat) (Z0 : n0 ≤ h0.size) (O0 : Old Z n0 h0) (Vt : Arv Z h0 t kt .byte (16 : Int32) [(.int b0), (.int b1), (.int b2), (.int b3), (.int b4), (.int b5), (.int b6), (.int b7), (.int b8), (.int b9)] (.int (0 : Int32))) :
    OwnLaw l y23_ jdk_65_method_132_code 3 (some (.array .byte)) ws (rR 2 1 10 34) #[(.ref t), (.int (0 : Int32)), (.int (10 : Int32))] Z h0 (QCr0_10_16_10 Z t kt b0 b1 b2 b3 b4 b5 b6 b7 b8 b9 h0 n0) := by
  refine own_enter (plainFor_of_name pn_java_util_Arrays) (efCr0_10_16_10 t) ?_
  intro p e s m below meth c s₁ Bd hx hby hml hZ hown X0 e0
  have N0 := Fr.nil n0
  have K0 : Keep h0 h0 [] := Keep.refl _ _
  refine P1.iloadN X0.here hx (hb hby d26_0) rfl ?_
  refine P1.ifNo X0.here hx (hb hby d26_1) ((if0 _ _).trans (teq (by decide : (0 : Int32) = (0 : Int32))).2) ?_
  refine P1.iloadN X0.here hx (hb hby d26_4) rfl ?_
  refine P1.aloadN X0.here hx (hb hby d26_5) rfl rfl ?_
  obtain ⟨cl638, Ar638, qk638, sl638, nz638, ha638, fi638⟩ := id Vt
  have al639 : cl638.slots.size.toInt32 = (16 : Int32) := len_of sl638 nz638
  refine Goes.step (T' := s₁) (g' := (mkF m 7 #[.val (.ref t), .val (.int (0 : Int32)), .val (.int (10 : Int32))] [(.int (16 : Int32)), (.int (10 : Int32))])) (fun t_ k_ => X0.arraylength hx (by rw [e0]; exact Ar638.1) (State.isArrayOf_alike hZ.alike Ar638.2.1) (g := (mkF m 6 #[.val (.ref t), .val (.int (0 : Int32)), .val (.int (10 : Int32))] [(.ref t), (.int (10 : Int32))])) rfl rfl (hb hby d26_6) _ <| by rw [al639]; exact k_) ?_
  refine P1.icmpNo X0.here hx (hb hby d26_7) (feq (by decide : ¬ ((10 : Int32) = (16 : Int32)))).1 ?_
  refine P1.aloadN X0.here hx (hb hby d26_10) rfl rfl ?_
  refine P1.iloadN X0.here hx (hb hby d26_11) rfl ?_
  refine P1.iloadN X0.here hx (hb hby d26_12) rfl ?_
  refine Goes.callS X0 hx (y := y24_) hown (mvT hZ (own_w hw 142 rfl)) (mvT hZ (own_w hw 143 rfl)) (mvT hZ (own_w hw 140 rfl)) (mvT hZ (own_w hw 144 rfl)) (by decide) (kc' := 1) (ks' := 10) (backOf (W := 0) (rmCb0_10_16_10 l Z a0 hw [] t kt b0 b1 b2 b3 b4 b5 b6 b7 b8 b9 h0 n0 Z0 O0 Vt) hZ (own_w hw 144 rfl) (own_w hw 140 rfl) (ok rfl) (ok rfl)) (g := (mkF m 13 #[.val (.ref t), .val (.int (0 : Int32)), .val (.int (10 : Int32))] [(.int (10 : Int32)), (.int (0 : Int32)), (.ref t)])) rfl (by rw [hml]; rfl) (argsL := [(.ref t), (.int (0 : Int32)), (.int (10 : Int32))]) (rest := []) (lenOf pd_2488 rfl) rfl (by show 2 * 0 + _ ≤ _; exact Nat.le_of_eq rfl) (hb hby d26_13) rfl e0 (ok rfl) (ok rfl) ?_
  intro v640 T640 L640 q640 X640
  obtain ⟨r640, kr640, rfl, N640q, K640, szr640, g640V⟩ := q640
  have ge_r640 : n0 ≤ r640 := Nat.le_trans Z0 szr640
  have sz_r640 : h0.size ≤ r640 := Nat.le_trans K0.1 szr640
  have N640 := Fr.app N0 N640q
  show Goes p e below _ T640 (mkF m 16 #[.val (.ref t), .val (.int (0 : Int32)), .val (.int (10 : Int32))] [(.ref r640)])
  refine Goes.retA X640 hx Bd.notSynchronized Bd.returns rfl rfl (hb hby d26_16) (ok rfl) (ok rfl) ?_
  have K641 : Keep h0 T640.heap [] := K0.trans K640 all0
  exact ⟨r640, kr640, rfl, N640, K641, sz_r640, g640V⟩
theorem efT3_10 (y x : Addr) (m : MethodId) : entryFrame m #[(.ref y), (.ref x), .null] 5 = mkF m 0 #[.val (.ref y), .val (.ref x), .val .null, .unset, .unset] [] := by first | (simp [entryFrame, mkF, argsToLocals, Value.category]; done) | rfl
def QT3_10 (Z : State) (y x t : Addr) (kt : ClassId) (b0 b1 b2 b3 b4 b5 b6 b7 b8 b9 zc : Int32) (fm : Value) (h0 : Heap) (n0 : Nat) (v : Option Value) (h : Heap) (L : List Loc) : Prop := ∃ r kr, v = none ∧ Fr n0 L ∧ Keep h0 h [y] ∧ h0.size ≤ r ∧ Exa Z h y "java/lang/String" ∧ Fld Z h y "java/lang/String" "value" "[B" (.ref r) ∧ Fld Z h y "java/lang/String" "coder" "B" (.int (0 : Int32)) ∧ Arv Z h r kr .byte (10 : Int32) [(.int b0), (.int b1), (.int b2), (.int b3), (.int b4), (.int b5), (.int b6), (.int b7), (.int b8), (.int b9)] (.int (0 : Int32))
set_option maxRecDepth 65536 in
set_option maxHeartbeats 40000000 in
theorem rmT3_10 (l : Launch) (Z : State) (a0 : Array Value) (hw : ∀ d ∈ tables_1, d.before a0 Z = true) (ws : List Jvm.Cond) (y x t : Addr) (kt : ClassId) (b0 b1 b2 b3 b4 b5 b6 b7 b8 b9 zc : Int32) (fm : Value) (h0 : Heap) (n0 : Nat) (Z0 : n0 ≤ h0.size) (O0 : Old Z n0 h0) (S_CS : Sta Z Z.heap "java/lang/String" "COMPACT_STRINGS" "Z" (.int zc)) (hzc : ¬ zc = 0) (S_FM : Sta Z Z.heap "jdk/internal/util/Preconditions" "SIOOBE_FORMATTER" "Ljava/util/function/BiFunction;" fm) (hfm : fm.isRef = true) (gy : n0 ≤ y) (Ey : Exa Z h0 y "java/lang/String") (Vy : Fld Z h0 y "java/lang/String" "value" "[B" .null) (Cy : Fld Z h0 y "java/lang/String" "coder" "B" (.int (0 : Int32))) (gx : n0 ≤ x) (gt : n0 ≤ t) (Ex : Exa Z h0 x "java/lang/StringBuilder") (Fv : Fld Z h0 x "java/lang/AbstractStringBuilder" "value" "[B" (.ref t)) (Fc : Fld Z h0 x "java/lang/AbstractStringBuilder" "coder" "B" (.int (0 : Int32))) (Fn : Fld Z h0 x "java/lang/AbstractStringBuilder" "count" "I" (.int (10 : Int32))) (Vt : Arv Z h0 t kt .byte (16 : Int32) [(.int b0), (.int b1), (.int b2), (.int b3), (.int b4), (.int b5), (.int b6), (.int b7), (.int b8), (.int b9)] (.int (0 : Int32))) :
    OwnLaw l y10_ jdk_42_method_150_code 5 none ws (rR 3 1 10 49) #[(.ref y), (.ref x), .null] Z h0 (QT3_10 Z y x t kt b0 b1 b2 b3 b4 b5 b6 b7 b8 b9 zc fm h0 n0) := by
  refine own_enter (plainFor_of_name pn_java_lang_String) (efT3_10 y x) ?_
  intro p e s m below meth c s₁ Bd hx hby hml hZ hown X0 e0
  have hnm := (name_of_methodNamed Bd.named Bd.method).1
  have N0 := Fr.nil n0
  have K0 : Keep h0 h0 [] := Keep.refl _ _
  have K0 : Keep h0 h0 [y] := Keep.refl _ _
  refine P1.aloadN X0.here hx (hb hby d21_0) rfl rfl ?_
  obtain ⟨T642, X642, e642, st642⟩ := initO X0 hx hZ hown (own_w hw 11 rfl) (own_w hw 12 rfl) (own_w hw 13 rfl) e0 (g := (mkF m 1 #[.val (.ref y), .val (.ref x), .val .null, .unset, .unset] [(.ref y)])) rfl (by rw [hml]; rfl) rfl (hb hby d21_1) (by decide) (W := 0) (by show 2 * 0 + _ ≤ _; exact Nat.le_of_eq rfl) (by decide)
  refine Goes.step (T' := T642) (g' := (mkF m 4 #[.val (.ref y), .val (.ref x), .val .null, .unset, .unset] [])) st642 ?_
  refine P1.aloadN X642.here hx (hb hby d21_4) rfl rfl ?_
  refine Goes.callV X642 hx hZ (y := y4_) (z := y4_) hown (mvT hZ (own_w hw 120 rfl)) (mvT hZ (own_w hw 121 rfl)) (notFace_of_selects (args := #[]) (mvT hZ (own_w hw 123 rfl))) (mvT hZ (own_w hw 123 rfl)) (mvT hZ (own_w hw 122 rfl)) (by decide) (kc' := 0) (ks' := 0) (backOf (W := 0) (rmGv l Z a0 hw [] x t h0 n0 Z0 O0 Fv) hZ (own_w hw 124 rfl) (own_w hw 49 rfl) (ok rfl) (ok rfl)) (b := x) e642 Ex (g := (mkF m 5 #[.val (.ref y), .val (.ref x), .val .null, .unset, .unset] [(.ref x)])) rfl (by rw [hml]; rfl) (argsL := []) (rest := []) (lenOf pd_659 rfl) rfl (by show 2 * 0 + _ ≤ _; exact Nat.le_of_eq rfl) (hb hby d21_5) rfl (ok rfl) (ok rfl) ?_
  intro v643 T643 L643 q643 X643
  obtain ⟨rfl, N643q, hE643⟩ := q643
  have N643 := Fr.app N0 N643q
  show Goes p e below _ T643 (mkF m 8 #[.val (.ref y), .val (.ref x), .val .null, .unset, .unset] [(.ref t)])
  refine P1.astoreN X643.here hx #[.val (.ref y), .val (.ref x), .val .null, .val (.ref t), .unset] (hb hby d21_8) rfl rfl ?_
  refine P1.aloadN X643.here hx (hb hby d21_9) rfl rfl ?_
  refine Goes.callV X643 hx hZ (y := y7_) (z := y20_) hown (mvT hZ (own_w hw 125 rfl)) (mvT hZ (own_w hw 126 rfl)) (own_notFace (a0 := #[]) (mvT hZ (own_w hw 85 rfl)) rfl) (mvT hZ (own_w hw 128 rfl)) (mvT hZ (own_w hw 129 rfl)) (by decide) (kc' := 0) (ks' := 0) (backOf (W := 0) (rmSl l Z a0 hw [] x (10 : Int32) h0 n0 Z0 O0 Ex Fn) hZ (own_w hw 130 rfl) (own_w hw 41 rfl) (ok rfl) (ok rfl)) (b := x) hE643 Ex (g := (mkF m 10 #[.val (.ref y), .val (.ref x), .val .null, .val (.ref t), .unset] [(.ref x)])) rfl (by rw [hml]; rfl) (argsL := []) (rest := []) (lenOf pd_341 rfl) rfl (by show 2 * 0 + _ ≤ _; exact Nat.le_of_eq rfl) (hb hby d21_10) rfl (ok rfl) (ok rfl) ?_
  intro v644 T644 L644 q644 X644
  obtain ⟨rfl, N644q, hE644⟩ := q644
  have N644 := Fr.app N643 N644q
  show Goes p e below _ T644 (mkF m 13 #[.val (.ref y), .val (.ref x), .val .null, .val (.ref t), .unset] [(.int (10 : Int32))])
  refine P1.istore X644.here hx #[.val (.ref y), .val (.ref x), .val .null, .val (.ref t), .val (.int (10 : Int32))] (hb hby d21_13) rfl ?_
  refine P1.aloadN X644.here hx (hb hby d21_15) rfl rfl ?_
  refine Goes.callV X644 hx hZ (y := y6_) (z := y6_) hown (mvT hZ (own_w hw 133 rfl)) (mvT hZ (own_w hw 134 rfl)) (notFace_of_selects (args := #[]) (mvT hZ (own_w hw 136 rfl))) (mvT hZ (own_w hw 136 rfl)) (mvT hZ (own_w hw 135 rfl)) (by decide) (kc' := 0) (ks' := 0) (backOf (W := 0) (rmIl l Z a0 hw [] x zc fm h0 n0 Z0 O0 S_CS hzc S_FM hfm Fc) hZ (own_w hw 137 rfl) (own_w hw 49 rfl) (ok rfl) (ok rfl)) (b := x) hE644 Ex (g := (mkF m 16 #[.val (.ref y), .val (.ref x), .val .null, .val (.ref t), .val (.int (10 : Int32))] [(.ref x)])) rfl (by rw [hml]; rfl) (argsL := []) (rest := []) (lenOf pd_392 rfl) rfl (by show 2 * 0 + _ ≤ _; exact Nat.le_of_eq rfl) (hb hby d21_16) rfl (ok rfl) (ok rfl) ?_
  intro v645 T645 L645 q645 X645
  obtain ⟨rfl, N645q, hE645⟩ := q645
  have N645 := Fr.app N644 N645q
  show Goes p e below _ T645 (mkF m 19 #[.val (.ref y), .val (.ref x), .val .null, .val (.ref t), .val (.int (10 : Int32))] [(.int (1 : Int32))])
  refine P1.ifNo X645.here hx (hb hby d21_19) ((if0 _ _).trans (feq (by decide : ¬ ((1 : Int32) = (0 : Int32)))).1) ?_
  refine P1.aloadN X645.here hx (hb hby d21_22) rfl rfl ?_
  refine P1.iconst X645.here hx (0 : Int32) (hb hby d21_23) rfl ?_
  obtain ⟨T646, h646, X646, e646, W646, st646⟩ := putFN X645 hx hZ hown (own_w hw 26 rfl) Via.refl hE645 Cy Ey (Or.inr ⟨(own_w hw 27 rfl), rfl, hnm⟩) (own_w hw 1 rfl) (ty := .byte) (v' := (.int (0 : Int32))) (by decide) rfl (by decide) (g := (mkF m 24 #[.val (.ref y), .val (.ref x), .val .null, .val (.ref t), .val (.int (10 : Int32))] [(.int (0 : Int32)), (.ref y)])) rfl rfl (hb hby d21_24)
  have Fw646 : Fld Z h646 y "java/lang/String" "coder" "B" (.int (0 : Int32)) := Cy.same W646
  have N646 := Fr.snoc X646 N645 gy
  refine Goes.step (T' := T646) (g' := (mkF m 27 #[.val (.ref y), .val (.ref x), .val .null, .val (.ref t), .val (.int (10 : Int32))] [])) st646 ?_
  refine P1.aloadN X646.here hx (hb hby d21_27) rfl rfl ?_
  refine P1.aloadN X646.here hx (hb hby d21_28) rfl rfl ?_
  refine P1.iconst X646.here hx (0 : Int32) (hb hby d21_29) rfl ?_
  refine P1.iload X646.here hx (hb hby d21_30) rfl ?_
  have K647 : Keep h0 h646 [y] := K0.wr W646 (Or.inl (by simp))
  have Z648 : n0 ≤ h646.size := Nat.le_trans Z0 (Keep.of_wr W646).1
  have ne649 : y ≠ t := own_ne_arv Ey (own_w hw 1 rfl) Vt
  have V650 : Arv Z h646 t kt .byte (16 : Int32) [(.int b0), (.int b1), (.int b2), (.int b3), (.int b4), (.int b5), (.int b6), (.int b7), (.int b8), (.int b9)] (.int (0 : Int32)) := Vt.other W646 (Ne.symm ne649)
  have O651 : Old Z n0 h646 := O0.wr W646 gy
  refine Goes.callS X646 hx (y := y23_) hown (mvT hZ (own_w hw 138 rfl)) (mvT hZ (own_w hw 139 rfl)) (mvT hZ (own_w hw 140 rfl)) (mvT hZ (own_w hw 141 rfl)) (by decide) (kc' := 1) (ks' := 10) (backOf (W := 1) (rmCr0_10_16_10 l Z a0 hw [] t kt b0 b1 b2 b3 b4 b5 b6 b7 b8 b9 h646 n0 Z648 O651 V650) hZ (own_w hw 141 rfl) (own_w hw 140 rfl) (ok rfl) (ok rfl)) (g := (mkF m 32 #[.val (.ref y), .val (.ref x), .val .null, .val (.ref t), .val (.int (10 : Int32))] [(.int (10 : Int32)), (.int (0 : Int32)), (.ref t), (.ref y)])) rfl (by rw [hml]; rfl) (argsL := [(.ref t), (.int (0 : Int32)), (.int (10 : Int32))]) (rest := [(.ref y)]) (lenOf pd_2488 rfl) rfl (by show 2 * 0 + _ ≤ _; exact Nat.le_of_eq rfl) (hb hby d21_32) rfl e646 (ok rfl) (ok rfl) ?_
  intro v652 T652 L652 q652 X652
  obtain ⟨r652, kr652, rfl, N652q, K652, szr652, g652V⟩ := q652
  have ge_r652 : n0 ≤ r652 := Nat.le_trans Z648 szr652
  have sz_r652 : h0.size ≤ r652 := Nat.le_trans K647.1 szr652
  have N652 := Fr.app N646 N652q
  show Goes p e below _ T652 (mkF m 35 #[.val (.ref y), .val (.ref x), .val .null, .val (.ref t), .val (.int (10 : Int32))] [(.ref r652), (.ref y)])
  have F653 : Fld Z h646 y "java/lang/String" "value" "[B" .null := Vy.other W646 (Or.inr (slot_ne (Or.inr (own_w hw 29 rfl)) (Or.inr (own_w hw 27 rfl)) (by decide) (t := (.array .byte)) (t' := .byte) (by decide) (by decide)))
  have F654 : Fld Z T652.heap y "java/lang/String" "value" "[B" .null := F653.keep K652 nin0
  have E655 : Exa Z h646 y "java/lang/String" := Ey.wr W646
  have E656 : Exa Z T652.heap y "java/lang/String" := E655.keep K652
  obtain ⟨T657, h657, X657, e657, W657, st657⟩ := putF X652 hx hZ hown (host := "") (Or.inl (own_w hw 28 rfl)) Via.refl rfl F654 E656 (Or.inr ⟨(own_w hw 29 rfl), rfl, hnm⟩) (own_w hw 1 rfl) (ty := (.array .byte)) (by decide) rfl rfl (g := (mkF m 35 #[.val (.ref y), .val (.ref x), .val .null, .val (.ref t), .val (.int (10 : Int32))] [(.ref r652), (.ref y)])) rfl rfl (hb hby d21_35)
  have Fw657 : Fld Z h657 y "java/lang/String" "value" "[B" (.ref r652) := F654.same W657
  have N657 := Fr.snoc X657 N652 gy
  refine Goes.step (T' := T657) (g' := (mkF m 38 #[.val (.ref y), .val (.ref x), .val .null, .val (.ref t), .val (.int (10 : Int32))] [])) st657 ?_
  refine P1.goto X657.here hx 97 (hb hby d21_38) (by decide) (by decide) ?_
  refine Goes.retV X657 hx Bd.notSynchronized Bd.returns (hb hby d21_97) (ok rfl) (ok rfl) ?_
  rw [e657]
  have E658 : Exa Z h657 y "java/lang/String" := E656.wr W657
  have F659 : Fld Z T652.heap y "java/lang/String" "coder" "B" (.int (0 : Int32)) := Fw646.keep K652 nin0
  have F660 : Fld Z h657 y "java/lang/String" "coder" "B" (.int (0 : Int32)) := F659.other W657 (Or.inr (slot_ne (Or.inr (own_w hw 27 rfl)) (Or.inr (own_w hw 29 rfl)) (by decide) (t := .byte) (t' := (.array .byte)) (by decide) (by decide)))
  have ne661 : y ≠ r652 := Nat.ne_of_lt (Nat.lt_of_lt_of_le E655.lt szr652)
  have V662 : Arv Z h657 r652 kr652 .byte (10 : Int32) [(.int b0), (.int b1), (.int b2), (.int b3), (.int b4), (.int b5), (.int b6), (.int b7), (.int b8), (.int b9)] (.int (0 : Int32)) := g652V.other W657 (Ne.symm ne661)
  have K663 : Keep h0 T652.heap [y] := K647.trans K652 all0
  have K664 : Keep h0 h657 [y] := K663.wr W657 (Or.inl (by simp))
  exact ⟨r652, kr652, rfl, N657, K664, sz_r652, E658, Fw657, F660, V662⟩
theorem efT2_10 (y x : Addr) (m : MethodId) : entryFrame m #[(.ref y), (.ref x)] 2 = mkF m 0 #[.val (.ref y), .val (.ref x)] [] := by first | (simp [entryFrame, mkF, argsToLocals, Value.category]; done) | rfl
def QT2_10 (Z : State) (y x t : Addr) (kt : ClassId) (b0 b1 b2 b3 b4 b5 b6 b7 b8 b9 zc : Int32) (fm : Value) (h0 : Heap) (n0 : Nat) (v : Option Value) (h : Heap) (L : List Loc) : Prop := ∃ r kr, v = none ∧ Fr n0 L ∧ Keep h0 h [y] ∧ h0.size ≤ r ∧ Exa Z h y "java/lang/String" ∧ Fld Z h y "java/lang/String" "value" "[B" (.ref r) ∧ Fld Z h y "java/lang/String" "coder" "B" (.int (0 : Int32)) ∧ Arv Z h r kr .byte (10 : Int32) [(.int b0), (.int b1), (.int b2), (.int b3), (.int b4), (.int b5), (.int b6), (.int b7), (.int b8), (.int b9)] (.int (0 : Int32))
set_option maxRecDepth 65536 in
set_option maxHeartbeats 40000000 in
theorem rmT2_10 (l : Launch) (Z : State) (a0 : Array Value) (hw : ∀ d ∈ tables_1, d.before a0 Z = true) (ws : List Jvm.Cond) (y x t : Addr) (kt : ClassId) (b0 b1 b2 b3 b4 b5 b6 b7 b8 b9 zc : Int32) (fm : Value) (h0 : Heap) (n0 : Nat) (Z0 : n0 ≤ h0.size) (O0 : Old Z n0 h0) (S_CS : Sta Z Z.heap "java/lang/String" "COMPACT_STRINGS" "Z" (.int zc)) (hzc : ¬ zc = 0) (S_FM : Sta Z Z.heap "jdk/internal/util/Preconditions" "SIOOBE_FORMATTER" "Ljava/util/function/BiFunction;" fm) (hfm : fm.isRef = true) (gy : n0 ≤ y) (Ey : Exa Z h0 y "java/lang/String") (Vy : Fld Z h0 y "java/lang/String" "value" "[B" .null) (Cy : Fld Z h0 y "java/lang/String" "coder" "B" (.int (0 : Int32))) (gx : n0 ≤ x) (gt : n0 ≤ t) (Ex : Exa Z h0 x "java/lang/StringBuilder") (Fv : Fld Z h0 x "java/lang/AbstractStringBuilder" "value" "[B" (.ref t)) (Fc : Fld Z h0 x "java/lang/AbstractStringBuilder" "coder" "B" (.int (0 : Int32))) (Fn : Fld Z h0 x "java/lang/AbstractStringBuilder" "count" "I" (.int (10 : Int32))) (Vt : Arv Z h0 t kt .byte (16 : Int32) [(.int b0), (.int b1), (.int b2), (.int b3), (.int b4), (.int b5), (.int b6), (.int b7), (.int b8), (.int b9)] (.int (0 : Int32))) :
    OwnLaw l y11_ jdk_42_method_53_code 2 none ws (rR 4 1 10 65) #[(.ref y), (.ref x)] Z h0 (QT2_10 Z y x t kt b0 b1 b2 b3 b4 b5 b6 b7 b8 b9 zc fm h0 n0) := by
  refine own_enter (plainFor_of_name pn_java_lang_String) (efT2_10 y x) ?_
  intro p e s m below meth c s₁ Bd hx hby hml hZ hown X0 e0
  have N0 := Fr.nil n0
  have K0 : Keep h0 h0 [] := Keep.refl _ _
  have K0 : Keep h0 h0 [y] := Keep.refl _ _
  refine P1.aloadN X0.here hx (hb hby d20_0) rfl rfl ?_
  refine P1.aloadN X0.here hx (hb hby d20_1) rfl rfl ?_
  refine P1.aconstNull X0.here hx (hb hby d20_2) ?_
  refine Goes.callC X0 hx (y := y10_) rfl hown (mvT hZ (own_w hw 117 rfl)) (mvT hZ (own_w hw 118 rfl)) (mvT hZ (own_w hw 119 rfl)) (by decide) (kc' := 1) (ks' := 10) (backOf (W := 0) (rmT3_10 l Z a0 hw [] y x t kt b0 b1 b2 b3 b4 b5 b6 b7 b8 b9 zc fm h0 n0 Z0 O0 S_CS hzc S_FM hfm gy Ey Vy Cy gx gt Ex Fv Fc Fn Vt) hZ (own_w hw 119 rfl) (own_w hw 2 rfl) (ok rfl) (ok rfl)) (g := (mkF m 3 #[.val (.ref y), .val (.ref x)] [.null, (.ref x), (.ref y)])) (a := y) rfl (by rw [hml]; rfl) (argsL := [(.ref x), .null]) (rest := []) (lenOf pd_127641 rfl) rfl (by show 2 * 0 + _ ≤ _; exact Nat.le_of_eq rfl) (hb hby d20_3) rfl e0 (ok rfl) (ok rfl) ?_
  intro v665 T665 L665 q665 X665
  obtain ⟨r665, kr665, rfl, N665q, K665, szr665, g665E, g665v, g665c, g665V⟩ := q665
  have ge_r665 : n0 ≤ r665 := Nat.le_trans Z0 szr665
  have sz_r665 : h0.size ≤ r665 := Nat.le_trans K0.1 szr665
  have N665 := Fr.app N0 N665q
  show Goes p e below _ T665 (mkF m 6 #[.val (.ref y), .val (.ref x)] [])
  refine Goes.retV X665 hx Bd.notSynchronized Bd.returns (hb hby d20_6) (ok rfl) (ok rfl) ?_
  have K666 : Keep h0 T665.heap [y] := K0.trans K665 (allS (Or.inl (by simp)) all0)
  exact ⟨r665, kr665, rfl, N665, K666, sz_r665, g665E, g665v, g665c, g665V⟩
theorem efTs10 (x : Addr) (m : MethodId) : entryFrame m #[(.ref x)] 1 = mkF m 0 #[.val (.ref x)] [] := by first | (simp [entryFrame, mkF, argsToLocals, Value.category]; done) | rfl
def QTs10 (Z : State) (x t : Addr) (kt : ClassId) (b0 b1 b2 b3 b4 b5 b6 b7 b8 b9 zc : Int32) (fm : Value) (h0 : Heap) (n0 : Nat) (v : Option Value) (h : Heap) (L : List Loc) : Prop := ∃ y r kr, v = some (.ref y) ∧ Fr n0 L ∧ Keep h0 h [] ∧ Exa Z h y "java/lang/String" ∧ Fld Z h y "java/lang/String" "value" "[B" (.ref r) ∧ Fld Z h y "java/lang/String" "coder" "B" (.int (0 : Int32)) ∧ Arv Z h r kr .byte (10 : Int32) [(.int b0), (.int b1), (.int b2), (.int b3), (.int b4), (.int b5), (.int b6), (.int b7), (.int b8), (.int b9)] (.int (0 : Int32))
set_option maxRecDepth 65536 in
set_option maxHeartbeats 40000000 in
theorem rmTs10 (l : Launch) (Z : State) (a0 : Array Value) (hw : ∀ d ∈ tables_1, d.before a0 Z = true) (ws : List Jvm.Cond) (x t : Addr) (kt : ClassId) (b0 b1 b2 b3 b4 b5 b6 b7 b8 b9 zc : Int32) (fm : Value) (h0 : Heap) (n0 : Nat) (Z0 : n0 ≤ h0.size) (O0 : Old Z n0 h0) (S_CS : Sta Z Z.heap "java/lang/String" "COMPACT_STRINGS" "Z" (.int zc)) (hzc : ¬ zc = 0) (S_FM : Sta Z Z.heap "jdk/internal/util/Preconditions" "SIOOBE_FORMATTER" "Ljava/util/function/BiFunction;" fm) (hfm : fm.isRef = true) (gx : n0 ≤ x) (gt : n0 ≤ t) (Ex : Exa Z h0 x "java/lang/StringBuilder") (Fv : Fld Z h0 x "java/lang/AbstractStringBuilder" "value" "[B" (.ref t)) (Fc : Fld Z h0 x "java/lang/AbstractStringBuilder" "coder" "B" (.int (0 : Int32))) (Fn : Fld Z h0 x "java/lang/AbstractStringBuilder" "count" "I" (.int (10 : Int32))) (Vt : Arv Z h0 t kt .byte (16 : Int32) [(.int b0), (.int b1), (.int b2), (.int b3), (.int b4), (.int b5), (.int b6), (.int b7), (.int b8), (.int b9)] (.int (0 : Int32))) :
    OwnLaw l y21_ jdk_67_method_42_code 1 (some (.object "java/lang/String")) ws (rR 5 2 14 79) #[(.ref x)] Z h0 (QTs10 Z x t kt b0 b1 b2 b3 b4 b5 b6 b7 b8 b9 zc fm h0 n0) := by
  refine own_enter (plainFor_of_name pn_java_lang_StringBuilder) (efTs10 x) ?_
  intro p e s m below meth c s₁ Bd hx hby hml hZ hown X0 e0
  have N0 := Fr.nil n0
  have K0 : Keep h0 h0 [] := Keep.refl _ _
  obtain ⟨T667, h667, X667, e667, E667, A667, D667, -, st667⟩ := newO X0 hx hZ hown (own_w hw 113 rfl) (own_w hw 1 rfl) (own_w hw 2 rfl) e0 (g := (mkF m 0 #[.val (.ref x)] [])) rfl (hb hby d19_0) (ok rfl) (ok rfl)
  obtain ⟨b667, g667⟩ : ∃ z, z = h0.size := ⟨_, rfl⟩
  rw [← g667] at A667 D667 st667
  have ge_b667 : n0 ≤ b667 := Nat.le_trans Z0 (Nat.le_of_eq g667.symm)
  have sz_b667 : h0.size ≤ b667 := Nat.le_trans K0.1 (Nat.le_of_eq g667.symm)
  have F667_coder : Fld Z h667 b667 "java/lang/String" "coder" "B" (.int (0 : Int32)) := D667 (Or.inr (own_w hw 27 rfl)) (ty := .byte) (by decide)
  have F667_value : Fld Z h667 b667 "java/lang/String" "value" "[B" .null := D667 (Or.inr (own_w hw 29 rfl)) (ty := (.array .byte)) (by decide)
  refine Goes.step (T' := T667) (g' := (mkF m 3 #[.val (.ref x)] [(.ref b667)])) st667 ?_
  refine P1.dup X667.here hx (hb hby d19_3) rfl ?_
  refine P1.aloadN X667.here hx (hb hby d19_4) rfl rfl ?_
  have E668 : Exa Z h667 x "java/lang/StringBuilder" := Ex.ext E667
  have F669 : Fld Z h667 x "java/lang/AbstractStringBuilder" "value" "[B" (.ref t) := Fv.ext E667
  have F670 : Fld Z h667 x "java/lang/AbstractStringBuilder" "coder" "B" (.int (0 : Int32)) := Fc.ext E667
  have F671 : Fld Z h667 x "java/lang/AbstractStringBuilder" "count" "I" (.int (10 : Int32)) := Fn.ext E667
  have V672 : Arv Z h667 t kt .byte (16 : Int32) [(.int b0), (.int b1), (.int b2), (.int b3), (.int b4), (.int b5), (.int b6), (.int b7), (.int b8), (.int b9)] (.int (0 : Int32)) := Vt.ext E667
  have K673 : Keep h0 h667 [] := K0.ext E667
  have Z674 : n0 ≤ h667.size := Nat.le_trans Z0 E667.1
  have O675 : Old Z n0 h667 := O0.ext E667
  refine Goes.callC X667 hx (y := y11_) rfl hown (mvT hZ (own_w hw 114 rfl)) (mvT hZ (own_w hw 115 rfl)) (mvT hZ (own_w hw 116 rfl)) (by decide) (kc' := 1) (ks' := 10) (backOf (W := 1) (rmT2_10 l Z a0 hw [] b667 x t kt b0 b1 b2 b3 b4 b5 b6 b7 b8 b9 zc fm h667 n0 Z674 O675 S_CS hzc S_FM hfm ge_b667 A667 F667_value F667_coder gx gt E668 F669 F670 F671 V672) hZ (own_w hw 116 rfl) (own_w hw 2 rfl) (ok rfl) (ok rfl)) (g := (mkF m 5 #[.val (.ref x)] [(.ref x), (.ref b667), (.ref b667)])) (a := b667) rfl (by rw [hml]; rfl) (argsL := [(.ref x)]) (rest := [(.ref b667)]) (lenOf pd_37548 rfl) rfl (by show 2 * 0 + _ ≤ _; exact Nat.le_of_eq rfl) (hb hby d19_5) rfl e667 (ok rfl) (ok rfl) ?_
  intro v676 T676 L676 q676 X676
  obtain ⟨r676, kr676, rfl, N676q, K676, szr676, g676E, g676v, g676c, g676V⟩ := q676
  have ge_r676 : n0 ≤ r676 := Nat.le_trans Z674 szr676
  have sz_r676 : h0.size ≤ r676 := Nat.le_trans K673.1 szr676
  have N676 := Fr.app N0 N676q
  show Goes p e below _ T676 (mkF m 8 #[.val (.ref x)] [(.ref b667)])
  refine Goes.retA X676 hx Bd.notSynchronized Bd.returns rfl rfl (hb hby d19_8) (ok rfl) (ok rfl) ?_
  have K677 : Keep h0 T676.heap [] := K673.trans K676 (allS (Or.inr sz_b667) all0)
  exact ⟨b667, r676, kr676, rfl, N676, K677, g676E, g676v, g676c, g676V⟩
theorem efLk3 (y : Addr) (m : MethodId) : entryFrame m #[(.ref y)] 1 = mkF m 0 #[.val (.ref y)] [] := by first | (simp [entryFrame, mkF, argsToLocals, Value.category]; done) | rfl
def QLk3 (Z : State) (y ty : Addr) (ky : ClassId) (c0 c1 c2 zc : Int32) (fm : Value) (h0 : Heap) (n0 : Nat) (v : Option Value) (h : Heap) (L : List Loc) : Prop := ∃ x r kr, v = some (.ref x) ∧ Fr n0 L ∧ Keep h0 h [] ∧ Exa Z h x "java/lang/String" ∧ Fld Z h x "java/lang/String" "value" "[B" (.ref r) ∧ Fld Z h x "java/lang/String" "coder" "B" (.int (0 : Int32)) ∧ Arv Z h r kr .byte (10 : Int32) [(.int (109 : Int32)), (.int (117 : Int32)), (.int (116 : Int32)), (.int (120 : Int32)), (.int (58 : Int32)), (.int (123 : Int32)), (.int (c0).toInt8.toInt32), (.int (c1).toInt8.toInt32), (.int (c2).toInt8.toInt32), (.int (125 : Int32))] (.int (0 : Int32))
set_option maxRecDepth 65536 in
set_option maxHeartbeats 40000000 in
theorem rmLk3 (l : Launch) (Z : State) (a0 : Array Value) (hw : ∀ d ∈ tables_1, d.before a0 Z = true) (ws : List Jvm.Cond) (y ty : Addr) (ky : ClassId) (c0 c1 c2 zc : Int32) (fm : Value) (h0 : Heap) (n0 : Nat) (Z0 : n0 ≤ h0.size) (O0 : Old Z n0 h0) (S_CS : Sta Z Z.heap "java/lang/String" "COMPACT_STRINGS" "Z" (.int zc)) (hzc : ¬ zc = 0) (S_FM : Sta Z Z.heap "jdk/internal/util/Preconditions" "SIOOBE_FORMATTER" "Ljava/util/function/BiFunction;" fm) (hfm : fm.isRef = true) (Ey : Exa Z h0 y "java/lang/String") (Vy : Fld Z h0 y "java/lang/String" "value" "[B" (.ref ty)) (Cy : Fld Z h0 y "java/lang/String" "coder" "B" (.int (0 : Int32))) (Ky : Arv Z h0 ty ky .byte (3 : Int32) [(.int (c0).toInt8.toInt32), (.int (c1).toInt8.toInt32), (.int (c2).toInt8.toInt32)] (.int (0 : Int32))) (hy : ∀ c ∈ ([c0, c1, c2] : List Int32), ¬ c < 0 ∧ ¬ (255 : Int32) < c) :
    OwnLawW l y0_ prog_10_method_2_code 1 (some (.object "java/lang/String")) ws (rR 6 8 70 91) #[(.ref y)] Z EL1 h0 (QLk3 Z y ty ky c0 c1 c2 zc fm h0 n0) := by
  refine own_enterW (plainFor_of_name pn_com_example_mutx_mutx_redis_RedisNames) (efLk3 y) ?_
  intro p e s m below meth c s₁ Bd hx hby hml hZ hown X0 e0 hh hS0 CR0
  have N0 := Fr.nil n0
  have hEL : EW Z a0 EL1 := own_EL hw
  have ks0 : h0.size ≤ h0.size := Nat.le_refl _
  have K0 : Keep h0 h0 [] := Keep.refl _ _
  refine P1.aloadN X0.here hx (hb hby d7_0) rfl rfl ?_
  refine P1.ifnullNo X0.here hx (hb hby d7_1) ?_
  refine P1.aloadN X0.here hx (hb hby d7_4) rfl rfl ?_
  refine Goes.callV X0 hx hZ (y := y16_) (z := y16_) (Qc := fun v h' L => (v = some (.int (if ([c0, c1, c2] : List Int32).length = 0 then 1 else 0)) ∧ L = [] ∧ h' = h0)) hown (mvT hZ (own_w hw 34 rfl)) (mvT hZ (own_w hw 35 rfl)) (notFace_of_selects (args := #[]) (mvT hZ (own_w hw 37 rfl))) (mvT hZ (own_w hw 37 rfl)) (mvT hZ (own_w hw 36 rfl)) (by decide) (kc' := 0) (ks' := 0) (StrChars.Road.empW (W := 0) hZ (fun d hd => hw d (in_wordsEmp d hd)) (kI := 4) (own_w hw 1 rfl) Ey Vy Cy Ky (StrChars.Road.codOf (cs := ([c0, c1, c2] : List Int32)) (n := 3) rfl (fun c hc => (hy c hc).2)) (own_up hy) (ok rfl) (ok rfl) (ok rfl)) (b := y) e0 Ey (g := (mkF m 5 #[.val (.ref y)] [(.ref y)])) rfl (by rw [hml]; rfl) (argsL := []) (rest := []) (lenOf pd_392 rfl) rfl (by show 2 * 0 + _ ≤ _; exact Nat.le_of_eq rfl) (hb hby d7_5) rfl (ok rfl) (ok rfl) ?_
  intro v678 T678 L678 q678 X678
  obtain ⟨rfl, rfl, hE678⟩ := q678
  have N678 := Fr.app N0 (Fr.nil n0)
  show Goes p e below _ T678 (mkF m 8 #[.val (.ref y)] [(.int (0 : Int32))])
  refine P1.ifYes X678.here hx 21 (hb hby d7_8) ((if0 _ _).trans (teq (by decide : (0 : Int32) = (0 : Int32))).1) (by decide) (by decide) ?_
  obtain ⟨T679, h679, X679, e679, E679, A679, D679, -, st679⟩ := newO X678 hx hZ hown (own_w hw 39 rfl) (own_w hw 40 rfl) (own_w hw 41 rfl) hE678 (g := (mkF m 21 #[.val (.ref y)] [])) rfl (hb hby d7_21) (ok rfl) (ok rfl)
  obtain ⟨b679, g679⟩ : ∃ z, z = h0.size := ⟨_, rfl⟩
  rw [← g679] at A679 D679 st679
  have ge_b679 : n0 ≤ b679 := Nat.le_trans Z0 (Nat.le_of_eq g679.symm)
  have sz_b679 : h0.size ≤ b679 := Nat.le_trans K0.1 (Nat.le_of_eq g679.symm)
  have sf_b679 : Safe Z EL1 s.vm h0 b679 := Safe.new (Nat.le_of_eq g679.symm)
  have F679_value : Fld Z h679 b679 "java/lang/AbstractStringBuilder" "value" "[B" .null := D679 (Or.inl (own_w hw 54 rfl)) (ty := (.array .byte)) (by decide)
  have F679_coder : Fld Z h679 b679 "java/lang/AbstractStringBuilder" "coder" "B" (.int (0 : Int32)) := D679 (Or.inl (own_w hw 56 rfl)) (ty := .byte) (by decide)
  have F679_count : Fld Z h679 b679 "java/lang/AbstractStringBuilder" "count" "I" (.int (0 : Int32)) := D679 (Or.inl (own_w hw 81 rfl)) (ty := .int) (by decide)
  refine Goes.step (T' := T679) (g' := (mkF m 24 #[.val (.ref y)] [(.ref b679)])) st679 ?_
  refine P1.dup X679.here hx (hb hby d7_24) rfl ?_
  have K680 : Keep h0 h679 [] := K0.ext E679
  have Z681 : n0 ≤ h679.size := Nat.le_trans Z0 E679.1
  have O682 : Old Z n0 h679 := O0.ext E679
  refine Goes.callC X679 hx (y := y18_) rfl hown (mvT hZ (own_w hw 42 rfl)) (mvT hZ (own_w hw 43 rfl)) (mvT hZ (own_w hw 44 rfl)) (by decide) (kc' := 1) (ks' := 16) (backOf (W := 1) (rmBI l Z a0 hw [] b679 zc fm h679 n0 Z681 O682 S_CS hzc S_FM hfm ge_b679 A679 F679_value F679_coder F679_count) hZ (own_w hw 44 rfl) (own_w hw 41 rfl) (ok rfl) (ok rfl)) (g := (mkF m 25 #[.val (.ref y)] [(.ref b679), (.ref b679)])) (a := b679) rfl (by rw [hml]; rfl) (argsL := []) (rest := [(.ref b679)]) (lenOf pd_380 rfl) rfl (by show 2 * 0 + _ ≤ _; exact Nat.le_of_eq rfl) (hb hby d7_25) rfl e679 (ok rfl) (ok rfl) ?_
  intro v683 T683 L683 q683 X683
  obtain ⟨t683, kt683, rfl, N683q, K683, szt683, g683E, g683v, g683c, g683n, g683V⟩ := q683
  have ge_t683 : n0 ≤ t683 := Nat.le_trans Z681 szt683
  have sz_t683 : h0.size ≤ t683 := Nat.le_trans K680.1 szt683
  have sf_t683 : Safe Z EL1 s.vm h679 t683 := Safe.new szt683
  have N683 := Fr.app N678 N683q
  show Goes p e below _ T683 (mkF m 28 #[.val (.ref y)] [(.ref b679)])
  have ks685 : h0.size ≤ h679.size := Nat.le_trans ks0 E679.1
  have ks686 : h0.size ≤ T683.heap.size := Nat.le_trans ks685 K683.1
  have CR687 : CHr Z EL1 s.vm h0 s.vm h679 := CR0.trans (CHr.ext E679 CR0.1)
  have sf688 : Safe Z EL1 s.vm h679 b679 := Safe.ext E679 CR0.1 sf_b679
  have CR689 : CHr Z EL1 s.vm h0 s.vm T683.heap := CR687.trans (CHr.keep K683 (sfS sf688 sf0) CR687.1)
  obtain ⟨la684, T684, h684, k1_684, lb684, lk684, X684, e684, E684, hS684, ks684, hZ, hown, LE684, LC684, LV684, LK684, -, -, CW684, -, hsf684, st684⟩ := ldcCH X683 hx hZ hown (own_w hw 57 rfl) (fun d hd => hw d (in_atoms d hd)) rfl hS0 ks686 hEL (by decide) CR689.1 (vs := [(.int (109 : Int32)), (.int (117 : Int32)), (.int (116 : Int32)), (.int (120 : Int32)), (.int (58 : Int32)), (.int (123 : Int32))]) (z := (6 : Int32)) (by decide) (by decide) rfl (g := (mkF m 28 #[.val (.ref y)] [(.ref b679)])) rfl (hb hby d7_28) (n := 24) (by decide) (by decide) (ok rfl) (ok rfl)
  refine Goes.step (T' := T684) (g' := (mkF m 30 #[.val (.ref y)] [(.ref la684), (.ref b679)])) st684 ?_
  have E690 : Exa Z h684 b679 "java/lang/StringBuilder" := g683E.ext E684
  have F691 : Fld Z h684 b679 "java/lang/AbstractStringBuilder" "value" "[B" (.ref t683) := g683v.ext E684
  have F692 : Fld Z h684 b679 "java/lang/AbstractStringBuilder" "coder" "B" (.int (0 : Int32)) := g683c.ext E684
  have F693 : Fld Z h684 b679 "java/lang/AbstractStringBuilder" "count" "I" (.int (0 : Int32)) := g683n.ext E684
  have V694 : Arv Z h684 t683 kt683 .byte (16 : Int32) [] (.int (0 : Int32)) := g683V.ext E684
  have sf696 : Safe Z EL1 s.vm T683.heap t683 := Safe.keep K683 (sfS sf688 sf0) CR687.1 sf_t683
  have sf697 : Safe Z EL1 T684.vm h684 t683 := CHr.safe CW684 g683V.lt sf696
  have ne695 : t683 ≠ lb684 := (hsf684 t683 sf697).2
  have Z698 : n0 ≤ T683.heap.size := Nat.le_trans Z681 K683.1
  have Z699 : n0 ≤ h684.size := Nat.le_trans Z698 E684.1
  have O700 : Old Z n0 T683.heap := O682.keep K683 (allS ge_b679 all0)
  have O701 : Old Z n0 h684 := O700.ext E684
  refine Goes.callV X684 hx hZ (y := y19_) (z := y19_) hown (mvT hZ (own_w hw 60 rfl)) (mvT hZ (own_w hw 61 rfl)) (notFace_of_selects (args := #[]) (mvT hZ (own_w hw 63 rfl))) (mvT hZ (own_w hw 63 rfl)) (mvT hZ (own_w hw 62 rfl)) (by decide) (kc' := 0) (ks' := 0) (backOf (W := 0) (rmSp0_6 l Z a0 hw [] b679 t683 kt683 la684 lb684 lk684 (109 : Int32) (117 : Int32) (116 : Int32) (120 : Int32) (58 : Int32) (123 : Int32) zc fm h684 n0 Z699 O701 S_CS hzc S_FM hfm ge_b679 ge_t683 E690 F691 F692 F693 V694 LE684 LV684 LC684 LK684 (Ne.symm ne695)) hZ (own_w hw 64 rfl) (own_w hw 41 rfl) (ok rfl) (ok rfl)) (b := b679) e684 E690 (g := (mkF m 30 #[.val (.ref y)] [(.ref la684), (.ref b679)])) rfl (by rw [hml]; rfl) (argsL := [(.ref la684)]) (rest := []) (lenOf pd_98417 rfl) rfl (by show 2 * 0 + _ ≤ _; exact Nat.le_of_eq rfl) (hb hby d7_30) rfl (ok rfl) (ok rfl) ?_
  intro v702 T702 L702 q702 X702
  obtain ⟨rfl, N702q, K702, g702E, g702v, g702c, g702n, g702V⟩ := q702
  have N702 := Fr.app N683 N702q
  show Goes p e below _ T702 (mkF m 33 #[.val (.ref y)] [(.ref b679)])
  refine P1.aloadN X702.here hx (hb hby d7_33) rfl rfl ?_
  have E703 : Exa Z h679 y "java/lang/String" := Ey.ext E679
  have E704 : Exa Z T683.heap y "java/lang/String" := E703.keep K683
  have E705 : Exa Z h684 y "java/lang/String" := E704.ext E684
  have E706 : Exa Z T702.heap y "java/lang/String" := E705.keep K702
  have F707 : Fld Z h679 y "java/lang/String" "value" "[B" (.ref ty) := Vy.ext E679
  have ne708 : y ≠ b679 := Nat.ne_of_lt (Nat.lt_of_lt_of_le Ey.lt (Nat.le_of_eq g679.symm))
  have F709 : Fld Z T683.heap y "java/lang/String" "value" "[B" (.ref ty) := F707.keep K683 (ninS ne708 nin0)
  have F710 : Fld Z h684 y "java/lang/String" "value" "[B" (.ref ty) := F709.ext E684
  have ne711 : y ≠ t683 := Nat.ne_of_lt (Nat.lt_of_lt_of_le E703.lt szt683)
  have F712 : Fld Z T702.heap y "java/lang/String" "value" "[B" (.ref ty) := F710.keep K702 (ninS ne708 (ninS ne711 nin0))
  have F713 : Fld Z h679 y "java/lang/String" "coder" "B" (.int (0 : Int32)) := Cy.ext E679
  have F714 : Fld Z T683.heap y "java/lang/String" "coder" "B" (.int (0 : Int32)) := F713.keep K683 (ninS ne708 nin0)
  have F715 : Fld Z h684 y "java/lang/String" "coder" "B" (.int (0 : Int32)) := F714.ext E684
  have F716 : Fld Z T702.heap y "java/lang/String" "coder" "B" (.int (0 : Int32)) := F715.keep K702 (ninS ne708 (ninS ne711 nin0))
  have V717 : Arv Z h679 ty ky .byte (3 : Int32) [(.int (c0).toInt8.toInt32), (.int (c1).toInt8.toInt32), (.int (c2).toInt8.toInt32)] (.int (0 : Int32)) := Ky.ext E679
  have ne718 : ty ≠ b679 := Nat.ne_of_lt (Nat.lt_of_lt_of_le Ky.lt (Nat.le_of_eq g679.symm))
  have V719 : Arv Z T683.heap ty ky .byte (3 : Int32) [(.int (c0).toInt8.toInt32), (.int (c1).toInt8.toInt32), (.int (c2).toInt8.toInt32)] (.int (0 : Int32)) := V717.keep K683 (ninS ne718 nin0)
  have V720 : Arv Z h684 ty ky .byte (3 : Int32) [(.int (c0).toInt8.toInt32), (.int (c1).toInt8.toInt32), (.int (c2).toInt8.toInt32)] (.int (0 : Int32)) := V719.ext E684
  have ne721 : ty ≠ t683 := Nat.ne_of_lt (Nat.lt_of_lt_of_le V717.lt szt683)
  have V722 : Arv Z T702.heap ty ky .byte (3 : Int32) [(.int (c0).toInt8.toInt32), (.int (c1).toInt8.toInt32), (.int (c2).toInt8.toInt32)] (.int (0 : Int32)) := V720.keep K702 (ninS ne718 (ninS ne721 nin0))
  have Z723 : n0 ≤ T702.heap.size := Nat.le_trans Z699 K702.1
  have O724 : Old Z n0 T702.heap := O701.keep K702 (allS ge_b679 (allS ge_t683 all0))
  refine Goes.callV X702 hx hZ (y := y19_) (z := y19_) hown (mvT hZ (own_w hw 60 rfl)) (mvT hZ (own_w hw 61 rfl)) (notFace_of_selects (args := #[]) (mvT hZ (own_w hw 63 rfl))) (mvT hZ (own_w hw 63 rfl)) (mvT hZ (own_w hw 62 rfl)) (by decide) (kc' := 0) (ks' := 0) (backOf (W := 0) (rmSp6_3 l Z a0 hw [] b679 t683 kt683 y ty ky (109 : Int32) (117 : Int32) (116 : Int32) (120 : Int32) (58 : Int32) (123 : Int32) (c0).toInt8.toInt32 (c1).toInt8.toInt32 (c2).toInt8.toInt32 zc fm T702.heap n0 Z723 O724 S_CS hzc S_FM hfm ge_b679 ge_t683 g702E g702v g702c g702n g702V E706 F712 F716 V722 ne721) hZ (own_w hw 64 rfl) (own_w hw 41 rfl) (ok rfl) (ok rfl)) (b := b679) rfl g702E (g := (mkF m 34 #[.val (.ref y)] [(.ref y), (.ref b679)])) rfl (by rw [hml]; rfl) (argsL := [(.ref y)]) (rest := []) (lenOf pd_98417 rfl) rfl (by show 2 * 0 + _ ≤ _; exact Nat.le_of_eq rfl) (hb hby d7_34) rfl (ok rfl) (ok rfl) ?_
  intro v725 T725 L725 q725 X725
  obtain ⟨rfl, N725q, K725, g725E, g725v, g725c, g725n, g725V⟩ := q725
  have N725 := Fr.app N702 N725q
  show Goes p e below _ T725 (mkF m 37 #[.val (.ref y)] [(.ref b679)])
  have ks727 : k1_684 ≤ T702.heap.size := Nat.le_trans ks684 K702.1
  have ks728 : k1_684 ≤ T725.heap.size := Nat.le_trans ks727 K725.1
  have CR729 : CHr Z EL1 s.vm h0 T684.vm h684 := CR689.trans CW684
  have sf730 : Safe Z EL1 s.vm T683.heap b679 := Safe.keep K683 (sfS sf688 sf0) CR687.1 sf688
  have sf731 : Safe Z EL1 T684.vm h684 b679 := CHr.safe CW684 g683E.lt sf730
  have CR732 : CHr Z EL1 s.vm h0 T684.vm T702.heap := CR729.trans (CHr.keep K702 (sfS sf731 (sfS sf697 sf0)) CR729.1)
  have sf733 : Safe Z EL1 T684.vm T702.heap t683 := Safe.keep K702 (sfS sf731 (sfS sf697 sf0)) CR729.1 sf697
  have sf734 : Safe Z EL1 T684.vm T702.heap b679 := Safe.keep K702 (sfS sf731 (sfS sf697 sf0)) CR729.1 sf731
  have CR735 : CHr Z EL1 s.vm h0 T684.vm T725.heap := CR732.trans (CHr.keep K725 (sfS sf734 (sfS sf733 sf0)) CR732.1)
  obtain ⟨la726, T726, h726, k1_726, lb726, lk726, X726, e726, E726, hS726, ks726, hZ, hown, LE726, LC726, LV726, LK726, -, -, CW726, -, hsf726, st726⟩ := ldcCH X725 hx hZ hown (own_w hw 107 rfl) (fun d hd => hw d (in_atoms d hd)) rfl hS684 ks728 hEL (by decide) CR735.1 (vs := [(.int (125 : Int32))]) (z := (1 : Int32)) (by decide) (by decide) rfl (g := (mkF m 37 #[.val (.ref y)] [(.ref b679)])) rfl (hb hby d7_37) (n := 4) (by decide) (by decide) (ok rfl) (ok rfl)
  refine Goes.step (T' := T726) (g' := (mkF m 39 #[.val (.ref y)] [(.ref la726), (.ref b679)])) st726 ?_
  have E736 : Exa Z h726 b679 "java/lang/StringBuilder" := g725E.ext E726
  have F737 : Fld Z h726 b679 "java/lang/AbstractStringBuilder" "value" "[B" (.ref t683) := g725v.ext E726
  have F738 : Fld Z h726 b679 "java/lang/AbstractStringBuilder" "coder" "B" (.int (0 : Int32)) := g725c.ext E726
  have F739 : Fld Z h726 b679 "java/lang/AbstractStringBuilder" "count" "I" (.int (9 : Int32)) := g725n.ext E726
  have V740 : Arv Z h726 t683 kt683 .byte (16 : Int32) [(.int (109 : Int32)), (.int (117 : Int32)), (.int (116 : Int32)), (.int (120 : Int32)), (.int (58 : Int32)), (.int (123 : Int32)), (.int (c0).toInt8.toInt32), (.int (c1).toInt8.toInt32), (.int (c2).toInt8.toInt32)] (.int (0 : Int32)) := g725V.ext E726
  have sf742 : Safe Z EL1 T684.vm T725.heap t683 := Safe.keep K725 (sfS sf734 (sfS sf733 sf0)) CR732.1 sf733
  have sf743 : Safe Z EL1 T726.vm h726 t683 := CHr.safe CW726 g725V.lt sf742
  have ne741 : t683 ≠ lb726 := (hsf726 t683 sf743).2
  have Z744 : n0 ≤ T725.heap.size := Nat.le_trans Z723 K725.1
  have Z745 : n0 ≤ h726.size := Nat.le_trans Z744 E726.1
  have O746 : Old Z n0 T725.heap := O724.keep K725 (allS ge_b679 (allS ge_t683 all0))
  have O747 : Old Z n0 h726 := O746.ext E726
  refine Goes.callV X726 hx hZ (y := y19_) (z := y19_) hown (mvT hZ (own_w hw 60 rfl)) (mvT hZ (own_w hw 61 rfl)) (notFace_of_selects (args := #[]) (mvT hZ (own_w hw 63 rfl))) (mvT hZ (own_w hw 63 rfl)) (mvT hZ (own_w hw 62 rfl)) (by decide) (kc' := 0) (ks' := 0) (backOf (W := 0) (rmSp9_1 l Z a0 hw [] b679 t683 kt683 la726 lb726 lk726 (109 : Int32) (117 : Int32) (116 : Int32) (120 : Int32) (58 : Int32) (123 : Int32) (c0).toInt8.toInt32 (c1).toInt8.toInt32 (c2).toInt8.toInt32 (125 : Int32) zc fm h726 n0 Z745 O747 S_CS hzc S_FM hfm ge_b679 ge_t683 E736 F737 F738 F739 V740 LE726 LV726 LC726 LK726 (Ne.symm ne741)) hZ (own_w hw 64 rfl) (own_w hw 41 rfl) (ok rfl) (ok rfl)) (b := b679) e726 E736 (g := (mkF m 39 #[.val (.ref y)] [(.ref la726), (.ref b679)])) rfl (by rw [hml]; rfl) (argsL := [(.ref la726)]) (rest := []) (lenOf pd_98417 rfl) rfl (by show 2 * 0 + _ ≤ _; exact Nat.le_of_eq rfl) (hb hby d7_39) rfl (ok rfl) (ok rfl) ?_
  intro v748 T748 L748 q748 X748
  obtain ⟨rfl, N748q, K748, g748E, g748v, g748c, g748n, g748V⟩ := q748
  have N748 := Fr.app N725 N748q
  show Goes p e below _ T748 (mkF m 42 #[.val (.ref y)] [(.ref b679)])
  have Z749 : n0 ≤ T748.heap.size := Nat.le_trans Z745 K748.1
  have O750 : Old Z n0 T748.heap := O747.keep K748 (allS ge_b679 (allS ge_t683 all0))
  refine Goes.callV X748 hx hZ (y := y21_) (z := y21_) hown (mvT hZ (own_w hw 108 rfl)) (mvT hZ (own_w hw 109 rfl)) (notFace_of_selects (args := #[]) (mvT hZ (own_w hw 111 rfl))) (mvT hZ (own_w hw 111 rfl)) (mvT hZ (own_w hw 110 rfl)) (by decide) (kc' := 2) (ks' := 14) (backOf (W := 0) (rmTs10 l Z a0 hw [] b679 t683 kt683 (109 : Int32) (117 : Int32) (116 : Int32) (120 : Int32) (58 : Int32) (123 : Int32) (c0).toInt8.toInt32 (c1).toInt8.toInt32 (c2).toInt8.toInt32 (125 : Int32) zc fm T748.heap n0 Z749 O750 S_CS hzc S_FM hfm ge_b679 ge_t683 g748E g748v g748c g748n g748V) hZ (own_w hw 112 rfl) (own_w hw 41 rfl) (ok rfl) (ok rfl)) (b := b679) rfl g748E (g := (mkF m 42 #[.val (.ref y)] [(.ref b679)])) rfl (by rw [hml]; rfl) (argsL := []) (rest := []) (lenOf pd_19649 rfl) rfl (by show 2 * 0 + _ ≤ _; exact Nat.le_of_eq rfl) (hb hby d7_42) rfl (ok rfl) (ok rfl) ?_
  intro v751 T751 L751 q751 X751
  obtain ⟨y751, r751, kr751, rfl, N751q, K751, g751E, g751v, g751c, g751V⟩ := q751
  have N751 := Fr.app N748 N751q
  show Goes p e below _ T751 (mkF m 45 #[.val (.ref y)] [(.ref y751)])
  have ks752 : k1_726 ≤ T748.heap.size := Nat.le_trans ks726 K748.1
  have ks753 : k1_726 ≤ T751.heap.size := Nat.le_trans ks752 K751.1
  have CR754 : CHr Z EL1 s.vm h0 T726.vm h726 := CR735.trans CW726
  have sf755 : Safe Z EL1 T684.vm T725.heap b679 := Safe.keep K725 (sfS sf734 (sfS sf733 sf0)) CR732.1 sf734
  have sf756 : Safe Z EL1 T726.vm h726 b679 := CHr.safe CW726 g725E.lt sf755
  have CR757 : CHr Z EL1 s.vm h0 T726.vm T748.heap := CR754.trans (CHr.keep K748 (sfS sf756 (sfS sf743 sf0)) CR754.1)
  have CR758 : CHr Z EL1 s.vm h0 T726.vm T751.heap := CR757.trans (CHr.keep K751 sf0 CR757.1)
  refine Goes.retAW X751 hx Bd.notSynchronized hS726 ks753 hZ hEL (hh ▸ CR758) rfl Bd.returns rfl rfl (hb hby d7_45) (ok rfl) (ok rfl) ?_
  have K759 : Keep h0 T683.heap [] := K680.trans K683 (allS (Or.inr sz_b679) all0)
  have K760 : Keep h0 h684 [] := K759.ext E684
  have K761 : Keep h0 T702.heap [] := K760.trans K702 (allS (Or.inr sz_b679) (allS (Or.inr sz_t683) all0))
  have K762 : Keep h0 T725.heap [] := K761.trans K725 (allS (Or.inr sz_b679) (allS (Or.inr sz_t683) all0))
  have K763 : Keep h0 h726 [] := K762.ext E726
  have K764 : Keep h0 T748.heap [] := K763.trans K748 (allS (Or.inr sz_b679) (allS (Or.inr sz_t683) all0))
  have K765 : Keep h0 T751.heap [] := K764.trans K751 all0
  exact ⟨y751, r751, kr751, rfl, N751, K765, g751E, g751v, g751c, g751V⟩
theorem efGb6_4 (y t : Addr) (m : MethodId) : entryFrame m #[(.ref y), (.ref t), (.int (6 : Int32)), (.int (0 : Int32))] 4 = mkF m 0 #[.val (.ref y), .val (.ref t), .val (.int (6 : Int32)), .val (.int (0 : Int32))] [] := by first | (simp [entryFrame, mkF, argsToLocals, Value.category]; done) | rfl
def QGb6_4 (Z : State) (t : Addr) (kt : ClassId) (y ty : Addr) (ky : ClassId) (b0 b1 b2 b3 b4 b5 c0 c1 c2 c3 zc : Int32) (fm : Value) (h0 : Heap) (n0 : Nat) (v : Option Value) (h : Heap) (L : List Loc) : Prop := v = none ∧ Fr n0 L ∧ Keep h0 h [t] ∧ Arv Z h t kt .byte (16 : Int32) [(.int b0), (.int b1), (.int b2), (.int b3), (.int b4), (.int b5), (.int c0), (.int c1), (.int c2), (.int c3)] (.int (0 : Int32))
set_option maxRecDepth 65536 in
set_option maxHeartbeats 40000000 in
theorem rmGb6_4 (l : Launch) (Z : State) (a0 : Array Value) (hw : ∀ d ∈ tables_1, d.before a0 Z = true) (ws : List Jvm.Cond) (t : Addr) (kt : ClassId) (y ty : Addr) (ky : ClassId) (b0 b1 b2 b3 b4 b5 c0 c1 c2 c3 zc : Int32) (fm : Value) (h0 : Heap) (n0 : Nat) (Z0 : n0 ≤ h0.size) (O0 : Old Z n0 h0) (S_CS : Sta Z Z.heap "java/lang/String" "COMPACT_STRINGS" "Z" (.int zc)) (hzc : ¬ zc = 0) (S_FM : Sta Z Z.heap "jdk/internal/util/Preconditions" "SIOOBE_FORMATTER" "Ljava/util/function/BiFunction;" fm) (hfm : fm.isRef = true) (gt : n0 ≤ t) (Vt : Arv Z h0 t kt .byte (16 : Int32) [(.int b0), (.int b1), (.int b2), (.int b3), (.int b4), (.int b5)] (.int (0 : Int32))) (Ey : Exa Z h0 y "java/lang/String") (Vy : Fld Z h0 y "java/lang/String" "value" "[B" (.ref ty)) (Cy : Fld Z h0 y "java/lang/String" "coder" "B" (.int (0 : Int32))) (Ky : Arv Z h0 ty ky .byte (4 : Int32) [(.int c0), (.int c1), (.int c2), (.int c3)] (.int (0 : Int32))) (nety : ty ≠ t) :
    OwnLaw l y15_ jdk_42_method_147_code 4 none ws (rR 1 0 0 18) #[(.ref y), (.ref t), (.int (6 : Int32)), (.int (0 : Int32))] Z h0 (QGb6_4 Z t kt y ty ky b0 b1 b2 b3 b4 b5 c0 c1 c2 c3 zc fm h0 n0) := by
  refine own_enter (plainFor_of_name pn_java_lang_String) (efGb6_4 y t) ?_
  intro p e s m below meth c s₁ Bd hx hby hml hZ hown X0 e0
  have N0 := Fr.nil n0
  have K0 : Keep h0 h0 [] := Keep.refl _ _
  have K0 : Keep h0 h0 [t] := Keep.refl _ _
  refine P1.aloadN X0.here hx (hb hby d18_0) rfl rfl ?_
  refine Goes.callV X0 hx hZ (y := y14_) (z := y14_) hown (mvT hZ (own_w hw 75 rfl)) (mvT hZ (own_w hw 76 rfl)) (notFace_of_selects (args := #[]) (mvT hZ (own_w hw 78 rfl))) (mvT hZ (own_w hw 78 rfl)) (mvT hZ (own_w hw 77 rfl)) (by decide) (kc' := 0) (ks' := 0) (backOf (W := 0) (rmCod l Z a0 hw [] y zc fm h0 n0 Z0 O0 S_CS hzc S_FM hfm Cy) hZ (own_w hw 79 rfl) (own_w hw 2 rfl) (ok rfl) (ok rfl)) (b := y) e0 Ey (g := (mkF m 1 #[.val (.ref y), .val (.ref t), .val (.int (6 : Int32)), .val (.int (0 : Int32))] [(.ref y)])) rfl (by rw [hml]; rfl) (argsL := []) (rest := []) (lenOf pd_320 rfl) rfl (by show 2 * 0 + _ ≤ _; exact Nat.le_of_eq rfl) (hb hby d18_1) rfl (ok rfl) (ok rfl) ?_
  intro v766 T766 L766 q766 X766
  obtain ⟨rfl, N766q, hE766⟩ := q766
  have N766 := Fr.app N0 N766q
  show Goes p e below _ T766 (mkF m 4 #[.val (.ref y), .val (.ref t), .val (.int (6 : Int32)), .val (.int (0 : Int32))] [(.int (0 : Int32))])
  refine P1.iloadN X766.here hx (hb hby d18_4) rfl ?_
  refine P1.icmpNo X766.here hx (hb hby d18_5) (teq (by decide : (0 : Int32) = (0 : Int32))).2 ?_
  refine P1.aloadN X766.here hx (hb hby d18_8) rfl rfl ?_
  obtain ⟨T767, X767, e767, st767⟩ := getF X766 hx hZ hown (host := "") (Or.inl (own_w hw 28 rfl)) Via.refl hE766 Vy (g := (mkF m 9 #[.val (.ref y), .val (.ref t), .val (.int (6 : Int32)), .val (.int (0 : Int32))] [(.ref y)])) rfl rfl (hb hby d18_9)
  refine Goes.step (T' := T767) (g' := (mkF m 12 #[.val (.ref y), .val (.ref t), .val (.int (6 : Int32)), .val (.int (0 : Int32))] [(.ref ty)])) st767 ?_
  refine P1.iconst X767.here hx (0 : Int32) (hb hby d18_12) rfl ?_
  refine P1.aloadN X767.here hx (hb hby d18_13) rfl rfl ?_
  refine P1.iloadN X767.here hx (hb hby d18_14) rfl ?_
  refine P1.iloadN X767.here hx (hb hby d18_15) rfl ?_
  refine Goes.step (T' := T767) (g' := (mkF m 17 #[.val (.ref y), .val (.ref t), .val (.int (6 : Int32)), .val (.int (0 : Int32))] [(.int ((6 : Int32) <<< ((0 : Int32) &&& 31))), (.ref t), (.int (0 : Int32)), (.ref ty)])) (fun t_ k_ => XS.ishl X767.here hx rfl (hb hby d18_16) rfl k_) ?_
  have rw768 : ((6 : Int32) <<< ((0 : Int32) &&& 31)) = (6 : Int32) := by decide
  rw [rw768]
  refine P1.aloadN X767.here hx (hb hby d18_17) rfl rfl ?_
  obtain ⟨T769, X769, e769, st769⟩ := getF X767 hx hZ hown (host := "") (Or.inl (own_w hw 28 rfl)) Via.refl e767 Vy (g := (mkF m 18 #[.val (.ref y), .val (.ref t), .val (.int (6 : Int32)), .val (.int (0 : Int32))] [(.ref y), (.int (6 : Int32)), (.ref t), (.int (0 : Int32)), (.ref ty)])) rfl rfl (hb hby d18_18)
  refine Goes.step (T' := T769) (g' := (mkF m 21 #[.val (.ref y), .val (.ref t), .val (.int (6 : Int32)), .val (.int (0 : Int32))] [(.ref ty), (.int (6 : Int32)), (.ref t), (.int (0 : Int32)), (.ref ty)])) st769 ?_
  obtain ⟨cl770, Ar770, qk770, sl770, nz770, ha770, fi770⟩ := id Ky
  have al771 : cl770.slots.size.toInt32 = (4 : Int32) := len_of sl770 nz770
  refine Goes.step (T' := T769) (g' := (mkF m 22 #[.val (.ref y), .val (.ref t), .val (.int (6 : Int32)), .val (.int (0 : Int32))] [(.int (4 : Int32)), (.int (6 : Int32)), (.ref t), (.int (0 : Int32)), (.ref ty)])) (fun t_ k_ => X769.arraylength hx (by rw [e769]; exact Ar770.1) (State.isArrayOf_alike hZ.alike Ar770.2.1) (g := (mkF m 21 #[.val (.ref y), .val (.ref t), .val (.int (6 : Int32)), .val (.int (0 : Int32))] [(.ref ty), (.int (6 : Int32)), (.ref t), (.int (0 : Int32)), (.ref ty)])) rfl rfl (hb hby d18_21) _ <| by rw [al771]; exact k_) ?_
  have V772 : Arv Z h0 t kt .byte (16 : Int32) [(.int b0), (.int b1), (.int b2), (.int b3), (.int b4), (.int b5), (.int (0 : Int32)), (.int (0 : Int32)), (.int (0 : Int32)), (.int (0 : Int32))] (.int (0 : Int32)) := Vt.pad (pad_rep [(.int b0), (.int b1), (.int b2), (.int b3), (.int b4), (.int b5)] (.int (0 : Int32)) 4)
  obtain ⟨T773, h773, L773, X773, e773, N773, K773, Va773, st773⟩ := cpA X769 hx hZ hown (own_w hw 103 rfl) (own_w hw 106 rfl) (own_w hw 104 rfl) (own_w hw 105 rfl) e769 Ky V772 (us := [(.int c0), (.int c1), (.int c2), (.int c3)]) (Or.inl ⟨rfl, rfl⟩) (by decide) (by decide) (by decide) (ok rfl) (ok rfl) rfl (ok rfl) N766 gt (g := (mkF m 22 #[.val (.ref y), .val (.ref t), .val (.int (6 : Int32)), .val (.int (0 : Int32))] [(.int (4 : Int32)), (.int (6 : Int32)), (.ref t), (.int (0 : Int32)), (.ref ty)])) rfl (by rw [hml]; rfl) rfl (hb hby d18_22) (ok rfl) (W := 0) (by show 2 * 0 + _ ≤ _; exact Nat.le_of_eq rfl) (ok rfl)
  have V773 : Arv Z h773 t kt .byte (16 : Int32) [(.int b0), (.int b1), (.int b2), (.int b3), (.int b4), (.int b5), (.int c0), (.int c1), (.int c2), (.int c3)] (.int (0 : Int32)) := Va773
  refine Goes.step (T' := T773) (g' := (mkF m 25 #[.val (.ref y), .val (.ref t), .val (.int (6 : Int32)), .val (.int (0 : Int32))] [])) st773 ?_
  refine P1.goto X773.here hx 43 (hb hby d18_25) (by decide) (by decide) ?_
  refine Goes.retV X773 hx Bd.notSynchronized Bd.returns (hb hby d18_43) (ok rfl) (ok rfl) ?_
  rw [e773]
  have K774 : Keep h0 h773 [t] := K0.trans K773 (allS (Or.inl (by simp)) all0)
  exact ⟨rfl, N773, K774, V773⟩
theorem efPu6_4 (x y : Addr) (m : MethodId) : entryFrame m #[(.ref x), (.int (6 : Int32)), (.ref y)] 3 = mkF m 0 #[.val (.ref x), .val (.int (6 : Int32)), .val (.ref y)] [] := by first | (simp [entryFrame, mkF, argsToLocals, Value.category]; done) | rfl
def QPu6_4 (Z : State) (x t : Addr) (kt : ClassId) (y ty : Addr) (ky : ClassId) (b0 b1 b2 b3 b4 b5 c0 c1 c2 c3 zc : Int32) (fm : Value) (h0 : Heap) (n0 : Nat) (v : Option Value) (h : Heap) (L : List Loc) : Prop := v = none ∧ Fr n0 L ∧ Keep h0 h [x, t] ∧ Exa Z h x "java/lang/StringBuilder" ∧ Fld Z h x "java/lang/AbstractStringBuilder" "value" "[B" (.ref t) ∧ Fld Z h x "java/lang/AbstractStringBuilder" "coder" "B" (.int (0 : Int32)) ∧ Fld Z h x "java/lang/AbstractStringBuilder" "count" "I" (.int (6 : Int32)) ∧ Arv Z h t kt .byte (16 : Int32) [(.int b0), (.int b1), (.int b2), (.int b3), (.int b4), (.int b5), (.int c0), (.int c1), (.int c2), (.int c3)] (.int (0 : Int32))
set_option maxRecDepth 65536 in
set_option maxHeartbeats 40000000 in
theorem rmPu6_4 (l : Launch) (Z : State) (a0 : Array Value) (hw : ∀ d ∈ tables_1, d.before a0 Z = true) (ws : List Jvm.Cond) (x t : Addr) (kt : ClassId) (y ty : Addr) (ky : ClassId) (b0 b1 b2 b3 b4 b5 c0 c1 c2 c3 zc : Int32) (fm : Value) (h0 : Heap) (n0 : Nat) (Z0 : n0 ≤ h0.size) (O0 : Old Z n0 h0) (S_CS : Sta Z Z.heap "java/lang/String" "COMPACT_STRINGS" "Z" (.int zc)) (hzc : ¬ zc = 0) (S_FM : Sta Z Z.heap "jdk/internal/util/Preconditions" "SIOOBE_FORMATTER" "Ljava/util/function/BiFunction;" fm) (hfm : fm.isRef = true) (gx : n0 ≤ x) (gt : n0 ≤ t) (Ex : Exa Z h0 x "java/lang/StringBuilder") (Fv : Fld Z h0 x "java/lang/AbstractStringBuilder" "value" "[B" (.ref t)) (Fc : Fld Z h0 x "java/lang/AbstractStringBuilder" "coder" "B" (.int (0 : Int32))) (Fn : Fld Z h0 x "java/lang/AbstractStringBuilder" "count" "I" (.int (6 : Int32))) (Vt : Arv Z h0 t kt .byte (16 : Int32) [(.int b0), (.int b1), (.int b2), (.int b3), (.int b4), (.int b5)] (.int (0 : Int32))) (Ey : Exa Z h0 y "java/lang/String") (Vy : Fld Z h0 y "java/lang/String" "value" "[B" (.ref ty)) (Cy : Fld Z h0 y "java/lang/String" "coder" "B" (.int (0 : Int32))) (Ky : Arv Z h0 ty ky .byte (4 : Int32) [(.int c0), (.int c1), (.int c2), (.int c3)] (.int (0 : Int32))) (nety : ty ≠ t) :
    OwnLaw l y8_ jdk_68_method_73_code 3 none ws (rR 2 0 0 33) #[(.ref x), (.int (6 : Int32)), (.ref y)] Z h0 (QPu6_4 Z x t kt y ty ky b0 b1 b2 b3 b4 b5 c0 c1 c2 c3 zc fm h0 n0) := by
  refine own_enter (plainFor_of_name pn_java_lang_AbstractStringBuilder) (efPu6_4 x y) ?_
  intro p e s m below meth c s₁ Bd hx hby hml hZ hown X0 e0
  have N0 := Fr.nil n0
  have K0 : Keep h0 h0 [] := Keep.refl _ _
  have K0 : Keep h0 h0 [x, t] := Keep.refl _ _
  refine P1.aloadN X0.here hx (hb hby d16_0) rfl rfl ?_
  refine P1.aloadN X0.here hx (hb hby d16_1) rfl rfl ?_
  refine Goes.callV X0 hx hZ (y := y5_) (z := y5_) hown (mvT hZ (own_w hw 92 rfl)) (mvT hZ (own_declares (own_w hw 93 rfl) (own_w hw 96 rfl))) (notFace_of_selects (args := #[]) (mvT hZ (own_w hw 95 rfl))) (mvT hZ (own_w hw 95 rfl)) (mvT hZ (own_w hw 93 rfl)) (by decide) (kc' := 0) (ks' := 0) (backOf (W := 0) (rmInf l Z a0 hw [] x y zc fm h0 n0 Z0 O0 S_CS hzc S_FM hfm Fc Ey Cy) hZ (own_w hw 96 rfl) (own_w hw 49 rfl) (ok rfl) (ok rfl)) (b := x) e0 Ex (g := (mkF m 2 #[.val (.ref x), .val (.int (6 : Int32)), .val (.ref y)] [(.ref y), (.ref x)])) rfl (by rw [hml]; rfl) (argsL := [(.ref y)]) (rest := []) (lenOf pd_20497 rfl) rfl (by show 2 * 0 + _ ≤ _; exact Nat.le_of_eq rfl) (hb hby d16_2) rfl (ok rfl) (ok rfl) ?_
  intro v775 T775 L775 q775 X775
  obtain ⟨rfl, N775q, hE775⟩ := q775
  have N775 := Fr.app N0 N775q
  show Goes p e below _ T775 (mkF m 5 #[.val (.ref x), .val (.int (6 : Int32)), .val (.ref y)] [])
  refine P1.aloadN X775.here hx (hb hby d16_5) rfl rfl ?_
  refine P1.aloadN X775.here hx (hb hby d16_6) rfl rfl ?_
  obtain ⟨T776, X776, e776, st776⟩ := getF X775 hx hZ hown (host := "") (Or.inl (own_w hw 53 rfl)) Via.refl hE775 Fv (g := (mkF m 7 #[.val (.ref x), .val (.int (6 : Int32)), .val (.ref y)] [(.ref x), (.ref y)])) rfl rfl (hb hby d16_7)
  refine Goes.step (T' := T776) (g' := (mkF m 10 #[.val (.ref x), .val (.int (6 : Int32)), .val (.ref y)] [(.ref t), (.ref y)])) st776 ?_
  refine P1.iloadN X776.here hx (hb hby d16_10) rfl ?_
  refine P1.aloadN X776.here hx (hb hby d16_11) rfl rfl ?_
  obtain ⟨T777, X777, e777, st777⟩ := getF X776 hx hZ hown (host := "") (Or.inl (own_w hw 55 rfl)) Via.refl e776 Fc (g := (mkF m 12 #[.val (.ref x), .val (.int (6 : Int32)), .val (.ref y)] [(.ref x), (.int (6 : Int32)), (.ref t), (.ref y)])) rfl rfl (hb hby d16_12)
  refine Goes.step (T' := T777) (g' := (mkF m 15 #[.val (.ref x), .val (.int (6 : Int32)), .val (.ref y)] [(.int (0 : Int32)), (.int (6 : Int32)), (.ref t), (.ref y)])) st777 ?_
  refine Goes.callV X777 hx hZ (y := y15_) (z := y15_) hown (mvT hZ (own_w hw 98 rfl)) (mvT hZ (own_w hw 99 rfl)) (notFace_of_selects (args := #[]) (mvT hZ (own_w hw 101 rfl))) (mvT hZ (own_w hw 101 rfl)) (mvT hZ (own_w hw 100 rfl)) (by decide) (kc' := 0) (ks' := 0) (backOf (W := 0) (rmGb6_4 l Z a0 hw [] t kt y ty ky b0 b1 b2 b3 b4 b5 c0 c1 c2 c3 zc fm h0 n0 Z0 O0 S_CS hzc S_FM hfm gt Vt Ey Vy Cy Ky nety) hZ (own_w hw 102 rfl) (own_w hw 2 rfl) (ok rfl) (ok rfl)) (b := y) e777 Ey (g := (mkF m 15 #[.val (.ref x), .val (.int (6 : Int32)), .val (.ref y)] [(.int (0 : Int32)), (.int (6 : Int32)), (.ref t), (.ref y)])) rfl (by rw [hml]; rfl) (argsL := [(.ref t), (.int (6 : Int32)), (.int (0 : Int32))]) (rest := []) (lenOf pd_1890 rfl) rfl (by show 2 * 0 + _ ≤ _; exact Nat.le_of_eq rfl) (hb hby d16_15) rfl (ok rfl) (ok rfl) ?_
  intro v778 T778 L778 q778 X778
  obtain ⟨rfl, N778q, K778, g778V⟩ := q778
  have N778 := Fr.app N775 N778q
  show Goes p e below _ T778 (mkF m 18 #[.val (.ref x), .val (.int (6 : Int32)), .val (.ref y)] [])
  refine Goes.retV X778 hx Bd.notSynchronized Bd.returns (hb hby d16_18) (ok rfl) (ok rfl) ?_
  have K779 : Keep h0 T778.heap [x, t] := K0.trans K778 (allS (Or.inl (by simp)) all0)
  have E780 : Exa Z T778.heap x "java/lang/StringBuilder" := Ex.keep K778
  have ne781 : x ≠ t := own_ne_arv E780 (own_w hw 40 rfl) g778V
  have F782 : Fld Z T778.heap x "java/lang/AbstractStringBuilder" "value" "[B" (.ref t) := Fv.keep K778 (ninS ne781 nin0)
  have F783 : Fld Z T778.heap x "java/lang/AbstractStringBuilder" "coder" "B" (.int (0 : Int32)) := Fc.keep K778 (ninS ne781 nin0)
  have F784 : Fld Z T778.heap x "java/lang/AbstractStringBuilder" "count" "I" (.int (6 : Int32)) := Fn.keep K778 (ninS ne781 nin0)
  exact ⟨rfl, N778, K779, E780, F782, F783, F784, g778V⟩
theorem efLen4 (a : Addr) (m : MethodId) : entryFrame m #[(.ref a)] 1 = mkF m 0 #[.val (.ref a)] [] := by first | (simp [entryFrame, mkF, argsToLocals, Value.category]; done) | rfl
def QLen4 (Z : State) (a t : Addr) (kt : ClassId) (vs : List Value) (zc : Int32) (fm : Value) (h0 : Heap) (n0 : Nat) (v : Option Value) (h : Heap) (L : List Loc) : Prop := v = some (.int (4 : Int32)) ∧ Fr n0 L ∧ h = h0
set_option maxRecDepth 65536 in
set_option maxHeartbeats 40000000 in
theorem rmLen4 (l : Launch) (Z : State) (a0 : Array Value) (hw : ∀ d ∈ tables_1, d.before a0 Z = true) (ws : List Jvm.Cond) (a t : Addr) (kt : ClassId) (vs : List Value) (zc : Int32) (fm : Value) (h0 : Heap) (n0 : Nat) (Z0 : n0 ≤ h0.size) (O0 : Old Z n0 h0) (S_CS : Sta Z Z.heap "java/lang/String" "COMPACT_STRINGS" "Z" (.int zc)) (hzc : ¬ zc = 0) (S_FM : Sta Z Z.heap "jdk/internal/util/Preconditions" "SIOOBE_FORMATTER" "Ljava/util/function/BiFunction;" fm) (hfm : fm.isRef = true) (Ea : Exa Z h0 a "java/lang/String") (Fa : Fld Z h0 a "java/lang/String" "value" "[B" (.ref t)) (Fc : Fld Z h0 a "java/lang/String" "coder" "B" (.int (0 : Int32))) (Vt : Arv Z h0 t kt .byte (4 : Int32) vs (.int (0 : Int32))) :
    OwnLaw l y17_ jdk_42_method_54_code 1 (some .int) ws (rR 1 0 0 13) #[(.ref a)] Z h0 (QLen4 Z a t kt vs zc fm h0 n0) := by
  refine own_enter (plainFor_of_name pn_java_lang_String) (efLen4 a) ?_
  intro p e s m below meth c s₁ Bd hx hby hml hZ hown X0 e0
  have N0 := Fr.nil n0
  have K0 : Keep h0 h0 [] := Keep.refl _ _
  refine P1.aloadN X0.here hx (hb hby d13_0) rfl rfl ?_
  obtain ⟨T785, X785, e785, st785⟩ := getF X0 hx hZ hown (host := "") (Or.inl (own_w hw 28 rfl)) Via.refl e0 Fa (g := (mkF m 1 #[.val (.ref a)] [(.ref a)])) rfl rfl (hb hby d13_1)
  refine Goes.step (T' := T785) (g' := (mkF m 4 #[.val (.ref a)] [(.ref t)])) st785 ?_
  obtain ⟨cl786, Ar786, qk786, sl786, nz786, ha786, fi786⟩ := id Vt
  have al787 : cl786.slots.size.toInt32 = (4 : Int32) := len_of sl786 nz786
  refine Goes.step (T' := T785) (g' := (mkF m 5 #[.val (.ref a)] [(.int (4 : Int32))])) (fun t_ k_ => X785.arraylength hx (by rw [e785]; exact Ar786.1) (State.isArrayOf_alike hZ.alike Ar786.2.1) (g := (mkF m 4 #[.val (.ref a)] [(.ref t)])) rfl rfl (hb hby d13_4) _ <| by rw [al787]; exact k_) ?_
  refine P1.aloadN X785.here hx (hb hby d13_5) rfl rfl ?_
  refine Goes.callV X785 hx hZ (y := y14_) (z := y14_) hown (mvT hZ (own_w hw 75 rfl)) (mvT hZ (own_w hw 76 rfl)) (notFace_of_selects (args := #[]) (mvT hZ (own_w hw 78 rfl))) (mvT hZ (own_w hw 78 rfl)) (mvT hZ (own_w hw 77 rfl)) (by decide) (kc' := 0) (ks' := 0) (backOf (W := 1) (rmCod l Z a0 hw [] a zc fm h0 n0 Z0 O0 S_CS hzc S_FM hfm Fc) hZ (own_w hw 79 rfl) (own_w hw 2 rfl) (ok rfl) (ok rfl)) (b := a) e785 Ea (g := (mkF m 6 #[.val (.ref a)] [(.ref a), (.int (4 : Int32))])) rfl (by rw [hml]; rfl) (argsL := []) (rest := [(.int (4 : Int32))]) (lenOf pd_320 rfl) rfl (by show 2 * 0 + _ ≤ _; exact Nat.le_of_eq rfl) (hb hby d13_6) rfl (ok rfl) (ok rfl) ?_
  intro v788 T788 L788 q788 X788
  obtain ⟨rfl, N788q, hE788⟩ := q788
  have N788 := Fr.app N0 N788q
  show Goes p e below _ T788 (mkF m 9 #[.val (.ref a)] [(.int (0 : Int32)), (.int (4 : Int32))])
  refine Goes.step (T' := T788) (g' := (mkF m 10 #[.val (.ref a)] [(.int ((4 : Int32) >>> ((0 : Int32) &&& 31)))])) (fun t_ k_ => XS.ishr X788.here hx rfl (hb hby d13_9) rfl k_) ?_
  have rw789 : ((4 : Int32) >>> ((0 : Int32) &&& 31)) = (4 : Int32) := by decide
  rw [rw789]
  refine Goes.retI X788 hx Bd.notSynchronized Bd.returns (hb hby d13_10) (ok rfl) (ok rfl) ?_
  rw [hE788]
  exact ⟨rfl, N788, rfl⟩
theorem efAp6_4 (x y : Addr) (m : MethodId) : entryFrame m #[(.ref x), (.ref y)] 3 = mkF m 0 #[.val (.ref x), .val (.ref y), .unset] [] := by first | (simp [entryFrame, mkF, argsToLocals, Value.category]; done) | rfl
def QAp6_4 (Z : State) (x t : Addr) (kt : ClassId) (y ty : Addr) (ky : ClassId) (b0 b1 b2 b3 b4 b5 c0 c1 c2 c3 zc : Int32) (fm : Value) (h0 : Heap) (n0 : Nat) (v : Option Value) (h : Heap) (L : List Loc) : Prop := v = some (.ref x) ∧ Fr n0 L ∧ Keep h0 h [x, t] ∧ Exa Z h x "java/lang/StringBuilder" ∧ Fld Z h x "java/lang/AbstractStringBuilder" "value" "[B" (.ref t) ∧ Fld Z h x "java/lang/AbstractStringBuilder" "coder" "B" (.int (0 : Int32)) ∧ Fld Z h x "java/lang/AbstractStringBuilder" "count" "I" (.int (10 : Int32)) ∧ Arv Z h t kt .byte (16 : Int32) [(.int b0), (.int b1), (.int b2), (.int b3), (.int b4), (.int b5), (.int c0), (.int c1), (.int c2), (.int c3)] (.int (0 : Int32))
set_option maxRecDepth 65536 in
set_option maxHeartbeats 40000000 in
theorem rmAp6_4 (l : Launch) (Z : State) (a0 : Array Value) (hw : ∀ d ∈ tables_1, d.before a0 Z = true) (ws : List Jvm.Cond) (x t : Addr) (kt : ClassId) (y ty : Addr) (ky : ClassId) (b0 b1 b2 b3 b4 b5 c0 c1 c2 c3 zc : Int32) (fm : Value) (h0 : Heap) (n0 : Nat) (Z0 : n0 ≤ h0.size) (O0 : Old Z n0 h0) (S_CS : Sta Z Z.heap "java/lang/String" "COMPACT_STRINGS" "Z" (.int zc)) (hzc : ¬ zc = 0) (S_FM : Sta Z Z.heap "jdk/internal/util/Preconditions" "SIOOBE_FORMATTER" "Ljava/util/function/BiFunction;" fm) (hfm : fm.isRef = true) (gx : n0 ≤ x) (gt : n0 ≤ t) (Ex : Exa Z h0 x "java/lang/StringBuilder") (Fv : Fld Z h0 x "java/lang/AbstractStringBuilder" "value" "[B" (.ref t)) (Fc : Fld Z h0 x "java/lang/AbstractStringBuilder" "coder" "B" (.int (0 : Int32))) (Fn : Fld Z h0 x "java/lang/AbstractStringBuilder" "count" "I" (.int (6 : Int32))) (Vt : Arv Z h0 t kt .byte (16 : Int32) [(.int b0), (.int b1), (.int b2), (.int b3), (.int b4), (.int b5)] (.int (0 : Int32))) (Ey : Exa Z h0 y "java/lang/String") (Vy : Fld Z h0 y "java/lang/String" "value" "[B" (.ref ty)) (Cy : Fld Z h0 y "java/lang/String" "coder" "B" (.int (0 : Int32))) (Ky : Arv Z h0 ty ky .byte (4 : Int32) [(.int c0), (.int c1), (.int c2), (.int c3)] (.int (0 : Int32))) (nety : ty ≠ t) :
    OwnLaw l y2_ jdk_68_method_22_code 3 (some (.object "java/lang/AbstractStringBuilder")) ws (rR 3 0 0 47) #[(.ref x), (.ref y)] Z h0 (QAp6_4 Z x t kt y ty ky b0 b1 b2 b3 b4 b5 c0 c1 c2 c3 zc fm h0 n0) := by
  refine own_enter (plainFor_of_name pn_java_lang_AbstractStringBuilder) (efAp6_4 x y) ?_
  intro p e s m below meth c s₁ Bd hx hby hml hZ hown X0 e0
  have N0 := Fr.nil n0
  have K0 : Keep h0 h0 [] := Keep.refl _ _
  have K0 : Keep h0 h0 [x, t] := Keep.refl _ _
  refine P1.aloadN X0.here hx (hb hby d12_0) rfl rfl ?_
  refine P1.ifnonnullYes X0.here hx 9 (hb hby d12_1) (by decide) (by decide) ?_
  refine P1.aloadN X0.here hx (hb hby d12_9) rfl rfl ?_
  refine Goes.callV X0 hx hZ (y := y17_) (z := y17_) hown (mvT hZ (own_w hw 70 rfl)) (mvT hZ (own_w hw 71 rfl)) (notFace_of_selects (args := #[]) (mvT hZ (own_w hw 73 rfl))) (mvT hZ (own_w hw 73 rfl)) (mvT hZ (own_w hw 72 rfl)) (by decide) (kc' := 0) (ks' := 0) (backOf (W := 0) (rmLen4 l Z a0 hw [] y ty ky [(.int c0), (.int c1), (.int c2), (.int c3)] zc fm h0 n0 Z0 O0 S_CS hzc S_FM hfm Ey Vy Cy Ky) hZ (own_w hw 74 rfl) (own_w hw 2 rfl) (ok rfl) (ok rfl)) (b := y) e0 Ey (g := (mkF m 10 #[.val (.ref x), .val (.ref y), .unset] [(.ref y)])) rfl (by rw [hml]; rfl) (argsL := []) (rest := []) (lenOf pd_341 rfl) rfl (by show 2 * 0 + _ ≤ _; exact Nat.le_of_eq rfl) (hb hby d12_10) rfl (ok rfl) (ok rfl) ?_
  intro v790 T790 L790 q790 X790
  obtain ⟨rfl, N790q, hE790⟩ := q790
  have N790 := Fr.app N0 N790q
  show Goes p e below _ T790 (mkF m 13 #[.val (.ref x), .val (.ref y), .unset] [(.int (4 : Int32))])
  refine P1.istoreN X790.here hx #[.val (.ref x), .val (.ref y), .val (.int (4 : Int32))] (hb hby d12_13) rfl ?_
  refine P1.aloadN X790.here hx (hb hby d12_14) rfl rfl ?_
  refine P1.aloadN X790.here hx (hb hby d12_15) rfl rfl ?_
  obtain ⟨T791, X791, e791, st791⟩ := getF X790 hx hZ hown (host := "") (Or.inl (own_w hw 80 rfl)) Via.refl hE790 Fn (g := (mkF m 16 #[.val (.ref x), .val (.ref y), .val (.int (4 : Int32))] [(.ref x), (.ref x)])) rfl rfl (hb hby d12_16)
  refine Goes.step (T' := T791) (g' := (mkF m 19 #[.val (.ref x), .val (.ref y), .val (.int (4 : Int32))] [(.int (6 : Int32)), (.ref x)])) st791 ?_
  refine P1.iloadN X791.here hx (hb hby d12_19) rfl ?_
  refine P1.iadd X791.here hx (hb hby d12_20) ?_
  have rw792 : ((6 : Int32) + (4 : Int32)) = (10 : Int32) := by decide
  rw [rw792]
  refine Goes.callV X791 hx hZ (y := y3_) (z := y3_) hown (mvT hZ (own_w hw 82 rfl)) (mvT hZ (own_declares (own_w hw 83 rfl) (own_w hw 86 rfl))) (notFace_of_selects (args := #[]) (mvT hZ (own_w hw 85 rfl))) (mvT hZ (own_w hw 85 rfl)) (mvT hZ (own_w hw 83 rfl)) (by decide) (kc' := 0) (ks' := 0) (backOf (W := 0) (rmEns10 l Z a0 hw [] x t kt [(.int b0), (.int b1), (.int b2), (.int b3), (.int b4), (.int b5)] h0 n0 Z0 O0 Ex Fv Fc Vt) hZ (own_w hw 86 rfl) (own_w hw 49 rfl) (ok rfl) (ok rfl)) (b := x) e791 Ex (g := (mkF m 21 #[.val (.ref x), .val (.ref y), .val (.int (4 : Int32))] [(.int (10 : Int32)), (.ref x)])) rfl (by rw [hml]; rfl) (argsL := [(.int (10 : Int32))]) (rest := []) (lenOf pd_653 rfl) rfl (by show 2 * 0 + _ ≤ _; exact Nat.le_of_eq rfl) (hb hby d12_21) rfl (ok rfl) (ok rfl) ?_
  intro v793 T793 L793 q793 X793
  obtain ⟨rfl, N793q, hE793⟩ := q793
  have N793 := Fr.app N790 N793q
  show Goes p e below _ T793 (mkF m 24 #[.val (.ref x), .val (.ref y), .val (.int (4 : Int32))] [])
  refine P1.aloadN X793.here hx (hb hby d12_24) rfl rfl ?_
  refine P1.aloadN X793.here hx (hb hby d12_25) rfl rfl ?_
  obtain ⟨T794, X794, e794, st794⟩ := getF X793 hx hZ hown (host := "") (Or.inl (own_w hw 80 rfl)) Via.refl hE793 Fn (g := (mkF m 26 #[.val (.ref x), .val (.ref y), .val (.int (4 : Int32))] [(.ref x), (.ref x)])) rfl rfl (hb hby d12_26)
  refine Goes.step (T' := T794) (g' := (mkF m 29 #[.val (.ref x), .val (.ref y), .val (.int (4 : Int32))] [(.int (6 : Int32)), (.ref x)])) st794 ?_
  refine P1.aloadN X794.here hx (hb hby d12_29) rfl rfl ?_
  refine Goes.callV X794 hx hZ (y := y8_) (z := y8_) hown (mvT hZ (own_w hw 87 rfl)) (mvT hZ (own_declares (own_w hw 88 rfl) (own_w hw 91 rfl))) (notFace_of_selects (args := #[]) (mvT hZ (own_w hw 90 rfl))) (mvT hZ (own_w hw 90 rfl)) (mvT hZ (own_w hw 88 rfl)) (by decide) (kc' := 0) (ks' := 0) (backOf (W := 0) (rmPu6_4 l Z a0 hw [] x t kt y ty ky b0 b1 b2 b3 b4 b5 c0 c1 c2 c3 zc fm h0 n0 Z0 O0 S_CS hzc S_FM hfm gx gt Ex Fv Fc Fn Vt Ey Vy Cy Ky nety) hZ (own_w hw 91 rfl) (own_w hw 49 rfl) (ok rfl) (ok rfl)) (b := x) e794 Ex (g := (mkF m 30 #[.val (.ref x), .val (.ref y), .val (.int (4 : Int32))] [(.ref y), (.int (6 : Int32)), (.ref x)])) rfl (by rw [hml]; rfl) (argsL := [(.int (6 : Int32)), (.ref y)]) (rest := []) (lenOf pd_22466 rfl) rfl (by show 2 * 0 + _ ≤ _; exact Nat.le_of_eq rfl) (hb hby d12_30) rfl (ok rfl) (ok rfl) ?_
  intro v795 T795 L795 q795 X795
  obtain ⟨rfl, N795q, K795, g795E, g795v, g795c, g795n, g795V⟩ := q795
  have N795 := Fr.app N793 N795q
  show Goes p e below _ T795 (mkF m 33 #[.val (.ref x), .val (.ref y), .val (.int (4 : Int32))] [])
  refine P1.aloadN X795.here hx (hb hby d12_33) rfl rfl ?_
  refine P1.dup X795.here hx (hb hby d12_34) rfl ?_
  obtain ⟨T796, X796, e796, st796⟩ := getF X795 hx hZ hown (host := "") (Or.inl (own_w hw 80 rfl)) Via.refl rfl g795n (g := (mkF m 35 #[.val (.ref x), .val (.ref y), .val (.int (4 : Int32))] [(.ref x), (.ref x)])) rfl rfl (hb hby d12_35)
  refine Goes.step (T' := T796) (g' := (mkF m 38 #[.val (.ref x), .val (.ref y), .val (.int (4 : Int32))] [(.int (6 : Int32)), (.ref x)])) st796 ?_
  refine P1.iloadN X796.here hx (hb hby d12_38) rfl ?_
  refine P1.iadd X796.here hx (hb hby d12_39) ?_
  have rw797 : ((6 : Int32) + (4 : Int32)) = (10 : Int32) := by decide
  rw [rw797]
  obtain ⟨T798, h798, X798, e798, W798, st798⟩ := putF X796 hx hZ hown (host := "") (Or.inl (own_w hw 80 rfl)) Via.refl e796 g795n g795E (Or.inl (own_w hw 81 rfl)) (own_w hw 40 rfl) (ty := .int) (by decide) rfl rfl (g := (mkF m 40 #[.val (.ref x), .val (.ref y), .val (.int (4 : Int32))] [(.int (10 : Int32)), (.ref x)])) rfl rfl (hb hby d12_40)
  have Fw798 : Fld Z h798 x "java/lang/AbstractStringBuilder" "count" "I" (.int (10 : Int32)) := g795n.same W798
  have N798 := Fr.snoc X798 N795 gx
  refine Goes.step (T' := T798) (g' := (mkF m 43 #[.val (.ref x), .val (.ref y), .val (.int (4 : Int32))] [])) st798 ?_
  refine P1.aloadN X798.here hx (hb hby d12_43) rfl rfl ?_
  refine Goes.retA X798 hx Bd.notSynchronized Bd.returns rfl rfl (hb hby d12_44) (ok rfl) (ok rfl) ?_
  rw [e798]
  have K799 : Keep h0 T795.heap [x, t] := K0.trans K795 (allS (Or.inl (by simp)) (allS (Or.inl (by simp)) all0))
  have K800 : Keep h0 h798 [x, t] := K799.wr W798 (Or.inl (by simp))
  have E801 : Exa Z h798 x "java/lang/StringBuilder" := g795E.wr W798
  have F802 : Fld Z h798 x "java/lang/AbstractStringBuilder" "value" "[B" (.ref t) := g795v.other W798 (Or.inr (slot_ne (Or.inl (own_w hw 54 rfl)) (Or.inl (own_w hw 81 rfl)) (by decide) (t := (.array .byte)) (t' := .int) (by decide) (by decide)))
  have F803 : Fld Z h798 x "java/lang/AbstractStringBuilder" "coder" "B" (.int (0 : Int32)) := g795c.other W798 (Or.inr (slot_ne (Or.inl (own_w hw 56 rfl)) (Or.inl (own_w hw 81 rfl)) (by decide) (t := .byte) (t' := .int) (by decide) (by decide)))
  have ne804 : x ≠ t := own_ne_arv g795E (own_w hw 40 rfl) g795V
  have V805 : Arv Z h798 t kt .byte (16 : Int32) [(.int b0), (.int b1), (.int b2), (.int b3), (.int b4), (.int b5), (.int c0), (.int c1), (.int c2), (.int c3)] (.int (0 : Int32)) := g795V.other W798 (Ne.symm ne804)
  exact ⟨rfl, N798, K800, E801, F802, F803, Fw798, V805⟩
theorem efSp6_4 (x y : Addr) (m : MethodId) : entryFrame m #[(.ref x), (.ref y)] 2 = mkF m 0 #[.val (.ref x), .val (.ref y)] [] := by first | (simp [entryFrame, mkF, argsToLocals, Value.category]; done) | rfl
def QSp6_4 (Z : State) (x t : Addr) (kt : ClassId) (y ty : Addr) (ky : ClassId) (b0 b1 b2 b3 b4 b5 c0 c1 c2 c3 zc : Int32) (fm : Value) (h0 : Heap) (n0 : Nat) (v : Option Value) (h : Heap) (L : List Loc) : Prop := v = some (.ref x) ∧ Fr n0 L ∧ Keep h0 h [x, t] ∧ Exa Z h x "java/lang/StringBuilder" ∧ Fld Z h x "java/lang/AbstractStringBuilder" "value" "[B" (.ref t) ∧ Fld Z h x "java/lang/AbstractStringBuilder" "coder" "B" (.int (0 : Int32)) ∧ Fld Z h x "java/lang/AbstractStringBuilder" "count" "I" (.int (10 : Int32)) ∧ Arv Z h t kt .byte (16 : Int32) [(.int b0), (.int b1), (.int b2), (.int b3), (.int b4), (.int b5), (.int c0), (.int c1), (.int c2), (.int c3)] (.int (0 : Int32))
set_option maxRecDepth 65536 in
set_option maxHeartbeats 40000000 in
theorem rmSp6_4 (l : Launch) (Z : State) (a0 : Array Value) (hw : ∀ d ∈ tables_1, d.before a0 Z = true) (ws : List Jvm.Cond) (x t : Addr) (kt : ClassId) (y ty : Addr) (ky : ClassId) (b0 b1 b2 b3 b4 b5 c0 c1 c2 c3 zc : Int32) (fm : Value) (h0 : Heap) (n0 : Nat) (Z0 : n0 ≤ h0.size) (O0 : Old Z n0 h0) (S_CS : Sta Z Z.heap "java/lang/String" "COMPACT_STRINGS" "Z" (.int zc)) (hzc : ¬ zc = 0) (S_FM : Sta Z Z.heap "jdk/internal/util/Preconditions" "SIOOBE_FORMATTER" "Ljava/util/function/BiFunction;" fm) (hfm : fm.isRef = true) (gx : n0 ≤ x) (gt : n0 ≤ t) (Ex : Exa Z h0 x "java/lang/StringBuilder") (Fv : Fld Z h0 x "java/lang/AbstractStringBuilder" "value" "[B" (.ref t)) (Fc : Fld Z h0 x "java/lang/AbstractStringBuilder" "coder" "B" (.int (0 : Int32))) (Fn : Fld Z h0 x "java/lang/AbstractStringBuilder" "count" "I" (.int (6 : Int32))) (Vt : Arv Z h0 t kt .byte (16 : Int32) [(.int b0), (.int b1), (.int b2), (.int b3), (.int b4), (.int b5)] (.int (0 : Int32))) (Ey : Exa Z h0 y "java/lang/String") (Vy : Fld Z h0 y "java/lang/String" "value" "[B" (.ref ty)) (Cy : Fld Z h0 y "java/lang/String" "coder" "B" (.int (0 : Int32))) (Ky : Arv Z h0 ty ky .byte (4 : Int32) [(.int c0), (.int c1), (.int c2), (.int c3)] (.int (0 : Int32))) (nety : ty ≠ t) :
    OwnLaw l y19_ jdk_67_method_7_code 2 (some (.object "java/lang/StringBuilder")) ws (rR 4 0 0 61) #[(.ref x), (.ref y)] Z h0 (QSp6_4 Z x t kt y ty ky b0 b1 b2 b3 b4 b5 c0 c1 c2 c3 zc fm h0 n0) := by
  refine own_enter (plainFor_of_name pn_java_lang_StringBuilder) (efSp6_4 x y) ?_
  intro p e s m below meth c s₁ Bd hx hby hml hZ hown X0 e0
  have N0 := Fr.nil n0
  have K0 : Keep h0 h0 [] := Keep.refl _ _
  have K0 : Keep h0 h0 [x, t] := Keep.refl _ _
  refine P1.aloadN X0.here hx (hb hby d11_0) rfl rfl ?_
  refine P1.aloadN X0.here hx (hb hby d11_1) rfl rfl ?_
  refine Goes.callSup X0 hx hZ (y := y2_) hown (own_w hw 65 rfl) (own_sameMethod (own_w hw 66 rfl) (own_w hw 85 rfl) rfl (by decide)) (own_w hw 66 rfl) (own_w hw 67 rfl) (by decide) (kc' := 0) (ks' := 0) (backOf (W := 0) (rmAp6_4 l Z a0 hw [] x t kt y ty ky b0 b1 b2 b3 b4 b5 c0 c1 c2 c3 zc fm h0 n0 Z0 O0 S_CS hzc S_FM hfm gx gt Ex Fv Fc Fn Vt Ey Vy Cy Ky nety) hZ (own_w hw 69 rfl) (own_w hw 49 rfl) (ok rfl) (ok rfl)) (a := x) e0 (Ins.of_exa Ex (own_w hw 48 rfl)) (own_w hw 69 rfl) (g := (mkF m 2 #[.val (.ref x), .val (.ref y)] [(.ref y), (.ref x)])) rfl (by rw [hml]; rfl) (argsL := [(.ref y)]) (rest := []) (lenOf pd_138888 rfl) rfl (by show 2 * 0 + _ ≤ _; exact Nat.le_of_eq rfl) (hb hby d11_2) rfl (ok rfl) (ok rfl) ?_
  intro v806 T806 L806 q806 X806
  obtain ⟨rfl, N806q, K806, g806E, g806v, g806c, g806n, g806V⟩ := q806
  have N806 := Fr.app N0 N806q
  show Goes p e below _ T806 (mkF m 5 #[.val (.ref x), .val (.ref y)] [(.ref x)])
  refine P1.pop X806.here hx (hb hby d11_5) rfl ?_
  refine P1.aloadN X806.here hx (hb hby d11_6) rfl rfl ?_
  refine Goes.retA X806 hx Bd.notSynchronized Bd.returns rfl rfl (hb hby d11_7) (ok rfl) (ok rfl) ?_
  have K807 : Keep h0 T806.heap [x, t] := K0.trans K806 (allS (Or.inl (by simp)) (allS (Or.inl (by simp)) all0))
  exact ⟨rfl, N806, K807, g806E, g806v, g806c, g806n, g806V⟩
theorem efGb10_1 (y t : Addr) (m : MethodId) : entryFrame m #[(.ref y), (.ref t), (.int (10 : Int32)), (.int (0 : Int32))] 4 = mkF m 0 #[.val (.ref y), .val (.ref t), .val (.int (10 : Int32)), .val (.int (0 : Int32))] [] := by first | (simp [entryFrame, mkF, argsToLocals, Value.category]; done) | rfl
def QGb10_1 (Z : State) (t : Addr) (kt : ClassId) (y ty : Addr) (ky : ClassId) (b0 b1 b2 b3 b4 b5 b6 b7 b8 b9 c0 zc : Int32) (fm : Value) (h0 : Heap) (n0 : Nat) (v : Option Value) (h : Heap) (L : List Loc) : Prop := v = none ∧ Fr n0 L ∧ Keep h0 h [t] ∧ Arv Z h t kt .byte (16 : Int32) [(.int b0), (.int b1), (.int b2), (.int b3), (.int b4), (.int b5), (.int b6), (.int b7), (.int b8), (.int b9), (.int c0)] (.int (0 : Int32))
set_option maxRecDepth 65536 in
set_option maxHeartbeats 40000000 in
theorem rmGb10_1 (l : Launch) (Z : State) (a0 : Array Value) (hw : ∀ d ∈ tables_1, d.before a0 Z = true) (ws : List Jvm.Cond) (t : Addr) (kt : ClassId) (y ty : Addr) (ky : ClassId) (b0 b1 b2 b3 b4 b5 b6 b7 b8 b9 c0 zc : Int32) (fm : Value) (h0 : Heap) (n0 : Nat) (Z0 : n0 ≤ h0.size) (O0 : Old Z n0 h0) (S_CS : Sta Z Z.heap "java/lang/String" "COMPACT_STRINGS" "Z" (.int zc)) (hzc : ¬ zc = 0) (S_FM : Sta Z Z.heap "jdk/internal/util/Preconditions" "SIOOBE_FORMATTER" "Ljava/util/function/BiFunction;" fm) (hfm : fm.isRef = true) (gt : n0 ≤ t) (Vt : Arv Z h0 t kt .byte (16 : Int32) [(.int b0), (.int b1), (.int b2), (.int b3), (.int b4), (.int b5), (.int b6), (.int b7), (.int b8), (.int b9)] (.int (0 : Int32))) (Ey : Exa Z h0 y "java/lang/String") (Vy : Fld Z h0 y "java/lang/String" "value" "[B" (.ref ty)) (Cy : Fld Z h0 y "java/lang/String" "coder" "B" (.int (0 : Int32))) (Ky : Arv Z h0 ty ky .byte (1 : Int32) [(.int c0)] (.int (0 : Int32))) (nety : ty ≠ t) :
    OwnLaw l y15_ jdk_42_method_147_code 4 none ws (rR 1 0 0 18) #[(.ref y), (.ref t), (.int (10 : Int32)), (.int (0 : Int32))] Z h0 (QGb10_1 Z t kt y ty ky b0 b1 b2 b3 b4 b5 b6 b7 b8 b9 c0 zc fm h0 n0) := by
  refine own_enter (plainFor_of_name pn_java_lang_String) (efGb10_1 y t) ?_
  intro p e s m below meth c s₁ Bd hx hby hml hZ hown X0 e0
  have N0 := Fr.nil n0
  have K0 : Keep h0 h0 [] := Keep.refl _ _
  have K0 : Keep h0 h0 [t] := Keep.refl _ _
  refine P1.aloadN X0.here hx (hb hby d18_0) rfl rfl ?_
  refine Goes.callV X0 hx hZ (y := y14_) (z := y14_) hown (mvT hZ (own_w hw 75 rfl)) (mvT hZ (own_w hw 76 rfl)) (notFace_of_selects (args := #[]) (mvT hZ (own_w hw 78 rfl))) (mvT hZ (own_w hw 78 rfl)) (mvT hZ (own_w hw 77 rfl)) (by decide) (kc' := 0) (ks' := 0) (backOf (W := 0) (rmCod l Z a0 hw [] y zc fm h0 n0 Z0 O0 S_CS hzc S_FM hfm Cy) hZ (own_w hw 79 rfl) (own_w hw 2 rfl) (ok rfl) (ok rfl)) (b := y) e0 Ey (g := (mkF m 1 #[.val (.ref y), .val (.ref t), .val (.int (10 : Int32)), .val (.int (0 : Int32))] [(.ref y)])) rfl (by rw [hml]; rfl) (argsL := []) (rest := []) (lenOf pd_320 rfl) rfl (by show 2 * 0 + _ ≤ _; exact Nat.le_of_eq rfl) (hb hby d18_1) rfl (ok rfl) (ok rfl) ?_
  intro v808 T808 L808 q808 X808
  obtain ⟨rfl, N808q, hE808⟩ := q808
  have N808 := Fr.app N0 N808q
  show Goes p e below _ T808 (mkF m 4 #[.val (.ref y), .val (.ref t), .val (.int (10 : Int32)), .val (.int (0 : Int32))] [(.int (0 : Int32))])
  refine P1.iloadN X808.here hx (hb hby d18_4) rfl ?_
  refine P1.icmpNo X808.here hx (hb hby d18_5) (teq (by decide : (0 : Int32) = (0 : Int32))).2 ?_
  refine P1.aloadN X808.here hx (hb hby d18_8) rfl rfl ?_
  obtain ⟨T809, X809, e809, st809⟩ := getF X808 hx hZ hown (host := "") (Or.inl (own_w hw 28 rfl)) Via.refl hE808 Vy (g := (mkF m 9 #[.val (.ref y), .val (.ref t), .val (.int (10 : Int32)), .val (.int (0 : Int32))] [(.ref y)])) rfl rfl (hb hby d18_9)
  refine Goes.step (T' := T809) (g' := (mkF m 12 #[.val (.ref y), .val (.ref t), .val (.int (10 : Int32)), .val (.int (0 : Int32))] [(.ref ty)])) st809 ?_
  refine P1.iconst X809.here hx (0 : Int32) (hb hby d18_12) rfl ?_
  refine P1.aloadN X809.here hx (hb hby d18_13) rfl rfl ?_
  refine P1.iloadN X809.here hx (hb hby d18_14) rfl ?_
  refine P1.iloadN X809.here hx (hb hby d18_15) rfl ?_
  refine Goes.step (T' := T809) (g' := (mkF m 17 #[.val (.ref y), .val (.ref t), .val (.int (10 : Int32)), .val (.int (0 : Int32))] [(.int ((10 : Int32) <<< ((0 : Int32) &&& 31))), (.ref t), (.int (0 : Int32)), (.ref ty)])) (fun t_ k_ => XS.ishl X809.here hx rfl (hb hby d18_16) rfl k_) ?_
  have rw810 : ((10 : Int32) <<< ((0 : Int32) &&& 31)) = (10 : Int32) := by decide
  rw [rw810]
  refine P1.aloadN X809.here hx (hb hby d18_17) rfl rfl ?_
  obtain ⟨T811, X811, e811, st811⟩ := getF X809 hx hZ hown (host := "") (Or.inl (own_w hw 28 rfl)) Via.refl e809 Vy (g := (mkF m 18 #[.val (.ref y), .val (.ref t), .val (.int (10 : Int32)), .val (.int (0 : Int32))] [(.ref y), (.int (10 : Int32)), (.ref t), (.int (0 : Int32)), (.ref ty)])) rfl rfl (hb hby d18_18)
  refine Goes.step (T' := T811) (g' := (mkF m 21 #[.val (.ref y), .val (.ref t), .val (.int (10 : Int32)), .val (.int (0 : Int32))] [(.ref ty), (.int (10 : Int32)), (.ref t), (.int (0 : Int32)), (.ref ty)])) st811 ?_
  obtain ⟨cl812, Ar812, qk812, sl812, nz812, ha812, fi812⟩ := id Ky
  have al813 : cl812.slots.size.toInt32 = (1 : Int32) := len_of sl812 nz812
  refine Goes.step (T' := T811) (g' := (mkF m 22 #[.val (.ref y), .val (.ref t), .val (.int (10 : Int32)), .val (.int (0 : Int32))] [(.int (1 : Int32)), (.int (10 : Int32)), (.ref t), (.int (0 : Int32)), (.ref ty)])) (fun t_ k_ => X811.arraylength hx (by rw [e811]; exact Ar812.1) (State.isArrayOf_alike hZ.alike Ar812.2.1) (g := (mkF m 21 #[.val (.ref y), .val (.ref t), .val (.int (10 : Int32)), .val (.int (0 : Int32))] [(.ref ty), (.int (10 : Int32)), (.ref t), (.int (0 : Int32)), (.ref ty)])) rfl rfl (hb hby d18_21) _ <| by rw [al813]; exact k_) ?_
  have V814 : Arv Z h0 t kt .byte (16 : Int32) [(.int b0), (.int b1), (.int b2), (.int b3), (.int b4), (.int b5), (.int b6), (.int b7), (.int b8), (.int b9), (.int (0 : Int32))] (.int (0 : Int32)) := Vt.pad (pad_rep [(.int b0), (.int b1), (.int b2), (.int b3), (.int b4), (.int b5), (.int b6), (.int b7), (.int b8), (.int b9)] (.int (0 : Int32)) 1)
  obtain ⟨T815, h815, L815, X815, e815, N815, K815, Va815, st815⟩ := cpA X811 hx hZ hown (own_w hw 103 rfl) (own_w hw 106 rfl) (own_w hw 104 rfl) (own_w hw 105 rfl) e811 Ky V814 (us := [(.int c0)]) (Or.inl ⟨rfl, rfl⟩) (by decide) (by decide) (by decide) (ok rfl) (ok rfl) rfl (ok rfl) N808 gt (g := (mkF m 22 #[.val (.ref y), .val (.ref t), .val (.int (10 : Int32)), .val (.int (0 : Int32))] [(.int (1 : Int32)), (.int (10 : Int32)), (.ref t), (.int (0 : Int32)), (.ref ty)])) rfl (by rw [hml]; rfl) rfl (hb hby d18_22) (ok rfl) (W := 0) (by show 2 * 0 + _ ≤ _; exact Nat.le_of_eq rfl) (ok rfl)
  have V815 : Arv Z h815 t kt .byte (16 : Int32) [(.int b0), (.int b1), (.int b2), (.int b3), (.int b4), (.int b5), (.int b6), (.int b7), (.int b8), (.int b9), (.int c0)] (.int (0 : Int32)) := Va815
  refine Goes.step (T' := T815) (g' := (mkF m 25 #[.val (.ref y), .val (.ref t), .val (.int (10 : Int32)), .val (.int (0 : Int32))] [])) st815 ?_
  refine P1.goto X815.here hx 43 (hb hby d18_25) (by decide) (by decide) ?_
  refine Goes.retV X815 hx Bd.notSynchronized Bd.returns (hb hby d18_43) (ok rfl) (ok rfl) ?_
  rw [e815]
  have K816 : Keep h0 h815 [t] := K0.trans K815 (allS (Or.inl (by simp)) all0)
  exact ⟨rfl, N815, K816, V815⟩
theorem efPu10_1 (x y : Addr) (m : MethodId) : entryFrame m #[(.ref x), (.int (10 : Int32)), (.ref y)] 3 = mkF m 0 #[.val (.ref x), .val (.int (10 : Int32)), .val (.ref y)] [] := by first | (simp [entryFrame, mkF, argsToLocals, Value.category]; done) | rfl
def QPu10_1 (Z : State) (x t : Addr) (kt : ClassId) (y ty : Addr) (ky : ClassId) (b0 b1 b2 b3 b4 b5 b6 b7 b8 b9 c0 zc : Int32) (fm : Value) (h0 : Heap) (n0 : Nat) (v : Option Value) (h : Heap) (L : List Loc) : Prop := v = none ∧ Fr n0 L ∧ Keep h0 h [x, t] ∧ Exa Z h x "java/lang/StringBuilder" ∧ Fld Z h x "java/lang/AbstractStringBuilder" "value" "[B" (.ref t) ∧ Fld Z h x "java/lang/AbstractStringBuilder" "coder" "B" (.int (0 : Int32)) ∧ Fld Z h x "java/lang/AbstractStringBuilder" "count" "I" (.int (10 : Int32)) ∧ Arv Z h t kt .byte (16 : Int32) [(.int b0), (.int b1), (.int b2), (.int b3), (.int b4), (.int b5), (.int b6), (.int b7), (.int b8), (.int b9), (.int c0)] (.int (0 : Int32))
set_option maxRecDepth 65536 in
set_option maxHeartbeats 40000000 in
theorem rmPu10_1 (l : Launch) (Z : State) (a0 : Array Value) (hw : ∀ d ∈ tables_1, d.before a0 Z = true) (ws : List Jvm.Cond) (x t : Addr) (kt : ClassId) (y ty : Addr) (ky : ClassId) (b0 b1 b2 b3 b4 b5 b6 b7 b8 b9 c0 zc : Int32) (fm : Value) (h0 : Heap) (n0 : Nat) (Z0 : n0 ≤ h0.size) (O0 : Old Z n0 h0) (S_CS : Sta Z Z.heap "java/lang/String" "COMPACT_STRINGS" "Z" (.int zc)) (hzc : ¬ zc = 0) (S_FM : Sta Z Z.heap "jdk/internal/util/Preconditions" "SIOOBE_FORMATTER" "Ljava/util/function/BiFunction;" fm) (hfm : fm.isRef = true) (gx : n0 ≤ x) (gt : n0 ≤ t) (Ex : Exa Z h0 x "java/lang/StringBuilder") (Fv : Fld Z h0 x "java/lang/AbstractStringBuilder" "value" "[B" (.ref t)) (Fc : Fld Z h0 x "java/lang/AbstractStringBuilder" "coder" "B" (.int (0 : Int32))) (Fn : Fld Z h0 x "java/lang/AbstractStringBuilder" "count" "I" (.int (10 : Int32))) (Vt : Arv Z h0 t kt .byte (16 : Int32) [(.int b0), (.int b1), (.int b2), (.int b3), (.int b4), (.int b5), (.int b6), (.int b7), (.int b8), (.int b9)] (.int (0 : Int32))) (Ey : Exa Z h0 y "java/lang/String") (Vy : Fld Z h0 y "java/lang/String" "value" "[B" (.ref ty)) (Cy : Fld Z h0 y "java/lang/String" "coder" "B" (.int (0 : Int32))) (Ky : Arv Z h0 ty ky .byte (1 : Int32) [(.int c0)] (.int (0 : Int32))) (nety : ty ≠ t) :
    OwnLaw l y8_ jdk_68_method_73_code 3 none ws (rR 2 0 0 33) #[(.ref x), (.int (10 : Int32)), (.ref y)] Z h0 (QPu10_1 Z x t kt y ty ky b0 b1 b2 b3 b4 b5 b6 b7 b8 b9 c0 zc fm h0 n0) := by
  refine own_enter (plainFor_of_name pn_java_lang_AbstractStringBuilder) (efPu10_1 x y) ?_
  intro p e s m below meth c s₁ Bd hx hby hml hZ hown X0 e0
  have N0 := Fr.nil n0
  have K0 : Keep h0 h0 [] := Keep.refl _ _
  have K0 : Keep h0 h0 [x, t] := Keep.refl _ _
  refine P1.aloadN X0.here hx (hb hby d16_0) rfl rfl ?_
  refine P1.aloadN X0.here hx (hb hby d16_1) rfl rfl ?_
  refine Goes.callV X0 hx hZ (y := y5_) (z := y5_) hown (mvT hZ (own_w hw 92 rfl)) (mvT hZ (own_declares (own_w hw 93 rfl) (own_w hw 96 rfl))) (notFace_of_selects (args := #[]) (mvT hZ (own_w hw 95 rfl))) (mvT hZ (own_w hw 95 rfl)) (mvT hZ (own_w hw 93 rfl)) (by decide) (kc' := 0) (ks' := 0) (backOf (W := 0) (rmInf l Z a0 hw [] x y zc fm h0 n0 Z0 O0 S_CS hzc S_FM hfm Fc Ey Cy) hZ (own_w hw 96 rfl) (own_w hw 49 rfl) (ok rfl) (ok rfl)) (b := x) e0 Ex (g := (mkF m 2 #[.val (.ref x), .val (.int (10 : Int32)), .val (.ref y)] [(.ref y), (.ref x)])) rfl (by rw [hml]; rfl) (argsL := [(.ref y)]) (rest := []) (lenOf pd_20497 rfl) rfl (by show 2 * 0 + _ ≤ _; exact Nat.le_of_eq rfl) (hb hby d16_2) rfl (ok rfl) (ok rfl) ?_
  intro v817 T817 L817 q817 X817
  obtain ⟨rfl, N817q, hE817⟩ := q817
  have N817 := Fr.app N0 N817q
  show Goes p e below _ T817 (mkF m 5 #[.val (.ref x), .val (.int (10 : Int32)), .val (.ref y)] [])
  refine P1.aloadN X817.here hx (hb hby d16_5) rfl rfl ?_
  refine P1.aloadN X817.here hx (hb hby d16_6) rfl rfl ?_
  obtain ⟨T818, X818, e818, st818⟩ := getF X817 hx hZ hown (host := "") (Or.inl (own_w hw 53 rfl)) Via.refl hE817 Fv (g := (mkF m 7 #[.val (.ref x), .val (.int (10 : Int32)), .val (.ref y)] [(.ref x), (.ref y)])) rfl rfl (hb hby d16_7)
  refine Goes.step (T' := T818) (g' := (mkF m 10 #[.val (.ref x), .val (.int (10 : Int32)), .val (.ref y)] [(.ref t), (.ref y)])) st818 ?_
  refine P1.iloadN X818.here hx (hb hby d16_10) rfl ?_
  refine P1.aloadN X818.here hx (hb hby d16_11) rfl rfl ?_
  obtain ⟨T819, X819, e819, st819⟩ := getF X818 hx hZ hown (host := "") (Or.inl (own_w hw 55 rfl)) Via.refl e818 Fc (g := (mkF m 12 #[.val (.ref x), .val (.int (10 : Int32)), .val (.ref y)] [(.ref x), (.int (10 : Int32)), (.ref t), (.ref y)])) rfl rfl (hb hby d16_12)
  refine Goes.step (T' := T819) (g' := (mkF m 15 #[.val (.ref x), .val (.int (10 : Int32)), .val (.ref y)] [(.int (0 : Int32)), (.int (10 : Int32)), (.ref t), (.ref y)])) st819 ?_
  refine Goes.callV X819 hx hZ (y := y15_) (z := y15_) hown (mvT hZ (own_w hw 98 rfl)) (mvT hZ (own_w hw 99 rfl)) (notFace_of_selects (args := #[]) (mvT hZ (own_w hw 101 rfl))) (mvT hZ (own_w hw 101 rfl)) (mvT hZ (own_w hw 100 rfl)) (by decide) (kc' := 0) (ks' := 0) (backOf (W := 0) (rmGb10_1 l Z a0 hw [] t kt y ty ky b0 b1 b2 b3 b4 b5 b6 b7 b8 b9 c0 zc fm h0 n0 Z0 O0 S_CS hzc S_FM hfm gt Vt Ey Vy Cy Ky nety) hZ (own_w hw 102 rfl) (own_w hw 2 rfl) (ok rfl) (ok rfl)) (b := y) e819 Ey (g := (mkF m 15 #[.val (.ref x), .val (.int (10 : Int32)), .val (.ref y)] [(.int (0 : Int32)), (.int (10 : Int32)), (.ref t), (.ref y)])) rfl (by rw [hml]; rfl) (argsL := [(.ref t), (.int (10 : Int32)), (.int (0 : Int32))]) (rest := []) (lenOf pd_1890 rfl) rfl (by show 2 * 0 + _ ≤ _; exact Nat.le_of_eq rfl) (hb hby d16_15) rfl (ok rfl) (ok rfl) ?_
  intro v820 T820 L820 q820 X820
  obtain ⟨rfl, N820q, K820, g820V⟩ := q820
  have N820 := Fr.app N817 N820q
  show Goes p e below _ T820 (mkF m 18 #[.val (.ref x), .val (.int (10 : Int32)), .val (.ref y)] [])
  refine Goes.retV X820 hx Bd.notSynchronized Bd.returns (hb hby d16_18) (ok rfl) (ok rfl) ?_
  have K821 : Keep h0 T820.heap [x, t] := K0.trans K820 (allS (Or.inl (by simp)) all0)
  have E822 : Exa Z T820.heap x "java/lang/StringBuilder" := Ex.keep K820
  have ne823 : x ≠ t := own_ne_arv E822 (own_w hw 40 rfl) g820V
  have F824 : Fld Z T820.heap x "java/lang/AbstractStringBuilder" "value" "[B" (.ref t) := Fv.keep K820 (ninS ne823 nin0)
  have F825 : Fld Z T820.heap x "java/lang/AbstractStringBuilder" "coder" "B" (.int (0 : Int32)) := Fc.keep K820 (ninS ne823 nin0)
  have F826 : Fld Z T820.heap x "java/lang/AbstractStringBuilder" "count" "I" (.int (10 : Int32)) := Fn.keep K820 (ninS ne823 nin0)
  exact ⟨rfl, N820, K821, E822, F824, F825, F826, g820V⟩
theorem efEns11 (x : Addr) (m : MethodId) : entryFrame m #[(.ref x), (.int (11 : Int32))] 3 = mkF m 0 #[.val (.ref x), .val (.int (11 : Int32)), .unset] [] := by first | (simp [entryFrame, mkF, argsToLocals, Value.category]; done) | rfl
def QEns11 (Z : State) (x t : Addr) (kt : ClassId) (vs : List Value) (h0 : Heap) (n0 : Nat) (v : Option Value) (h : Heap) (L : List Loc) : Prop := v = none ∧ Fr n0 L ∧ h = h0
set_option maxRecDepth 65536 in
set_option maxHeartbeats 40000000 in
theorem rmEns11 (l : Launch) (Z : State) (a0 : Array Value) (hw : ∀ d ∈ tables_1, d.before a0 Z = true) (ws : List Jvm.Cond) (x t : Addr) (kt : ClassId) (vs : List Value) (h0 : Heap) (n0 : Nat) (Z0 : n0 ≤ h0.size) (O0 : Old Z n0 h0) (Ex : Exa Z h0 x "java/lang/StringBuilder") (Fv : Fld Z h0 x "java/lang/AbstractStringBuilder" "value" "[B" (.ref t)) (Fc : Fld Z h0 x "java/lang/AbstractStringBuilder" "coder" "B" (.int (0 : Int32))) (Vt : Arv Z h0 t kt .byte (16 : Int32) vs (.int (0 : Int32))) :
    OwnLaw l y3_ jdk_68_method_9_code 3 none ws (rR 0 0 0 0) #[(.ref x), (.int (11 : Int32))] Z h0 (QEns11 Z x t kt vs h0 n0) := by
  refine own_enter (plainFor_of_name pn_java_lang_AbstractStringBuilder) (efEns11 x) ?_
  intro p e s m below meth c s₁ Bd hx hby hml hZ hown X0 e0
  have N0 := Fr.nil n0
  have K0 : Keep h0 h0 [] := Keep.refl _ _
  refine P1.aloadN X0.here hx (hb hby d15_0) rfl rfl ?_
  obtain ⟨T830, X830, e830, st830⟩ := getF X0 hx hZ hown (host := "") (Or.inl (own_w hw 53 rfl)) Via.refl e0 Fv (g := (mkF m 1 #[.val (.ref x), .val (.int (11 : Int32)), .unset] [(.ref x)])) rfl rfl (hb hby d15_1)
  refine Goes.step (T' := T830) (g' := (mkF m 4 #[.val (.ref x), .val (.int (11 : Int32)), .unset] [(.ref t)])) st830 ?_
  obtain ⟨cl831, Ar831, qk831, sl831, nz831, ha831, fi831⟩ := id Vt
  have al832 : cl831.slots.size.toInt32 = (16 : Int32) := len_of sl831 nz831
  refine Goes.step (T' := T830) (g' := (mkF m 5 #[.val (.ref x), .val (.int (11 : Int32)), .unset] [(.int (16 : Int32))])) (fun t_ k_ => X830.arraylength hx (by rw [e830]; exact Ar831.1) (State.isArrayOf_alike hZ.alike Ar831.2.1) (g := (mkF m 4 #[.val (.ref x), .val (.int (11 : Int32)), .unset] [(.ref t)])) rfl rfl (hb hby d15_4) _ <| by rw [al832]; exact k_) ?_
  refine P1.aloadN X830.here hx (hb hby d15_5) rfl rfl ?_
  obtain ⟨T833, X833, e833, st833⟩ := getF X830 hx hZ hown (host := "") (Or.inl (own_w hw 55 rfl)) Via.refl e830 Fc (g := (mkF m 6 #[.val (.ref x), .val (.int (11 : Int32)), .unset] [(.ref x), (.int (16 : Int32))])) rfl rfl (hb hby d15_6)
  refine Goes.step (T' := T833) (g' := (mkF m 9 #[.val (.ref x), .val (.int (11 : Int32)), .unset] [(.int (0 : Int32)), (.int (16 : Int32))])) st833 ?_
  refine Goes.step (T' := T833) (g' := (mkF m 10 #[.val (.ref x), .val (.int (11 : Int32)), .unset] [(.int ((16 : Int32) >>> ((0 : Int32) &&& 31)))])) (fun t_ k_ => XS.ishr X833.here hx rfl (hb hby d15_9) rfl k_) ?_
  have rw834 : ((16 : Int32) >>> ((0 : Int32) &&& 31)) = (16 : Int32) := by decide
  rw [rw834]
  refine P1.istoreN X833.here hx #[.val (.ref x), .val (.int (11 : Int32)), .val (.int (16 : Int32))] (hb hby d15_10) rfl ?_
  refine P1.iloadN X833.here hx (hb hby d15_11) rfl ?_
  refine P1.iloadN X833.here hx (hb hby d15_12) rfl ?_
  refine P1.isub X833.here hx (hb hby d15_13) ?_
  have rw835 : ((11 : Int32) - (16 : Int32)) = (-5 : Int32) := by decide
  rw [rw835]
  refine P1.ifYes X833.here hx 38 (hb hby d15_14) ((if0 _ _).trans (flt (by decide : ¬ ((0 : Int32) < (-5 : Int32)))).2.2.2) (by decide) (by decide) ?_
  refine Goes.retV X833 hx Bd.notSynchronized Bd.returns (hb hby d15_38) (ok rfl) (ok rfl) ?_
  rw [e833]
  exact ⟨rfl, N0, rfl⟩
theorem efAp10_1 (x y : Addr) (m : MethodId) : entryFrame m #[(.ref x), (.ref y)] 3 = mkF m 0 #[.val (.ref x), .val (.ref y), .unset] [] := by first | (simp [entryFrame, mkF, argsToLocals, Value.category]; done) | rfl
def QAp10_1 (Z : State) (x t : Addr) (kt : ClassId) (y ty : Addr) (ky : ClassId) (b0 b1 b2 b3 b4 b5 b6 b7 b8 b9 c0 zc : Int32) (fm : Value) (h0 : Heap) (n0 : Nat) (v : Option Value) (h : Heap) (L : List Loc) : Prop := v = some (.ref x) ∧ Fr n0 L ∧ Keep h0 h [x, t] ∧ Exa Z h x "java/lang/StringBuilder" ∧ Fld Z h x "java/lang/AbstractStringBuilder" "value" "[B" (.ref t) ∧ Fld Z h x "java/lang/AbstractStringBuilder" "coder" "B" (.int (0 : Int32)) ∧ Fld Z h x "java/lang/AbstractStringBuilder" "count" "I" (.int (11 : Int32)) ∧ Arv Z h t kt .byte (16 : Int32) [(.int b0), (.int b1), (.int b2), (.int b3), (.int b4), (.int b5), (.int b6), (.int b7), (.int b8), (.int b9), (.int c0)] (.int (0 : Int32))
set_option maxRecDepth 65536 in
set_option maxHeartbeats 40000000 in
theorem rmAp10_1 (l : Launch) (Z : State) (a0 : Array Value) (hw : ∀ d ∈ tables_1, d.before a0 Z = true) (ws : List Jvm.Cond) (x t : Addr) (kt : ClassId) (y ty : Addr) (ky : ClassId) (b0 b1 b2 b3 b4 b5 b6 b7 b8 b9 c0 zc : Int32) (fm : Value) (h0 : Heap) (n0 : Nat) (Z0 : n0 ≤ h0.size) (O0 : Old Z n0 h0) (S_CS : Sta Z Z.heap "java/lang/String" "COMPACT_STRINGS" "Z" (.int zc)) (hzc : ¬ zc = 0) (S_FM : Sta Z Z.heap "jdk/internal/util/Preconditions" "SIOOBE_FORMATTER" "Ljava/util/function/BiFunction;" fm) (hfm : fm.isRef = true) (gx : n0 ≤ x) (gt : n0 ≤ t) (Ex : Exa Z h0 x "java/lang/StringBuilder") (Fv : Fld Z h0 x "java/lang/AbstractStringBuilder" "value" "[B" (.ref t)) (Fc : Fld Z h0 x "java/lang/AbstractStringBuilder" "coder" "B" (.int (0 : Int32))) (Fn : Fld Z h0 x "java/lang/AbstractStringBuilder" "count" "I" (.int (10 : Int32))) (Vt : Arv Z h0 t kt .byte (16 : Int32) [(.int b0), (.int b1), (.int b2), (.int b3), (.int b4), (.int b5), (.int b6), (.int b7), (.int b8), (.int b9)] (.int (0 : Int32))) (Ey : Exa Z h0 y "java/lang/String") (Vy : Fld Z h0 y "java/lang/String" "value" "[B" (.ref ty)) (Cy : Fld Z h0 y "java/lang/String" "coder" "B" (.int (0 : Int32))) (Ky : Arv Z h0 ty ky .byte (1 : Int32) [(.int c0)] (.int (0 : Int32))) (nety : ty ≠ t) :
    OwnLaw l y2_ jdk_68_method_22_code 3 (some (.object "java/lang/AbstractStringBuilder")) ws (rR 3 0 0 47) #[(.ref x), (.ref y)] Z h0 (QAp10_1 Z x t kt y ty ky b0 b1 b2 b3 b4 b5 b6 b7 b8 b9 c0 zc fm h0 n0) := by
  refine own_enter (plainFor_of_name pn_java_lang_AbstractStringBuilder) (efAp10_1 x y) ?_
  intro p e s m below meth c s₁ Bd hx hby hml hZ hown X0 e0
  have N0 := Fr.nil n0
  have K0 : Keep h0 h0 [] := Keep.refl _ _
  have K0 : Keep h0 h0 [x, t] := Keep.refl _ _
  refine P1.aloadN X0.here hx (hb hby d12_0) rfl rfl ?_
  refine P1.ifnonnullYes X0.here hx 9 (hb hby d12_1) (by decide) (by decide) ?_
  refine P1.aloadN X0.here hx (hb hby d12_9) rfl rfl ?_
  refine Goes.callV X0 hx hZ (y := y17_) (z := y17_) hown (mvT hZ (own_w hw 70 rfl)) (mvT hZ (own_w hw 71 rfl)) (notFace_of_selects (args := #[]) (mvT hZ (own_w hw 73 rfl))) (mvT hZ (own_w hw 73 rfl)) (mvT hZ (own_w hw 72 rfl)) (by decide) (kc' := 0) (ks' := 0) (backOf (W := 0) (rmLen1 l Z a0 hw [] y ty ky [(.int c0)] zc fm h0 n0 Z0 O0 S_CS hzc S_FM hfm Ey Vy Cy Ky) hZ (own_w hw 74 rfl) (own_w hw 2 rfl) (ok rfl) (ok rfl)) (b := y) e0 Ey (g := (mkF m 10 #[.val (.ref x), .val (.ref y), .unset] [(.ref y)])) rfl (by rw [hml]; rfl) (argsL := []) (rest := []) (lenOf pd_341 rfl) rfl (by show 2 * 0 + _ ≤ _; exact Nat.le_of_eq rfl) (hb hby d12_10) rfl (ok rfl) (ok rfl) ?_
  intro v827 T827 L827 q827 X827
  obtain ⟨rfl, N827q, hE827⟩ := q827
  have N827 := Fr.app N0 N827q
  show Goes p e below _ T827 (mkF m 13 #[.val (.ref x), .val (.ref y), .unset] [(.int (1 : Int32))])
  refine P1.istoreN X827.here hx #[.val (.ref x), .val (.ref y), .val (.int (1 : Int32))] (hb hby d12_13) rfl ?_
  refine P1.aloadN X827.here hx (hb hby d12_14) rfl rfl ?_
  refine P1.aloadN X827.here hx (hb hby d12_15) rfl rfl ?_
  obtain ⟨T828, X828, e828, st828⟩ := getF X827 hx hZ hown (host := "") (Or.inl (own_w hw 80 rfl)) Via.refl hE827 Fn (g := (mkF m 16 #[.val (.ref x), .val (.ref y), .val (.int (1 : Int32))] [(.ref x), (.ref x)])) rfl rfl (hb hby d12_16)
  refine Goes.step (T' := T828) (g' := (mkF m 19 #[.val (.ref x), .val (.ref y), .val (.int (1 : Int32))] [(.int (10 : Int32)), (.ref x)])) st828 ?_
  refine P1.iloadN X828.here hx (hb hby d12_19) rfl ?_
  refine P1.iadd X828.here hx (hb hby d12_20) ?_
  have rw829 : ((10 : Int32) + (1 : Int32)) = (11 : Int32) := by decide
  rw [rw829]
  refine Goes.callV X828 hx hZ (y := y3_) (z := y3_) hown (mvT hZ (own_w hw 82 rfl)) (mvT hZ (own_declares (own_w hw 83 rfl) (own_w hw 86 rfl))) (notFace_of_selects (args := #[]) (mvT hZ (own_w hw 85 rfl))) (mvT hZ (own_w hw 85 rfl)) (mvT hZ (own_w hw 83 rfl)) (by decide) (kc' := 0) (ks' := 0) (backOf (W := 0) (rmEns11 l Z a0 hw [] x t kt [(.int b0), (.int b1), (.int b2), (.int b3), (.int b4), (.int b5), (.int b6), (.int b7), (.int b8), (.int b9)] h0 n0 Z0 O0 Ex Fv Fc Vt) hZ (own_w hw 86 rfl) (own_w hw 49 rfl) (ok rfl) (ok rfl)) (b := x) e828 Ex (g := (mkF m 21 #[.val (.ref x), .val (.ref y), .val (.int (1 : Int32))] [(.int (11 : Int32)), (.ref x)])) rfl (by rw [hml]; rfl) (argsL := [(.int (11 : Int32))]) (rest := []) (lenOf pd_653 rfl) rfl (by show 2 * 0 + _ ≤ _; exact Nat.le_of_eq rfl) (hb hby d12_21) rfl (ok rfl) (ok rfl) ?_
  intro v836 T836 L836 q836 X836
  obtain ⟨rfl, N836q, hE836⟩ := q836
  have N836 := Fr.app N827 N836q
  show Goes p e below _ T836 (mkF m 24 #[.val (.ref x), .val (.ref y), .val (.int (1 : Int32))] [])
  refine P1.aloadN X836.here hx (hb hby d12_24) rfl rfl ?_
  refine P1.aloadN X836.here hx (hb hby d12_25) rfl rfl ?_
  obtain ⟨T837, X837, e837, st837⟩ := getF X836 hx hZ hown (host := "") (Or.inl (own_w hw 80 rfl)) Via.refl hE836 Fn (g := (mkF m 26 #[.val (.ref x), .val (.ref y), .val (.int (1 : Int32))] [(.ref x), (.ref x)])) rfl rfl (hb hby d12_26)
  refine Goes.step (T' := T837) (g' := (mkF m 29 #[.val (.ref x), .val (.ref y), .val (.int (1 : Int32))] [(.int (10 : Int32)), (.ref x)])) st837 ?_
  refine P1.aloadN X837.here hx (hb hby d12_29) rfl rfl ?_
  refine Goes.callV X837 hx hZ (y := y8_) (z := y8_) hown (mvT hZ (own_w hw 87 rfl)) (mvT hZ (own_declares (own_w hw 88 rfl) (own_w hw 91 rfl))) (notFace_of_selects (args := #[]) (mvT hZ (own_w hw 90 rfl))) (mvT hZ (own_w hw 90 rfl)) (mvT hZ (own_w hw 88 rfl)) (by decide) (kc' := 0) (ks' := 0) (backOf (W := 0) (rmPu10_1 l Z a0 hw [] x t kt y ty ky b0 b1 b2 b3 b4 b5 b6 b7 b8 b9 c0 zc fm h0 n0 Z0 O0 S_CS hzc S_FM hfm gx gt Ex Fv Fc Fn Vt Ey Vy Cy Ky nety) hZ (own_w hw 91 rfl) (own_w hw 49 rfl) (ok rfl) (ok rfl)) (b := x) e837 Ex (g := (mkF m 30 #[.val (.ref x), .val (.ref y), .val (.int (1 : Int32))] [(.ref y), (.int (10 : Int32)), (.ref x)])) rfl (by rw [hml]; rfl) (argsL := [(.int (10 : Int32)), (.ref y)]) (rest := []) (lenOf pd_22466 rfl) rfl (by show 2 * 0 + _ ≤ _; exact Nat.le_of_eq rfl) (hb hby d12_30) rfl (ok rfl) (ok rfl) ?_
  intro v838 T838 L838 q838 X838
  obtain ⟨rfl, N838q, K838, g838E, g838v, g838c, g838n, g838V⟩ := q838
  have N838 := Fr.app N836 N838q
  show Goes p e below _ T838 (mkF m 33 #[.val (.ref x), .val (.ref y), .val (.int (1 : Int32))] [])
  refine P1.aloadN X838.here hx (hb hby d12_33) rfl rfl ?_
  refine P1.dup X838.here hx (hb hby d12_34) rfl ?_
  obtain ⟨T839, X839, e839, st839⟩ := getF X838 hx hZ hown (host := "") (Or.inl (own_w hw 80 rfl)) Via.refl rfl g838n (g := (mkF m 35 #[.val (.ref x), .val (.ref y), .val (.int (1 : Int32))] [(.ref x), (.ref x)])) rfl rfl (hb hby d12_35)
  refine Goes.step (T' := T839) (g' := (mkF m 38 #[.val (.ref x), .val (.ref y), .val (.int (1 : Int32))] [(.int (10 : Int32)), (.ref x)])) st839 ?_
  refine P1.iloadN X839.here hx (hb hby d12_38) rfl ?_
  refine P1.iadd X839.here hx (hb hby d12_39) ?_
  have rw840 : ((10 : Int32) + (1 : Int32)) = (11 : Int32) := by decide
  rw [rw840]
  obtain ⟨T841, h841, X841, e841, W841, st841⟩ := putF X839 hx hZ hown (host := "") (Or.inl (own_w hw 80 rfl)) Via.refl e839 g838n g838E (Or.inl (own_w hw 81 rfl)) (own_w hw 40 rfl) (ty := .int) (by decide) rfl rfl (g := (mkF m 40 #[.val (.ref x), .val (.ref y), .val (.int (1 : Int32))] [(.int (11 : Int32)), (.ref x)])) rfl rfl (hb hby d12_40)
  have Fw841 : Fld Z h841 x "java/lang/AbstractStringBuilder" "count" "I" (.int (11 : Int32)) := g838n.same W841
  have N841 := Fr.snoc X841 N838 gx
  refine Goes.step (T' := T841) (g' := (mkF m 43 #[.val (.ref x), .val (.ref y), .val (.int (1 : Int32))] [])) st841 ?_
  refine P1.aloadN X841.here hx (hb hby d12_43) rfl rfl ?_
  refine Goes.retA X841 hx Bd.notSynchronized Bd.returns rfl rfl (hb hby d12_44) (ok rfl) (ok rfl) ?_
  rw [e841]
  have K842 : Keep h0 T838.heap [x, t] := K0.trans K838 (allS (Or.inl (by simp)) (allS (Or.inl (by simp)) all0))
  have K843 : Keep h0 h841 [x, t] := K842.wr W841 (Or.inl (by simp))
  have E844 : Exa Z h841 x "java/lang/StringBuilder" := g838E.wr W841
  have F845 : Fld Z h841 x "java/lang/AbstractStringBuilder" "value" "[B" (.ref t) := g838v.other W841 (Or.inr (slot_ne (Or.inl (own_w hw 54 rfl)) (Or.inl (own_w hw 81 rfl)) (by decide) (t := (.array .byte)) (t' := .int) (by decide) (by decide)))
  have F846 : Fld Z h841 x "java/lang/AbstractStringBuilder" "coder" "B" (.int (0 : Int32)) := g838c.other W841 (Or.inr (slot_ne (Or.inl (own_w hw 56 rfl)) (Or.inl (own_w hw 81 rfl)) (by decide) (t := .byte) (t' := .int) (by decide) (by decide)))
  have ne847 : x ≠ t := own_ne_arv g838E (own_w hw 40 rfl) g838V
  have V848 : Arv Z h841 t kt .byte (16 : Int32) [(.int b0), (.int b1), (.int b2), (.int b3), (.int b4), (.int b5), (.int b6), (.int b7), (.int b8), (.int b9), (.int c0)] (.int (0 : Int32)) := g838V.other W841 (Ne.symm ne847)
  exact ⟨rfl, N841, K843, E844, F845, F846, Fw841, V848⟩
theorem efSp10_1 (x y : Addr) (m : MethodId) : entryFrame m #[(.ref x), (.ref y)] 2 = mkF m 0 #[.val (.ref x), .val (.ref y)] [] := by first | (simp [entryFrame, mkF, argsToLocals, Value.category]; done) | rfl
def QSp10_1 (Z : State) (x t : Addr) (kt : ClassId) (y ty : Addr) (ky : ClassId) (b0 b1 b2 b3 b4 b5 b6 b7 b8 b9 c0 zc : Int32) (fm : Value) (h0 : Heap) (n0 : Nat) (v : Option Value) (h : Heap) (L : List Loc) : Prop := v = some (.ref x) ∧ Fr n0 L ∧ Keep h0 h [x, t] ∧ Exa Z h x "java/lang/StringBuilder" ∧ Fld Z h x "java/lang/AbstractStringBuilder" "value" "[B" (.ref t) ∧ Fld Z h x "java/lang/AbstractStringBuilder" "coder" "B" (.int (0 : Int32)) ∧ Fld Z h x "java/lang/AbstractStringBuilder" "count" "I" (.int (11 : Int32)) ∧ Arv Z h t kt .byte (16 : Int32) [(.int b0), (.int b1), (.int b2), (.int b3), (.int b4), (.int b5), (.int b6), (.int b7), (.int b8), (.int b9), (.int c0)] (.int (0 : Int32))
set_option maxRecDepth 65536 in
set_option maxHeartbeats 40000000 in
theorem rmSp10_1 (l : Launch) (Z : State) (a0 : Array Value) (hw : ∀ d ∈ tables_1, d.before a0 Z = true) (ws : List Jvm.Cond) (x t : Addr) (kt : ClassId) (y ty : Addr) (ky : ClassId) (b0 b1 b2 b3 b4 b5 b6 b7 b8 b9 c0 zc : Int32) (fm : Value) (h0 : Heap) (n0 : Nat) (Z0 : n0 ≤ h0.size) (O0 : Old Z n0 h0) (S_CS : Sta Z Z.heap "java/lang/String" "COMPACT_STRINGS" "Z" (.int zc)) (hzc : ¬ zc = 0) (S_FM : Sta Z Z.heap "jdk/internal/util/Preconditions" "SIOOBE_FORMATTER" "Ljava/util/function/BiFunction;" fm) (hfm : fm.isRef = true) (gx : n0 ≤ x) (gt : n0 ≤ t) (Ex : Exa Z h0 x "java/lang/StringBuilder") (Fv : Fld Z h0 x "java/lang/AbstractStringBuilder" "value" "[B" (.ref t)) (Fc : Fld Z h0 x "java/lang/AbstractStringBuilder" "coder" "B" (.int (0 : Int32))) (Fn : Fld Z h0 x "java/lang/AbstractStringBuilder" "count" "I" (.int (10 : Int32))) (Vt : Arv Z h0 t kt .byte (16 : Int32) [(.int b0), (.int b1), (.int b2), (.int b3), (.int b4), (.int b5), (.int b6), (.int b7), (.int b8), (.int b9)] (.int (0 : Int32))) (Ey : Exa Z h0 y "java/lang/String") (Vy : Fld Z h0 y "java/lang/String" "value" "[B" (.ref ty)) (Cy : Fld Z h0 y "java/lang/String" "coder" "B" (.int (0 : Int32))) (Ky : Arv Z h0 ty ky .byte (1 : Int32) [(.int c0)] (.int (0 : Int32))) (nety : ty ≠ t) :
    OwnLaw l y19_ jdk_67_method_7_code 2 (some (.object "java/lang/StringBuilder")) ws (rR 4 0 0 61) #[(.ref x), (.ref y)] Z h0 (QSp10_1 Z x t kt y ty ky b0 b1 b2 b3 b4 b5 b6 b7 b8 b9 c0 zc fm h0 n0) := by
  refine own_enter (plainFor_of_name pn_java_lang_StringBuilder) (efSp10_1 x y) ?_
  intro p e s m below meth c s₁ Bd hx hby hml hZ hown X0 e0
  have N0 := Fr.nil n0
  have K0 : Keep h0 h0 [] := Keep.refl _ _
  have K0 : Keep h0 h0 [x, t] := Keep.refl _ _
  refine P1.aloadN X0.here hx (hb hby d11_0) rfl rfl ?_
  refine P1.aloadN X0.here hx (hb hby d11_1) rfl rfl ?_
  refine Goes.callSup X0 hx hZ (y := y2_) hown (own_w hw 65 rfl) (own_sameMethod (own_w hw 66 rfl) (own_w hw 85 rfl) rfl (by decide)) (own_w hw 66 rfl) (own_w hw 67 rfl) (by decide) (kc' := 0) (ks' := 0) (backOf (W := 0) (rmAp10_1 l Z a0 hw [] x t kt y ty ky b0 b1 b2 b3 b4 b5 b6 b7 b8 b9 c0 zc fm h0 n0 Z0 O0 S_CS hzc S_FM hfm gx gt Ex Fv Fc Fn Vt Ey Vy Cy Ky nety) hZ (own_w hw 69 rfl) (own_w hw 49 rfl) (ok rfl) (ok rfl)) (a := x) e0 (Ins.of_exa Ex (own_w hw 48 rfl)) (own_w hw 69 rfl) (g := (mkF m 2 #[.val (.ref x), .val (.ref y)] [(.ref y), (.ref x)])) rfl (by rw [hml]; rfl) (argsL := [(.ref y)]) (rest := []) (lenOf pd_138888 rfl) rfl (by show 2 * 0 + _ ≤ _; exact Nat.le_of_eq rfl) (hb hby d11_2) rfl (ok rfl) (ok rfl) ?_
  intro v849 T849 L849 q849 X849
  obtain ⟨rfl, N849q, K849, g849E, g849v, g849c, g849n, g849V⟩ := q849
  have N849 := Fr.app N0 N849q
  show Goes p e below _ T849 (mkF m 5 #[.val (.ref x), .val (.ref y)] [(.ref x)])
  refine P1.pop X849.here hx (hb hby d11_5) rfl ?_
  refine P1.aloadN X849.here hx (hb hby d11_6) rfl rfl ?_
  refine Goes.retA X849 hx Bd.notSynchronized Bd.returns rfl rfl (hb hby d11_7) (ok rfl) (ok rfl) ?_
  have K850 : Keep h0 T849.heap [x, t] := K0.trans K849 (allS (Or.inl (by simp)) (allS (Or.inl (by simp)) all0))
  exact ⟨rfl, N849, K850, g849E, g849v, g849c, g849n, g849V⟩
theorem efCkl0_11  (m : MethodId) : entryFrame m #[(.int (0 : Int32)), (.int (11 : Int32))] 2 = mkF m 0 #[.val (.int (0 : Int32)), .val (.int (11 : Int32))] [] := by first | (simp [entryFrame, mkF, argsToLocals, Value.category]; done) | rfl
def QCkl0_11 (Z : State)  (h0 : Heap) (n0 : Nat) (v : Option Value) (h : Heap) (L : List Loc) : Prop := v = none ∧ Fr n0 L ∧ h = h0
set_option maxRecDepth 65536 in
set_option maxHeartbeats 40000000 in
theorem rmCkl0_11 (l : Launch) (Z : State) (a0 : Array Value) (hw : ∀ d ∈ tables_1, d.before a0 Z = true) (ws : List Jvm.Cond)  (h0 : Heap) (n0 : Nat) (Z0 : n0 ≤ h0.size) (O0 : Old Z n0 h0) :
    OwnLaw l y22_ jdk_65_method_131_code 2 none ws (rR 0 0 0 0) #[(.int (0 : Int32)), (.int (11 : Int32))] Z h0 (QCkl0_11 Z  h0 n0) := by
  refine own_enter (plainFor_of_name pn_java_util_Arrays) (efCkl0_11 ) ?_
  intro p e s m below meth c s₁ Bd hx hby hml hZ hown X0 e0
  have N0 := Fr.nil n0
  have K0 : Keep h0 h0 [] := Keep.refl _ _
  refine P1.iloadN X0.here hx (hb hby d28_0) rfl ?_
  refine P1.iloadN X0.here hx (hb hby d28_1) rfl ?_
  refine P1.icmpYes X0.here hx 37 (hb hby d28_2) (flt (by decide : ¬ ((11 : Int32) < (0 : Int32)))).2.1 (by decide) (by decide) ?_
  refine Goes.retV X0 hx Bd.notSynchronized Bd.returns (hb hby d28_37) (ok rfl) (ok rfl) ?_
  rw [e0]
  exact ⟨rfl, N0, rfl⟩
theorem efMin16_11  (m : MethodId) : entryFrame m #[(.int (16 : Int32)), (.int (11 : Int32))] 2 = mkF m 0 #[.val (.int (16 : Int32)), .val (.int (11 : Int32))] [] := by first | (simp [entryFrame, mkF, argsToLocals, Value.category]; done) | rfl
def QMin16_11 (Z : State)  (h0 : Heap) (n0 : Nat) (v : Option Value) (h : Heap) (L : List Loc) : Prop := v = some (.int (11 : Int32)) ∧ Fr n0 L ∧ h = h0
set_option maxRecDepth 65536 in
set_option maxHeartbeats 40000000 in
theorem rmMin16_11 (l : Launch) (Z : State) (a0 : Array Value) (hw : ∀ d ∈ tables_1, d.before a0 Z = true) (ws : List Jvm.Cond)  (h0 : Heap) (n0 : Nat) (Z0 : n0 ≤ h0.size) (O0 : Old Z n0 h0) :
    OwnLaw l y9_ jdk_29_method_69_code 2 (some .int) ws (rR 0 0 0 0) #[(.int (16 : Int32)), (.int (11 : Int32))] Z h0 (QMin16_11 Z  h0 n0) := by
  refine own_enter (Jvm.Free.JP.mathPlain rfl (by decide +kernel)) (efMin16_11 ) ?_
  intro p e s m below meth c s₁ Bd hx hby hml hZ hown X0 e0
  have N0 := Fr.nil n0
  have K0 : Keep h0 h0 [] := Keep.refl _ _
  refine P1.iloadN X0.here hx (hb hby d29_0) rfl ?_
  refine P1.iloadN X0.here hx (hb hby d29_1) rfl ?_
  refine P1.icmpYes X0.here hx 9 (hb hby d29_2) (tlt (by decide : (11 : Int32) < (16 : Int32))).2.2.1 (by decide) (by decide) ?_
  refine P1.iloadN X0.here hx (hb hby d29_9) rfl ?_
  refine Goes.retI X0 hx Bd.notSynchronized Bd.returns (hb hby d29_10) (ok rfl) (ok rfl) ?_
  rw [e0]
  exact ⟨rfl, N0, rfl⟩
theorem efCb0_11_16_11 (t : Addr) (m : MethodId) : entryFrame m #[(.ref t), (.int (0 : Int32)), (.int (11 : Int32))] 5 = mkF m 0 #[.val (.ref t), .val (.int (0 : Int32)), .val (.int (11 : Int32)), .unset, .unset] [] := by first | (simp [entryFrame, mkF, argsToLocals, Value.category]; done) | rfl
def QCb0_11_16_11 (Z : State) (t : Addr) (kt : ClassId) (b0 b1 b2 b3 b4 b5 b6 b7 b8 b9 b10 : Int32) (h0 : Heap) (n0 : Nat) (v : Option Value) (h : Heap) (L : List Loc) : Prop := ∃ r kr, v = some (.ref r) ∧ Fr n0 L ∧ Keep h0 h [] ∧ h0.size ≤ r ∧ Arv Z h r kr .byte (11 : Int32) [(.int b0), (.int b1), (.int b2), (.int b3), (.int b4), (.int b5), (.int b6), (.int b7), (.int b8), (.int b9), (.int b10)] (.int (0 : Int32))
set_option maxRecDepth 65536 in
set_option maxHeartbeats 40000000 in
theorem rmCb0_11_16_11 (l : Launch) (Z : State) (a0 : Array Value) (hw : ∀ d ∈ tables_1, d.before a0 Z = true) (ws : List Jvm.Cond) (t : Addr) (kt : ClassId) (b0 b1 b2 b3 b4 b5 b6 b7 b8 b9 b10 : Int32) (h0 : Heap) (n0 : Nat) (Z0 : n0 ≤ h0.size) (O0 : Old Z n0 h0) (Vt : Arv Z h0 t kt .byte (16 : Int32) [(.int b0), (.int b1), (.int b2), (.int b3), (.int b4), (.int b5), (.int b6), (.int b7), (.int b8), (.int b9), (.int b10)] (.int (0 : Int32))) :
    OwnLaw l y24_ jdk_65_method_133_code 5 (some (.array .byte)) ws (rR 1 1 11 18) #[(.ref t), (.int (0 : Int32)), (.int (11 : Int32))] Z h0 (QCb0_11_16_11 Z t kt b0 b1 b2 b3 b4 b5 b6 b7 b8 b9 b10 h0 n0) := by
  refine own_enter (plainFor_of_name pn_java_util_Arrays) (efCb0_11_16_11 t) ?_
  intro p e s m below meth c s₁ Bd hx hby hml hZ hown X0 e0
  have N0 := Fr.nil n0
  have K0 : Keep h0 h0 [] := Keep.refl _ _
  refine P1.iloadN X0.here hx (hb hby d27_0) rfl ?_
  refine P1.iloadN X0.here hx (hb hby d27_1) rfl ?_
  refine Goes.callS X0 hx (y := y22_) hown (mvT hZ (own_w hw 145 rfl)) (mvT hZ (own_w hw 146 rfl)) (mvT hZ (own_w hw 140 rfl)) (mvT hZ (own_w hw 147 rfl)) (by decide) (kc' := 0) (ks' := 0) (backOf (W := 0) (rmCkl0_11 l Z a0 hw []  h0 n0 Z0 O0 ) hZ (own_w hw 147 rfl) (own_w hw 140 rfl) (ok rfl) (ok rfl)) (g := (mkF m 2 #[.val (.ref t), .val (.int (0 : Int32)), .val (.int (11 : Int32)), .unset, .unset] [(.int (11 : Int32)), (.int (0 : Int32))])) rfl (by rw [hml]; rfl) (argsL := [(.int (0 : Int32)), (.int (11 : Int32))]) (rest := []) (lenOf pd_999 rfl) rfl (by show 2 * 0 + _ ≤ _; exact Nat.le_of_eq rfl) (hb hby d27_2) rfl e0 (ok rfl) (ok rfl) ?_
  intro v851 T851 L851 q851 X851
  obtain ⟨rfl, N851q, hE851⟩ := q851
  have N851 := Fr.app N0 N851q
  show Goes p e below _ T851 (mkF m 5 #[.val (.ref t), .val (.int (0 : Int32)), .val (.int (11 : Int32)), .unset, .unset] [])
  refine P1.iloadN X851.here hx (hb hby d27_5) rfl ?_
  refine P1.iloadN X851.here hx (hb hby d27_6) rfl ?_
  refine P1.isub X851.here hx (hb hby d27_7) ?_
  have rw852 : ((11 : Int32) - (0 : Int32)) = (11 : Int32) := by decide
  rw [rw852]
  refine P1.istoreN X851.here hx #[.val (.ref t), .val (.int (0 : Int32)), .val (.int (11 : Int32)), .val (.int (11 : Int32)), .unset] (hb hby d27_8) rfl ?_
  refine P1.iloadN X851.here hx (hb hby d27_9) rfl ?_
  obtain ⟨T853, h853, k853, X853, e853, E853, A853, st853⟩ := newP X851 hx hZ (own_w hw 19 rfl) hE851 (g := (mkF m 10 #[.val (.ref t), .val (.int (0 : Int32)), .val (.int (11 : Int32)), .val (.int (11 : Int32)), .unset] [(.int (11 : Int32))])) rfl (hb hby d27_10) rfl (by decide) (cap := 11) (ok rfl) (ok rfl) (ok rfl) (ok rfl)
  obtain ⟨b853, g853⟩ : ∃ z, z = h0.size := ⟨_, rfl⟩
  rw [← g853] at A853 st853
  have ge_b853 : n0 ≤ b853 := Nat.le_trans Z0 (Nat.le_of_eq g853.symm)
  have sz_b853 : h0.size ≤ b853 := Nat.le_trans K0.1 (Nat.le_of_eq g853.symm)
  have V853 : Arv Z h853 b853 k853 .byte (11 : Int32) [(.int (0 : Int32)), (.int (0 : Int32)), (.int (0 : Int32)), (.int (0 : Int32)), (.int (0 : Int32)), (.int (0 : Int32)), (.int (0 : Int32)), (.int (0 : Int32)), (.int (0 : Int32)), (.int (0 : Int32)), (.int (0 : Int32))] (.int (0 : Int32)) := (Arv.new A853 (by decide)).pad (pad_rep [] (.int (0 : Int32)) 11)
  refine Goes.step (T' := T853) (g' := (mkF m 12 #[.val (.ref t), .val (.int (0 : Int32)), .val (.int (11 : Int32)), .val (.int (11 : Int32)), .unset] [(.ref b853)])) st853 ?_
  refine P1.astore X853.here hx #[.val (.ref t), .val (.int (0 : Int32)), .val (.int (11 : Int32)), .val (.int (11 : Int32)), .val (.ref b853)] (hb hby d27_12) rfl rfl ?_
  refine P1.aloadN X853.here hx (hb hby d27_14) rfl rfl ?_
  refine P1.iloadN X853.here hx (hb hby d27_15) rfl ?_
  refine P1.aload X853.here hx (hb hby d27_16) rfl rfl ?_
  refine P1.iconst X853.here hx (0 : Int32) (hb hby d27_18) rfl ?_
  refine P1.aloadN X853.here hx (hb hby d27_19) rfl rfl ?_
  have V854 : Arv Z h853 t kt .byte (16 : Int32) [(.int b0), (.int b1), (.int b2), (.int b3), (.int b4), (.int b5), (.int b6), (.int b7), (.int b8), (.int b9), (.int b10)] (.int (0 : Int32)) := Vt.ext E853
  obtain ⟨cl855, Ar855, qk855, sl855, nz855, ha855, fi855⟩ := id V854
  have al856 : cl855.slots.size.toInt32 = (16 : Int32) := len_of sl855 nz855
  refine Goes.step (T' := T853) (g' := (mkF m 21 #[.val (.ref t), .val (.int (0 : Int32)), .val (.int (11 : Int32)), .val (.int (11 : Int32)), .val (.ref b853)] [(.int (16 : Int32)), (.int (0 : Int32)), (.ref b853), (.int (0 : Int32)), (.ref t)])) (fun t_ k_ => X853.arraylength hx (by rw [e853]; exact Ar855.1) (State.isArrayOf_alike hZ.alike Ar855.2.1) (g := (mkF m 20 #[.val (.ref t), .val (.int (0 : Int32)), .val (.int (11 : Int32)), .val (.int (11 : Int32)), .val (.ref b853)] [(.ref t), (.int (0 : Int32)), (.ref b853), (.int (0 : Int32)), (.ref t)])) rfl rfl (hb hby d27_20) _ <| by rw [al856]; exact k_) ?_
  refine P1.iloadN X853.here hx (hb hby d27_21) rfl ?_
  refine P1.isub X853.here hx (hb hby d27_22) ?_
  have rw857 : ((16 : Int32) - (0 : Int32)) = (16 : Int32) := by decide
  rw [rw857]
  refine P1.iloadN X853.here hx (hb hby d27_23) rfl ?_
  have Z858 : n0 ≤ h853.size := Nat.le_trans Z0 E853.1
  have O859 : Old Z n0 h853 := O0.ext E853
  refine Goes.callS X853 hx (y := y9_) hown (mvT hZ (own_w hw 148 rfl)) (mvT hZ (own_w hw 149 rfl)) (mvT hZ (own_w hw 150 rfl)) (mvT hZ (own_w hw 151 rfl)) (by decide) (kc' := 0) (ks' := 0) (backOf (W := 4) (rmMin16_11 l Z a0 hw []  h853 n0 Z858 O859 ) hZ (own_w hw 151 rfl) (own_w hw 150 rfl) (ok rfl) (ok rfl)) (g := (mkF m 24 #[.val (.ref t), .val (.int (0 : Int32)), .val (.int (11 : Int32)), .val (.int (11 : Int32)), .val (.ref b853)] [(.int (11 : Int32)), (.int (16 : Int32)), (.int (0 : Int32)), (.ref b853), (.int (0 : Int32)), (.ref t)])) rfl (by rw [hml]; rfl) (argsL := [(.int (16 : Int32)), (.int (11 : Int32))]) (rest := [(.int (0 : Int32)), (.ref b853), (.int (0 : Int32)), (.ref t)]) (lenOf pd_934 rfl) rfl (by show 2 * 0 + _ ≤ _; exact Nat.le_of_eq rfl) (hb hby d27_24) rfl e853 (ok rfl) (ok rfl) ?_
  intro v860 T860 L860 q860 X860
  obtain ⟨rfl, N860q, hE860⟩ := q860
  have N860 := Fr.app N851 N860q
  show Goes p e below _ T860 (mkF m 27 #[.val (.ref t), .val (.int (0 : Int32)), .val (.int (11 : Int32)), .val (.int (11 : Int32)), .val (.ref b853)] [(.int (11 : Int32)), (.int (0 : Int32)), (.ref b853), (.int (0 : Int32)), (.ref t)])
  obtain ⟨T861, h861, L861, X861, e861, N861, K861, Va861, st861⟩ := cpA X860 hx hZ hown (own_w hw 152 rfl) (own_w hw 106 rfl) (own_w hw 104 rfl) (own_w hw 105 rfl) hE860 V854 V853 (us := [(.int b0), (.int b1), (.int b2), (.int b3), (.int b4), (.int b5), (.int b6), (.int b7), (.int b8), (.int b9), (.int b10)]) (Or.inl ⟨rfl, rfl⟩) (by decide) (by decide) (by decide) (ok rfl) (ok rfl) rfl (ok rfl) N860 ge_b853 (g := (mkF m 27 #[.val (.ref t), .val (.int (0 : Int32)), .val (.int (11 : Int32)), .val (.int (11 : Int32)), .val (.ref b853)] [(.int (11 : Int32)), (.int (0 : Int32)), (.ref b853), (.int (0 : Int32)), (.ref t)])) rfl (by rw [hml]; rfl) rfl (hb hby d27_27) (ok rfl) (W := 0) (by show 2 * 0 + _ ≤ _; exact Nat.le_of_eq rfl) (ok rfl)
  have V861 : Arv Z h861 b853 k853 .byte (11 : Int32) [(.int b0), (.int b1), (.int b2), (.int b3), (.int b4), (.int b5), (.int b6), (.int b7), (.int b8), (.int b9), (.int b10)] (.int (0 : Int32)) := Va861
  refine Goes.step (T' := T861) (g' := (mkF m 30 #[.val (.ref t), .val (.int (0 : Int32)), .val (.int (11 : Int32)), .val (.int (11 : Int32)), .val (.ref b853)] [])) st861 ?_
  refine P1.aload X861.here hx (hb hby d27_30) rfl rfl ?_
  refine Goes.retA X861 hx Bd.notSynchronized Bd.returns rfl rfl (hb hby d27_32) (ok rfl) (ok rfl) ?_
  rw [e861]
  have K862 : Keep h0 h853 [] := K0.ext E853
  have K863 : Keep h0 h861 [] := K862.trans K861 (allS (Or.inr sz_b853) all0)
  exact ⟨b853, k853, rfl, N861, K863, sz_b853, V861⟩
theorem efCr0_11_16_11 (t : Addr) (m : MethodId) : entryFrame m #[(.ref t), (.int (0 : Int32)), (.int (11 : Int32))] 3 = mkF m 0 #[.val (.ref t), .val (.int (0 : Int32)), .val (.int (11 : Int32))] [] := by first | (simp [entryFrame, mkF, argsToLocals, Value.category]; done) | rfl
def QCr0_11_16_11 (Z : State) (t : Addr) (kt : ClassId) (b0 b1 b2 b3 b4 b5 b6 b7 b8 b9 b10 : Int32) (h0 : Heap) (n0 : Nat) (v : Option Value) (h : Heap) (L : List Loc) : Prop := ∃ r kr, v = some (.ref r) ∧ Fr n0 L ∧ Keep h0 h [] ∧ h0.size ≤ r ∧ Arv Z h r kr .byte (11 : Int32) [(.int b0), (.int b1), (.int b2), (.int b3), (.int b4), (.int b5), (.int b6), (.int b7), (.int b8), (.int b9), (.int b10)] (.int (0 : Int32))
set_option maxRecDepth 65536 in
set_option maxHeartbeats 40000000 in
theorem rmCr0_11_16_11 (l : Launch) (Z : State) (a0 : Array Value) (hw : ∀ d ∈ tables_1, d.before a0 Z = true) (ws : List Jvm.Cond) (t : Addr) (kt : ClassId) (b0 b1 b2 b3 b4 b5 b6 b7 b8 b9 b10 : Int32) (h0 : Heap) (n0 : Nat) (Z0 : n0 ≤ h0.size) (O0 : Old Z n0 h0) (Vt : Arv Z h0 t kt .byte (16 : Int32) [(.int b0), (.int b1), (.int b2), (.int b3), (.int b4), (.int b5), (.int b6), (.int b7), (.int b8), (.int b9), (.int b10)] (.int (0 : Int32))) :
    OwnLaw l y23_ jdk_65_method_132_code 3 (some (.array .byte)) ws (rR 2 1 11 34) #[(.ref t), (.int (0 : Int32)), (.int (11 : Int32))] Z h0 (QCr0_11_16_11 Z t kt b0 b1 b2 b3 b4 b5 b6 b7 b8 b9 b10 h0 n0) := by
  refine own_enter (plainFor_of_name pn_java_util_Arrays) (efCr0_11_16_11 t) ?_
  intro p e s m below meth c s₁ Bd hx hby hml hZ hown X0 e0
  have N0 := Fr.nil n0
  have K0 : Keep h0 h0 [] := Keep.refl _ _
  refine P1.iloadN X0.here hx (hb hby d26_0) rfl ?_
  refine P1.ifNo X0.here hx (hb hby d26_1) ((if0 _ _).trans (teq (by decide : (0 : Int32) = (0 : Int32))).2) ?_
  refine P1.iloadN X0.here hx (hb hby d26_4) rfl ?_
  refine P1.aloadN X0.here hx (hb hby d26_5) rfl rfl ?_
  obtain ⟨cl864, Ar864, qk864, sl864, nz864, ha864, fi864⟩ := id Vt
  have al865 : cl864.slots.size.toInt32 = (16 : Int32) := len_of sl864 nz864
  refine Goes.step (T' := s₁) (g' := (mkF m 7 #[.val (.ref t), .val (.int (0 : Int32)), .val (.int (11 : Int32))] [(.int (16 : Int32)), (.int (11 : Int32))])) (fun t_ k_ => X0.arraylength hx (by rw [e0]; exact Ar864.1) (State.isArrayOf_alike hZ.alike Ar864.2.1) (g := (mkF m 6 #[.val (.ref t), .val (.int (0 : Int32)), .val (.int (11 : Int32))] [(.ref t), (.int (11 : Int32))])) rfl rfl (hb hby d26_6) _ <| by rw [al865]; exact k_) ?_
  refine P1.icmpNo X0.here hx (hb hby d26_7) (feq (by decide : ¬ ((11 : Int32) = (16 : Int32)))).1 ?_
  refine P1.aloadN X0.here hx (hb hby d26_10) rfl rfl ?_
  refine P1.iloadN X0.here hx (hb hby d26_11) rfl ?_
  refine P1.iloadN X0.here hx (hb hby d26_12) rfl ?_
  refine Goes.callS X0 hx (y := y24_) hown (mvT hZ (own_w hw 142 rfl)) (mvT hZ (own_w hw 143 rfl)) (mvT hZ (own_w hw 140 rfl)) (mvT hZ (own_w hw 144 rfl)) (by decide) (kc' := 1) (ks' := 11) (backOf (W := 0) (rmCb0_11_16_11 l Z a0 hw [] t kt b0 b1 b2 b3 b4 b5 b6 b7 b8 b9 b10 h0 n0 Z0 O0 Vt) hZ (own_w hw 144 rfl) (own_w hw 140 rfl) (ok rfl) (ok rfl)) (g := (mkF m 13 #[.val (.ref t), .val (.int (0 : Int32)), .val (.int (11 : Int32))] [(.int (11 : Int32)), (.int (0 : Int32)), (.ref t)])) rfl (by rw [hml]; rfl) (argsL := [(.ref t), (.int (0 : Int32)), (.int (11 : Int32))]) (rest := []) (lenOf pd_2488 rfl) rfl (by show 2 * 0 + _ ≤ _; exact Nat.le_of_eq rfl) (hb hby d26_13) rfl e0 (ok rfl) (ok rfl) ?_
  intro v866 T866 L866 q866 X866
  obtain ⟨r866, kr866, rfl, N866q, K866, szr866, g866V⟩ := q866
  have ge_r866 : n0 ≤ r866 := Nat.le_trans Z0 szr866
  have sz_r866 : h0.size ≤ r866 := Nat.le_trans K0.1 szr866
  have N866 := Fr.app N0 N866q
  show Goes p e below _ T866 (mkF m 16 #[.val (.ref t), .val (.int (0 : Int32)), .val (.int (11 : Int32))] [(.ref r866)])
  refine Goes.retA X866 hx Bd.notSynchronized Bd.returns rfl rfl (hb hby d26_16) (ok rfl) (ok rfl) ?_
  have K867 : Keep h0 T866.heap [] := K0.trans K866 all0
  exact ⟨r866, kr866, rfl, N866, K867, sz_r866, g866V⟩
theorem efT3_11 (y x : Addr) (m : MethodId) : entryFrame m #[(.ref y), (.ref x), .null] 5 = mkF m 0 #[.val (.ref y), .val (.ref x), .val .null, .unset, .unset] [] := by first | (simp [entryFrame, mkF, argsToLocals, Value.category]; done) | rfl
def QT3_11 (Z : State) (y x t : Addr) (kt : ClassId) (b0 b1 b2 b3 b4 b5 b6 b7 b8 b9 b10 zc : Int32) (fm : Value) (h0 : Heap) (n0 : Nat) (v : Option Value) (h : Heap) (L : List Loc) : Prop := ∃ r kr, v = none ∧ Fr n0 L ∧ Keep h0 h [y] ∧ h0.size ≤ r ∧ Exa Z h y "java/lang/String" ∧ Fld Z h y "java/lang/String" "value" "[B" (.ref r) ∧ Fld Z h y "java/lang/String" "coder" "B" (.int (0 : Int32)) ∧ Arv Z h r kr .byte (11 : Int32) [(.int b0), (.int b1), (.int b2), (.int b3), (.int b4), (.int b5), (.int b6), (.int b7), (.int b8), (.int b9), (.int b10)] (.int (0 : Int32))
set_option maxRecDepth 65536 in
set_option maxHeartbeats 40000000 in
theorem rmT3_11 (l : Launch) (Z : State) (a0 : Array Value) (hw : ∀ d ∈ tables_1, d.before a0 Z = true) (ws : List Jvm.Cond) (y x t : Addr) (kt : ClassId) (b0 b1 b2 b3 b4 b5 b6 b7 b8 b9 b10 zc : Int32) (fm : Value) (h0 : Heap) (n0 : Nat) (Z0 : n0 ≤ h0.size) (O0 : Old Z n0 h0) (S_CS : Sta Z Z.heap "java/lang/String" "COMPACT_STRINGS" "Z" (.int zc)) (hzc : ¬ zc = 0) (S_FM : Sta Z Z.heap "jdk/internal/util/Preconditions" "SIOOBE_FORMATTER" "Ljava/util/function/BiFunction;" fm) (hfm : fm.isRef = true) (gy : n0 ≤ y) (Ey : Exa Z h0 y "java/lang/String") (Vy : Fld Z h0 y "java/lang/String" "value" "[B" .null) (Cy : Fld Z h0 y "java/lang/String" "coder" "B" (.int (0 : Int32))) (gx : n0 ≤ x) (gt : n0 ≤ t) (Ex : Exa Z h0 x "java/lang/StringBuilder") (Fv : Fld Z h0 x "java/lang/AbstractStringBuilder" "value" "[B" (.ref t)) (Fc : Fld Z h0 x "java/lang/AbstractStringBuilder" "coder" "B" (.int (0 : Int32))) (Fn : Fld Z h0 x "java/lang/AbstractStringBuilder" "count" "I" (.int (11 : Int32))) (Vt : Arv Z h0 t kt .byte (16 : Int32) [(.int b0), (.int b1), (.int b2), (.int b3), (.int b4), (.int b5), (.int b6), (.int b7), (.int b8), (.int b9), (.int b10)] (.int (0 : Int32))) :
    OwnLaw l y10_ jdk_42_method_150_code 5 none ws (rR 3 1 11 49) #[(.ref y), (.ref x), .null] Z h0 (QT3_11 Z y x t kt b0 b1 b2 b3 b4 b5 b6 b7 b8 b9 b10 zc fm h0 n0) := by
  refine own_enter (plainFor_of_name pn_java_lang_String) (efT3_11 y x) ?_
  intro p e s m below meth c s₁ Bd hx hby hml hZ hown X0 e0
  have hnm := (name_of_methodNamed Bd.named Bd.method).1
  have N0 := Fr.nil n0
  have K0 : Keep h0 h0 [] := Keep.refl _ _
  have K0 : Keep h0 h0 [y] := Keep.refl _ _
  refine P1.aloadN X0.here hx (hb hby d21_0) rfl rfl ?_
  obtain ⟨T868, X868, e868, st868⟩ := initO X0 hx hZ hown (own_w hw 11 rfl) (own_w hw 12 rfl) (own_w hw 13 rfl) e0 (g := (mkF m 1 #[.val (.ref y), .val (.ref x), .val .null, .unset, .unset] [(.ref y)])) rfl (by rw [hml]; rfl) rfl (hb hby d21_1) (by decide) (W := 0) (by show 2 * 0 + _ ≤ _; exact Nat.le_of_eq rfl) (by decide)
  refine Goes.step (T' := T868) (g' := (mkF m 4 #[.val (.ref y), .val (.ref x), .val .null, .unset, .unset] [])) st868 ?_
  refine P1.aloadN X868.here hx (hb hby d21_4) rfl rfl ?_
  refine Goes.callV X868 hx hZ (y := y4_) (z := y4_) hown (mvT hZ (own_w hw 120 rfl)) (mvT hZ (own_w hw 121 rfl)) (notFace_of_selects (args := #[]) (mvT hZ (own_w hw 123 rfl))) (mvT hZ (own_w hw 123 rfl)) (mvT hZ (own_w hw 122 rfl)) (by decide) (kc' := 0) (ks' := 0) (backOf (W := 0) (rmGv l Z a0 hw [] x t h0 n0 Z0 O0 Fv) hZ (own_w hw 124 rfl) (own_w hw 49 rfl) (ok rfl) (ok rfl)) (b := x) e868 Ex (g := (mkF m 5 #[.val (.ref y), .val (.ref x), .val .null, .unset, .unset] [(.ref x)])) rfl (by rw [hml]; rfl) (argsL := []) (rest := []) (lenOf pd_659 rfl) rfl (by show 2 * 0 + _ ≤ _; exact Nat.le_of_eq rfl) (hb hby d21_5) rfl (ok rfl) (ok rfl) ?_
  intro v869 T869 L869 q869 X869
  obtain ⟨rfl, N869q, hE869⟩ := q869
  have N869 := Fr.app N0 N869q
  show Goes p e below _ T869 (mkF m 8 #[.val (.ref y), .val (.ref x), .val .null, .unset, .unset] [(.ref t)])
  refine P1.astoreN X869.here hx #[.val (.ref y), .val (.ref x), .val .null, .val (.ref t), .unset] (hb hby d21_8) rfl rfl ?_
  refine P1.aloadN X869.here hx (hb hby d21_9) rfl rfl ?_
  refine Goes.callV X869 hx hZ (y := y7_) (z := y20_) hown (mvT hZ (own_w hw 125 rfl)) (mvT hZ (own_w hw 126 rfl)) (own_notFace (a0 := #[]) (mvT hZ (own_w hw 85 rfl)) rfl) (mvT hZ (own_w hw 128 rfl)) (mvT hZ (own_w hw 129 rfl)) (by decide) (kc' := 0) (ks' := 0) (backOf (W := 0) (rmSl l Z a0 hw [] x (11 : Int32) h0 n0 Z0 O0 Ex Fn) hZ (own_w hw 130 rfl) (own_w hw 41 rfl) (ok rfl) (ok rfl)) (b := x) hE869 Ex (g := (mkF m 10 #[.val (.ref y), .val (.ref x), .val .null, .val (.ref t), .unset] [(.ref x)])) rfl (by rw [hml]; rfl) (argsL := []) (rest := []) (lenOf pd_341 rfl) rfl (by show 2 * 0 + _ ≤ _; exact Nat.le_of_eq rfl) (hb hby d21_10) rfl (ok rfl) (ok rfl) ?_
  intro v870 T870 L870 q870 X870
  obtain ⟨rfl, N870q, hE870⟩ := q870
  have N870 := Fr.app N869 N870q
  show Goes p e below _ T870 (mkF m 13 #[.val (.ref y), .val (.ref x), .val .null, .val (.ref t), .unset] [(.int (11 : Int32))])
  refine P1.istore X870.here hx #[.val (.ref y), .val (.ref x), .val .null, .val (.ref t), .val (.int (11 : Int32))] (hb hby d21_13) rfl ?_
  refine P1.aloadN X870.here hx (hb hby d21_15) rfl rfl ?_
  refine Goes.callV X870 hx hZ (y := y6_) (z := y6_) hown (mvT hZ (own_w hw 133 rfl)) (mvT hZ (own_w hw 134 rfl)) (notFace_of_selects (args := #[]) (mvT hZ (own_w hw 136 rfl))) (mvT hZ (own_w hw 136 rfl)) (mvT hZ (own_w hw 135 rfl)) (by decide) (kc' := 0) (ks' := 0) (backOf (W := 0) (rmIl l Z a0 hw [] x zc fm h0 n0 Z0 O0 S_CS hzc S_FM hfm Fc) hZ (own_w hw 137 rfl) (own_w hw 49 rfl) (ok rfl) (ok rfl)) (b := x) hE870 Ex (g := (mkF m 16 #[.val (.ref y), .val (.ref x), .val .null, .val (.ref t), .val (.int (11 : Int32))] [(.ref x)])) rfl (by rw [hml]; rfl) (argsL := []) (rest := []) (lenOf pd_392 rfl) rfl (by show 2 * 0 + _ ≤ _; exact Nat.le_of_eq rfl) (hb hby d21_16) rfl (ok rfl) (ok rfl) ?_
  intro v871 T871 L871 q871 X871
  obtain ⟨rfl, N871q, hE871⟩ := q871
  have N871 := Fr.app N870 N871q
  show Goes p e below _ T871 (mkF m 19 #[.val (.ref y), .val (.ref x), .val .null, .val (.ref t), .val (.int (11 : Int32))] [(.int (1 : Int32))])
  refine P1.ifNo X871.here hx (hb hby d21_19) ((if0 _ _).trans (feq (by decide : ¬ ((1 : Int32) = (0 : Int32)))).1) ?_
  refine P1.aloadN X871.here hx (hb hby d21_22) rfl rfl ?_
  refine P1.iconst X871.here hx (0 : Int32) (hb hby d21_23) rfl ?_
  obtain ⟨T872, h872, X872, e872, W872, st872⟩ := putFN X871 hx hZ hown (own_w hw 26 rfl) Via.refl hE871 Cy Ey (Or.inr ⟨(own_w hw 27 rfl), rfl, hnm⟩) (own_w hw 1 rfl) (ty := .byte) (v' := (.int (0 : Int32))) (by decide) rfl (by decide) (g := (mkF m 24 #[.val (.ref y), .val (.ref x), .val .null, .val (.ref t), .val (.int (11 : Int32))] [(.int (0 : Int32)), (.ref y)])) rfl rfl (hb hby d21_24)
  have Fw872 : Fld Z h872 y "java/lang/String" "coder" "B" (.int (0 : Int32)) := Cy.same W872
  have N872 := Fr.snoc X872 N871 gy
  refine Goes.step (T' := T872) (g' := (mkF m 27 #[.val (.ref y), .val (.ref x), .val .null, .val (.ref t), .val (.int (11 : Int32))] [])) st872 ?_
  refine P1.aloadN X872.here hx (hb hby d21_27) rfl rfl ?_
  refine P1.aloadN X872.here hx (hb hby d21_28) rfl rfl ?_
  refine P1.iconst X872.here hx (0 : Int32) (hb hby d21_29) rfl ?_
  refine P1.iload X872.here hx (hb hby d21_30) rfl ?_
  have K873 : Keep h0 h872 [y] := K0.wr W872 (Or.inl (by simp))
  have Z874 : n0 ≤ h872.size := Nat.le_trans Z0 (Keep.of_wr W872).1
  have ne875 : y ≠ t := own_ne_arv Ey (own_w hw 1 rfl) Vt
  have V876 : Arv Z h872 t kt .byte (16 : Int32) [(.int b0), (.int b1), (.int b2), (.int b3), (.int b4), (.int b5), (.int b6), (.int b7), (.int b8), (.int b9), (.int b10)] (.int (0 : Int32)) := Vt.other W872 (Ne.symm ne875)
  have O877 : Old Z n0 h872 := O0.wr W872 gy
  refine Goes.callS X872 hx (y := y23_) hown (mvT hZ (own_w hw 138 rfl)) (mvT hZ (own_w hw 139 rfl)) (mvT hZ (own_w hw 140 rfl)) (mvT hZ (own_w hw 141 rfl)) (by decide) (kc' := 1) (ks' := 11) (backOf (W := 1) (rmCr0_11_16_11 l Z a0 hw [] t kt b0 b1 b2 b3 b4 b5 b6 b7 b8 b9 b10 h872 n0 Z874 O877 V876) hZ (own_w hw 141 rfl) (own_w hw 140 rfl) (ok rfl) (ok rfl)) (g := (mkF m 32 #[.val (.ref y), .val (.ref x), .val .null, .val (.ref t), .val (.int (11 : Int32))] [(.int (11 : Int32)), (.int (0 : Int32)), (.ref t), (.ref y)])) rfl (by rw [hml]; rfl) (argsL := [(.ref t), (.int (0 : Int32)), (.int (11 : Int32))]) (rest := [(.ref y)]) (lenOf pd_2488 rfl) rfl (by show 2 * 0 + _ ≤ _; exact Nat.le_of_eq rfl) (hb hby d21_32) rfl e872 (ok rfl) (ok rfl) ?_
  intro v878 T878 L878 q878 X878
  obtain ⟨r878, kr878, rfl, N878q, K878, szr878, g878V⟩ := q878
  have ge_r878 : n0 ≤ r878 := Nat.le_trans Z874 szr878
  have sz_r878 : h0.size ≤ r878 := Nat.le_trans K873.1 szr878
  have N878 := Fr.app N872 N878q
  show Goes p e below _ T878 (mkF m 35 #[.val (.ref y), .val (.ref x), .val .null, .val (.ref t), .val (.int (11 : Int32))] [(.ref r878), (.ref y)])
  have F879 : Fld Z h872 y "java/lang/String" "value" "[B" .null := Vy.other W872 (Or.inr (slot_ne (Or.inr (own_w hw 29 rfl)) (Or.inr (own_w hw 27 rfl)) (by decide) (t := (.array .byte)) (t' := .byte) (by decide) (by decide)))
  have F880 : Fld Z T878.heap y "java/lang/String" "value" "[B" .null := F879.keep K878 nin0
  have E881 : Exa Z h872 y "java/lang/String" := Ey.wr W872
  have E882 : Exa Z T878.heap y "java/lang/String" := E881.keep K878
  obtain ⟨T883, h883, X883, e883, W883, st883⟩ := putF X878 hx hZ hown (host := "") (Or.inl (own_w hw 28 rfl)) Via.refl rfl F880 E882 (Or.inr ⟨(own_w hw 29 rfl), rfl, hnm⟩) (own_w hw 1 rfl) (ty := (.array .byte)) (by decide) rfl rfl (g := (mkF m 35 #[.val (.ref y), .val (.ref x), .val .null, .val (.ref t), .val (.int (11 : Int32))] [(.ref r878), (.ref y)])) rfl rfl (hb hby d21_35)
  have Fw883 : Fld Z h883 y "java/lang/String" "value" "[B" (.ref r878) := F880.same W883
  have N883 := Fr.snoc X883 N878 gy
  refine Goes.step (T' := T883) (g' := (mkF m 38 #[.val (.ref y), .val (.ref x), .val .null, .val (.ref t), .val (.int (11 : Int32))] [])) st883 ?_
  refine P1.goto X883.here hx 97 (hb hby d21_38) (by decide) (by decide) ?_
  refine Goes.retV X883 hx Bd.notSynchronized Bd.returns (hb hby d21_97) (ok rfl) (ok rfl) ?_
  rw [e883]
  have E884 : Exa Z h883 y "java/lang/String" := E882.wr W883
  have F885 : Fld Z T878.heap y "java/lang/String" "coder" "B" (.int (0 : Int32)) := Fw872.keep K878 nin0
  have F886 : Fld Z h883 y "java/lang/String" "coder" "B" (.int (0 : Int32)) := F885.other W883 (Or.inr (slot_ne (Or.inr (own_w hw 27 rfl)) (Or.inr (own_w hw 29 rfl)) (by decide) (t := .byte) (t' := (.array .byte)) (by decide) (by decide)))
  have ne887 : y ≠ r878 := Nat.ne_of_lt (Nat.lt_of_lt_of_le E881.lt szr878)
  have V888 : Arv Z h883 r878 kr878 .byte (11 : Int32) [(.int b0), (.int b1), (.int b2), (.int b3), (.int b4), (.int b5), (.int b6), (.int b7), (.int b8), (.int b9), (.int b10)] (.int (0 : Int32)) := g878V.other W883 (Ne.symm ne887)
  have K889 : Keep h0 T878.heap [y] := K873.trans K878 all0
  have K890 : Keep h0 h883 [y] := K889.wr W883 (Or.inl (by simp))
  exact ⟨r878, kr878, rfl, N883, K890, sz_r878, E884, Fw883, F886, V888⟩
theorem efT2_11 (y x : Addr) (m : MethodId) : entryFrame m #[(.ref y), (.ref x)] 2 = mkF m 0 #[.val (.ref y), .val (.ref x)] [] := by first | (simp [entryFrame, mkF, argsToLocals, Value.category]; done) | rfl
def QT2_11 (Z : State) (y x t : Addr) (kt : ClassId) (b0 b1 b2 b3 b4 b5 b6 b7 b8 b9 b10 zc : Int32) (fm : Value) (h0 : Heap) (n0 : Nat) (v : Option Value) (h : Heap) (L : List Loc) : Prop := ∃ r kr, v = none ∧ Fr n0 L ∧ Keep h0 h [y] ∧ h0.size ≤ r ∧ Exa Z h y "java/lang/String" ∧ Fld Z h y "java/lang/String" "value" "[B" (.ref r) ∧ Fld Z h y "java/lang/String" "coder" "B" (.int (0 : Int32)) ∧ Arv Z h r kr .byte (11 : Int32) [(.int b0), (.int b1), (.int b2), (.int b3), (.int b4), (.int b5), (.int b6), (.int b7), (.int b8), (.int b9), (.int b10)] (.int (0 : Int32))
set_option maxRecDepth 65536 in
set_option maxHeartbeats 40000000 in
theorem rmT2_11 (l : Launch) (Z : State) (a0 : Array Value) (hw : ∀ d ∈ tables_1, d.before a0 Z = true) (ws : List Jvm.Cond) (y x t : Addr) (kt : ClassId) (b0 b1 b2 b3 b4 b5 b6 b7 b8 b9 b10 zc : Int32) (fm : Value) (h0 : Heap) (n0 : Nat) (Z0 : n0 ≤ h0.size) (O0 : Old Z n0 h0) (S_CS : Sta Z Z.heap "java/lang/String" "COMPACT_STRINGS" "Z" (.int zc)) (hzc : ¬ zc = 0) (S_FM : Sta Z Z.heap "jdk/internal/util/Preconditions" "SIOOBE_FORMATTER" "Ljava/util/function/BiFunction;" fm) (hfm : fm.isRef = true) (gy : n0 ≤ y) (Ey : Exa Z h0 y "java/lang/String") (Vy : Fld Z h0 y "java/lang/String" "value" "[B" .null) (Cy : Fld Z h0 y "java/lang/String" "coder" "B" (.int (0 : Int32))) (gx : n0 ≤ x) (gt : n0 ≤ t) (Ex : Exa Z h0 x "java/lang/StringBuilder") (Fv : Fld Z h0 x "java/lang/AbstractStringBuilder" "value" "[B" (.ref t)) (Fc : Fld Z h0 x "java/lang/AbstractStringBuilder" "coder" "B" (.int (0 : Int32))) (Fn : Fld Z h0 x "java/lang/AbstractStringBuilder" "count" "I" (.int (11 : Int32))) (Vt : Arv Z h0 t kt .byte (16 : Int32) [(.int b0), (.int b1), (.int b2), (.int b3), (.int b4), (.int b5), (.int b6), (.int b7), (.int b8), (.int b9), (.int b10)] (.int (0 : Int32))) :
    OwnLaw l y11_ jdk_42_method_53_code 2 none ws (rR 4 1 11 65) #[(.ref y), (.ref x)] Z h0 (QT2_11 Z y x t kt b0 b1 b2 b3 b4 b5 b6 b7 b8 b9 b10 zc fm h0 n0) := by
  refine own_enter (plainFor_of_name pn_java_lang_String) (efT2_11 y x) ?_
  intro p e s m below meth c s₁ Bd hx hby hml hZ hown X0 e0
  have N0 := Fr.nil n0
  have K0 : Keep h0 h0 [] := Keep.refl _ _
  have K0 : Keep h0 h0 [y] := Keep.refl _ _
  refine P1.aloadN X0.here hx (hb hby d20_0) rfl rfl ?_
  refine P1.aloadN X0.here hx (hb hby d20_1) rfl rfl ?_
  refine P1.aconstNull X0.here hx (hb hby d20_2) ?_
  refine Goes.callC X0 hx (y := y10_) rfl hown (mvT hZ (own_w hw 117 rfl)) (mvT hZ (own_w hw 118 rfl)) (mvT hZ (own_w hw 119 rfl)) (by decide) (kc' := 1) (ks' := 11) (backOf (W := 0) (rmT3_11 l Z a0 hw [] y x t kt b0 b1 b2 b3 b4 b5 b6 b7 b8 b9 b10 zc fm h0 n0 Z0 O0 S_CS hzc S_FM hfm gy Ey Vy Cy gx gt Ex Fv Fc Fn Vt) hZ (own_w hw 119 rfl) (own_w hw 2 rfl) (ok rfl) (ok rfl)) (g := (mkF m 3 #[.val (.ref y), .val (.ref x)] [.null, (.ref x), (.ref y)])) (a := y) rfl (by rw [hml]; rfl) (argsL := [(.ref x), .null]) (rest := []) (lenOf pd_127641 rfl) rfl (by show 2 * 0 + _ ≤ _; exact Nat.le_of_eq rfl) (hb hby d20_3) rfl e0 (ok rfl) (ok rfl) ?_
  intro v891 T891 L891 q891 X891
  obtain ⟨r891, kr891, rfl, N891q, K891, szr891, g891E, g891v, g891c, g891V⟩ := q891
  have ge_r891 : n0 ≤ r891 := Nat.le_trans Z0 szr891
  have sz_r891 : h0.size ≤ r891 := Nat.le_trans K0.1 szr891
  have N891 := Fr.app N0 N891q
  show Goes p e below _ T891 (mkF m 6 #[.val (.ref y), .val (.ref x)] [])
  refine Goes.retV X891 hx Bd.notSynchronized Bd.returns (hb hby d20_6) (ok rfl) (ok rfl) ?_
  have K892 : Keep h0 T891.heap [y] := K0.trans K891 (allS (Or.inl (by simp)) all0)
  exact ⟨r891, kr891, rfl, N891, K892, sz_r891, g891E, g891v, g891c, g891V⟩
theorem efTs11 (x : Addr) (m : MethodId) : entryFrame m #[(.ref x)] 1 = mkF m 0 #[.val (.ref x)] [] := by first | (simp [entryFrame, mkF, argsToLocals, Value.category]; done) | rfl
def QTs11 (Z : State) (x t : Addr) (kt : ClassId) (b0 b1 b2 b3 b4 b5 b6 b7 b8 b9 b10 zc : Int32) (fm : Value) (h0 : Heap) (n0 : Nat) (v : Option Value) (h : Heap) (L : List Loc) : Prop := ∃ y r kr, v = some (.ref y) ∧ Fr n0 L ∧ Keep h0 h [] ∧ Exa Z h y "java/lang/String" ∧ Fld Z h y "java/lang/String" "value" "[B" (.ref r) ∧ Fld Z h y "java/lang/String" "coder" "B" (.int (0 : Int32)) ∧ Arv Z h r kr .byte (11 : Int32) [(.int b0), (.int b1), (.int b2), (.int b3), (.int b4), (.int b5), (.int b6), (.int b7), (.int b8), (.int b9), (.int b10)] (.int (0 : Int32))
set_option maxRecDepth 65536 in
set_option maxHeartbeats 40000000 in
theorem rmTs11 (l : Launch) (Z : State) (a0 : Array Value) (hw : ∀ d ∈ tables_1, d.before a0 Z = true) (ws : List Jvm.Cond) (x t : Addr) (kt : ClassId) (b0 b1 b2 b3 b4 b5 b6 b7 b8 b9 b10 zc : Int32) (fm : Value) (h0 : Heap) (n0 : Nat) (Z0 : n0 ≤ h0.size) (O0 : Old Z n0 h0) (S_CS : Sta Z Z.heap "java/lang/String" "COMPACT_STRINGS" "Z" (.int zc)) (hzc : ¬ zc = 0) (S_FM : Sta Z Z.heap "jdk/internal/util/Preconditions" "SIOOBE_FORMATTER" "Ljava/util/function/BiFunction;" fm) (hfm : fm.isRef = true) (gx : n0 ≤ x) (gt : n0 ≤ t) (Ex : Exa Z h0 x "java/lang/StringBuilder") (Fv : Fld Z h0 x "java/lang/AbstractStringBuilder" "value" "[B" (.ref t)) (Fc : Fld Z h0 x "java/lang/AbstractStringBuilder" "coder" "B" (.int (0 : Int32))) (Fn : Fld Z h0 x "java/lang/AbstractStringBuilder" "count" "I" (.int (11 : Int32))) (Vt : Arv Z h0 t kt .byte (16 : Int32) [(.int b0), (.int b1), (.int b2), (.int b3), (.int b4), (.int b5), (.int b6), (.int b7), (.int b8), (.int b9), (.int b10)] (.int (0 : Int32))) :
    OwnLaw l y21_ jdk_67_method_42_code 1 (some (.object "java/lang/String")) ws (rR 5 2 15 79) #[(.ref x)] Z h0 (QTs11 Z x t kt b0 b1 b2 b3 b4 b5 b6 b7 b8 b9 b10 zc fm h0 n0) := by
  refine own_enter (plainFor_of_name pn_java_lang_StringBuilder) (efTs11 x) ?_
  intro p e s m below meth c s₁ Bd hx hby hml hZ hown X0 e0
  have N0 := Fr.nil n0
  have K0 : Keep h0 h0 [] := Keep.refl _ _
  obtain ⟨T893, h893, X893, e893, E893, A893, D893, -, st893⟩ := newO X0 hx hZ hown (own_w hw 113 rfl) (own_w hw 1 rfl) (own_w hw 2 rfl) e0 (g := (mkF m 0 #[.val (.ref x)] [])) rfl (hb hby d19_0) (ok rfl) (ok rfl)
  obtain ⟨b893, g893⟩ : ∃ z, z = h0.size := ⟨_, rfl⟩
  rw [← g893] at A893 D893 st893
  have ge_b893 : n0 ≤ b893 := Nat.le_trans Z0 (Nat.le_of_eq g893.symm)
  have sz_b893 : h0.size ≤ b893 := Nat.le_trans K0.1 (Nat.le_of_eq g893.symm)
  have F893_coder : Fld Z h893 b893 "java/lang/String" "coder" "B" (.int (0 : Int32)) := D893 (Or.inr (own_w hw 27 rfl)) (ty := .byte) (by decide)
  have F893_value : Fld Z h893 b893 "java/lang/String" "value" "[B" .null := D893 (Or.inr (own_w hw 29 rfl)) (ty := (.array .byte)) (by decide)
  refine Goes.step (T' := T893) (g' := (mkF m 3 #[.val (.ref x)] [(.ref b893)])) st893 ?_
  refine P1.dup X893.here hx (hb hby d19_3) rfl ?_
  refine P1.aloadN X893.here hx (hb hby d19_4) rfl rfl ?_
  have E894 : Exa Z h893 x "java/lang/StringBuilder" := Ex.ext E893
  have F895 : Fld Z h893 x "java/lang/AbstractStringBuilder" "value" "[B" (.ref t) := Fv.ext E893
  have F896 : Fld Z h893 x "java/lang/AbstractStringBuilder" "coder" "B" (.int (0 : Int32)) := Fc.ext E893
  have F897 : Fld Z h893 x "java/lang/AbstractStringBuilder" "count" "I" (.int (11 : Int32)) := Fn.ext E893
  have V898 : Arv Z h893 t kt .byte (16 : Int32) [(.int b0), (.int b1), (.int b2), (.int b3), (.int b4), (.int b5), (.int b6), (.int b7), (.int b8), (.int b9), (.int b10)] (.int (0 : Int32)) := Vt.ext E893
  have K899 : Keep h0 h893 [] := K0.ext E893
  have Z900 : n0 ≤ h893.size := Nat.le_trans Z0 E893.1
  have O901 : Old Z n0 h893 := O0.ext E893
  refine Goes.callC X893 hx (y := y11_) rfl hown (mvT hZ (own_w hw 114 rfl)) (mvT hZ (own_w hw 115 rfl)) (mvT hZ (own_w hw 116 rfl)) (by decide) (kc' := 1) (ks' := 11) (backOf (W := 1) (rmT2_11 l Z a0 hw [] b893 x t kt b0 b1 b2 b3 b4 b5 b6 b7 b8 b9 b10 zc fm h893 n0 Z900 O901 S_CS hzc S_FM hfm ge_b893 A893 F893_value F893_coder gx gt E894 F895 F896 F897 V898) hZ (own_w hw 116 rfl) (own_w hw 2 rfl) (ok rfl) (ok rfl)) (g := (mkF m 5 #[.val (.ref x)] [(.ref x), (.ref b893), (.ref b893)])) (a := b893) rfl (by rw [hml]; rfl) (argsL := [(.ref x)]) (rest := [(.ref b893)]) (lenOf pd_37548 rfl) rfl (by show 2 * 0 + _ ≤ _; exact Nat.le_of_eq rfl) (hb hby d19_5) rfl e893 (ok rfl) (ok rfl) ?_
  intro v902 T902 L902 q902 X902
  obtain ⟨r902, kr902, rfl, N902q, K902, szr902, g902E, g902v, g902c, g902V⟩ := q902
  have ge_r902 : n0 ≤ r902 := Nat.le_trans Z900 szr902
  have sz_r902 : h0.size ≤ r902 := Nat.le_trans K899.1 szr902
  have N902 := Fr.app N0 N902q
  show Goes p e below _ T902 (mkF m 8 #[.val (.ref x)] [(.ref b893)])
  refine Goes.retA X902 hx Bd.notSynchronized Bd.returns rfl rfl (hb hby d19_8) (ok rfl) (ok rfl) ?_
  have K903 : Keep h0 T902.heap [] := K899.trans K902 (allS (Or.inr sz_b893) all0)
  exact ⟨b893, r902, kr902, rfl, N902, K903, g902E, g902v, g902c, g902V⟩
theorem efLk4 (y : Addr) (m : MethodId) : entryFrame m #[(.ref y)] 1 = mkF m 0 #[.val (.ref y)] [] := by first | (simp [entryFrame, mkF, argsToLocals, Value.category]; done) | rfl
def QLk4 (Z : State) (y ty : Addr) (ky : ClassId) (c0 c1 c2 c3 zc : Int32) (fm : Value) (h0 : Heap) (n0 : Nat) (v : Option Value) (h : Heap) (L : List Loc) : Prop := ∃ x r kr, v = some (.ref x) ∧ Fr n0 L ∧ Keep h0 h [] ∧ Exa Z h x "java/lang/String" ∧ Fld Z h x "java/lang/String" "value" "[B" (.ref r) ∧ Fld Z h x "java/lang/String" "coder" "B" (.int (0 : Int32)) ∧ Arv Z h r kr .byte (11 : Int32) [(.int (109 : Int32)), (.int (117 : Int32)), (.int (116 : Int32)), (.int (120 : Int32)), (.int (58 : Int32)), (.int (123 : Int32)), (.int (c0).toInt8.toInt32), (.int (c1).toInt8.toInt32), (.int (c2).toInt8.toInt32), (.int (c3).toInt8.toInt32), (.int (125 : Int32))] (.int (0 : Int32))
set_option maxRecDepth 65536 in
set_option maxHeartbeats 40000000 in
theorem rmLk4 (l : Launch) (Z : State) (a0 : Array Value) (hw : ∀ d ∈ tables_1, d.before a0 Z = true) (ws : List Jvm.Cond) (y ty : Addr) (ky : ClassId) (c0 c1 c2 c3 zc : Int32) (fm : Value) (h0 : Heap) (n0 : Nat) (Z0 : n0 ≤ h0.size) (O0 : Old Z n0 h0) (S_CS : Sta Z Z.heap "java/lang/String" "COMPACT_STRINGS" "Z" (.int zc)) (hzc : ¬ zc = 0) (S_FM : Sta Z Z.heap "jdk/internal/util/Preconditions" "SIOOBE_FORMATTER" "Ljava/util/function/BiFunction;" fm) (hfm : fm.isRef = true) (Ey : Exa Z h0 y "java/lang/String") (Vy : Fld Z h0 y "java/lang/String" "value" "[B" (.ref ty)) (Cy : Fld Z h0 y "java/lang/String" "coder" "B" (.int (0 : Int32))) (Ky : Arv Z h0 ty ky .byte (4 : Int32) [(.int (c0).toInt8.toInt32), (.int (c1).toInt8.toInt32), (.int (c2).toInt8.toInt32), (.int (c3).toInt8.toInt32)] (.int (0 : Int32))) (hy : ∀ c ∈ ([c0, c1, c2, c3] : List Int32), ¬ c < 0 ∧ ¬ (255 : Int32) < c) :
    OwnLawW l y0_ prog_10_method_2_code 1 (some (.object "java/lang/String")) ws (rR 6 8 71 91) #[(.ref y)] Z EL1 h0 (QLk4 Z y ty ky c0 c1 c2 c3 zc fm h0 n0) := by
  refine own_enterW (plainFor_of_name pn_com_example_mutx_mutx_redis_RedisNames) (efLk4 y) ?_
  intro p e s m below meth c s₁ Bd hx hby hml hZ hown X0 e0 hh hS0 CR0
  have N0 := Fr.nil n0
  have hEL : EW Z a0 EL1 := own_EL hw
  have ks0 : h0.size ≤ h0.size := Nat.le_refl _
  have K0 : Keep h0 h0 [] := Keep.refl _ _
  refine P1.aloadN X0.here hx (hb hby d7_0) rfl rfl ?_
  refine P1.ifnullNo X0.here hx (hb hby d7_1) ?_
  refine P1.aloadN X0.here hx (hb hby d7_4) rfl rfl ?_
  refine Goes.callV X0 hx hZ (y := y16_) (z := y16_) (Qc := fun v h' L => (v = some (.int (if ([c0, c1, c2, c3] : List Int32).length = 0 then 1 else 0)) ∧ L = [] ∧ h' = h0)) hown (mvT hZ (own_w hw 34 rfl)) (mvT hZ (own_w hw 35 rfl)) (notFace_of_selects (args := #[]) (mvT hZ (own_w hw 37 rfl))) (mvT hZ (own_w hw 37 rfl)) (mvT hZ (own_w hw 36 rfl)) (by decide) (kc' := 0) (ks' := 0) (StrChars.Road.empW (W := 0) hZ (fun d hd => hw d (in_wordsEmp d hd)) (kI := 4) (own_w hw 1 rfl) Ey Vy Cy Ky (StrChars.Road.codOf (cs := ([c0, c1, c2, c3] : List Int32)) (n := 4) rfl (fun c hc => (hy c hc).2)) (own_up hy) (ok rfl) (ok rfl) (ok rfl)) (b := y) e0 Ey (g := (mkF m 5 #[.val (.ref y)] [(.ref y)])) rfl (by rw [hml]; rfl) (argsL := []) (rest := []) (lenOf pd_392 rfl) rfl (by show 2 * 0 + _ ≤ _; exact Nat.le_of_eq rfl) (hb hby d7_5) rfl (ok rfl) (ok rfl) ?_
  intro v904 T904 L904 q904 X904
  obtain ⟨rfl, rfl, hE904⟩ := q904
  have N904 := Fr.app N0 (Fr.nil n0)
  show Goes p e below _ T904 (mkF m 8 #[.val (.ref y)] [(.int (0 : Int32))])
  refine P1.ifYes X904.here hx 21 (hb hby d7_8) ((if0 _ _).trans (teq (by decide : (0 : Int32) = (0 : Int32))).1) (by decide) (by decide) ?_
  obtain ⟨T905, h905, X905, e905, E905, A905, D905, -, st905⟩ := newO X904 hx hZ hown (own_w hw 39 rfl) (own_w hw 40 rfl) (own_w hw 41 rfl) hE904 (g := (mkF m 21 #[.val (.ref y)] [])) rfl (hb hby d7_21) (ok rfl) (ok rfl)
  obtain ⟨b905, g905⟩ : ∃ z, z = h0.size := ⟨_, rfl⟩
  rw [← g905] at A905 D905 st905
  have ge_b905 : n0 ≤ b905 := Nat.le_trans Z0 (Nat.le_of_eq g905.symm)
  have sz_b905 : h0.size ≤ b905 := Nat.le_trans K0.1 (Nat.le_of_eq g905.symm)
  have sf_b905 : Safe Z EL1 s.vm h0 b905 := Safe.new (Nat.le_of_eq g905.symm)
  have F905_value : Fld Z h905 b905 "java/lang/AbstractStringBuilder" "value" "[B" .null := D905 (Or.inl (own_w hw 54 rfl)) (ty := (.array .byte)) (by decide)
  have F905_coder : Fld Z h905 b905 "java/lang/AbstractStringBuilder" "coder" "B" (.int (0 : Int32)) := D905 (Or.inl (own_w hw 56 rfl)) (ty := .byte) (by decide)
  have F905_count : Fld Z h905 b905 "java/lang/AbstractStringBuilder" "count" "I" (.int (0 : Int32)) := D905 (Or.inl (own_w hw 81 rfl)) (ty := .int) (by decide)
  refine Goes.step (T' := T905) (g' := (mkF m 24 #[.val (.ref y)] [(.ref b905)])) st905 ?_
  refine P1.dup X905.here hx (hb hby d7_24) rfl ?_
  have K906 : Keep h0 h905 [] := K0.ext E905
  have Z907 : n0 ≤ h905.size := Nat.le_trans Z0 E905.1
  have O908 : Old Z n0 h905 := O0.ext E905
  refine Goes.callC X905 hx (y := y18_) rfl hown (mvT hZ (own_w hw 42 rfl)) (mvT hZ (own_w hw 43 rfl)) (mvT hZ (own_w hw 44 rfl)) (by decide) (kc' := 1) (ks' := 16) (backOf (W := 1) (rmBI l Z a0 hw [] b905 zc fm h905 n0 Z907 O908 S_CS hzc S_FM hfm ge_b905 A905 F905_value F905_coder F905_count) hZ (own_w hw 44 rfl) (own_w hw 41 rfl) (ok rfl) (ok rfl)) (g := (mkF m 25 #[.val (.ref y)] [(.ref b905), (.ref b905)])) (a := b905) rfl (by rw [hml]; rfl) (argsL := []) (rest := [(.ref b905)]) (lenOf pd_380 rfl) rfl (by show 2 * 0 + _ ≤ _; exact Nat.le_of_eq rfl) (hb hby d7_25) rfl e905 (ok rfl) (ok rfl) ?_
  intro v909 T909 L909 q909 X909
  obtain ⟨t909, kt909, rfl, N909q, K909, szt909, g909E, g909v, g909c, g909n, g909V⟩ := q909
  have ge_t909 : n0 ≤ t909 := Nat.le_trans Z907 szt909
  have sz_t909 : h0.size ≤ t909 := Nat.le_trans K906.1 szt909
  have sf_t909 : Safe Z EL1 s.vm h905 t909 := Safe.new szt909
  have N909 := Fr.app N904 N909q
  show Goes p e below _ T909 (mkF m 28 #[.val (.ref y)] [(.ref b905)])
  have ks911 : h0.size ≤ h905.size := Nat.le_trans ks0 E905.1
  have ks912 : h0.size ≤ T909.heap.size := Nat.le_trans ks911 K909.1
  have CR913 : CHr Z EL1 s.vm h0 s.vm h905 := CR0.trans (CHr.ext E905 CR0.1)
  have sf914 : Safe Z EL1 s.vm h905 b905 := Safe.ext E905 CR0.1 sf_b905
  have CR915 : CHr Z EL1 s.vm h0 s.vm T909.heap := CR913.trans (CHr.keep K909 (sfS sf914 sf0) CR913.1)
  obtain ⟨la910, T910, h910, k1_910, lb910, lk910, X910, e910, E910, hS910, ks910, hZ, hown, LE910, LC910, LV910, LK910, -, -, CW910, -, hsf910, st910⟩ := ldcCH X909 hx hZ hown (own_w hw 57 rfl) (fun d hd => hw d (in_atoms d hd)) rfl hS0 ks912 hEL (by decide) CR915.1 (vs := [(.int (109 : Int32)), (.int (117 : Int32)), (.int (116 : Int32)), (.int (120 : Int32)), (.int (58 : Int32)), (.int (123 : Int32))]) (z := (6 : Int32)) (by decide) (by decide) rfl (g := (mkF m 28 #[.val (.ref y)] [(.ref b905)])) rfl (hb hby d7_28) (n := 24) (by decide) (by decide) (ok rfl) (ok rfl)
  refine Goes.step (T' := T910) (g' := (mkF m 30 #[.val (.ref y)] [(.ref la910), (.ref b905)])) st910 ?_
  have E916 : Exa Z h910 b905 "java/lang/StringBuilder" := g909E.ext E910
  have F917 : Fld Z h910 b905 "java/lang/AbstractStringBuilder" "value" "[B" (.ref t909) := g909v.ext E910
  have F918 : Fld Z h910 b905 "java/lang/AbstractStringBuilder" "coder" "B" (.int (0 : Int32)) := g909c.ext E910
  have F919 : Fld Z h910 b905 "java/lang/AbstractStringBuilder" "count" "I" (.int (0 : Int32)) := g909n.ext E910
  have V920 : Arv Z h910 t909 kt909 .byte (16 : Int32) [] (.int (0 : Int32)) := g909V.ext E910
  have sf922 : Safe Z EL1 s.vm T909.heap t909 := Safe.keep K909 (sfS sf914 sf0) CR913.1 sf_t909
  have sf923 : Safe Z EL1 T910.vm h910 t909 := CHr.safe CW910 g909V.lt sf922
  have ne921 : t909 ≠ lb910 := (hsf910 t909 sf923).2
  have Z924 : n0 ≤ T909.heap.size := Nat.le_trans Z907 K909.1
  have Z925 : n0 ≤ h910.size := Nat.le_trans Z924 E910.1
  have O926 : Old Z n0 T909.heap := O908.keep K909 (allS ge_b905 all0)
  have O927 : Old Z n0 h910 := O926.ext E910
  refine Goes.callV X910 hx hZ (y := y19_) (z := y19_) hown (mvT hZ (own_w hw 60 rfl)) (mvT hZ (own_w hw 61 rfl)) (notFace_of_selects (args := #[]) (mvT hZ (own_w hw 63 rfl))) (mvT hZ (own_w hw 63 rfl)) (mvT hZ (own_w hw 62 rfl)) (by decide) (kc' := 0) (ks' := 0) (backOf (W := 0) (rmSp0_6 l Z a0 hw [] b905 t909 kt909 la910 lb910 lk910 (109 : Int32) (117 : Int32) (116 : Int32) (120 : Int32) (58 : Int32) (123 : Int32) zc fm h910 n0 Z925 O927 S_CS hzc S_FM hfm ge_b905 ge_t909 E916 F917 F918 F919 V920 LE910 LV910 LC910 LK910 (Ne.symm ne921)) hZ (own_w hw 64 rfl) (own_w hw 41 rfl) (ok rfl) (ok rfl)) (b := b905) e910 E916 (g := (mkF m 30 #[.val (.ref y)] [(.ref la910), (.ref b905)])) rfl (by rw [hml]; rfl) (argsL := [(.ref la910)]) (rest := []) (lenOf pd_98417 rfl) rfl (by show 2 * 0 + _ ≤ _; exact Nat.le_of_eq rfl) (hb hby d7_30) rfl (ok rfl) (ok rfl) ?_
  intro v928 T928 L928 q928 X928
  obtain ⟨rfl, N928q, K928, g928E, g928v, g928c, g928n, g928V⟩ := q928
  have N928 := Fr.app N909 N928q
  show Goes p e below _ T928 (mkF m 33 #[.val (.ref y)] [(.ref b905)])
  refine P1.aloadN X928.here hx (hb hby d7_33) rfl rfl ?_
  have E929 : Exa Z h905 y "java/lang/String" := Ey.ext E905
  have E930 : Exa Z T909.heap y "java/lang/String" := E929.keep K909
  have E931 : Exa Z h910 y "java/lang/String" := E930.ext E910
  have E932 : Exa Z T928.heap y "java/lang/String" := E931.keep K928
  have F933 : Fld Z h905 y "java/lang/String" "value" "[B" (.ref ty) := Vy.ext E905
  have ne934 : y ≠ b905 := Nat.ne_of_lt (Nat.lt_of_lt_of_le Ey.lt (Nat.le_of_eq g905.symm))
  have F935 : Fld Z T909.heap y "java/lang/String" "value" "[B" (.ref ty) := F933.keep K909 (ninS ne934 nin0)
  have F936 : Fld Z h910 y "java/lang/String" "value" "[B" (.ref ty) := F935.ext E910
  have ne937 : y ≠ t909 := Nat.ne_of_lt (Nat.lt_of_lt_of_le E929.lt szt909)
  have F938 : Fld Z T928.heap y "java/lang/String" "value" "[B" (.ref ty) := F936.keep K928 (ninS ne934 (ninS ne937 nin0))
  have F939 : Fld Z h905 y "java/lang/String" "coder" "B" (.int (0 : Int32)) := Cy.ext E905
  have F940 : Fld Z T909.heap y "java/lang/String" "coder" "B" (.int (0 : Int32)) := F939.keep K909 (ninS ne934 nin0)
  have F941 : Fld Z h910 y "java/lang/String" "coder" "B" (.int (0 : Int32)) := F940.ext E910
  have F942 : Fld Z T928.heap y "java/lang/String" "coder" "B" (.int (0 : Int32)) := F941.keep K928 (ninS ne934 (ninS ne937 nin0))
  have V943 : Arv Z h905 ty ky .byte (4 : Int32) [(.int (c0).toInt8.toInt32), (.int (c1).toInt8.toInt32), (.int (c2).toInt8.toInt32), (.int (c3).toInt8.toInt32)] (.int (0 : Int32)) := Ky.ext E905
  have ne944 : ty ≠ b905 := Nat.ne_of_lt (Nat.lt_of_lt_of_le Ky.lt (Nat.le_of_eq g905.symm))
  have V945 : Arv Z T909.heap ty ky .byte (4 : Int32) [(.int (c0).toInt8.toInt32), (.int (c1).toInt8.toInt32), (.int (c2).toInt8.toInt32), (.int (c3).toInt8.toInt32)] (.int (0 : Int32)) := V943.keep K909 (ninS ne944 nin0)
  have V946 : Arv Z h910 ty ky .byte (4 : Int32) [(.int (c0).toInt8.toInt32), (.int (c1).toInt8.toInt32), (.int (c2).toInt8.toInt32), (.int (c3).toInt8.toInt32)] (.int (0 : Int32)) := V945.ext E910
  have ne947 : ty ≠ t909 := Nat.ne_of_lt (Nat.lt_of_lt_of_le V943.lt szt909)
  have V948 : Arv Z T928.heap ty ky .byte (4 : Int32) [(.int (c0).toInt8.toInt32), (.int (c1).toInt8.toInt32), (.int (c2).toInt8.toInt32), (.int (c3).toInt8.toInt32)] (.int (0 : Int32)) := V946.keep K928 (ninS ne944 (ninS ne947 nin0))
  have Z949 : n0 ≤ T928.heap.size := Nat.le_trans Z925 K928.1
  have O950 : Old Z n0 T928.heap := O927.keep K928 (allS ge_b905 (allS ge_t909 all0))
  refine Goes.callV X928 hx hZ (y := y19_) (z := y19_) hown (mvT hZ (own_w hw 60 rfl)) (mvT hZ (own_w hw 61 rfl)) (notFace_of_selects (args := #[]) (mvT hZ (own_w hw 63 rfl))) (mvT hZ (own_w hw 63 rfl)) (mvT hZ (own_w hw 62 rfl)) (by decide) (kc' := 0) (ks' := 0) (backOf (W := 0) (rmSp6_4 l Z a0 hw [] b905 t909 kt909 y ty ky (109 : Int32) (117 : Int32) (116 : Int32) (120 : Int32) (58 : Int32) (123 : Int32) (c0).toInt8.toInt32 (c1).toInt8.toInt32 (c2).toInt8.toInt32 (c3).toInt8.toInt32 zc fm T928.heap n0 Z949 O950 S_CS hzc S_FM hfm ge_b905 ge_t909 g928E g928v g928c g928n g928V E932 F938 F942 V948 ne947) hZ (own_w hw 64 rfl) (own_w hw 41 rfl) (ok rfl) (ok rfl)) (b := b905) rfl g928E (g := (mkF m 34 #[.val (.ref y)] [(.ref y), (.ref b905)])) rfl (by rw [hml]; rfl) (argsL := [(.ref y)]) (rest := []) (lenOf pd_98417 rfl) rfl (by show 2 * 0 + _ ≤ _; exact Nat.le_of_eq rfl) (hb hby d7_34) rfl (ok rfl) (ok rfl) ?_
  intro v951 T951 L951 q951 X951
  obtain ⟨rfl, N951q, K951, g951E, g951v, g951c, g951n, g951V⟩ := q951
  have N951 := Fr.app N928 N951q
  show Goes p e below _ T951 (mkF m 37 #[.val (.ref y)] [(.ref b905)])
  have ks953 : k1_910 ≤ T928.heap.size := Nat.le_trans ks910 K928.1
  have ks954 : k1_910 ≤ T951.heap.size := Nat.le_trans ks953 K951.1
  have CR955 : CHr Z EL1 s.vm h0 T910.vm h910 := CR915.trans CW910
  have sf956 : Safe Z EL1 s.vm T909.heap b905 := Safe.keep K909 (sfS sf914 sf0) CR913.1 sf914
  have sf957 : Safe Z EL1 T910.vm h910 b905 := CHr.safe CW910 g909E.lt sf956
  have CR958 : CHr Z EL1 s.vm h0 T910.vm T928.heap := CR955.trans (CHr.keep K928 (sfS sf957 (sfS sf923 sf0)) CR955.1)
  have sf959 : Safe Z EL1 T910.vm T928.heap t909 := Safe.keep K928 (sfS sf957 (sfS sf923 sf0)) CR955.1 sf923
  have sf960 : Safe Z EL1 T910.vm T928.heap b905 := Safe.keep K928 (sfS sf957 (sfS sf923 sf0)) CR955.1 sf957
  have CR961 : CHr Z EL1 s.vm h0 T910.vm T951.heap := CR958.trans (CHr.keep K951 (sfS sf960 (sfS sf959 sf0)) CR958.1)
  obtain ⟨la952, T952, h952, k1_952, lb952, lk952, X952, e952, E952, hS952, ks952, hZ, hown, LE952, LC952, LV952, LK952, -, -, CW952, -, hsf952, st952⟩ := ldcCH X951 hx hZ hown (own_w hw 107 rfl) (fun d hd => hw d (in_atoms d hd)) rfl hS910 ks954 hEL (by decide) CR961.1 (vs := [(.int (125 : Int32))]) (z := (1 : Int32)) (by decide) (by decide) rfl (g := (mkF m 37 #[.val (.ref y)] [(.ref b905)])) rfl (hb hby d7_37) (n := 4) (by decide) (by decide) (ok rfl) (ok rfl)
  refine Goes.step (T' := T952) (g' := (mkF m 39 #[.val (.ref y)] [(.ref la952), (.ref b905)])) st952 ?_
  have E962 : Exa Z h952 b905 "java/lang/StringBuilder" := g951E.ext E952
  have F963 : Fld Z h952 b905 "java/lang/AbstractStringBuilder" "value" "[B" (.ref t909) := g951v.ext E952
  have F964 : Fld Z h952 b905 "java/lang/AbstractStringBuilder" "coder" "B" (.int (0 : Int32)) := g951c.ext E952
  have F965 : Fld Z h952 b905 "java/lang/AbstractStringBuilder" "count" "I" (.int (10 : Int32)) := g951n.ext E952
  have V966 : Arv Z h952 t909 kt909 .byte (16 : Int32) [(.int (109 : Int32)), (.int (117 : Int32)), (.int (116 : Int32)), (.int (120 : Int32)), (.int (58 : Int32)), (.int (123 : Int32)), (.int (c0).toInt8.toInt32), (.int (c1).toInt8.toInt32), (.int (c2).toInt8.toInt32), (.int (c3).toInt8.toInt32)] (.int (0 : Int32)) := g951V.ext E952
  have sf968 : Safe Z EL1 T910.vm T951.heap t909 := Safe.keep K951 (sfS sf960 (sfS sf959 sf0)) CR958.1 sf959
  have sf969 : Safe Z EL1 T952.vm h952 t909 := CHr.safe CW952 g951V.lt sf968
  have ne967 : t909 ≠ lb952 := (hsf952 t909 sf969).2
  have Z970 : n0 ≤ T951.heap.size := Nat.le_trans Z949 K951.1
  have Z971 : n0 ≤ h952.size := Nat.le_trans Z970 E952.1
  have O972 : Old Z n0 T951.heap := O950.keep K951 (allS ge_b905 (allS ge_t909 all0))
  have O973 : Old Z n0 h952 := O972.ext E952
  refine Goes.callV X952 hx hZ (y := y19_) (z := y19_) hown (mvT hZ (own_w hw 60 rfl)) (mvT hZ (own_w hw 61 rfl)) (notFace_of_selects (args := #[]) (mvT hZ (own_w hw 63 rfl))) (mvT hZ (own_w hw 63 rfl)) (mvT hZ (own_w hw 62 rfl)) (by decide) (kc' := 0) (ks' := 0) (backOf (W := 0) (rmSp10_1 l Z a0 hw [] b905 t909 kt909 la952 lb952 lk952 (109 : Int32) (117 : Int32) (116 : Int32) (120 : Int32) (58 : Int32) (123 : Int32) (c0).toInt8.toInt32 (c1).toInt8.toInt32 (c2).toInt8.toInt32 (c3).toInt8.toInt32 (125 : Int32) zc fm h952 n0 Z971 O973 S_CS hzc S_FM hfm ge_b905 ge_t909 E962 F963 F964 F965 V966 LE952 LV952 LC952 LK952 (Ne.symm ne967)) hZ (own_w hw 64 rfl) (own_w hw 41 rfl) (ok rfl) (ok rfl)) (b := b905) e952 E962 (g := (mkF m 39 #[.val (.ref y)] [(.ref la952), (.ref b905)])) rfl (by rw [hml]; rfl) (argsL := [(.ref la952)]) (rest := []) (lenOf pd_98417 rfl) rfl (by show 2 * 0 + _ ≤ _; exact Nat.le_of_eq rfl) (hb hby d7_39) rfl (ok rfl) (ok rfl) ?_
  intro v974 T974 L974 q974 X974
  obtain ⟨rfl, N974q, K974, g974E, g974v, g974c, g974n, g974V⟩ := q974
  have N974 := Fr.app N951 N974q
  show Goes p e below _ T974 (mkF m 42 #[.val (.ref y)] [(.ref b905)])
  have Z975 : n0 ≤ T974.heap.size := Nat.le_trans Z971 K974.1
  have O976 : Old Z n0 T974.heap := O973.keep K974 (allS ge_b905 (allS ge_t909 all0))
  refine Goes.callV X974 hx hZ (y := y21_) (z := y21_) hown (mvT hZ (own_w hw 108 rfl)) (mvT hZ (own_w hw 109 rfl)) (notFace_of_selects (args := #[]) (mvT hZ (own_w hw 111 rfl))) (mvT hZ (own_w hw 111 rfl)) (mvT hZ (own_w hw 110 rfl)) (by decide) (kc' := 2) (ks' := 15) (backOf (W := 0) (rmTs11 l Z a0 hw [] b905 t909 kt909 (109 : Int32) (117 : Int32) (116 : Int32) (120 : Int32) (58 : Int32) (123 : Int32) (c0).toInt8.toInt32 (c1).toInt8.toInt32 (c2).toInt8.toInt32 (c3).toInt8.toInt32 (125 : Int32) zc fm T974.heap n0 Z975 O976 S_CS hzc S_FM hfm ge_b905 ge_t909 g974E g974v g974c g974n g974V) hZ (own_w hw 112 rfl) (own_w hw 41 rfl) (ok rfl) (ok rfl)) (b := b905) rfl g974E (g := (mkF m 42 #[.val (.ref y)] [(.ref b905)])) rfl (by rw [hml]; rfl) (argsL := []) (rest := []) (lenOf pd_19649 rfl) rfl (by show 2 * 0 + _ ≤ _; exact Nat.le_of_eq rfl) (hb hby d7_42) rfl (ok rfl) (ok rfl) ?_
  intro v977 T977 L977 q977 X977
  obtain ⟨y977, r977, kr977, rfl, N977q, K977, g977E, g977v, g977c, g977V⟩ := q977
  have N977 := Fr.app N974 N977q
  show Goes p e below _ T977 (mkF m 45 #[.val (.ref y)] [(.ref y977)])
  have ks978 : k1_952 ≤ T974.heap.size := Nat.le_trans ks952 K974.1
  have ks979 : k1_952 ≤ T977.heap.size := Nat.le_trans ks978 K977.1
  have CR980 : CHr Z EL1 s.vm h0 T952.vm h952 := CR961.trans CW952
  have sf981 : Safe Z EL1 T910.vm T951.heap b905 := Safe.keep K951 (sfS sf960 (sfS sf959 sf0)) CR958.1 sf960
  have sf982 : Safe Z EL1 T952.vm h952 b905 := CHr.safe CW952 g951E.lt sf981
  have CR983 : CHr Z EL1 s.vm h0 T952.vm T974.heap := CR980.trans (CHr.keep K974 (sfS sf982 (sfS sf969 sf0)) CR980.1)
  have CR984 : CHr Z EL1 s.vm h0 T952.vm T977.heap := CR983.trans (CHr.keep K977 sf0 CR983.1)
  refine Goes.retAW X977 hx Bd.notSynchronized hS952 ks979 hZ hEL (hh ▸ CR984) rfl Bd.returns rfl rfl (hb hby d7_45) (ok rfl) (ok rfl) ?_
  have K985 : Keep h0 T909.heap [] := K906.trans K909 (allS (Or.inr sz_b905) all0)
  have K986 : Keep h0 h910 [] := K985.ext E910
  have K987 : Keep h0 T928.heap [] := K986.trans K928 (allS (Or.inr sz_b905) (allS (Or.inr sz_t909) all0))
  have K988 : Keep h0 T951.heap [] := K987.trans K951 (allS (Or.inr sz_b905) (allS (Or.inr sz_t909) all0))
  have K989 : Keep h0 h952 [] := K988.ext E952
  have K990 : Keep h0 T974.heap [] := K989.trans K974 (allS (Or.inr sz_b905) (allS (Or.inr sz_t909) all0))
  have K991 : Keep h0 T977.heap [] := K990.trans K977 all0
  exact ⟨y977, r977, kr977, rfl, N977, K991, g977E, g977v, g977c, g977V⟩
theorem pn_com_example_mutx_mutx_redis_RedisNamesLockKeyPinLaw : plainName "com/example/mutx/mutx/redis/RedisNamesLockKeyPinLaw" = true := by first | (simp [plainName, overriddenIn]; done) | decide +kernel
theorem in_words : ∀ d ∈ StrChars.Road.words, d ∈ tables_1 := by decide +kernel
theorem pd_1017 : parseMethodDescriptor "([C)V" = some ⟨[(.array .char)], none⟩ := by decide +kernel
theorem pd_68746 : parseMethodDescriptor "(Ljava/lang/String;)Ljava/lang/String;" = some ⟨[(.object "java/lang/String")], some (.object "java/lang/String")⟩ := by decide +kernel
theorem in_wordsLen : ∀ d ∈ StrChars.Road.wordsLen, d ∈ tables_1 := by decide +kernel
theorem in_wordsChN : ∀ d ∈ StrChars.Road.wordsChN, d ∈ tables_1 := by decide +kernel
theorem pd_577 : parseMethodDescriptor "(I)C" = some ⟨[.int], some .char⟩ := by decide +kernel
theorem ef0 (p0 p1 p2 p3 p4 : Int32) (m : MethodId) : entryFrame m #[(.int p0), (.int p1), (.int p2), (.int p3), (.int p4)] maxLocals = mkF m 0 #[.val (.int p0), .val (.int p1), .val (.int p2), .val (.int p3), .val (.int p4), .unset, .unset, .unset, .unset, .unset, .unset, .unset, .unset] [] := by first | (simp [entryFrame, mkF, argsToLocals, Value.category, maxLocals]; done) | rfl
def Q0 (Z : State) (p0 p1 p2 p3 p4 zc : Int32) (fm : Value) (h0 : Heap) (n0 : Nat) (v : Option Value) (h : Heap) (L : List Loc) : Prop := v = some (.int 1) ∧ Fr n0 L
set_option maxRecDepth 65536 in
set_option maxHeartbeats 40000000 in
theorem rm0 (l : Launch) (Z : State) (a0 : Array Value) (hw : ∀ d ∈ tables_1, d.before a0 Z = true) (ws : List Jvm.Cond) (p0 p1 p2 p3 p4 zc : Int32) (fm : Value) (h0 : Heap) (n0 : Nat) (Z0 : n0 ≤ h0.size) (O0 : Old Z n0 h0) (S_CS : Sta Z Z.heap "java/lang/String" "COMPACT_STRINGS" "Z" (.int zc)) (hzc : ¬ zc = 0) (S_FM : Sta Z Z.heap "jdk/internal/util/Preconditions" "SIOOBE_FORMATTER" "Ljava/util/function/BiFunction;" fm) (hfm : fm.isRef = true) :
    OwnLawW l x code maxLocals ret ws room_1 #[(.int p0), (.int p1), (.int p2), (.int p3), (.int p4)] Z EL1 h0 (Q0 Z p0 p1 p2 p3 p4 zc fm h0 n0) := by
  refine own_enterW (plainFor_of_name pn_com_example_mutx_mutx_redis_RedisNamesLockKeyPinLaw) (ef0 p0 p1 p2 p3 p4) ?_
  intro p e s m below meth c s₁ Bd hx hby hml hZ hown X0 e0 hh hS0 CR0
  have hml : c.maxLocals = 13 := hml
  have N0 := Fr.nil n0
  have hEL : EW Z a0 EL1 := own_EL hw
  have ks0 : h0.size ≤ h0.size := Nat.le_refl _
  have K0 : Keep h0 h0 [] := Keep.refl _ _
  refine P1.iconst X0.here hx (1 : Int32) (hb hby at_0) rfl ?_
  refine P1.iload X0.here hx (hb hby at_1) rfl ?_
  refine P1.iconst X0.here hx (3 : Int32) (hb hby at_3) rfl ?_
  refine P1.iand X0.here hx (hb hby at_4) ?_
  refine P1.iadd X0.here hx (hb hby at_5) ?_
  obtain ⟨nn, hnn⟩ : ∃ z, z = ((1 : Int32) + (p4 &&& (3 : Int32))) := ⟨_, rfl⟩
  show Goes p e below _ s₁ _
  rw [← hnn]
  have hn4 : nn = 1 ∨ nn = 2 ∨ nn = 3 ∨ nn = 4 := by rw [hnn]; exact own_and3 _
  refine P1.istore X0.here hx #[.val (.int p0), .val (.int p1), .val (.int p2), .val (.int p3), .val (.int p4), .val (.int nn), .unset, .unset, .unset, .unset, .unset, .unset, .unset] (hb hby at_6) rfl ?_
  refine P1.iloadN X0.here hx (hb hby at_8) rfl ?_
  refine P1.sipush X0.here hx (255 : Int32) (hb hby at_9) rfl ?_
  refine P1.iand X0.here hx (hb hby at_12) ?_
  obtain ⟨c0, hc0⟩ : ∃ z, z = (p0 &&& (255 : Int32)) := ⟨_, rfl⟩
  show Goes p e below _ s₁ _
  rw [← hc0]
  have bd_c0 : ¬ c0 < 0 ∧ ¬ (255 : Int32) < c0 := by rw [hc0]; exact own_and255 _
  refine Goes.step (T' := s₁) (g' := (mkF m 14 #[.val (.int p0), .val (.int p1), .val (.int p2), .val (.int p3), .val (.int p4), .val (.int nn), .unset, .unset, .unset, .unset, .unset, .unset, .unset] [(.int (c0.toUInt32.toUInt16.toUInt32.toInt32))])) (fun t_ k_ => XS.i2c X0.here hx rfl (hb hby at_13) rfl k_) ?_
  have rw992 : (c0.toUInt32.toUInt16.toUInt32.toInt32) = c0 := own_i2c bd_c0
  rw [rw992]
  refine P1.istore X0.here hx #[.val (.int p0), .val (.int p1), .val (.int p2), .val (.int p3), .val (.int p4), .val (.int nn), .val (.int c0), .unset, .unset, .unset, .unset, .unset, .unset] (hb hby at_14) rfl ?_
  refine P1.iloadN X0.here hx (hb hby at_16) rfl ?_
  refine P1.sipush X0.here hx (255 : Int32) (hb hby at_17) rfl ?_
  refine P1.iand X0.here hx (hb hby at_20) ?_
  obtain ⟨c1, hc1⟩ : ∃ z, z = (p1 &&& (255 : Int32)) := ⟨_, rfl⟩
  show Goes p e below _ s₁ _
  rw [← hc1]
  have bd_c1 : ¬ c1 < 0 ∧ ¬ (255 : Int32) < c1 := by rw [hc1]; exact own_and255 _
  refine Goes.step (T' := s₁) (g' := (mkF m 22 #[.val (.int p0), .val (.int p1), .val (.int p2), .val (.int p3), .val (.int p4), .val (.int nn), .val (.int c0), .unset, .unset, .unset, .unset, .unset, .unset] [(.int (c1.toUInt32.toUInt16.toUInt32.toInt32))])) (fun t_ k_ => XS.i2c X0.here hx rfl (hb hby at_21) rfl k_) ?_
  have rw993 : (c1.toUInt32.toUInt16.toUInt32.toInt32) = c1 := own_i2c bd_c1
  rw [rw993]
  refine P1.istore X0.here hx #[.val (.int p0), .val (.int p1), .val (.int p2), .val (.int p3), .val (.int p4), .val (.int nn), .val (.int c0), .val (.int c1), .unset, .unset, .unset, .unset, .unset] (hb hby at_22) rfl ?_
  refine P1.iloadN X0.here hx (hb hby at_24) rfl ?_
  refine P1.sipush X0.here hx (255 : Int32) (hb hby at_25) rfl ?_
  refine P1.iand X0.here hx (hb hby at_28) ?_
  obtain ⟨c2, hc2⟩ : ∃ z, z = (p2 &&& (255 : Int32)) := ⟨_, rfl⟩
  show Goes p e below _ s₁ _
  rw [← hc2]
  have bd_c2 : ¬ c2 < 0 ∧ ¬ (255 : Int32) < c2 := by rw [hc2]; exact own_and255 _
  refine Goes.step (T' := s₁) (g' := (mkF m 30 #[.val (.int p0), .val (.int p1), .val (.int p2), .val (.int p3), .val (.int p4), .val (.int nn), .val (.int c0), .val (.int c1), .unset, .unset, .unset, .unset, .unset] [(.int (c2.toUInt32.toUInt16.toUInt32.toInt32))])) (fun t_ k_ => XS.i2c X0.here hx rfl (hb hby at_29) rfl k_) ?_
  have rw994 : (c2.toUInt32.toUInt16.toUInt32.toInt32) = c2 := own_i2c bd_c2
  rw [rw994]
  refine P1.istore X0.here hx #[.val (.int p0), .val (.int p1), .val (.int p2), .val (.int p3), .val (.int p4), .val (.int nn), .val (.int c0), .val (.int c1), .val (.int c2), .unset, .unset, .unset, .unset] (hb hby at_30) rfl ?_
  refine P1.iloadN X0.here hx (hb hby at_32) rfl ?_
  refine P1.sipush X0.here hx (255 : Int32) (hb hby at_33) rfl ?_
  refine P1.iand X0.here hx (hb hby at_36) ?_
  obtain ⟨c3, hc3⟩ : ∃ z, z = (p3 &&& (255 : Int32)) := ⟨_, rfl⟩
  show Goes p e below _ s₁ _
  rw [← hc3]
  have bd_c3 : ¬ c3 < 0 ∧ ¬ (255 : Int32) < c3 := by rw [hc3]; exact own_and255 _
  refine Goes.step (T' := s₁) (g' := (mkF m 38 #[.val (.int p0), .val (.int p1), .val (.int p2), .val (.int p3), .val (.int p4), .val (.int nn), .val (.int c0), .val (.int c1), .val (.int c2), .unset, .unset, .unset, .unset] [(.int (c3.toUInt32.toUInt16.toUInt32.toInt32))])) (fun t_ k_ => XS.i2c X0.here hx rfl (hb hby at_37) rfl k_) ?_
  have rw995 : (c3.toUInt32.toUInt16.toUInt32.toInt32) = c3 := own_i2c bd_c3
  rw [rw995]
  refine P1.istore X0.here hx #[.val (.int p0), .val (.int p1), .val (.int p2), .val (.int p3), .val (.int p4), .val (.int nn), .val (.int c0), .val (.int c1), .val (.int c2), .val (.int c3), .unset, .unset, .unset] (hb hby at_38) rfl ?_
  refine P1.iload X0.here hx (hb hby at_40) rfl ?_
  refine P1.iconst X0.here hx (1 : Int32) (hb hby at_42) rfl ?_
  by_cases hn1 : nn = (1 : Int32)
  ·
    have rw996 : nn = (1 : Int32) := hn1
    rw [rw996]
    refine P1.icmpNo X0.here hx (hb hby at_43) (teq (by decide : (1 : Int32) = (1 : Int32))).2 ?_
    obtain ⟨T997, h997, X997, e997, E997, A997, D997, -, st997⟩ := newO X0 hx hZ hown (own_w hw 0 rfl) (own_w hw 1 rfl) (own_w hw 2 rfl) e0 (g := (mkF m 46 #[.val (.int p0), .val (.int p1), .val (.int p2), .val (.int p3), .val (.int p4), .val (.int (1 : Int32)), .val (.int c0), .val (.int c1), .val (.int c2), .val (.int c3), .unset, .unset, .unset] [])) rfl (hb hby at_46) (ok rfl) (ok rfl)
    obtain ⟨b997, g997⟩ : ∃ z, z = h0.size := ⟨_, rfl⟩
    rw [← g997] at A997 D997 st997
    have ge_b997 : n0 ≤ b997 := Nat.le_trans Z0 (Nat.le_of_eq g997.symm)
    have sz_b997 : h0.size ≤ b997 := Nat.le_trans K0.1 (Nat.le_of_eq g997.symm)
    have sf_b997 : Safe Z EL1 s.vm h0 b997 := Safe.new (Nat.le_of_eq g997.symm)
    have F997_coder : Fld Z h997 b997 "java/lang/String" "coder" "B" (.int (0 : Int32)) := D997 (Or.inr (own_w hw 27 rfl)) (ty := .byte) (by decide)
    have F997_value : Fld Z h997 b997 "java/lang/String" "value" "[B" .null := D997 (Or.inr (own_w hw 29 rfl)) (ty := (.array .byte)) (by decide)
    refine Goes.step (T' := T997) (g' := (mkF m 49 #[.val (.int p0), .val (.int p1), .val (.int p2), .val (.int p3), .val (.int p4), .val (.int (1 : Int32)), .val (.int c0), .val (.int c1), .val (.int c2), .val (.int c3), .unset, .unset, .unset] [(.ref b997)])) st997 ?_
    refine P1.dup X997.here hx (hb hby at_49) rfl ?_
    refine P1.iconst X997.here hx (1 : Int32) (hb hby at_50) rfl ?_
    obtain ⟨T998, h998, k998, X998, e998, E998, A998, st998⟩ := newP X997 hx hZ (own_w hw 3 rfl) e997 (g := (mkF m 51 #[.val (.int p0), .val (.int p1), .val (.int p2), .val (.int p3), .val (.int p4), .val (.int (1 : Int32)), .val (.int c0), .val (.int c1), .val (.int c2), .val (.int c3), .unset, .unset, .unset] [(.int (1 : Int32)), (.ref b997), (.ref b997)])) rfl (hb hby at_51) rfl (by decide) (cap := 1) (ok rfl) (ok rfl) (ok rfl) (ok rfl)
    have Z999 : n0 ≤ h997.size := Nat.le_trans Z0 E997.1
    have K1000 : Keep h0 h997 [] := K0.ext E997
    obtain ⟨b998, g998⟩ : ∃ z, z = h997.size := ⟨_, rfl⟩
    rw [← g998] at A998 st998
    have ge_b998 : n0 ≤ b998 := Nat.le_trans Z999 (Nat.le_of_eq g998.symm)
    have sz_b998 : h0.size ≤ b998 := Nat.le_trans K1000.1 (Nat.le_of_eq g998.symm)
    have sf_b998 : Safe Z EL1 s.vm h997 b998 := Safe.new (Nat.le_of_eq g998.symm)
    have V998 : Arv Z h998 b998 k998 .char (1 : Int32) [(.int (0 : Int32))] (.int (0 : Int32)) := (Arv.new A998 (by decide)).pad (pad_rep [] (.int (0 : Int32)) 1)
    refine Goes.step (T' := T998) (g' := (mkF m 53 #[.val (.int p0), .val (.int p1), .val (.int p2), .val (.int p3), .val (.int p4), .val (.int (1 : Int32)), .val (.int c0), .val (.int c1), .val (.int c2), .val (.int c3), .unset, .unset, .unset] [(.ref b998), (.ref b997), (.ref b997)])) st998 ?_
    refine P1.dup X998.here hx (hb hby at_53) rfl ?_
    refine P1.iconst X998.here hx (0 : Int32) (hb hby at_54) rfl ?_
    refine P1.iload X998.here hx (hb hby at_55) rfl ?_
    obtain ⟨cl1001, Ar1001, qk1001, sl1001, nz1001, ha1001, fi1001⟩ := id V998
    obtain ⟨T1002, h1002, X1002, e1002, W1002, st1002⟩ := stC X998 hx hZ e998 Ar1001 (j := (0 : Int32)) (inb_of sl1001 ⟨by decide, by decide⟩) (g := (mkF m 57 #[.val (.int p0), .val (.int p1), .val (.int p2), .val (.int p3), .val (.int p4), .val (.int (1 : Int32)), .val (.int c0), .val (.int c1), .val (.int c2), .val (.int c3), .unset, .unset, .unset] [(.int c0), (.int (0 : Int32)), (.ref b998), (.ref b998), (.ref b997), (.ref b997)])) rfl rfl (hb hby at_57)
    rw [(own_nar bd_c0)] at W1002
    have V1002 : Arv Z h1002 b998 k998 .char (1 : Int32) [(.int c0)] (.int (0 : Int32)) := Arv.set Ar1001 qk1001 sl1001 nz1001 ha1001 fi1001 ((own_nar bd_c0) ▸ fits_nar_char c0) W1002 0 rfl (ok rfl)
    have N1002 := Fr.snoc X1002 N0 ge_b998
    refine Goes.step (T' := T1002) (g' := (mkF m 58 #[.val (.int p0), .val (.int p1), .val (.int p2), .val (.int p3), .val (.int p4), .val (.int (1 : Int32)), .val (.int c0), .val (.int c1), .val (.int c2), .val (.int c3), .unset, .unset, .unset] [(.ref b998), (.ref b997), (.ref b997)])) st1002 ?_
    have E1003 : Exa Z h998 b997 "java/lang/String" := A997.ext E998
    have E1004 : Exa Z h1002 b997 "java/lang/String" := E1003.wr W1002
    have F1005 : Fld Z h998 b997 "java/lang/String" "value" "[B" .null := F997_value.ext E998
    have ne1006 : b997 ≠ b998 := Nat.ne_of_lt (Nat.lt_of_lt_of_le A997.lt (Nat.le_of_eq g998.symm))
    have F1007 : Fld Z h1002 b997 "java/lang/String" "value" "[B" .null := F1005.other W1002 (Or.inl ne1006)
    have F1008 : Fld Z h998 b997 "java/lang/String" "coder" "B" (.int (0 : Int32)) := F997_coder.ext E998
    have F1009 : Fld Z h1002 b997 "java/lang/String" "coder" "B" (.int (0 : Int32)) := F1008.other W1002 (Or.inl ne1006)
    have Z1010 : n0 ≤ h998.size := Nat.le_trans Z999 E998.1
    have Z1011 : n0 ≤ h1002.size := Nat.le_trans Z1010 (Keep.of_wr W1002).1
    have hq1012 : ∀ c ∈ ([c0] : List Int32), ¬ c < 0 ∧ ¬ (255 : Int32) < c := by
      intro c hc
      simp only [List.mem_cons, List.not_mem_nil, or_false] at hc
      subst hc
      exact bd_c0
    have hp1013 : ∀ c ∈ ([c0] : List Int32), ¬ c < 0 ∧ ¬ (255 : Int32) < c := hq1012
    have O1014 : Old Z n0 h997 := O0.ext E997
    have O1015 : Old Z n0 h998 := O1014.ext E998
    have O1016 : Old Z n0 h1002 := O1015.wr W1002 ge_b998
    refine Goes.callC X1002 hx (y := y12_) rfl hown (mvT hZ (own_w hw 4 rfl)) (mvT hZ (own_w hw 5 rfl)) (mvT hZ (own_w hw 6 rfl)) (by decide) (kc' := 1) (ks' := 1) (StrChars.Road.backV (W := 1) hZ (fun d hd => hw d (in_words d hd)) (kI := 4) (own_w hw 1 rfl) (cs := ([c0] : List Int32)) (bs := ([c0] : List Int32).map (fun c => c.toInt8.toInt32)) (n := 1) ge_b997 Z1011 E1004 F1007 F1009 V1002 (S_CS.ext O1016.2) hzc rfl rfl (by decide) (by decide) hp1013 rfl (ok rfl) (ok rfl)) (g := (mkF m 58 #[.val (.int p0), .val (.int p1), .val (.int p2), .val (.int p3), .val (.int p4), .val (.int (1 : Int32)), .val (.int c0), .val (.int c1), .val (.int c2), .val (.int c3), .unset, .unset, .unset] [(.ref b998), (.ref b997), (.ref b997)])) (a := b997) rfl (by rw [hml]; rfl) (argsL := [(.ref b998)]) (rest := [(.ref b997)]) (lenOf pd_1017 rfl) rfl (by show 2 * 0 + _ ≤ _; exact Nat.le_of_eq rfl) (hb hby at_58) rfl e1002 (ok rfl) (ok rfl) ?_
    intro v1017 T1017 L1017 q1017 X1017
    obtain ⟨rfl, N1017q, K1017, g1017E, g1017C, t1017, kb1017, ge_t1017, szt1017, net1017, g1017V, g1017K⟩ := q1017
    have K1018 : Keep h0 h998 [] := K1000.ext E998
    have K1019 : Keep h0 h1002 [] := K1018.wr W1002 (Or.inr sz_b998)
    have N1017 := Fr.app N1002 N1017q
    have sz_t1017 : h0.size ≤ t1017 := Nat.le_trans K1019.1 szt1017
    show Goes p e below _ T1017 (mkF m 61 #[.val (.int p0), .val (.int p1), .val (.int p2), .val (.int p3), .val (.int p4), .val (.int (1 : Int32)), .val (.int c0), .val (.int c1), .val (.int c2), .val (.int c3), .unset, .unset, .unset] [(.ref b997)])
    refine P1.astore X1017.here hx #[.val (.int p0), .val (.int p1), .val (.int p2), .val (.int p3), .val (.int p4), .val (.int (1 : Int32)), .val (.int c0), .val (.int c1), .val (.int c2), .val (.int c3), .val (.ref b997), .unset, .unset] (hb hby at_61) rfl rfl ?_
    refine P1.goto X1017.here hx 165 (hb hby at_63) (by decide) (by decide) ?_
    refine P1.aload X1017.here hx (hb hby at_165) rfl rfl ?_
    have Z1020 : n0 ≤ T1017.heap.size := Nat.le_trans Z1011 K1017.1
    have O1021 : Old Z n0 T1017.heap := O1016.keep K1017 (allS ge_b997 all0)
    have CR1022 : CHr Z EL1 s.vm h0 s.vm h997 := CR0.trans (CHr.ext E997 CR0.1)
    have CR1023 : CHr Z EL1 s.vm h0 s.vm h998 := CR1022.trans (CHr.ext E998 CR1022.1)
    have sf1024 : Safe Z EL1 s.vm h998 b998 := Safe.ext E998 CR1022.1 sf_b998
    have CR1025 : CHr Z EL1 s.vm h0 s.vm h1002 := CR1023.trans (CHr.wr W1002 sf1024 CR1023.1)
    have sf1026 : Safe Z EL1 s.vm h997 b997 := Safe.ext E997 CR0.1 sf_b997
    have sf1027 : Safe Z EL1 s.vm h998 b997 := Safe.ext E998 CR1022.1 sf1026
    have sf1028 : Safe Z EL1 s.vm h1002 b997 := Safe.wr W1002 sf1024 CR1023.1 sf1027
    have CR1029 : CHr Z EL1 s.vm h0 s.vm T1017.heap := CR1025.trans (CHr.keep K1017 (sfS sf1028 sf0) CR1025.1)
    have ks1031 : h0.size ≤ h997.size := Nat.le_trans ks0 E997.1
    have ks1032 : h0.size ≤ h998.size := Nat.le_trans ks1031 E998.1
    have ks1033 : h0.size ≤ h1002.size := Nat.le_trans ks1032 (Keep.of_wr W1002).1
    have ks1034 : h0.size ≤ T1017.heap.size := Nat.le_trans ks1033 K1017.1
    refine Goes.callSW X1017 hx (y := y0_) hS0 ks1034 hZ hown (mvT hZ (own_w hw 30 rfl)) (mvT hZ (own_w hw 31 rfl)) (mvT hZ (own_w hw 32 rfl)) (mvT hZ (own_w hw 33 rfl)) (by decide) (kc' := 8) (ks' := 68) (backOfSH (W := 0) (rmLk1 l Z a0 hw [] b997 t1017 kb1017 c0 zc fm T1017.heap n0 Z1020 O1021 S_CS hzc S_FM hfm g1017E g1017V g1017C g1017K hp1013) hZ (own_w hw 33 rfl) (own_w hw 32 rfl) (ok rfl) (ok rfl) hEL CR1029.1) (g := (mkF m 167 #[.val (.int p0), .val (.int p1), .val (.int p2), .val (.int p3), .val (.int p4), .val (.int (1 : Int32)), .val (.int c0), .val (.int c1), .val (.int c2), .val (.int c3), .val (.ref b997), .unset, .unset] [(.ref b997)])) rfl (by rw [hml]; rfl) (argsL := [(.ref b997)]) (rest := []) (lenOf pd_68746 rfl) rfl (by show 2 * 0 + _ ≤ _; exact Nat.le_of_eq rfl) (hb hby at_167) rfl rfl (ok rfl) (ok rfl) ?_
    intro v1030 T1030 L1030 q1030 Y1030
    obtain ⟨X1030, hS1030, hZ, hown, CW1030⟩ := Y1030
    obtain ⟨x1030, r1030, kr1030, rfl, N1030q, K1030, g1030E, g1030v, g1030c, g1030V⟩ := q1030
    have N1030 := Fr.app N1017 N1030q
    have ks1030 : T1030.heap.size ≤ T1030.heap.size := Nat.le_refl _
    have hx1030 : ∀ c ∈ ([(109 : Int32), (117 : Int32), (116 : Int32), (120 : Int32), (58 : Int32), (123 : Int32), c0, (125 : Int32)] : List Int32), ¬ c < 0 ∧ ¬ (255 : Int32) < c := by
      intro c hc
      simp only [List.mem_cons, List.not_mem_nil, or_false] at hc
      rcases hc with rfl | rfl | rfl | rfl | rfl | rfl | rfl | rfl
      · exact (by decide)
      · exact (by decide)
      · exact (by decide)
      · exact (by decide)
      · exact (by decide)
      · exact (by decide)
      · exact (hp1013 _ (by simp))
      · exact (by decide)
    show Goes p e below _ T1030 (mkF m 170 #[.val (.int p0), .val (.int p1), .val (.int p2), .val (.int p3), .val (.int p4), .val (.int (1 : Int32)), .val (.int c0), .val (.int c1), .val (.int c2), .val (.int c3), .val (.ref b997), .unset, .unset] [(.ref x1030)])
    refine P1.astore X1030.here hx #[.val (.int p0), .val (.int p1), .val (.int p2), .val (.int p3), .val (.int p4), .val (.int (1 : Int32)), .val (.int c0), .val (.int c1), .val (.int c2), .val (.int c3), .val (.ref b997), .val (.ref x1030), .unset] (hb hby at_170) rfl rfl ?_
    refine P1.aload X1030.here hx (hb hby at_172) rfl rfl ?_
    refine P1.ifnullNo X1030.here hx (hb hby at_174) ?_
    refine P1.aload X1030.here hx (hb hby at_177) rfl rfl ?_
    have O1035 : Old Z n0 T1030.heap := O1021.keep K1030 all0
    refine Goes.callV X1030 hx hZ (y := y17_) (z := y17_) (Qc := fun v h' L => (v = some (.int (Int32.ofNat ([(109 : Int32), (117 : Int32), (116 : Int32), (120 : Int32), (58 : Int32), (123 : Int32), c0, (125 : Int32)] : List Int32).length)) ∧ L = [] ∧ h' = T1030.heap)) hown (mvT hZ (own_w hw 153 rfl)) (mvT hZ (own_w hw 71 rfl)) (notFace_of_selects (args := #[]) (mvT hZ (own_w hw 73 rfl))) (mvT hZ (own_w hw 73 rfl)) (mvT hZ (own_w hw 72 rfl)) (by decide) (kc' := 0) (ks' := 0) (StrChars.Road.lenW (W := 0) (s := s.setVm T1030.vm) hZ (fun d hd => hw d (in_wordsLen d hd)) (kI := 4) (own_w hw 1 rfl) g1030E g1030v g1030c g1030V (StrChars.Road.codOf (cs := ([(109 : Int32), (117 : Int32), (116 : Int32), (120 : Int32), (58 : Int32), (123 : Int32), c0, (125 : Int32)] : List Int32)) (n := 8) rfl (fun c hc => (hx1030 c hc).2)) (own_up hx1030) (S_CS.ext O1035.2) hzc (ok rfl) (ok rfl) (ok rfl)) (b := x1030) rfl g1030E (g := (mkF m 179 #[.val (.int p0), .val (.int p1), .val (.int p2), .val (.int p3), .val (.int p4), .val (.int (1 : Int32)), .val (.int c0), .val (.int c1), .val (.int c2), .val (.int c3), .val (.ref b997), .val (.ref x1030), .unset] [(.ref x1030)])) rfl (by rw [hml]; rfl) (argsL := []) (rest := []) (lenOf pd_341 rfl) rfl (by show 2 * 0 + _ ≤ _; exact Nat.le_of_eq rfl) (hb hby at_179) rfl (ok rfl) (ok rfl) ?_
    intro v1036 T1036 L1036 q1036 X1036
    obtain ⟨rfl, rfl, hE1036⟩ := q1036
    have N1036 := Fr.app N1030 (Fr.nil n0)
    show Goes p e below _ T1036 (mkF m 182 #[.val (.int p0), .val (.int p1), .val (.int p2), .val (.int p3), .val (.int p4), .val (.int (1 : Int32)), .val (.int c0), .val (.int c1), .val (.int c2), .val (.int c3), .val (.ref b997), .val (.ref x1030), .unset] [(.int (8 : Int32))])
    refine P1.iload X1036.here hx (hb hby at_182) rfl ?_
    refine P1.bipush X1036.here hx (7 : Int32) (hb hby at_184) rfl ?_
    refine P1.iadd X1036.here hx (hb hby at_186) ?_
    have rw1037 : ((1 : Int32) + (7 : Int32)) = (8 : Int32) := by decide
    rw [rw1037]
    refine P1.icmpYes X1036.here hx 192 (hb hby at_187) (teq (by decide : (8 : Int32) = (8 : Int32))).1 (by decide) (by decide) ?_
    refine P1.aload X1036.here hx (hb hby at_192) rfl rfl ?_
    refine P1.iconst X1036.here hx (0 : Int32) (hb hby at_194) rfl ?_
    refine Goes.callV X1036 hx hZ (y := y13_) (z := y13_) (Qc := fun v h' L => (v = some (.int (([(109 : Int32), (117 : Int32), (116 : Int32), (120 : Int32), (58 : Int32), (123 : Int32), c0, (125 : Int32)] : List Int32).getD 0 0)) ∧ L = [] ∧ h' = T1030.heap)) hown (mvT hZ (own_w hw 154 rfl)) (mvT hZ (own_w hw 155 rfl)) (notFace_of_selects (args := #[]) (mvT hZ (own_w hw 157 rfl))) (mvT hZ (own_w hw 157 rfl)) (mvT hZ (own_w hw 156 rfl)) (by decide) (kc' := 0) (ks' := 0) (StrChars.Road.chN (W := 0) (s := s.setVm T1030.vm) hZ (fun d hd => hw d (in_wordsChN d hd)) (kI := 4) (own_w hw 1 rfl) g1030E g1030v g1030c g1030V (StrChars.Road.codOf (cs := ([(109 : Int32), (117 : Int32), (116 : Int32), (120 : Int32), (58 : Int32), (123 : Int32), c0, (125 : Int32)] : List Int32)) (n := 8) rfl (fun c hc => (hx1030 c hc).2)) (own_up hx1030) (S_CS.ext O1035.2) hzc (S_FM.ext O1035.2) hfm (ok rfl) (i := 0) (ok rfl) (j := (0 : Int32)) rfl (ok rfl) (ok rfl)) (b := x1030) hE1036 g1030E (g := (mkF m 195 #[.val (.int p0), .val (.int p1), .val (.int p2), .val (.int p3), .val (.int p4), .val (.int (1 : Int32)), .val (.int c0), .val (.int c1), .val (.int c2), .val (.int c3), .val (.ref b997), .val (.ref x1030), .unset] [(.int (0 : Int32)), (.ref x1030)])) rfl (by rw [hml]; rfl) (argsL := [(.int (0 : Int32))]) (rest := []) (lenOf pd_577 rfl) rfl (by show 2 * 0 + _ ≤ _; exact Nat.le_of_eq rfl) (hb hby at_195) rfl (ok rfl) (ok rfl) ?_
    intro v1038 T1038 L1038 q1038 X1038
    obtain ⟨rfl, rfl, hE1038⟩ := q1038
    have N1038 := Fr.app N1036 (Fr.nil n0)
    show Goes p e below _ T1038 (mkF m 198 #[.val (.int p0), .val (.int p1), .val (.int p2), .val (.int p3), .val (.int p4), .val (.int (1 : Int32)), .val (.int c0), .val (.int c1), .val (.int c2), .val (.int c3), .val (.ref b997), .val (.ref x1030), .unset] [(.int (109 : Int32))])
    refine P1.bipush X1038.here hx (109 : Int32) (hb hby at_198) rfl ?_
    refine P1.icmpNo X1038.here hx (hb hby at_200) (teq (by decide : (109 : Int32) = (109 : Int32))).2 ?_
    refine P1.aload X1038.here hx (hb hby at_203) rfl rfl ?_
    refine P1.iconst X1038.here hx (1 : Int32) (hb hby at_205) rfl ?_
    refine Goes.callV X1038 hx hZ (y := y13_) (z := y13_) (Qc := fun v h' L => (v = some (.int (([(109 : Int32), (117 : Int32), (116 : Int32), (120 : Int32), (58 : Int32), (123 : Int32), c0, (125 : Int32)] : List Int32).getD 1 0)) ∧ L = [] ∧ h' = T1030.heap)) hown (mvT hZ (own_w hw 154 rfl)) (mvT hZ (own_w hw 155 rfl)) (notFace_of_selects (args := #[]) (mvT hZ (own_w hw 157 rfl))) (mvT hZ (own_w hw 157 rfl)) (mvT hZ (own_w hw 156 rfl)) (by decide) (kc' := 0) (ks' := 0) (StrChars.Road.chN (W := 0) (s := s.setVm T1030.vm) hZ (fun d hd => hw d (in_wordsChN d hd)) (kI := 4) (own_w hw 1 rfl) g1030E g1030v g1030c g1030V (StrChars.Road.codOf (cs := ([(109 : Int32), (117 : Int32), (116 : Int32), (120 : Int32), (58 : Int32), (123 : Int32), c0, (125 : Int32)] : List Int32)) (n := 8) rfl (fun c hc => (hx1030 c hc).2)) (own_up hx1030) (S_CS.ext O1035.2) hzc (S_FM.ext O1035.2) hfm (ok rfl) (i := 1) (ok rfl) (j := (1 : Int32)) rfl (ok rfl) (ok rfl)) (b := x1030) hE1038 g1030E (g := (mkF m 206 #[.val (.int p0), .val (.int p1), .val (.int p2), .val (.int p3), .val (.int p4), .val (.int (1 : Int32)), .val (.int c0), .val (.int c1), .val (.int c2), .val (.int c3), .val (.ref b997), .val (.ref x1030), .unset] [(.int (1 : Int32)), (.ref x1030)])) rfl (by rw [hml]; rfl) (argsL := [(.int (1 : Int32))]) (rest := []) (lenOf pd_577 rfl) rfl (by show 2 * 0 + _ ≤ _; exact Nat.le_of_eq rfl) (hb hby at_206) rfl (ok rfl) (ok rfl) ?_
    intro v1039 T1039 L1039 q1039 X1039
    obtain ⟨rfl, rfl, hE1039⟩ := q1039
    have N1039 := Fr.app N1038 (Fr.nil n0)
    show Goes p e below _ T1039 (mkF m 209 #[.val (.int p0), .val (.int p1), .val (.int p2), .val (.int p3), .val (.int p4), .val (.int (1 : Int32)), .val (.int c0), .val (.int c1), .val (.int c2), .val (.int c3), .val (.ref b997), .val (.ref x1030), .unset] [(.int (117 : Int32))])
    refine P1.bipush X1039.here hx (117 : Int32) (hb hby at_209) rfl ?_
    refine P1.icmpNo X1039.here hx (hb hby at_211) (teq (by decide : (117 : Int32) = (117 : Int32))).2 ?_
    refine P1.aload X1039.here hx (hb hby at_214) rfl rfl ?_
    refine P1.iconst X1039.here hx (2 : Int32) (hb hby at_216) rfl ?_
    refine Goes.callV X1039 hx hZ (y := y13_) (z := y13_) (Qc := fun v h' L => (v = some (.int (([(109 : Int32), (117 : Int32), (116 : Int32), (120 : Int32), (58 : Int32), (123 : Int32), c0, (125 : Int32)] : List Int32).getD 2 0)) ∧ L = [] ∧ h' = T1030.heap)) hown (mvT hZ (own_w hw 154 rfl)) (mvT hZ (own_w hw 155 rfl)) (notFace_of_selects (args := #[]) (mvT hZ (own_w hw 157 rfl))) (mvT hZ (own_w hw 157 rfl)) (mvT hZ (own_w hw 156 rfl)) (by decide) (kc' := 0) (ks' := 0) (StrChars.Road.chN (W := 0) (s := s.setVm T1030.vm) hZ (fun d hd => hw d (in_wordsChN d hd)) (kI := 4) (own_w hw 1 rfl) g1030E g1030v g1030c g1030V (StrChars.Road.codOf (cs := ([(109 : Int32), (117 : Int32), (116 : Int32), (120 : Int32), (58 : Int32), (123 : Int32), c0, (125 : Int32)] : List Int32)) (n := 8) rfl (fun c hc => (hx1030 c hc).2)) (own_up hx1030) (S_CS.ext O1035.2) hzc (S_FM.ext O1035.2) hfm (ok rfl) (i := 2) (ok rfl) (j := (2 : Int32)) rfl (ok rfl) (ok rfl)) (b := x1030) hE1039 g1030E (g := (mkF m 217 #[.val (.int p0), .val (.int p1), .val (.int p2), .val (.int p3), .val (.int p4), .val (.int (1 : Int32)), .val (.int c0), .val (.int c1), .val (.int c2), .val (.int c3), .val (.ref b997), .val (.ref x1030), .unset] [(.int (2 : Int32)), (.ref x1030)])) rfl (by rw [hml]; rfl) (argsL := [(.int (2 : Int32))]) (rest := []) (lenOf pd_577 rfl) rfl (by show 2 * 0 + _ ≤ _; exact Nat.le_of_eq rfl) (hb hby at_217) rfl (ok rfl) (ok rfl) ?_
    intro v1040 T1040 L1040 q1040 X1040
    obtain ⟨rfl, rfl, hE1040⟩ := q1040
    have N1040 := Fr.app N1039 (Fr.nil n0)
    show Goes p e below _ T1040 (mkF m 220 #[.val (.int p0), .val (.int p1), .val (.int p2), .val (.int p3), .val (.int p4), .val (.int (1 : Int32)), .val (.int c0), .val (.int c1), .val (.int c2), .val (.int c3), .val (.ref b997), .val (.ref x1030), .unset] [(.int (116 : Int32))])
    refine P1.bipush X1040.here hx (116 : Int32) (hb hby at_220) rfl ?_
    refine P1.icmpNo X1040.here hx (hb hby at_222) (teq (by decide : (116 : Int32) = (116 : Int32))).2 ?_
    refine P1.aload X1040.here hx (hb hby at_225) rfl rfl ?_
    refine P1.iconst X1040.here hx (3 : Int32) (hb hby at_227) rfl ?_
    refine Goes.callV X1040 hx hZ (y := y13_) (z := y13_) (Qc := fun v h' L => (v = some (.int (([(109 : Int32), (117 : Int32), (116 : Int32), (120 : Int32), (58 : Int32), (123 : Int32), c0, (125 : Int32)] : List Int32).getD 3 0)) ∧ L = [] ∧ h' = T1030.heap)) hown (mvT hZ (own_w hw 154 rfl)) (mvT hZ (own_w hw 155 rfl)) (notFace_of_selects (args := #[]) (mvT hZ (own_w hw 157 rfl))) (mvT hZ (own_w hw 157 rfl)) (mvT hZ (own_w hw 156 rfl)) (by decide) (kc' := 0) (ks' := 0) (StrChars.Road.chN (W := 0) (s := s.setVm T1030.vm) hZ (fun d hd => hw d (in_wordsChN d hd)) (kI := 4) (own_w hw 1 rfl) g1030E g1030v g1030c g1030V (StrChars.Road.codOf (cs := ([(109 : Int32), (117 : Int32), (116 : Int32), (120 : Int32), (58 : Int32), (123 : Int32), c0, (125 : Int32)] : List Int32)) (n := 8) rfl (fun c hc => (hx1030 c hc).2)) (own_up hx1030) (S_CS.ext O1035.2) hzc (S_FM.ext O1035.2) hfm (ok rfl) (i := 3) (ok rfl) (j := (3 : Int32)) rfl (ok rfl) (ok rfl)) (b := x1030) hE1040 g1030E (g := (mkF m 228 #[.val (.int p0), .val (.int p1), .val (.int p2), .val (.int p3), .val (.int p4), .val (.int (1 : Int32)), .val (.int c0), .val (.int c1), .val (.int c2), .val (.int c3), .val (.ref b997), .val (.ref x1030), .unset] [(.int (3 : Int32)), (.ref x1030)])) rfl (by rw [hml]; rfl) (argsL := [(.int (3 : Int32))]) (rest := []) (lenOf pd_577 rfl) rfl (by show 2 * 0 + _ ≤ _; exact Nat.le_of_eq rfl) (hb hby at_228) rfl (ok rfl) (ok rfl) ?_
    intro v1041 T1041 L1041 q1041 X1041
    obtain ⟨rfl, rfl, hE1041⟩ := q1041
    have N1041 := Fr.app N1040 (Fr.nil n0)
    show Goes p e below _ T1041 (mkF m 231 #[.val (.int p0), .val (.int p1), .val (.int p2), .val (.int p3), .val (.int p4), .val (.int (1 : Int32)), .val (.int c0), .val (.int c1), .val (.int c2), .val (.int c3), .val (.ref b997), .val (.ref x1030), .unset] [(.int (120 : Int32))])
    refine P1.bipush X1041.here hx (120 : Int32) (hb hby at_231) rfl ?_
    refine P1.icmpNo X1041.here hx (hb hby at_233) (teq (by decide : (120 : Int32) = (120 : Int32))).2 ?_
    refine P1.aload X1041.here hx (hb hby at_236) rfl rfl ?_
    refine P1.iconst X1041.here hx (4 : Int32) (hb hby at_238) rfl ?_
    refine Goes.callV X1041 hx hZ (y := y13_) (z := y13_) (Qc := fun v h' L => (v = some (.int (([(109 : Int32), (117 : Int32), (116 : Int32), (120 : Int32), (58 : Int32), (123 : Int32), c0, (125 : Int32)] : List Int32).getD 4 0)) ∧ L = [] ∧ h' = T1030.heap)) hown (mvT hZ (own_w hw 154 rfl)) (mvT hZ (own_w hw 155 rfl)) (notFace_of_selects (args := #[]) (mvT hZ (own_w hw 157 rfl))) (mvT hZ (own_w hw 157 rfl)) (mvT hZ (own_w hw 156 rfl)) (by decide) (kc' := 0) (ks' := 0) (StrChars.Road.chN (W := 0) (s := s.setVm T1030.vm) hZ (fun d hd => hw d (in_wordsChN d hd)) (kI := 4) (own_w hw 1 rfl) g1030E g1030v g1030c g1030V (StrChars.Road.codOf (cs := ([(109 : Int32), (117 : Int32), (116 : Int32), (120 : Int32), (58 : Int32), (123 : Int32), c0, (125 : Int32)] : List Int32)) (n := 8) rfl (fun c hc => (hx1030 c hc).2)) (own_up hx1030) (S_CS.ext O1035.2) hzc (S_FM.ext O1035.2) hfm (ok rfl) (i := 4) (ok rfl) (j := (4 : Int32)) rfl (ok rfl) (ok rfl)) (b := x1030) hE1041 g1030E (g := (mkF m 239 #[.val (.int p0), .val (.int p1), .val (.int p2), .val (.int p3), .val (.int p4), .val (.int (1 : Int32)), .val (.int c0), .val (.int c1), .val (.int c2), .val (.int c3), .val (.ref b997), .val (.ref x1030), .unset] [(.int (4 : Int32)), (.ref x1030)])) rfl (by rw [hml]; rfl) (argsL := [(.int (4 : Int32))]) (rest := []) (lenOf pd_577 rfl) rfl (by show 2 * 0 + _ ≤ _; exact Nat.le_of_eq rfl) (hb hby at_239) rfl (ok rfl) (ok rfl) ?_
    intro v1042 T1042 L1042 q1042 X1042
    obtain ⟨rfl, rfl, hE1042⟩ := q1042
    have N1042 := Fr.app N1041 (Fr.nil n0)
    show Goes p e below _ T1042 (mkF m 242 #[.val (.int p0), .val (.int p1), .val (.int p2), .val (.int p3), .val (.int p4), .val (.int (1 : Int32)), .val (.int c0), .val (.int c1), .val (.int c2), .val (.int c3), .val (.ref b997), .val (.ref x1030), .unset] [(.int (58 : Int32))])
    refine P1.bipush X1042.here hx (58 : Int32) (hb hby at_242) rfl ?_
    refine P1.icmpNo X1042.here hx (hb hby at_244) (teq (by decide : (58 : Int32) = (58 : Int32))).2 ?_
    refine P1.aload X1042.here hx (hb hby at_247) rfl rfl ?_
    refine P1.iconst X1042.here hx (5 : Int32) (hb hby at_249) rfl ?_
    refine Goes.callV X1042 hx hZ (y := y13_) (z := y13_) (Qc := fun v h' L => (v = some (.int (([(109 : Int32), (117 : Int32), (116 : Int32), (120 : Int32), (58 : Int32), (123 : Int32), c0, (125 : Int32)] : List Int32).getD 5 0)) ∧ L = [] ∧ h' = T1030.heap)) hown (mvT hZ (own_w hw 154 rfl)) (mvT hZ (own_w hw 155 rfl)) (notFace_of_selects (args := #[]) (mvT hZ (own_w hw 157 rfl))) (mvT hZ (own_w hw 157 rfl)) (mvT hZ (own_w hw 156 rfl)) (by decide) (kc' := 0) (ks' := 0) (StrChars.Road.chN (W := 0) (s := s.setVm T1030.vm) hZ (fun d hd => hw d (in_wordsChN d hd)) (kI := 4) (own_w hw 1 rfl) g1030E g1030v g1030c g1030V (StrChars.Road.codOf (cs := ([(109 : Int32), (117 : Int32), (116 : Int32), (120 : Int32), (58 : Int32), (123 : Int32), c0, (125 : Int32)] : List Int32)) (n := 8) rfl (fun c hc => (hx1030 c hc).2)) (own_up hx1030) (S_CS.ext O1035.2) hzc (S_FM.ext O1035.2) hfm (ok rfl) (i := 5) (ok rfl) (j := (5 : Int32)) rfl (ok rfl) (ok rfl)) (b := x1030) hE1042 g1030E (g := (mkF m 250 #[.val (.int p0), .val (.int p1), .val (.int p2), .val (.int p3), .val (.int p4), .val (.int (1 : Int32)), .val (.int c0), .val (.int c1), .val (.int c2), .val (.int c3), .val (.ref b997), .val (.ref x1030), .unset] [(.int (5 : Int32)), (.ref x1030)])) rfl (by rw [hml]; rfl) (argsL := [(.int (5 : Int32))]) (rest := []) (lenOf pd_577 rfl) rfl (by show 2 * 0 + _ ≤ _; exact Nat.le_of_eq rfl) (hb hby at_250) rfl (ok rfl) (ok rfl) ?_
    intro v1043 T1043 L1043 q1043 X1043
    obtain ⟨rfl, rfl, hE1043⟩ := q1043
    have N1043 := Fr.app N1042 (Fr.nil n0)
    show Goes p e below _ T1043 (mkF m 253 #[.val (.int p0), .val (.int p1), .val (.int p2), .val (.int p3), .val (.int p4), .val (.int (1 : Int32)), .val (.int c0), .val (.int c1), .val (.int c2), .val (.int c3), .val (.ref b997), .val (.ref x1030), .unset] [(.int (123 : Int32))])
    refine P1.bipush X1043.here hx (123 : Int32) (hb hby at_253) rfl ?_
    refine P1.icmpNo X1043.here hx (hb hby at_255) (teq (by decide : (123 : Int32) = (123 : Int32))).2 ?_
    refine P1.iconst X1043.here hx (1 : Int32) (hb hby at_258) rfl ?_
    refine P1.goto X1043.here hx 263 (hb hby at_259) (by decide) (by decide) ?_
    refine P1.istore X1043.here hx #[.val (.int p0), .val (.int p1), .val (.int p2), .val (.int p3), .val (.int p4), .val (.int (1 : Int32)), .val (.int c0), .val (.int c1), .val (.int c2), .val (.int c3), .val (.ref b997), .val (.ref x1030), .val (.int (1 : Int32))] (hb hby at_263) rfl ?_
    refine P1.iload X1043.here hx (hb hby at_265) rfl ?_
    refine P1.ifNo X1043.here hx (hb hby at_267) ((if0 _ _).trans (feq (by decide : ¬ ((1 : Int32) = (0 : Int32)))).1) ?_
    refine P1.aload X1043.here hx (hb hby at_270) rfl rfl ?_
    refine P1.bipush X1043.here hx (6 : Int32) (hb hby at_272) rfl ?_
    refine Goes.callV X1043 hx hZ (y := y13_) (z := y13_) (Qc := fun v h' L => (v = some (.int (([(109 : Int32), (117 : Int32), (116 : Int32), (120 : Int32), (58 : Int32), (123 : Int32), c0, (125 : Int32)] : List Int32).getD 6 0)) ∧ L = [] ∧ h' = T1030.heap)) hown (mvT hZ (own_w hw 154 rfl)) (mvT hZ (own_w hw 155 rfl)) (notFace_of_selects (args := #[]) (mvT hZ (own_w hw 157 rfl))) (mvT hZ (own_w hw 157 rfl)) (mvT hZ (own_w hw 156 rfl)) (by decide) (kc' := 0) (ks' := 0) (StrChars.Road.chN (W := 0) (s := s.setVm T1030.vm) hZ (fun d hd => hw d (in_wordsChN d hd)) (kI := 4) (own_w hw 1 rfl) g1030E g1030v g1030c g1030V (StrChars.Road.codOf (cs := ([(109 : Int32), (117 : Int32), (116 : Int32), (120 : Int32), (58 : Int32), (123 : Int32), c0, (125 : Int32)] : List Int32)) (n := 8) rfl (fun c hc => (hx1030 c hc).2)) (own_up hx1030) (S_CS.ext O1035.2) hzc (S_FM.ext O1035.2) hfm (ok rfl) (i := 6) (ok rfl) (j := (6 : Int32)) rfl (ok rfl) (ok rfl)) (b := x1030) hE1043 g1030E (g := (mkF m 274 #[.val (.int p0), .val (.int p1), .val (.int p2), .val (.int p3), .val (.int p4), .val (.int (1 : Int32)), .val (.int c0), .val (.int c1), .val (.int c2), .val (.int c3), .val (.ref b997), .val (.ref x1030), .val (.int (1 : Int32))] [(.int (6 : Int32)), (.ref x1030)])) rfl (by rw [hml]; rfl) (argsL := [(.int (6 : Int32))]) (rest := []) (lenOf pd_577 rfl) rfl (by show 2 * 0 + _ ≤ _; exact Nat.le_of_eq rfl) (hb hby at_274) rfl (ok rfl) (ok rfl) ?_
    intro v1044 T1044 L1044 q1044 X1044
    obtain ⟨rfl, rfl, hE1044⟩ := q1044
    have N1044 := Fr.app N1043 (Fr.nil n0)
    show Goes p e below _ T1044 (mkF m 277 #[.val (.int p0), .val (.int p1), .val (.int p2), .val (.int p3), .val (.int p4), .val (.int (1 : Int32)), .val (.int c0), .val (.int c1), .val (.int c2), .val (.int c3), .val (.ref b997), .val (.ref x1030), .val (.int (1 : Int32))] [(.int c0)])
    refine P1.iload X1044.here hx (hb hby at_277) rfl ?_
    refine P1.icmpNo X1044.here hx (hb hby at_279) (teq (rfl : c0 = c0)).2 ?_
    refine P1.iconst X1044.here hx (1 : Int32) (hb hby at_282) rfl ?_
    refine P1.goto X1044.here hx 287 (hb hby at_283) (by decide) (by decide) ?_
    refine P1.istore X1044.here hx #[.val (.int p0), .val (.int p1), .val (.int p2), .val (.int p3), .val (.int p4), .val (.int (1 : Int32)), .val (.int c0), .val (.int c1), .val (.int c2), .val (.int c3), .val (.ref b997), .val (.ref x1030), .val (.int (1 : Int32))] (hb hby at_287) rfl ?_
    refine P1.iload X1044.here hx (hb hby at_289) rfl ?_
    refine P1.iconst X1044.here hx (2 : Int32) (hb hby at_291) rfl ?_
    refine P1.icmpYes X1044.here hx 319 (hb hby at_292) (tlt (by decide : (1 : Int32) < (2 : Int32))).1 (by decide) (by decide) ?_
    refine P1.iload X1044.here hx (hb hby at_319) rfl ?_
    refine P1.iconst X1044.here hx (3 : Int32) (hb hby at_321) rfl ?_
    refine P1.icmpYes X1044.here hx 349 (hb hby at_322) (tlt (by decide : (1 : Int32) < (3 : Int32))).1 (by decide) (by decide) ?_
    refine P1.iload X1044.here hx (hb hby at_349) rfl ?_
    refine P1.iconst X1044.here hx (4 : Int32) (hb hby at_351) rfl ?_
    refine P1.icmpYes X1044.here hx 379 (hb hby at_352) (tlt (by decide : (1 : Int32) < (4 : Int32))).1 (by decide) (by decide) ?_
    refine P1.iload X1044.here hx (hb hby at_379) rfl ?_
    refine P1.ifNo X1044.here hx (hb hby at_381) ((if0 _ _).trans (feq (by decide : ¬ ((1 : Int32) = (0 : Int32)))).1) ?_
    refine P1.aload X1044.here hx (hb hby at_384) rfl rfl ?_
    refine P1.iload X1044.here hx (hb hby at_386) rfl ?_
    refine P1.bipush X1044.here hx (6 : Int32) (hb hby at_388) rfl ?_
    refine P1.iadd X1044.here hx (hb hby at_390) ?_
    have rw1045 : ((1 : Int32) + (6 : Int32)) = (7 : Int32) := by decide
    rw [rw1045]
    refine Goes.callV X1044 hx hZ (y := y13_) (z := y13_) (Qc := fun v h' L => (v = some (.int (([(109 : Int32), (117 : Int32), (116 : Int32), (120 : Int32), (58 : Int32), (123 : Int32), c0, (125 : Int32)] : List Int32).getD 7 0)) ∧ L = [] ∧ h' = T1030.heap)) hown (mvT hZ (own_w hw 154 rfl)) (mvT hZ (own_w hw 155 rfl)) (notFace_of_selects (args := #[]) (mvT hZ (own_w hw 157 rfl))) (mvT hZ (own_w hw 157 rfl)) (mvT hZ (own_w hw 156 rfl)) (by decide) (kc' := 0) (ks' := 0) (StrChars.Road.chN (W := 0) (s := s.setVm T1030.vm) hZ (fun d hd => hw d (in_wordsChN d hd)) (kI := 4) (own_w hw 1 rfl) g1030E g1030v g1030c g1030V (StrChars.Road.codOf (cs := ([(109 : Int32), (117 : Int32), (116 : Int32), (120 : Int32), (58 : Int32), (123 : Int32), c0, (125 : Int32)] : List Int32)) (n := 8) rfl (fun c hc => (hx1030 c hc).2)) (own_up hx1030) (S_CS.ext O1035.2) hzc (S_FM.ext O1035.2) hfm (ok rfl) (i := 7) (ok rfl) (j := (7 : Int32)) rfl (ok rfl) (ok rfl)) (b := x1030) hE1044 g1030E (g := (mkF m 391 #[.val (.int p0), .val (.int p1), .val (.int p2), .val (.int p3), .val (.int p4), .val (.int (1 : Int32)), .val (.int c0), .val (.int c1), .val (.int c2), .val (.int c3), .val (.ref b997), .val (.ref x1030), .val (.int (1 : Int32))] [(.int (7 : Int32)), (.ref x1030)])) rfl (by rw [hml]; rfl) (argsL := [(.int (7 : Int32))]) (rest := []) (lenOf pd_577 rfl) rfl (by show 2 * 0 + _ ≤ _; exact Nat.le_of_eq rfl) (hb hby at_391) rfl (ok rfl) (ok rfl) ?_
    intro v1046 T1046 L1046 q1046 X1046
    obtain ⟨rfl, rfl, hE1046⟩ := q1046
    have N1046 := Fr.app N1044 (Fr.nil n0)
    show Goes p e below _ T1046 (mkF m 394 #[.val (.int p0), .val (.int p1), .val (.int p2), .val (.int p3), .val (.int p4), .val (.int (1 : Int32)), .val (.int c0), .val (.int c1), .val (.int c2), .val (.int c3), .val (.ref b997), .val (.ref x1030), .val (.int (1 : Int32))] [(.int (125 : Int32))])
    refine P1.bipush X1046.here hx (125 : Int32) (hb hby at_394) rfl ?_
    refine P1.icmpNo X1046.here hx (hb hby at_396) (teq (by decide : (125 : Int32) = (125 : Int32))).2 ?_
    refine P1.iconst X1046.here hx (1 : Int32) (hb hby at_399) rfl ?_
    refine P1.goto X1046.here hx 404 (hb hby at_400) (by decide) (by decide) ?_
    refine P1.istore X1046.here hx #[.val (.int p0), .val (.int p1), .val (.int p2), .val (.int p3), .val (.int p4), .val (.int (1 : Int32)), .val (.int c0), .val (.int c1), .val (.int c2), .val (.int c3), .val (.ref b997), .val (.ref x1030), .val (.int (1 : Int32))] (hb hby at_404) rfl ?_
    refine P1.iload X1046.here hx (hb hby at_406) rfl ?_
    have CR1047 : CHr Z EL1 s.vm h0 T1030.vm T1030.heap := CR1029.trans CW1030
    refine Goes.retNW X1046 hx Bd.notSynchronized hS1030 ks1030 hZ hEL (hh ▸ CR1047) hE1046 (t := .boolean) Bd.returns (by simp) (hb hby at_408) (ok rfl) (ok rfl) ?_
    exact ⟨rfl, N1046⟩
  ·
    refine P1.icmpYes X0.here hx 66 (hb hby at_43) (feq (hn1 : ¬ (nn = (1 : Int32)))).2 (by decide) (by decide) ?_
    refine P1.iload X0.here hx (hb hby at_66) rfl ?_
    refine P1.iconst X0.here hx (2 : Int32) (hb hby at_68) rfl ?_
    by_cases hn2 : nn = (2 : Int32)
    ·
      have rw1048 : nn = (2 : Int32) := hn2
      rw [rw1048]
      refine P1.icmpNo X0.here hx (hb hby at_69) (teq (by decide : (2 : Int32) = (2 : Int32))).2 ?_
      obtain ⟨T1049, h1049, X1049, e1049, E1049, A1049, D1049, -, st1049⟩ := newO X0 hx hZ hown (own_w hw 0 rfl) (own_w hw 1 rfl) (own_w hw 2 rfl) e0 (g := (mkF m 72 #[.val (.int p0), .val (.int p1), .val (.int p2), .val (.int p3), .val (.int p4), .val (.int (2 : Int32)), .val (.int c0), .val (.int c1), .val (.int c2), .val (.int c3), .unset, .unset, .unset] [])) rfl (hb hby at_72) (ok rfl) (ok rfl)
      obtain ⟨b1049, g1049⟩ : ∃ z, z = h0.size := ⟨_, rfl⟩
      rw [← g1049] at A1049 D1049 st1049
      have ge_b1049 : n0 ≤ b1049 := Nat.le_trans Z0 (Nat.le_of_eq g1049.symm)
      have sz_b1049 : h0.size ≤ b1049 := Nat.le_trans K0.1 (Nat.le_of_eq g1049.symm)
      have sf_b1049 : Safe Z EL1 s.vm h0 b1049 := Safe.new (Nat.le_of_eq g1049.symm)
      have F1049_coder : Fld Z h1049 b1049 "java/lang/String" "coder" "B" (.int (0 : Int32)) := D1049 (Or.inr (own_w hw 27 rfl)) (ty := .byte) (by decide)
      have F1049_value : Fld Z h1049 b1049 "java/lang/String" "value" "[B" .null := D1049 (Or.inr (own_w hw 29 rfl)) (ty := (.array .byte)) (by decide)
      refine Goes.step (T' := T1049) (g' := (mkF m 75 #[.val (.int p0), .val (.int p1), .val (.int p2), .val (.int p3), .val (.int p4), .val (.int (2 : Int32)), .val (.int c0), .val (.int c1), .val (.int c2), .val (.int c3), .unset, .unset, .unset] [(.ref b1049)])) st1049 ?_
      refine P1.dup X1049.here hx (hb hby at_75) rfl ?_
      refine P1.iconst X1049.here hx (2 : Int32) (hb hby at_76) rfl ?_
      obtain ⟨T1050, h1050, k1050, X1050, e1050, E1050, A1050, st1050⟩ := newP X1049 hx hZ (own_w hw 3 rfl) e1049 (g := (mkF m 77 #[.val (.int p0), .val (.int p1), .val (.int p2), .val (.int p3), .val (.int p4), .val (.int (2 : Int32)), .val (.int c0), .val (.int c1), .val (.int c2), .val (.int c3), .unset, .unset, .unset] [(.int (2 : Int32)), (.ref b1049), (.ref b1049)])) rfl (hb hby at_77) rfl (by decide) (cap := 2) (ok rfl) (ok rfl) (ok rfl) (ok rfl)
      have Z1051 : n0 ≤ h1049.size := Nat.le_trans Z0 E1049.1
      have K1052 : Keep h0 h1049 [] := K0.ext E1049
      obtain ⟨b1050, g1050⟩ : ∃ z, z = h1049.size := ⟨_, rfl⟩
      rw [← g1050] at A1050 st1050
      have ge_b1050 : n0 ≤ b1050 := Nat.le_trans Z1051 (Nat.le_of_eq g1050.symm)
      have sz_b1050 : h0.size ≤ b1050 := Nat.le_trans K1052.1 (Nat.le_of_eq g1050.symm)
      have sf_b1050 : Safe Z EL1 s.vm h1049 b1050 := Safe.new (Nat.le_of_eq g1050.symm)
      have V1050 : Arv Z h1050 b1050 k1050 .char (2 : Int32) [(.int (0 : Int32)), (.int (0 : Int32))] (.int (0 : Int32)) := (Arv.new A1050 (by decide)).pad (pad_rep [] (.int (0 : Int32)) 2)
      refine Goes.step (T' := T1050) (g' := (mkF m 79 #[.val (.int p0), .val (.int p1), .val (.int p2), .val (.int p3), .val (.int p4), .val (.int (2 : Int32)), .val (.int c0), .val (.int c1), .val (.int c2), .val (.int c3), .unset, .unset, .unset] [(.ref b1050), (.ref b1049), (.ref b1049)])) st1050 ?_
      refine P1.dup X1050.here hx (hb hby at_79) rfl ?_
      refine P1.iconst X1050.here hx (0 : Int32) (hb hby at_80) rfl ?_
      refine P1.iload X1050.here hx (hb hby at_81) rfl ?_
      obtain ⟨cl1053, Ar1053, qk1053, sl1053, nz1053, ha1053, fi1053⟩ := id V1050
      obtain ⟨T1054, h1054, X1054, e1054, W1054, st1054⟩ := stC X1050 hx hZ e1050 Ar1053 (j := (0 : Int32)) (inb_of sl1053 ⟨by decide, by decide⟩) (g := (mkF m 83 #[.val (.int p0), .val (.int p1), .val (.int p2), .val (.int p3), .val (.int p4), .val (.int (2 : Int32)), .val (.int c0), .val (.int c1), .val (.int c2), .val (.int c3), .unset, .unset, .unset] [(.int c0), (.int (0 : Int32)), (.ref b1050), (.ref b1050), (.ref b1049), (.ref b1049)])) rfl rfl (hb hby at_83)
      rw [(own_nar bd_c0)] at W1054
      have V1054 : Arv Z h1054 b1050 k1050 .char (2 : Int32) [(.int c0), (.int (0 : Int32))] (.int (0 : Int32)) := Arv.set Ar1053 qk1053 sl1053 nz1053 ha1053 fi1053 ((own_nar bd_c0) ▸ fits_nar_char c0) W1054 0 rfl (ok rfl)
      have N1054 := Fr.snoc X1054 N0 ge_b1050
      refine Goes.step (T' := T1054) (g' := (mkF m 84 #[.val (.int p0), .val (.int p1), .val (.int p2), .val (.int p3), .val (.int p4), .val (.int (2 : Int32)), .val (.int c0), .val (.int c1), .val (.int c2), .val (.int c3), .unset, .unset, .unset] [(.ref b1050), (.ref b1049), (.ref b1049)])) st1054 ?_
      refine P1.dup X1054.here hx (hb hby at_84) rfl ?_
      refine P1.iconst X1054.here hx (1 : Int32) (hb hby at_85) rfl ?_
      refine P1.iload X1054.here hx (hb hby at_86) rfl ?_
      obtain ⟨cl1055, Ar1055, qk1055, sl1055, nz1055, ha1055, fi1055⟩ := id V1054
      obtain ⟨T1056, h1056, X1056, e1056, W1056, st1056⟩ := stC X1054 hx hZ e1054 Ar1055 (j := (1 : Int32)) (inb_of sl1055 ⟨by decide, by decide⟩) (g := (mkF m 88 #[.val (.int p0), .val (.int p1), .val (.int p2), .val (.int p3), .val (.int p4), .val (.int (2 : Int32)), .val (.int c0), .val (.int c1), .val (.int c2), .val (.int c3), .unset, .unset, .unset] [(.int c1), (.int (1 : Int32)), (.ref b1050), (.ref b1050), (.ref b1049), (.ref b1049)])) rfl rfl (hb hby at_88)
      rw [(own_nar bd_c1)] at W1056
      have V1056 : Arv Z h1056 b1050 k1050 .char (2 : Int32) [(.int c0), (.int c1)] (.int (0 : Int32)) := Arv.set Ar1055 qk1055 sl1055 nz1055 ha1055 fi1055 ((own_nar bd_c1) ▸ fits_nar_char c1) W1056 1 rfl (ok rfl)
      have N1056 := Fr.snoc X1056 N1054 ge_b1050
      refine Goes.step (T' := T1056) (g' := (mkF m 89 #[.val (.int p0), .val (.int p1), .val (.int p2), .val (.int p3), .val (.int p4), .val (.int (2 : Int32)), .val (.int c0), .val (.int c1), .val (.int c2), .val (.int c3), .unset, .unset, .unset] [(.ref b1050), (.ref b1049), (.ref b1049)])) st1056 ?_
      have E1057 : Exa Z h1050 b1049 "java/lang/String" := A1049.ext E1050
      have E1058 : Exa Z h1054 b1049 "java/lang/String" := E1057.wr W1054
      have E1059 : Exa Z h1056 b1049 "java/lang/String" := E1058.wr W1056
      have F1060 : Fld Z h1050 b1049 "java/lang/String" "value" "[B" .null := F1049_value.ext E1050
      have ne1061 : b1049 ≠ b1050 := Nat.ne_of_lt (Nat.lt_of_lt_of_le A1049.lt (Nat.le_of_eq g1050.symm))
      have F1062 : Fld Z h1054 b1049 "java/lang/String" "value" "[B" .null := F1060.other W1054 (Or.inl ne1061)
      have F1063 : Fld Z h1056 b1049 "java/lang/String" "value" "[B" .null := F1062.other W1056 (Or.inl ne1061)
      have F1064 : Fld Z h1050 b1049 "java/lang/String" "coder" "B" (.int (0 : Int32)) := F1049_coder.ext E1050
      have F1065 : Fld Z h1054 b1049 "java/lang/String" "coder" "B" (.int (0 : Int32)) := F1064.other W1054 (Or.inl ne1061)
      have F1066 : Fld Z h1056 b1049 "java/lang/String" "coder" "B" (.int (0 : Int32)) := F1065.other W1056 (Or.inl ne1061)
      have Z1067 : n0 ≤ h1050.size := Nat.le_trans Z1051 E1050.1
      have Z1068 : n0 ≤ h1054.size := Nat.le_trans Z1067 (Keep.of_wr W1054).1
      have Z1069 : n0 ≤ h1056.size := Nat.le_trans Z1068 (Keep.of_wr W1056).1
      have hq1070 : ∀ c ∈ ([c0, c1] : List Int32), ¬ c < 0 ∧ ¬ (255 : Int32) < c := by
        intro c hc
        simp only [List.mem_cons, List.not_mem_nil, or_false] at hc
        rcases hc with rfl | rfl
        · exact bd_c0
        · exact bd_c1
      have hp1071 : ∀ c ∈ ([c0, c1] : List Int32), ¬ c < 0 ∧ ¬ (255 : Int32) < c := hq1070
      have O1072 : Old Z n0 h1049 := O0.ext E1049
      have O1073 : Old Z n0 h1050 := O1072.ext E1050
      have O1074 : Old Z n0 h1054 := O1073.wr W1054 ge_b1050
      have O1075 : Old Z n0 h1056 := O1074.wr W1056 ge_b1050
      refine Goes.callC X1056 hx (y := y12_) rfl hown (mvT hZ (own_w hw 4 rfl)) (mvT hZ (own_w hw 5 rfl)) (mvT hZ (own_w hw 6 rfl)) (by decide) (kc' := 1) (ks' := 2) (StrChars.Road.backV (W := 1) hZ (fun d hd => hw d (in_words d hd)) (kI := 4) (own_w hw 1 rfl) (cs := ([c0, c1] : List Int32)) (bs := ([c0, c1] : List Int32).map (fun c => c.toInt8.toInt32)) (n := 2) ge_b1049 Z1069 E1059 F1063 F1066 V1056 (S_CS.ext O1075.2) hzc rfl rfl (by decide) (by decide) hp1071 rfl (ok rfl) (ok rfl)) (g := (mkF m 89 #[.val (.int p0), .val (.int p1), .val (.int p2), .val (.int p3), .val (.int p4), .val (.int (2 : Int32)), .val (.int c0), .val (.int c1), .val (.int c2), .val (.int c3), .unset, .unset, .unset] [(.ref b1050), (.ref b1049), (.ref b1049)])) (a := b1049) rfl (by rw [hml]; rfl) (argsL := [(.ref b1050)]) (rest := [(.ref b1049)]) (lenOf pd_1017 rfl) rfl (by show 2 * 0 + _ ≤ _; exact Nat.le_of_eq rfl) (hb hby at_89) rfl e1056 (ok rfl) (ok rfl) ?_
      intro v1076 T1076 L1076 q1076 X1076
      obtain ⟨rfl, N1076q, K1076, g1076E, g1076C, t1076, kb1076, ge_t1076, szt1076, net1076, g1076V, g1076K⟩ := q1076
      have K1077 : Keep h0 h1050 [] := K1052.ext E1050
      have K1078 : Keep h0 h1054 [] := K1077.wr W1054 (Or.inr sz_b1050)
      have K1079 : Keep h0 h1056 [] := K1078.wr W1056 (Or.inr sz_b1050)
      have N1076 := Fr.app N1056 N1076q
      have sz_t1076 : h0.size ≤ t1076 := Nat.le_trans K1079.1 szt1076
      show Goes p e below _ T1076 (mkF m 92 #[.val (.int p0), .val (.int p1), .val (.int p2), .val (.int p3), .val (.int p4), .val (.int (2 : Int32)), .val (.int c0), .val (.int c1), .val (.int c2), .val (.int c3), .unset, .unset, .unset] [(.ref b1049)])
      refine P1.astore X1076.here hx #[.val (.int p0), .val (.int p1), .val (.int p2), .val (.int p3), .val (.int p4), .val (.int (2 : Int32)), .val (.int c0), .val (.int c1), .val (.int c2), .val (.int c3), .val (.ref b1049), .unset, .unset] (hb hby at_92) rfl rfl ?_
      refine P1.goto X1076.here hx 165 (hb hby at_94) (by decide) (by decide) ?_
      refine P1.aload X1076.here hx (hb hby at_165) rfl rfl ?_
      have Z1080 : n0 ≤ T1076.heap.size := Nat.le_trans Z1069 K1076.1
      have O1081 : Old Z n0 T1076.heap := O1075.keep K1076 (allS ge_b1049 all0)
      have CR1082 : CHr Z EL1 s.vm h0 s.vm h1049 := CR0.trans (CHr.ext E1049 CR0.1)
      have CR1083 : CHr Z EL1 s.vm h0 s.vm h1050 := CR1082.trans (CHr.ext E1050 CR1082.1)
      have sf1084 : Safe Z EL1 s.vm h1050 b1050 := Safe.ext E1050 CR1082.1 sf_b1050
      have CR1085 : CHr Z EL1 s.vm h0 s.vm h1054 := CR1083.trans (CHr.wr W1054 sf1084 CR1083.1)
      have sf1086 : Safe Z EL1 s.vm h1054 b1050 := Safe.wr W1054 sf1084 CR1083.1 sf1084
      have CR1087 : CHr Z EL1 s.vm h0 s.vm h1056 := CR1085.trans (CHr.wr W1056 sf1086 CR1085.1)
      have sf1088 : Safe Z EL1 s.vm h1049 b1049 := Safe.ext E1049 CR0.1 sf_b1049
      have sf1089 : Safe Z EL1 s.vm h1050 b1049 := Safe.ext E1050 CR1082.1 sf1088
      have sf1090 : Safe Z EL1 s.vm h1054 b1049 := Safe.wr W1054 sf1084 CR1083.1 sf1089
      have sf1091 : Safe Z EL1 s.vm h1056 b1049 := Safe.wr W1056 sf1086 CR1085.1 sf1090
      have CR1092 : CHr Z EL1 s.vm h0 s.vm T1076.heap := CR1087.trans (CHr.keep K1076 (sfS sf1091 sf0) CR1087.1)
      have ks1094 : h0.size ≤ h1049.size := Nat.le_trans ks0 E1049.1
      have ks1095 : h0.size ≤ h1050.size := Nat.le_trans ks1094 E1050.1
      have ks1096 : h0.size ≤ h1054.size := Nat.le_trans ks1095 (Keep.of_wr W1054).1
      have ks1097 : h0.size ≤ h1056.size := Nat.le_trans ks1096 (Keep.of_wr W1056).1
      have ks1098 : h0.size ≤ T1076.heap.size := Nat.le_trans ks1097 K1076.1
      refine Goes.callSW X1076 hx (y := y0_) hS0 ks1098 hZ hown (mvT hZ (own_w hw 30 rfl)) (mvT hZ (own_w hw 31 rfl)) (mvT hZ (own_w hw 32 rfl)) (mvT hZ (own_w hw 33 rfl)) (by decide) (kc' := 8) (ks' := 69) (backOfSH (W := 0) (rmLk2 l Z a0 hw [] b1049 t1076 kb1076 c0 c1 zc fm T1076.heap n0 Z1080 O1081 S_CS hzc S_FM hfm g1076E g1076V g1076C g1076K hp1071) hZ (own_w hw 33 rfl) (own_w hw 32 rfl) (ok rfl) (ok rfl) hEL CR1092.1) (g := (mkF m 167 #[.val (.int p0), .val (.int p1), .val (.int p2), .val (.int p3), .val (.int p4), .val (.int (2 : Int32)), .val (.int c0), .val (.int c1), .val (.int c2), .val (.int c3), .val (.ref b1049), .unset, .unset] [(.ref b1049)])) rfl (by rw [hml]; rfl) (argsL := [(.ref b1049)]) (rest := []) (lenOf pd_68746 rfl) rfl (by show 2 * 0 + _ ≤ _; exact Nat.le_of_eq rfl) (hb hby at_167) rfl rfl (ok rfl) (ok rfl) ?_
      intro v1093 T1093 L1093 q1093 Y1093
      obtain ⟨X1093, hS1093, hZ, hown, CW1093⟩ := Y1093
      obtain ⟨x1093, r1093, kr1093, rfl, N1093q, K1093, g1093E, g1093v, g1093c, g1093V⟩ := q1093
      have N1093 := Fr.app N1076 N1093q
      have ks1093 : T1093.heap.size ≤ T1093.heap.size := Nat.le_refl _
      have hx1093 : ∀ c ∈ ([(109 : Int32), (117 : Int32), (116 : Int32), (120 : Int32), (58 : Int32), (123 : Int32), c0, c1, (125 : Int32)] : List Int32), ¬ c < 0 ∧ ¬ (255 : Int32) < c := by
        intro c hc
        simp only [List.mem_cons, List.not_mem_nil, or_false] at hc
        rcases hc with rfl | rfl | rfl | rfl | rfl | rfl | rfl | rfl | rfl
        · exact (by decide)
        · exact (by decide)
        · exact (by decide)
        · exact (by decide)
        · exact (by decide)
        · exact (by decide)
        · exact (hp1071 _ (by simp))
        · exact (hp1071 _ (by simp))
        · exact (by decide)
      show Goes p e below _ T1093 (mkF m 170 #[.val (.int p0), .val (.int p1), .val (.int p2), .val (.int p3), .val (.int p4), .val (.int (2 : Int32)), .val (.int c0), .val (.int c1), .val (.int c2), .val (.int c3), .val (.ref b1049), .unset, .unset] [(.ref x1093)])
      refine P1.astore X1093.here hx #[.val (.int p0), .val (.int p1), .val (.int p2), .val (.int p3), .val (.int p4), .val (.int (2 : Int32)), .val (.int c0), .val (.int c1), .val (.int c2), .val (.int c3), .val (.ref b1049), .val (.ref x1093), .unset] (hb hby at_170) rfl rfl ?_
      refine P1.aload X1093.here hx (hb hby at_172) rfl rfl ?_
      refine P1.ifnullNo X1093.here hx (hb hby at_174) ?_
      refine P1.aload X1093.here hx (hb hby at_177) rfl rfl ?_
      have O1099 : Old Z n0 T1093.heap := O1081.keep K1093 all0
      refine Goes.callV X1093 hx hZ (y := y17_) (z := y17_) (Qc := fun v h' L => (v = some (.int (Int32.ofNat ([(109 : Int32), (117 : Int32), (116 : Int32), (120 : Int32), (58 : Int32), (123 : Int32), c0, c1, (125 : Int32)] : List Int32).length)) ∧ L = [] ∧ h' = T1093.heap)) hown (mvT hZ (own_w hw 153 rfl)) (mvT hZ (own_w hw 71 rfl)) (notFace_of_selects (args := #[]) (mvT hZ (own_w hw 73 rfl))) (mvT hZ (own_w hw 73 rfl)) (mvT hZ (own_w hw 72 rfl)) (by decide) (kc' := 0) (ks' := 0) (StrChars.Road.lenW (W := 0) (s := s.setVm T1093.vm) hZ (fun d hd => hw d (in_wordsLen d hd)) (kI := 4) (own_w hw 1 rfl) g1093E g1093v g1093c g1093V (StrChars.Road.codOf (cs := ([(109 : Int32), (117 : Int32), (116 : Int32), (120 : Int32), (58 : Int32), (123 : Int32), c0, c1, (125 : Int32)] : List Int32)) (n := 9) rfl (fun c hc => (hx1093 c hc).2)) (own_up hx1093) (S_CS.ext O1099.2) hzc (ok rfl) (ok rfl) (ok rfl)) (b := x1093) rfl g1093E (g := (mkF m 179 #[.val (.int p0), .val (.int p1), .val (.int p2), .val (.int p3), .val (.int p4), .val (.int (2 : Int32)), .val (.int c0), .val (.int c1), .val (.int c2), .val (.int c3), .val (.ref b1049), .val (.ref x1093), .unset] [(.ref x1093)])) rfl (by rw [hml]; rfl) (argsL := []) (rest := []) (lenOf pd_341 rfl) rfl (by show 2 * 0 + _ ≤ _; exact Nat.le_of_eq rfl) (hb hby at_179) rfl (ok rfl) (ok rfl) ?_
      intro v1100 T1100 L1100 q1100 X1100
      obtain ⟨rfl, rfl, hE1100⟩ := q1100
      have N1100 := Fr.app N1093 (Fr.nil n0)
      show Goes p e below _ T1100 (mkF m 182 #[.val (.int p0), .val (.int p1), .val (.int p2), .val (.int p3), .val (.int p4), .val (.int (2 : Int32)), .val (.int c0), .val (.int c1), .val (.int c2), .val (.int c3), .val (.ref b1049), .val (.ref x1093), .unset] [(.int (9 : Int32))])
      refine P1.iload X1100.here hx (hb hby at_182) rfl ?_
      refine P1.bipush X1100.here hx (7 : Int32) (hb hby at_184) rfl ?_
      refine P1.iadd X1100.here hx (hb hby at_186) ?_
      have rw1101 : ((2 : Int32) + (7 : Int32)) = (9 : Int32) := by decide
      rw [rw1101]
      refine P1.icmpYes X1100.here hx 192 (hb hby at_187) (teq (by decide : (9 : Int32) = (9 : Int32))).1 (by decide) (by decide) ?_
      refine P1.aload X1100.here hx (hb hby at_192) rfl rfl ?_
      refine P1.iconst X1100.here hx (0 : Int32) (hb hby at_194) rfl ?_
      refine Goes.callV X1100 hx hZ (y := y13_) (z := y13_) (Qc := fun v h' L => (v = some (.int (([(109 : Int32), (117 : Int32), (116 : Int32), (120 : Int32), (58 : Int32), (123 : Int32), c0, c1, (125 : Int32)] : List Int32).getD 0 0)) ∧ L = [] ∧ h' = T1093.heap)) hown (mvT hZ (own_w hw 154 rfl)) (mvT hZ (own_w hw 155 rfl)) (notFace_of_selects (args := #[]) (mvT hZ (own_w hw 157 rfl))) (mvT hZ (own_w hw 157 rfl)) (mvT hZ (own_w hw 156 rfl)) (by decide) (kc' := 0) (ks' := 0) (StrChars.Road.chN (W := 0) (s := s.setVm T1093.vm) hZ (fun d hd => hw d (in_wordsChN d hd)) (kI := 4) (own_w hw 1 rfl) g1093E g1093v g1093c g1093V (StrChars.Road.codOf (cs := ([(109 : Int32), (117 : Int32), (116 : Int32), (120 : Int32), (58 : Int32), (123 : Int32), c0, c1, (125 : Int32)] : List Int32)) (n := 9) rfl (fun c hc => (hx1093 c hc).2)) (own_up hx1093) (S_CS.ext O1099.2) hzc (S_FM.ext O1099.2) hfm (ok rfl) (i := 0) (ok rfl) (j := (0 : Int32)) rfl (ok rfl) (ok rfl)) (b := x1093) hE1100 g1093E (g := (mkF m 195 #[.val (.int p0), .val (.int p1), .val (.int p2), .val (.int p3), .val (.int p4), .val (.int (2 : Int32)), .val (.int c0), .val (.int c1), .val (.int c2), .val (.int c3), .val (.ref b1049), .val (.ref x1093), .unset] [(.int (0 : Int32)), (.ref x1093)])) rfl (by rw [hml]; rfl) (argsL := [(.int (0 : Int32))]) (rest := []) (lenOf pd_577 rfl) rfl (by show 2 * 0 + _ ≤ _; exact Nat.le_of_eq rfl) (hb hby at_195) rfl (ok rfl) (ok rfl) ?_
      intro v1102 T1102 L1102 q1102 X1102
      obtain ⟨rfl, rfl, hE1102⟩ := q1102
      have N1102 := Fr.app N1100 (Fr.nil n0)
      show Goes p e below _ T1102 (mkF m 198 #[.val (.int p0), .val (.int p1), .val (.int p2), .val (.int p3), .val (.int p4), .val (.int (2 : Int32)), .val (.int c0), .val (.int c1), .val (.int c2), .val (.int c3), .val (.ref b1049), .val (.ref x1093), .unset] [(.int (109 : Int32))])
      refine P1.bipush X1102.here hx (109 : Int32) (hb hby at_198) rfl ?_
      refine P1.icmpNo X1102.here hx (hb hby at_200) (teq (by decide : (109 : Int32) = (109 : Int32))).2 ?_
      refine P1.aload X1102.here hx (hb hby at_203) rfl rfl ?_
      refine P1.iconst X1102.here hx (1 : Int32) (hb hby at_205) rfl ?_
      refine Goes.callV X1102 hx hZ (y := y13_) (z := y13_) (Qc := fun v h' L => (v = some (.int (([(109 : Int32), (117 : Int32), (116 : Int32), (120 : Int32), (58 : Int32), (123 : Int32), c0, c1, (125 : Int32)] : List Int32).getD 1 0)) ∧ L = [] ∧ h' = T1093.heap)) hown (mvT hZ (own_w hw 154 rfl)) (mvT hZ (own_w hw 155 rfl)) (notFace_of_selects (args := #[]) (mvT hZ (own_w hw 157 rfl))) (mvT hZ (own_w hw 157 rfl)) (mvT hZ (own_w hw 156 rfl)) (by decide) (kc' := 0) (ks' := 0) (StrChars.Road.chN (W := 0) (s := s.setVm T1093.vm) hZ (fun d hd => hw d (in_wordsChN d hd)) (kI := 4) (own_w hw 1 rfl) g1093E g1093v g1093c g1093V (StrChars.Road.codOf (cs := ([(109 : Int32), (117 : Int32), (116 : Int32), (120 : Int32), (58 : Int32), (123 : Int32), c0, c1, (125 : Int32)] : List Int32)) (n := 9) rfl (fun c hc => (hx1093 c hc).2)) (own_up hx1093) (S_CS.ext O1099.2) hzc (S_FM.ext O1099.2) hfm (ok rfl) (i := 1) (ok rfl) (j := (1 : Int32)) rfl (ok rfl) (ok rfl)) (b := x1093) hE1102 g1093E (g := (mkF m 206 #[.val (.int p0), .val (.int p1), .val (.int p2), .val (.int p3), .val (.int p4), .val (.int (2 : Int32)), .val (.int c0), .val (.int c1), .val (.int c2), .val (.int c3), .val (.ref b1049), .val (.ref x1093), .unset] [(.int (1 : Int32)), (.ref x1093)])) rfl (by rw [hml]; rfl) (argsL := [(.int (1 : Int32))]) (rest := []) (lenOf pd_577 rfl) rfl (by show 2 * 0 + _ ≤ _; exact Nat.le_of_eq rfl) (hb hby at_206) rfl (ok rfl) (ok rfl) ?_
      intro v1103 T1103 L1103 q1103 X1103
      obtain ⟨rfl, rfl, hE1103⟩ := q1103
      have N1103 := Fr.app N1102 (Fr.nil n0)
      show Goes p e below _ T1103 (mkF m 209 #[.val (.int p0), .val (.int p1), .val (.int p2), .val (.int p3), .val (.int p4), .val (.int (2 : Int32)), .val (.int c0), .val (.int c1), .val (.int c2), .val (.int c3), .val (.ref b1049), .val (.ref x1093), .unset] [(.int (117 : Int32))])
      refine P1.bipush X1103.here hx (117 : Int32) (hb hby at_209) rfl ?_
      refine P1.icmpNo X1103.here hx (hb hby at_211) (teq (by decide : (117 : Int32) = (117 : Int32))).2 ?_
      refine P1.aload X1103.here hx (hb hby at_214) rfl rfl ?_
      refine P1.iconst X1103.here hx (2 : Int32) (hb hby at_216) rfl ?_
      refine Goes.callV X1103 hx hZ (y := y13_) (z := y13_) (Qc := fun v h' L => (v = some (.int (([(109 : Int32), (117 : Int32), (116 : Int32), (120 : Int32), (58 : Int32), (123 : Int32), c0, c1, (125 : Int32)] : List Int32).getD 2 0)) ∧ L = [] ∧ h' = T1093.heap)) hown (mvT hZ (own_w hw 154 rfl)) (mvT hZ (own_w hw 155 rfl)) (notFace_of_selects (args := #[]) (mvT hZ (own_w hw 157 rfl))) (mvT hZ (own_w hw 157 rfl)) (mvT hZ (own_w hw 156 rfl)) (by decide) (kc' := 0) (ks' := 0) (StrChars.Road.chN (W := 0) (s := s.setVm T1093.vm) hZ (fun d hd => hw d (in_wordsChN d hd)) (kI := 4) (own_w hw 1 rfl) g1093E g1093v g1093c g1093V (StrChars.Road.codOf (cs := ([(109 : Int32), (117 : Int32), (116 : Int32), (120 : Int32), (58 : Int32), (123 : Int32), c0, c1, (125 : Int32)] : List Int32)) (n := 9) rfl (fun c hc => (hx1093 c hc).2)) (own_up hx1093) (S_CS.ext O1099.2) hzc (S_FM.ext O1099.2) hfm (ok rfl) (i := 2) (ok rfl) (j := (2 : Int32)) rfl (ok rfl) (ok rfl)) (b := x1093) hE1103 g1093E (g := (mkF m 217 #[.val (.int p0), .val (.int p1), .val (.int p2), .val (.int p3), .val (.int p4), .val (.int (2 : Int32)), .val (.int c0), .val (.int c1), .val (.int c2), .val (.int c3), .val (.ref b1049), .val (.ref x1093), .unset] [(.int (2 : Int32)), (.ref x1093)])) rfl (by rw [hml]; rfl) (argsL := [(.int (2 : Int32))]) (rest := []) (lenOf pd_577 rfl) rfl (by show 2 * 0 + _ ≤ _; exact Nat.le_of_eq rfl) (hb hby at_217) rfl (ok rfl) (ok rfl) ?_
      intro v1104 T1104 L1104 q1104 X1104
      obtain ⟨rfl, rfl, hE1104⟩ := q1104
      have N1104 := Fr.app N1103 (Fr.nil n0)
      show Goes p e below _ T1104 (mkF m 220 #[.val (.int p0), .val (.int p1), .val (.int p2), .val (.int p3), .val (.int p4), .val (.int (2 : Int32)), .val (.int c0), .val (.int c1), .val (.int c2), .val (.int c3), .val (.ref b1049), .val (.ref x1093), .unset] [(.int (116 : Int32))])
      refine P1.bipush X1104.here hx (116 : Int32) (hb hby at_220) rfl ?_
      refine P1.icmpNo X1104.here hx (hb hby at_222) (teq (by decide : (116 : Int32) = (116 : Int32))).2 ?_
      refine P1.aload X1104.here hx (hb hby at_225) rfl rfl ?_
      refine P1.iconst X1104.here hx (3 : Int32) (hb hby at_227) rfl ?_
      refine Goes.callV X1104 hx hZ (y := y13_) (z := y13_) (Qc := fun v h' L => (v = some (.int (([(109 : Int32), (117 : Int32), (116 : Int32), (120 : Int32), (58 : Int32), (123 : Int32), c0, c1, (125 : Int32)] : List Int32).getD 3 0)) ∧ L = [] ∧ h' = T1093.heap)) hown (mvT hZ (own_w hw 154 rfl)) (mvT hZ (own_w hw 155 rfl)) (notFace_of_selects (args := #[]) (mvT hZ (own_w hw 157 rfl))) (mvT hZ (own_w hw 157 rfl)) (mvT hZ (own_w hw 156 rfl)) (by decide) (kc' := 0) (ks' := 0) (StrChars.Road.chN (W := 0) (s := s.setVm T1093.vm) hZ (fun d hd => hw d (in_wordsChN d hd)) (kI := 4) (own_w hw 1 rfl) g1093E g1093v g1093c g1093V (StrChars.Road.codOf (cs := ([(109 : Int32), (117 : Int32), (116 : Int32), (120 : Int32), (58 : Int32), (123 : Int32), c0, c1, (125 : Int32)] : List Int32)) (n := 9) rfl (fun c hc => (hx1093 c hc).2)) (own_up hx1093) (S_CS.ext O1099.2) hzc (S_FM.ext O1099.2) hfm (ok rfl) (i := 3) (ok rfl) (j := (3 : Int32)) rfl (ok rfl) (ok rfl)) (b := x1093) hE1104 g1093E (g := (mkF m 228 #[.val (.int p0), .val (.int p1), .val (.int p2), .val (.int p3), .val (.int p4), .val (.int (2 : Int32)), .val (.int c0), .val (.int c1), .val (.int c2), .val (.int c3), .val (.ref b1049), .val (.ref x1093), .unset] [(.int (3 : Int32)), (.ref x1093)])) rfl (by rw [hml]; rfl) (argsL := [(.int (3 : Int32))]) (rest := []) (lenOf pd_577 rfl) rfl (by show 2 * 0 + _ ≤ _; exact Nat.le_of_eq rfl) (hb hby at_228) rfl (ok rfl) (ok rfl) ?_
      intro v1105 T1105 L1105 q1105 X1105
      obtain ⟨rfl, rfl, hE1105⟩ := q1105
      have N1105 := Fr.app N1104 (Fr.nil n0)
      show Goes p e below _ T1105 (mkF m 231 #[.val (.int p0), .val (.int p1), .val (.int p2), .val (.int p3), .val (.int p4), .val (.int (2 : Int32)), .val (.int c0), .val (.int c1), .val (.int c2), .val (.int c3), .val (.ref b1049), .val (.ref x1093), .unset] [(.int (120 : Int32))])
      refine P1.bipush X1105.here hx (120 : Int32) (hb hby at_231) rfl ?_
      refine P1.icmpNo X1105.here hx (hb hby at_233) (teq (by decide : (120 : Int32) = (120 : Int32))).2 ?_
      refine P1.aload X1105.here hx (hb hby at_236) rfl rfl ?_
      refine P1.iconst X1105.here hx (4 : Int32) (hb hby at_238) rfl ?_
      refine Goes.callV X1105 hx hZ (y := y13_) (z := y13_) (Qc := fun v h' L => (v = some (.int (([(109 : Int32), (117 : Int32), (116 : Int32), (120 : Int32), (58 : Int32), (123 : Int32), c0, c1, (125 : Int32)] : List Int32).getD 4 0)) ∧ L = [] ∧ h' = T1093.heap)) hown (mvT hZ (own_w hw 154 rfl)) (mvT hZ (own_w hw 155 rfl)) (notFace_of_selects (args := #[]) (mvT hZ (own_w hw 157 rfl))) (mvT hZ (own_w hw 157 rfl)) (mvT hZ (own_w hw 156 rfl)) (by decide) (kc' := 0) (ks' := 0) (StrChars.Road.chN (W := 0) (s := s.setVm T1093.vm) hZ (fun d hd => hw d (in_wordsChN d hd)) (kI := 4) (own_w hw 1 rfl) g1093E g1093v g1093c g1093V (StrChars.Road.codOf (cs := ([(109 : Int32), (117 : Int32), (116 : Int32), (120 : Int32), (58 : Int32), (123 : Int32), c0, c1, (125 : Int32)] : List Int32)) (n := 9) rfl (fun c hc => (hx1093 c hc).2)) (own_up hx1093) (S_CS.ext O1099.2) hzc (S_FM.ext O1099.2) hfm (ok rfl) (i := 4) (ok rfl) (j := (4 : Int32)) rfl (ok rfl) (ok rfl)) (b := x1093) hE1105 g1093E (g := (mkF m 239 #[.val (.int p0), .val (.int p1), .val (.int p2), .val (.int p3), .val (.int p4), .val (.int (2 : Int32)), .val (.int c0), .val (.int c1), .val (.int c2), .val (.int c3), .val (.ref b1049), .val (.ref x1093), .unset] [(.int (4 : Int32)), (.ref x1093)])) rfl (by rw [hml]; rfl) (argsL := [(.int (4 : Int32))]) (rest := []) (lenOf pd_577 rfl) rfl (by show 2 * 0 + _ ≤ _; exact Nat.le_of_eq rfl) (hb hby at_239) rfl (ok rfl) (ok rfl) ?_
      intro v1106 T1106 L1106 q1106 X1106
      obtain ⟨rfl, rfl, hE1106⟩ := q1106
      have N1106 := Fr.app N1105 (Fr.nil n0)
      show Goes p e below _ T1106 (mkF m 242 #[.val (.int p0), .val (.int p1), .val (.int p2), .val (.int p3), .val (.int p4), .val (.int (2 : Int32)), .val (.int c0), .val (.int c1), .val (.int c2), .val (.int c3), .val (.ref b1049), .val (.ref x1093), .unset] [(.int (58 : Int32))])
      refine P1.bipush X1106.here hx (58 : Int32) (hb hby at_242) rfl ?_
      refine P1.icmpNo X1106.here hx (hb hby at_244) (teq (by decide : (58 : Int32) = (58 : Int32))).2 ?_
      refine P1.aload X1106.here hx (hb hby at_247) rfl rfl ?_
      refine P1.iconst X1106.here hx (5 : Int32) (hb hby at_249) rfl ?_
      refine Goes.callV X1106 hx hZ (y := y13_) (z := y13_) (Qc := fun v h' L => (v = some (.int (([(109 : Int32), (117 : Int32), (116 : Int32), (120 : Int32), (58 : Int32), (123 : Int32), c0, c1, (125 : Int32)] : List Int32).getD 5 0)) ∧ L = [] ∧ h' = T1093.heap)) hown (mvT hZ (own_w hw 154 rfl)) (mvT hZ (own_w hw 155 rfl)) (notFace_of_selects (args := #[]) (mvT hZ (own_w hw 157 rfl))) (mvT hZ (own_w hw 157 rfl)) (mvT hZ (own_w hw 156 rfl)) (by decide) (kc' := 0) (ks' := 0) (StrChars.Road.chN (W := 0) (s := s.setVm T1093.vm) hZ (fun d hd => hw d (in_wordsChN d hd)) (kI := 4) (own_w hw 1 rfl) g1093E g1093v g1093c g1093V (StrChars.Road.codOf (cs := ([(109 : Int32), (117 : Int32), (116 : Int32), (120 : Int32), (58 : Int32), (123 : Int32), c0, c1, (125 : Int32)] : List Int32)) (n := 9) rfl (fun c hc => (hx1093 c hc).2)) (own_up hx1093) (S_CS.ext O1099.2) hzc (S_FM.ext O1099.2) hfm (ok rfl) (i := 5) (ok rfl) (j := (5 : Int32)) rfl (ok rfl) (ok rfl)) (b := x1093) hE1106 g1093E (g := (mkF m 250 #[.val (.int p0), .val (.int p1), .val (.int p2), .val (.int p3), .val (.int p4), .val (.int (2 : Int32)), .val (.int c0), .val (.int c1), .val (.int c2), .val (.int c3), .val (.ref b1049), .val (.ref x1093), .unset] [(.int (5 : Int32)), (.ref x1093)])) rfl (by rw [hml]; rfl) (argsL := [(.int (5 : Int32))]) (rest := []) (lenOf pd_577 rfl) rfl (by show 2 * 0 + _ ≤ _; exact Nat.le_of_eq rfl) (hb hby at_250) rfl (ok rfl) (ok rfl) ?_
      intro v1107 T1107 L1107 q1107 X1107
      obtain ⟨rfl, rfl, hE1107⟩ := q1107
      have N1107 := Fr.app N1106 (Fr.nil n0)
      show Goes p e below _ T1107 (mkF m 253 #[.val (.int p0), .val (.int p1), .val (.int p2), .val (.int p3), .val (.int p4), .val (.int (2 : Int32)), .val (.int c0), .val (.int c1), .val (.int c2), .val (.int c3), .val (.ref b1049), .val (.ref x1093), .unset] [(.int (123 : Int32))])
      refine P1.bipush X1107.here hx (123 : Int32) (hb hby at_253) rfl ?_
      refine P1.icmpNo X1107.here hx (hb hby at_255) (teq (by decide : (123 : Int32) = (123 : Int32))).2 ?_
      refine P1.iconst X1107.here hx (1 : Int32) (hb hby at_258) rfl ?_
      refine P1.goto X1107.here hx 263 (hb hby at_259) (by decide) (by decide) ?_
      refine P1.istore X1107.here hx #[.val (.int p0), .val (.int p1), .val (.int p2), .val (.int p3), .val (.int p4), .val (.int (2 : Int32)), .val (.int c0), .val (.int c1), .val (.int c2), .val (.int c3), .val (.ref b1049), .val (.ref x1093), .val (.int (1 : Int32))] (hb hby at_263) rfl ?_
      refine P1.iload X1107.here hx (hb hby at_265) rfl ?_
      refine P1.ifNo X1107.here hx (hb hby at_267) ((if0 _ _).trans (feq (by decide : ¬ ((1 : Int32) = (0 : Int32)))).1) ?_
      refine P1.aload X1107.here hx (hb hby at_270) rfl rfl ?_
      refine P1.bipush X1107.here hx (6 : Int32) (hb hby at_272) rfl ?_
      refine Goes.callV X1107 hx hZ (y := y13_) (z := y13_) (Qc := fun v h' L => (v = some (.int (([(109 : Int32), (117 : Int32), (116 : Int32), (120 : Int32), (58 : Int32), (123 : Int32), c0, c1, (125 : Int32)] : List Int32).getD 6 0)) ∧ L = [] ∧ h' = T1093.heap)) hown (mvT hZ (own_w hw 154 rfl)) (mvT hZ (own_w hw 155 rfl)) (notFace_of_selects (args := #[]) (mvT hZ (own_w hw 157 rfl))) (mvT hZ (own_w hw 157 rfl)) (mvT hZ (own_w hw 156 rfl)) (by decide) (kc' := 0) (ks' := 0) (StrChars.Road.chN (W := 0) (s := s.setVm T1093.vm) hZ (fun d hd => hw d (in_wordsChN d hd)) (kI := 4) (own_w hw 1 rfl) g1093E g1093v g1093c g1093V (StrChars.Road.codOf (cs := ([(109 : Int32), (117 : Int32), (116 : Int32), (120 : Int32), (58 : Int32), (123 : Int32), c0, c1, (125 : Int32)] : List Int32)) (n := 9) rfl (fun c hc => (hx1093 c hc).2)) (own_up hx1093) (S_CS.ext O1099.2) hzc (S_FM.ext O1099.2) hfm (ok rfl) (i := 6) (ok rfl) (j := (6 : Int32)) rfl (ok rfl) (ok rfl)) (b := x1093) hE1107 g1093E (g := (mkF m 274 #[.val (.int p0), .val (.int p1), .val (.int p2), .val (.int p3), .val (.int p4), .val (.int (2 : Int32)), .val (.int c0), .val (.int c1), .val (.int c2), .val (.int c3), .val (.ref b1049), .val (.ref x1093), .val (.int (1 : Int32))] [(.int (6 : Int32)), (.ref x1093)])) rfl (by rw [hml]; rfl) (argsL := [(.int (6 : Int32))]) (rest := []) (lenOf pd_577 rfl) rfl (by show 2 * 0 + _ ≤ _; exact Nat.le_of_eq rfl) (hb hby at_274) rfl (ok rfl) (ok rfl) ?_
      intro v1108 T1108 L1108 q1108 X1108
      obtain ⟨rfl, rfl, hE1108⟩ := q1108
      have N1108 := Fr.app N1107 (Fr.nil n0)
      show Goes p e below _ T1108 (mkF m 277 #[.val (.int p0), .val (.int p1), .val (.int p2), .val (.int p3), .val (.int p4), .val (.int (2 : Int32)), .val (.int c0), .val (.int c1), .val (.int c2), .val (.int c3), .val (.ref b1049), .val (.ref x1093), .val (.int (1 : Int32))] [(.int c0)])
      refine P1.iload X1108.here hx (hb hby at_277) rfl ?_
      refine P1.icmpNo X1108.here hx (hb hby at_279) (teq (rfl : c0 = c0)).2 ?_
      refine P1.iconst X1108.here hx (1 : Int32) (hb hby at_282) rfl ?_
      refine P1.goto X1108.here hx 287 (hb hby at_283) (by decide) (by decide) ?_
      refine P1.istore X1108.here hx #[.val (.int p0), .val (.int p1), .val (.int p2), .val (.int p3), .val (.int p4), .val (.int (2 : Int32)), .val (.int c0), .val (.int c1), .val (.int c2), .val (.int c3), .val (.ref b1049), .val (.ref x1093), .val (.int (1 : Int32))] (hb hby at_287) rfl ?_
      refine P1.iload X1108.here hx (hb hby at_289) rfl ?_
      refine P1.iconst X1108.here hx (2 : Int32) (hb hby at_291) rfl ?_
      refine P1.icmpNo X1108.here hx (hb hby at_292) (flt (by decide : ¬ ((2 : Int32) < (2 : Int32)))).1 ?_
      refine P1.iload X1108.here hx (hb hby at_295) rfl ?_
      refine P1.ifNo X1108.here hx (hb hby at_297) ((if0 _ _).trans (feq (by decide : ¬ ((1 : Int32) = (0 : Int32)))).1) ?_
      refine P1.aload X1108.here hx (hb hby at_300) rfl rfl ?_
      refine P1.bipush X1108.here hx (7 : Int32) (hb hby at_302) rfl ?_
      refine Goes.callV X1108 hx hZ (y := y13_) (z := y13_) (Qc := fun v h' L => (v = some (.int (([(109 : Int32), (117 : Int32), (116 : Int32), (120 : Int32), (58 : Int32), (123 : Int32), c0, c1, (125 : Int32)] : List Int32).getD 7 0)) ∧ L = [] ∧ h' = T1093.heap)) hown (mvT hZ (own_w hw 154 rfl)) (mvT hZ (own_w hw 155 rfl)) (notFace_of_selects (args := #[]) (mvT hZ (own_w hw 157 rfl))) (mvT hZ (own_w hw 157 rfl)) (mvT hZ (own_w hw 156 rfl)) (by decide) (kc' := 0) (ks' := 0) (StrChars.Road.chN (W := 0) (s := s.setVm T1093.vm) hZ (fun d hd => hw d (in_wordsChN d hd)) (kI := 4) (own_w hw 1 rfl) g1093E g1093v g1093c g1093V (StrChars.Road.codOf (cs := ([(109 : Int32), (117 : Int32), (116 : Int32), (120 : Int32), (58 : Int32), (123 : Int32), c0, c1, (125 : Int32)] : List Int32)) (n := 9) rfl (fun c hc => (hx1093 c hc).2)) (own_up hx1093) (S_CS.ext O1099.2) hzc (S_FM.ext O1099.2) hfm (ok rfl) (i := 7) (ok rfl) (j := (7 : Int32)) rfl (ok rfl) (ok rfl)) (b := x1093) hE1108 g1093E (g := (mkF m 304 #[.val (.int p0), .val (.int p1), .val (.int p2), .val (.int p3), .val (.int p4), .val (.int (2 : Int32)), .val (.int c0), .val (.int c1), .val (.int c2), .val (.int c3), .val (.ref b1049), .val (.ref x1093), .val (.int (1 : Int32))] [(.int (7 : Int32)), (.ref x1093)])) rfl (by rw [hml]; rfl) (argsL := [(.int (7 : Int32))]) (rest := []) (lenOf pd_577 rfl) rfl (by show 2 * 0 + _ ≤ _; exact Nat.le_of_eq rfl) (hb hby at_304) rfl (ok rfl) (ok rfl) ?_
      intro v1109 T1109 L1109 q1109 X1109
      obtain ⟨rfl, rfl, hE1109⟩ := q1109
      have N1109 := Fr.app N1108 (Fr.nil n0)
      show Goes p e below _ T1109 (mkF m 307 #[.val (.int p0), .val (.int p1), .val (.int p2), .val (.int p3), .val (.int p4), .val (.int (2 : Int32)), .val (.int c0), .val (.int c1), .val (.int c2), .val (.int c3), .val (.ref b1049), .val (.ref x1093), .val (.int (1 : Int32))] [(.int c1)])
      refine P1.iload X1109.here hx (hb hby at_307) rfl ?_
      refine P1.icmpNo X1109.here hx (hb hby at_309) (teq (rfl : c1 = c1)).2 ?_
      refine P1.iconst X1109.here hx (1 : Int32) (hb hby at_312) rfl ?_
      refine P1.goto X1109.here hx 317 (hb hby at_313) (by decide) (by decide) ?_
      refine P1.istore X1109.here hx #[.val (.int p0), .val (.int p1), .val (.int p2), .val (.int p3), .val (.int p4), .val (.int (2 : Int32)), .val (.int c0), .val (.int c1), .val (.int c2), .val (.int c3), .val (.ref b1049), .val (.ref x1093), .val (.int (1 : Int32))] (hb hby at_317) rfl ?_
      refine P1.iload X1109.here hx (hb hby at_319) rfl ?_
      refine P1.iconst X1109.here hx (3 : Int32) (hb hby at_321) rfl ?_
      refine P1.icmpYes X1109.here hx 349 (hb hby at_322) (tlt (by decide : (2 : Int32) < (3 : Int32))).1 (by decide) (by decide) ?_
      refine P1.iload X1109.here hx (hb hby at_349) rfl ?_
      refine P1.iconst X1109.here hx (4 : Int32) (hb hby at_351) rfl ?_
      refine P1.icmpYes X1109.here hx 379 (hb hby at_352) (tlt (by decide : (2 : Int32) < (4 : Int32))).1 (by decide) (by decide) ?_
      refine P1.iload X1109.here hx (hb hby at_379) rfl ?_
      refine P1.ifNo X1109.here hx (hb hby at_381) ((if0 _ _).trans (feq (by decide : ¬ ((1 : Int32) = (0 : Int32)))).1) ?_
      refine P1.aload X1109.here hx (hb hby at_384) rfl rfl ?_
      refine P1.iload X1109.here hx (hb hby at_386) rfl ?_
      refine P1.bipush X1109.here hx (6 : Int32) (hb hby at_388) rfl ?_
      refine P1.iadd X1109.here hx (hb hby at_390) ?_
      have rw1110 : ((2 : Int32) + (6 : Int32)) = (8 : Int32) := by decide
      rw [rw1110]
      refine Goes.callV X1109 hx hZ (y := y13_) (z := y13_) (Qc := fun v h' L => (v = some (.int (([(109 : Int32), (117 : Int32), (116 : Int32), (120 : Int32), (58 : Int32), (123 : Int32), c0, c1, (125 : Int32)] : List Int32).getD 8 0)) ∧ L = [] ∧ h' = T1093.heap)) hown (mvT hZ (own_w hw 154 rfl)) (mvT hZ (own_w hw 155 rfl)) (notFace_of_selects (args := #[]) (mvT hZ (own_w hw 157 rfl))) (mvT hZ (own_w hw 157 rfl)) (mvT hZ (own_w hw 156 rfl)) (by decide) (kc' := 0) (ks' := 0) (StrChars.Road.chN (W := 0) (s := s.setVm T1093.vm) hZ (fun d hd => hw d (in_wordsChN d hd)) (kI := 4) (own_w hw 1 rfl) g1093E g1093v g1093c g1093V (StrChars.Road.codOf (cs := ([(109 : Int32), (117 : Int32), (116 : Int32), (120 : Int32), (58 : Int32), (123 : Int32), c0, c1, (125 : Int32)] : List Int32)) (n := 9) rfl (fun c hc => (hx1093 c hc).2)) (own_up hx1093) (S_CS.ext O1099.2) hzc (S_FM.ext O1099.2) hfm (ok rfl) (i := 8) (ok rfl) (j := (8 : Int32)) rfl (ok rfl) (ok rfl)) (b := x1093) hE1109 g1093E (g := (mkF m 391 #[.val (.int p0), .val (.int p1), .val (.int p2), .val (.int p3), .val (.int p4), .val (.int (2 : Int32)), .val (.int c0), .val (.int c1), .val (.int c2), .val (.int c3), .val (.ref b1049), .val (.ref x1093), .val (.int (1 : Int32))] [(.int (8 : Int32)), (.ref x1093)])) rfl (by rw [hml]; rfl) (argsL := [(.int (8 : Int32))]) (rest := []) (lenOf pd_577 rfl) rfl (by show 2 * 0 + _ ≤ _; exact Nat.le_of_eq rfl) (hb hby at_391) rfl (ok rfl) (ok rfl) ?_
      intro v1111 T1111 L1111 q1111 X1111
      obtain ⟨rfl, rfl, hE1111⟩ := q1111
      have N1111 := Fr.app N1109 (Fr.nil n0)
      show Goes p e below _ T1111 (mkF m 394 #[.val (.int p0), .val (.int p1), .val (.int p2), .val (.int p3), .val (.int p4), .val (.int (2 : Int32)), .val (.int c0), .val (.int c1), .val (.int c2), .val (.int c3), .val (.ref b1049), .val (.ref x1093), .val (.int (1 : Int32))] [(.int (125 : Int32))])
      refine P1.bipush X1111.here hx (125 : Int32) (hb hby at_394) rfl ?_
      refine P1.icmpNo X1111.here hx (hb hby at_396) (teq (by decide : (125 : Int32) = (125 : Int32))).2 ?_
      refine P1.iconst X1111.here hx (1 : Int32) (hb hby at_399) rfl ?_
      refine P1.goto X1111.here hx 404 (hb hby at_400) (by decide) (by decide) ?_
      refine P1.istore X1111.here hx #[.val (.int p0), .val (.int p1), .val (.int p2), .val (.int p3), .val (.int p4), .val (.int (2 : Int32)), .val (.int c0), .val (.int c1), .val (.int c2), .val (.int c3), .val (.ref b1049), .val (.ref x1093), .val (.int (1 : Int32))] (hb hby at_404) rfl ?_
      refine P1.iload X1111.here hx (hb hby at_406) rfl ?_
      have CR1112 : CHr Z EL1 s.vm h0 T1093.vm T1093.heap := CR1092.trans CW1093
      refine Goes.retNW X1111 hx Bd.notSynchronized hS1093 ks1093 hZ hEL (hh ▸ CR1112) hE1111 (t := .boolean) Bd.returns (by simp) (hb hby at_408) (ok rfl) (ok rfl) ?_
      exact ⟨rfl, N1111⟩
    ·
      refine P1.icmpYes X0.here hx 97 (hb hby at_69) (feq (hn2 : ¬ (nn = (2 : Int32)))).2 (by decide) (by decide) ?_
      refine P1.iload X0.here hx (hb hby at_97) rfl ?_
      refine P1.iconst X0.here hx (3 : Int32) (hb hby at_99) rfl ?_
      by_cases hn3 : nn = (3 : Int32)
      ·
        have rw1113 : nn = (3 : Int32) := hn3
        rw [rw1113]
        refine P1.icmpNo X0.here hx (hb hby at_100) (teq (by decide : (3 : Int32) = (3 : Int32))).2 ?_
        obtain ⟨T1114, h1114, X1114, e1114, E1114, A1114, D1114, -, st1114⟩ := newO X0 hx hZ hown (own_w hw 0 rfl) (own_w hw 1 rfl) (own_w hw 2 rfl) e0 (g := (mkF m 103 #[.val (.int p0), .val (.int p1), .val (.int p2), .val (.int p3), .val (.int p4), .val (.int (3 : Int32)), .val (.int c0), .val (.int c1), .val (.int c2), .val (.int c3), .unset, .unset, .unset] [])) rfl (hb hby at_103) (ok rfl) (ok rfl)
        obtain ⟨b1114, g1114⟩ : ∃ z, z = h0.size := ⟨_, rfl⟩
        rw [← g1114] at A1114 D1114 st1114
        have ge_b1114 : n0 ≤ b1114 := Nat.le_trans Z0 (Nat.le_of_eq g1114.symm)
        have sz_b1114 : h0.size ≤ b1114 := Nat.le_trans K0.1 (Nat.le_of_eq g1114.symm)
        have sf_b1114 : Safe Z EL1 s.vm h0 b1114 := Safe.new (Nat.le_of_eq g1114.symm)
        have F1114_coder : Fld Z h1114 b1114 "java/lang/String" "coder" "B" (.int (0 : Int32)) := D1114 (Or.inr (own_w hw 27 rfl)) (ty := .byte) (by decide)
        have F1114_value : Fld Z h1114 b1114 "java/lang/String" "value" "[B" .null := D1114 (Or.inr (own_w hw 29 rfl)) (ty := (.array .byte)) (by decide)
        refine Goes.step (T' := T1114) (g' := (mkF m 106 #[.val (.int p0), .val (.int p1), .val (.int p2), .val (.int p3), .val (.int p4), .val (.int (3 : Int32)), .val (.int c0), .val (.int c1), .val (.int c2), .val (.int c3), .unset, .unset, .unset] [(.ref b1114)])) st1114 ?_
        refine P1.dup X1114.here hx (hb hby at_106) rfl ?_
        refine P1.iconst X1114.here hx (3 : Int32) (hb hby at_107) rfl ?_
        obtain ⟨T1115, h1115, k1115, X1115, e1115, E1115, A1115, st1115⟩ := newP X1114 hx hZ (own_w hw 3 rfl) e1114 (g := (mkF m 108 #[.val (.int p0), .val (.int p1), .val (.int p2), .val (.int p3), .val (.int p4), .val (.int (3 : Int32)), .val (.int c0), .val (.int c1), .val (.int c2), .val (.int c3), .unset, .unset, .unset] [(.int (3 : Int32)), (.ref b1114), (.ref b1114)])) rfl (hb hby at_108) rfl (by decide) (cap := 3) (ok rfl) (ok rfl) (ok rfl) (ok rfl)
        have Z1116 : n0 ≤ h1114.size := Nat.le_trans Z0 E1114.1
        have K1117 : Keep h0 h1114 [] := K0.ext E1114
        obtain ⟨b1115, g1115⟩ : ∃ z, z = h1114.size := ⟨_, rfl⟩
        rw [← g1115] at A1115 st1115
        have ge_b1115 : n0 ≤ b1115 := Nat.le_trans Z1116 (Nat.le_of_eq g1115.symm)
        have sz_b1115 : h0.size ≤ b1115 := Nat.le_trans K1117.1 (Nat.le_of_eq g1115.symm)
        have sf_b1115 : Safe Z EL1 s.vm h1114 b1115 := Safe.new (Nat.le_of_eq g1115.symm)
        have V1115 : Arv Z h1115 b1115 k1115 .char (3 : Int32) [(.int (0 : Int32)), (.int (0 : Int32)), (.int (0 : Int32))] (.int (0 : Int32)) := (Arv.new A1115 (by decide)).pad (pad_rep [] (.int (0 : Int32)) 3)
        refine Goes.step (T' := T1115) (g' := (mkF m 110 #[.val (.int p0), .val (.int p1), .val (.int p2), .val (.int p3), .val (.int p4), .val (.int (3 : Int32)), .val (.int c0), .val (.int c1), .val (.int c2), .val (.int c3), .unset, .unset, .unset] [(.ref b1115), (.ref b1114), (.ref b1114)])) st1115 ?_
        refine P1.dup X1115.here hx (hb hby at_110) rfl ?_
        refine P1.iconst X1115.here hx (0 : Int32) (hb hby at_111) rfl ?_
        refine P1.iload X1115.here hx (hb hby at_112) rfl ?_
        obtain ⟨cl1118, Ar1118, qk1118, sl1118, nz1118, ha1118, fi1118⟩ := id V1115
        obtain ⟨T1119, h1119, X1119, e1119, W1119, st1119⟩ := stC X1115 hx hZ e1115 Ar1118 (j := (0 : Int32)) (inb_of sl1118 ⟨by decide, by decide⟩) (g := (mkF m 114 #[.val (.int p0), .val (.int p1), .val (.int p2), .val (.int p3), .val (.int p4), .val (.int (3 : Int32)), .val (.int c0), .val (.int c1), .val (.int c2), .val (.int c3), .unset, .unset, .unset] [(.int c0), (.int (0 : Int32)), (.ref b1115), (.ref b1115), (.ref b1114), (.ref b1114)])) rfl rfl (hb hby at_114)
        rw [(own_nar bd_c0)] at W1119
        have V1119 : Arv Z h1119 b1115 k1115 .char (3 : Int32) [(.int c0), (.int (0 : Int32)), (.int (0 : Int32))] (.int (0 : Int32)) := Arv.set Ar1118 qk1118 sl1118 nz1118 ha1118 fi1118 ((own_nar bd_c0) ▸ fits_nar_char c0) W1119 0 rfl (ok rfl)
        have N1119 := Fr.snoc X1119 N0 ge_b1115
        refine Goes.step (T' := T1119) (g' := (mkF m 115 #[.val (.int p0), .val (.int p1), .val (.int p2), .val (.int p3), .val (.int p4), .val (.int (3 : Int32)), .val (.int c0), .val (.int c1), .val (.int c2), .val (.int c3), .unset, .unset, .unset] [(.ref b1115), (.ref b1114), (.ref b1114)])) st1119 ?_
        refine P1.dup X1119.here hx (hb hby at_115) rfl ?_
        refine P1.iconst X1119.here hx (1 : Int32) (hb hby at_116) rfl ?_
        refine P1.iload X1119.here hx (hb hby at_117) rfl ?_
        obtain ⟨cl1120, Ar1120, qk1120, sl1120, nz1120, ha1120, fi1120⟩ := id V1119
        obtain ⟨T1121, h1121, X1121, e1121, W1121, st1121⟩ := stC X1119 hx hZ e1119 Ar1120 (j := (1 : Int32)) (inb_of sl1120 ⟨by decide, by decide⟩) (g := (mkF m 119 #[.val (.int p0), .val (.int p1), .val (.int p2), .val (.int p3), .val (.int p4), .val (.int (3 : Int32)), .val (.int c0), .val (.int c1), .val (.int c2), .val (.int c3), .unset, .unset, .unset] [(.int c1), (.int (1 : Int32)), (.ref b1115), (.ref b1115), (.ref b1114), (.ref b1114)])) rfl rfl (hb hby at_119)
        rw [(own_nar bd_c1)] at W1121
        have V1121 : Arv Z h1121 b1115 k1115 .char (3 : Int32) [(.int c0), (.int c1), (.int (0 : Int32))] (.int (0 : Int32)) := Arv.set Ar1120 qk1120 sl1120 nz1120 ha1120 fi1120 ((own_nar bd_c1) ▸ fits_nar_char c1) W1121 1 rfl (ok rfl)
        have N1121 := Fr.snoc X1121 N1119 ge_b1115
        refine Goes.step (T' := T1121) (g' := (mkF m 120 #[.val (.int p0), .val (.int p1), .val (.int p2), .val (.int p3), .val (.int p4), .val (.int (3 : Int32)), .val (.int c0), .val (.int c1), .val (.int c2), .val (.int c3), .unset, .unset, .unset] [(.ref b1115), (.ref b1114), (.ref b1114)])) st1121 ?_
        refine P1.dup X1121.here hx (hb hby at_120) rfl ?_
        refine P1.iconst X1121.here hx (2 : Int32) (hb hby at_121) rfl ?_
        refine P1.iload X1121.here hx (hb hby at_122) rfl ?_
        obtain ⟨cl1122, Ar1122, qk1122, sl1122, nz1122, ha1122, fi1122⟩ := id V1121
        obtain ⟨T1123, h1123, X1123, e1123, W1123, st1123⟩ := stC X1121 hx hZ e1121 Ar1122 (j := (2 : Int32)) (inb_of sl1122 ⟨by decide, by decide⟩) (g := (mkF m 124 #[.val (.int p0), .val (.int p1), .val (.int p2), .val (.int p3), .val (.int p4), .val (.int (3 : Int32)), .val (.int c0), .val (.int c1), .val (.int c2), .val (.int c3), .unset, .unset, .unset] [(.int c2), (.int (2 : Int32)), (.ref b1115), (.ref b1115), (.ref b1114), (.ref b1114)])) rfl rfl (hb hby at_124)
        rw [(own_nar bd_c2)] at W1123
        have V1123 : Arv Z h1123 b1115 k1115 .char (3 : Int32) [(.int c0), (.int c1), (.int c2)] (.int (0 : Int32)) := Arv.set Ar1122 qk1122 sl1122 nz1122 ha1122 fi1122 ((own_nar bd_c2) ▸ fits_nar_char c2) W1123 2 rfl (ok rfl)
        have N1123 := Fr.snoc X1123 N1121 ge_b1115
        refine Goes.step (T' := T1123) (g' := (mkF m 125 #[.val (.int p0), .val (.int p1), .val (.int p2), .val (.int p3), .val (.int p4), .val (.int (3 : Int32)), .val (.int c0), .val (.int c1), .val (.int c2), .val (.int c3), .unset, .unset, .unset] [(.ref b1115), (.ref b1114), (.ref b1114)])) st1123 ?_
        have E1124 : Exa Z h1115 b1114 "java/lang/String" := A1114.ext E1115
        have E1125 : Exa Z h1119 b1114 "java/lang/String" := E1124.wr W1119
        have E1126 : Exa Z h1121 b1114 "java/lang/String" := E1125.wr W1121
        have E1127 : Exa Z h1123 b1114 "java/lang/String" := E1126.wr W1123
        have F1128 : Fld Z h1115 b1114 "java/lang/String" "value" "[B" .null := F1114_value.ext E1115
        have ne1129 : b1114 ≠ b1115 := Nat.ne_of_lt (Nat.lt_of_lt_of_le A1114.lt (Nat.le_of_eq g1115.symm))
        have F1130 : Fld Z h1119 b1114 "java/lang/String" "value" "[B" .null := F1128.other W1119 (Or.inl ne1129)
        have F1131 : Fld Z h1121 b1114 "java/lang/String" "value" "[B" .null := F1130.other W1121 (Or.inl ne1129)
        have F1132 : Fld Z h1123 b1114 "java/lang/String" "value" "[B" .null := F1131.other W1123 (Or.inl ne1129)
        have F1133 : Fld Z h1115 b1114 "java/lang/String" "coder" "B" (.int (0 : Int32)) := F1114_coder.ext E1115
        have F1134 : Fld Z h1119 b1114 "java/lang/String" "coder" "B" (.int (0 : Int32)) := F1133.other W1119 (Or.inl ne1129)
        have F1135 : Fld Z h1121 b1114 "java/lang/String" "coder" "B" (.int (0 : Int32)) := F1134.other W1121 (Or.inl ne1129)
        have F1136 : Fld Z h1123 b1114 "java/lang/String" "coder" "B" (.int (0 : Int32)) := F1135.other W1123 (Or.inl ne1129)
        have Z1137 : n0 ≤ h1115.size := Nat.le_trans Z1116 E1115.1
        have Z1138 : n0 ≤ h1119.size := Nat.le_trans Z1137 (Keep.of_wr W1119).1
        have Z1139 : n0 ≤ h1121.size := Nat.le_trans Z1138 (Keep.of_wr W1121).1
        have Z1140 : n0 ≤ h1123.size := Nat.le_trans Z1139 (Keep.of_wr W1123).1
        have hq1141 : ∀ c ∈ ([c0, c1, c2] : List Int32), ¬ c < 0 ∧ ¬ (255 : Int32) < c := by
          intro c hc
          simp only [List.mem_cons, List.not_mem_nil, or_false] at hc
          rcases hc with rfl | rfl | rfl
          · exact bd_c0
          · exact bd_c1
          · exact bd_c2
        have hp1142 : ∀ c ∈ ([c0, c1, c2] : List Int32), ¬ c < 0 ∧ ¬ (255 : Int32) < c := hq1141
        have O1143 : Old Z n0 h1114 := O0.ext E1114
        have O1144 : Old Z n0 h1115 := O1143.ext E1115
        have O1145 : Old Z n0 h1119 := O1144.wr W1119 ge_b1115
        have O1146 : Old Z n0 h1121 := O1145.wr W1121 ge_b1115
        have O1147 : Old Z n0 h1123 := O1146.wr W1123 ge_b1115
        refine Goes.callC X1123 hx (y := y12_) rfl hown (mvT hZ (own_w hw 4 rfl)) (mvT hZ (own_w hw 5 rfl)) (mvT hZ (own_w hw 6 rfl)) (by decide) (kc' := 1) (ks' := 3) (StrChars.Road.backV (W := 1) hZ (fun d hd => hw d (in_words d hd)) (kI := 4) (own_w hw 1 rfl) (cs := ([c0, c1, c2] : List Int32)) (bs := ([c0, c1, c2] : List Int32).map (fun c => c.toInt8.toInt32)) (n := 3) ge_b1114 Z1140 E1127 F1132 F1136 V1123 (S_CS.ext O1147.2) hzc rfl rfl (by decide) (by decide) hp1142 rfl (ok rfl) (ok rfl)) (g := (mkF m 125 #[.val (.int p0), .val (.int p1), .val (.int p2), .val (.int p3), .val (.int p4), .val (.int (3 : Int32)), .val (.int c0), .val (.int c1), .val (.int c2), .val (.int c3), .unset, .unset, .unset] [(.ref b1115), (.ref b1114), (.ref b1114)])) (a := b1114) rfl (by rw [hml]; rfl) (argsL := [(.ref b1115)]) (rest := [(.ref b1114)]) (lenOf pd_1017 rfl) rfl (by show 2 * 0 + _ ≤ _; exact Nat.le_of_eq rfl) (hb hby at_125) rfl e1123 (ok rfl) (ok rfl) ?_
        intro v1148 T1148 L1148 q1148 X1148
        obtain ⟨rfl, N1148q, K1148, g1148E, g1148C, t1148, kb1148, ge_t1148, szt1148, net1148, g1148V, g1148K⟩ := q1148
        have K1149 : Keep h0 h1115 [] := K1117.ext E1115
        have K1150 : Keep h0 h1119 [] := K1149.wr W1119 (Or.inr sz_b1115)
        have K1151 : Keep h0 h1121 [] := K1150.wr W1121 (Or.inr sz_b1115)
        have K1152 : Keep h0 h1123 [] := K1151.wr W1123 (Or.inr sz_b1115)
        have N1148 := Fr.app N1123 N1148q
        have sz_t1148 : h0.size ≤ t1148 := Nat.le_trans K1152.1 szt1148
        show Goes p e below _ T1148 (mkF m 128 #[.val (.int p0), .val (.int p1), .val (.int p2), .val (.int p3), .val (.int p4), .val (.int (3 : Int32)), .val (.int c0), .val (.int c1), .val (.int c2), .val (.int c3), .unset, .unset, .unset] [(.ref b1114)])
        refine P1.astore X1148.here hx #[.val (.int p0), .val (.int p1), .val (.int p2), .val (.int p3), .val (.int p4), .val (.int (3 : Int32)), .val (.int c0), .val (.int c1), .val (.int c2), .val (.int c3), .val (.ref b1114), .unset, .unset] (hb hby at_128) rfl rfl ?_
        refine P1.goto X1148.here hx 165 (hb hby at_130) (by decide) (by decide) ?_
        refine P1.aload X1148.here hx (hb hby at_165) rfl rfl ?_
        have Z1153 : n0 ≤ T1148.heap.size := Nat.le_trans Z1140 K1148.1
        have O1154 : Old Z n0 T1148.heap := O1147.keep K1148 (allS ge_b1114 all0)
        have CR1155 : CHr Z EL1 s.vm h0 s.vm h1114 := CR0.trans (CHr.ext E1114 CR0.1)
        have CR1156 : CHr Z EL1 s.vm h0 s.vm h1115 := CR1155.trans (CHr.ext E1115 CR1155.1)
        have sf1157 : Safe Z EL1 s.vm h1115 b1115 := Safe.ext E1115 CR1155.1 sf_b1115
        have CR1158 : CHr Z EL1 s.vm h0 s.vm h1119 := CR1156.trans (CHr.wr W1119 sf1157 CR1156.1)
        have sf1159 : Safe Z EL1 s.vm h1119 b1115 := Safe.wr W1119 sf1157 CR1156.1 sf1157
        have CR1160 : CHr Z EL1 s.vm h0 s.vm h1121 := CR1158.trans (CHr.wr W1121 sf1159 CR1158.1)
        have sf1161 : Safe Z EL1 s.vm h1121 b1115 := Safe.wr W1121 sf1159 CR1158.1 sf1159
        have CR1162 : CHr Z EL1 s.vm h0 s.vm h1123 := CR1160.trans (CHr.wr W1123 sf1161 CR1160.1)
        have sf1163 : Safe Z EL1 s.vm h1114 b1114 := Safe.ext E1114 CR0.1 sf_b1114
        have sf1164 : Safe Z EL1 s.vm h1115 b1114 := Safe.ext E1115 CR1155.1 sf1163
        have sf1165 : Safe Z EL1 s.vm h1119 b1114 := Safe.wr W1119 sf1157 CR1156.1 sf1164
        have sf1166 : Safe Z EL1 s.vm h1121 b1114 := Safe.wr W1121 sf1159 CR1158.1 sf1165
        have sf1167 : Safe Z EL1 s.vm h1123 b1114 := Safe.wr W1123 sf1161 CR1160.1 sf1166
        have CR1168 : CHr Z EL1 s.vm h0 s.vm T1148.heap := CR1162.trans (CHr.keep K1148 (sfS sf1167 sf0) CR1162.1)
        have ks1170 : h0.size ≤ h1114.size := Nat.le_trans ks0 E1114.1
        have ks1171 : h0.size ≤ h1115.size := Nat.le_trans ks1170 E1115.1
        have ks1172 : h0.size ≤ h1119.size := Nat.le_trans ks1171 (Keep.of_wr W1119).1
        have ks1173 : h0.size ≤ h1121.size := Nat.le_trans ks1172 (Keep.of_wr W1121).1
        have ks1174 : h0.size ≤ h1123.size := Nat.le_trans ks1173 (Keep.of_wr W1123).1
        have ks1175 : h0.size ≤ T1148.heap.size := Nat.le_trans ks1174 K1148.1
        refine Goes.callSW X1148 hx (y := y0_) hS0 ks1175 hZ hown (mvT hZ (own_w hw 30 rfl)) (mvT hZ (own_w hw 31 rfl)) (mvT hZ (own_w hw 32 rfl)) (mvT hZ (own_w hw 33 rfl)) (by decide) (kc' := 8) (ks' := 70) (backOfSH (W := 0) (rmLk3 l Z a0 hw [] b1114 t1148 kb1148 c0 c1 c2 zc fm T1148.heap n0 Z1153 O1154 S_CS hzc S_FM hfm g1148E g1148V g1148C g1148K hp1142) hZ (own_w hw 33 rfl) (own_w hw 32 rfl) (ok rfl) (ok rfl) hEL CR1168.1) (g := (mkF m 167 #[.val (.int p0), .val (.int p1), .val (.int p2), .val (.int p3), .val (.int p4), .val (.int (3 : Int32)), .val (.int c0), .val (.int c1), .val (.int c2), .val (.int c3), .val (.ref b1114), .unset, .unset] [(.ref b1114)])) rfl (by rw [hml]; rfl) (argsL := [(.ref b1114)]) (rest := []) (lenOf pd_68746 rfl) rfl (by show 2 * 0 + _ ≤ _; exact Nat.le_of_eq rfl) (hb hby at_167) rfl rfl (ok rfl) (ok rfl) ?_
        intro v1169 T1169 L1169 q1169 Y1169
        obtain ⟨X1169, hS1169, hZ, hown, CW1169⟩ := Y1169
        obtain ⟨x1169, r1169, kr1169, rfl, N1169q, K1169, g1169E, g1169v, g1169c, g1169V⟩ := q1169
        have N1169 := Fr.app N1148 N1169q
        have ks1169 : T1169.heap.size ≤ T1169.heap.size := Nat.le_refl _
        have hx1169 : ∀ c ∈ ([(109 : Int32), (117 : Int32), (116 : Int32), (120 : Int32), (58 : Int32), (123 : Int32), c0, c1, c2, (125 : Int32)] : List Int32), ¬ c < 0 ∧ ¬ (255 : Int32) < c := by
          intro c hc
          simp only [List.mem_cons, List.not_mem_nil, or_false] at hc
          rcases hc with rfl | rfl | rfl | rfl | rfl | rfl | rfl | rfl | rfl | rfl
          · exact (by decide)
          · exact (by decide)
          · exact (by decide)
          · exact (by decide)
          · exact (by decide)
          · exact (by decide)
          · exact (hp1142 _ (by simp))
          · exact (hp1142 _ (by simp))
          · exact (hp1142 _ (by simp))
          · exact (by decide)
        show Goes p e below _ T1169 (mkF m 170 #[.val (.int p0), .val (.int p1), .val (.int p2), .val (.int p3), .val (.int p4), .val (.int (3 : Int32)), .val (.int c0), .val (.int c1), .val (.int c2), .val (.int c3), .val (.ref b1114), .unset, .unset] [(.ref x1169)])
        refine P1.astore X1169.here hx #[.val (.int p0), .val (.int p1), .val (.int p2), .val (.int p3), .val (.int p4), .val (.int (3 : Int32)), .val (.int c0), .val (.int c1), .val (.int c2), .val (.int c3), .val (.ref b1114), .val (.ref x1169), .unset] (hb hby at_170) rfl rfl ?_
        refine P1.aload X1169.here hx (hb hby at_172) rfl rfl ?_
        refine P1.ifnullNo X1169.here hx (hb hby at_174) ?_
        refine P1.aload X1169.here hx (hb hby at_177) rfl rfl ?_
        have O1176 : Old Z n0 T1169.heap := O1154.keep K1169 all0
        refine Goes.callV X1169 hx hZ (y := y17_) (z := y17_) (Qc := fun v h' L => (v = some (.int (Int32.ofNat ([(109 : Int32), (117 : Int32), (116 : Int32), (120 : Int32), (58 : Int32), (123 : Int32), c0, c1, c2, (125 : Int32)] : List Int32).length)) ∧ L = [] ∧ h' = T1169.heap)) hown (mvT hZ (own_w hw 153 rfl)) (mvT hZ (own_w hw 71 rfl)) (notFace_of_selects (args := #[]) (mvT hZ (own_w hw 73 rfl))) (mvT hZ (own_w hw 73 rfl)) (mvT hZ (own_w hw 72 rfl)) (by decide) (kc' := 0) (ks' := 0) (StrChars.Road.lenW (W := 0) (s := s.setVm T1169.vm) hZ (fun d hd => hw d (in_wordsLen d hd)) (kI := 4) (own_w hw 1 rfl) g1169E g1169v g1169c g1169V (StrChars.Road.codOf (cs := ([(109 : Int32), (117 : Int32), (116 : Int32), (120 : Int32), (58 : Int32), (123 : Int32), c0, c1, c2, (125 : Int32)] : List Int32)) (n := 10) rfl (fun c hc => (hx1169 c hc).2)) (own_up hx1169) (S_CS.ext O1176.2) hzc (ok rfl) (ok rfl) (ok rfl)) (b := x1169) rfl g1169E (g := (mkF m 179 #[.val (.int p0), .val (.int p1), .val (.int p2), .val (.int p3), .val (.int p4), .val (.int (3 : Int32)), .val (.int c0), .val (.int c1), .val (.int c2), .val (.int c3), .val (.ref b1114), .val (.ref x1169), .unset] [(.ref x1169)])) rfl (by rw [hml]; rfl) (argsL := []) (rest := []) (lenOf pd_341 rfl) rfl (by show 2 * 0 + _ ≤ _; exact Nat.le_of_eq rfl) (hb hby at_179) rfl (ok rfl) (ok rfl) ?_
        intro v1177 T1177 L1177 q1177 X1177
        obtain ⟨rfl, rfl, hE1177⟩ := q1177
        have N1177 := Fr.app N1169 (Fr.nil n0)
        show Goes p e below _ T1177 (mkF m 182 #[.val (.int p0), .val (.int p1), .val (.int p2), .val (.int p3), .val (.int p4), .val (.int (3 : Int32)), .val (.int c0), .val (.int c1), .val (.int c2), .val (.int c3), .val (.ref b1114), .val (.ref x1169), .unset] [(.int (10 : Int32))])
        refine P1.iload X1177.here hx (hb hby at_182) rfl ?_
        refine P1.bipush X1177.here hx (7 : Int32) (hb hby at_184) rfl ?_
        refine P1.iadd X1177.here hx (hb hby at_186) ?_
        have rw1178 : ((3 : Int32) + (7 : Int32)) = (10 : Int32) := by decide
        rw [rw1178]
        refine P1.icmpYes X1177.here hx 192 (hb hby at_187) (teq (by decide : (10 : Int32) = (10 : Int32))).1 (by decide) (by decide) ?_
        refine P1.aload X1177.here hx (hb hby at_192) rfl rfl ?_
        refine P1.iconst X1177.here hx (0 : Int32) (hb hby at_194) rfl ?_
        refine Goes.callV X1177 hx hZ (y := y13_) (z := y13_) (Qc := fun v h' L => (v = some (.int (([(109 : Int32), (117 : Int32), (116 : Int32), (120 : Int32), (58 : Int32), (123 : Int32), c0, c1, c2, (125 : Int32)] : List Int32).getD 0 0)) ∧ L = [] ∧ h' = T1169.heap)) hown (mvT hZ (own_w hw 154 rfl)) (mvT hZ (own_w hw 155 rfl)) (notFace_of_selects (args := #[]) (mvT hZ (own_w hw 157 rfl))) (mvT hZ (own_w hw 157 rfl)) (mvT hZ (own_w hw 156 rfl)) (by decide) (kc' := 0) (ks' := 0) (StrChars.Road.chN (W := 0) (s := s.setVm T1169.vm) hZ (fun d hd => hw d (in_wordsChN d hd)) (kI := 4) (own_w hw 1 rfl) g1169E g1169v g1169c g1169V (StrChars.Road.codOf (cs := ([(109 : Int32), (117 : Int32), (116 : Int32), (120 : Int32), (58 : Int32), (123 : Int32), c0, c1, c2, (125 : Int32)] : List Int32)) (n := 10) rfl (fun c hc => (hx1169 c hc).2)) (own_up hx1169) (S_CS.ext O1176.2) hzc (S_FM.ext O1176.2) hfm (ok rfl) (i := 0) (ok rfl) (j := (0 : Int32)) rfl (ok rfl) (ok rfl)) (b := x1169) hE1177 g1169E (g := (mkF m 195 #[.val (.int p0), .val (.int p1), .val (.int p2), .val (.int p3), .val (.int p4), .val (.int (3 : Int32)), .val (.int c0), .val (.int c1), .val (.int c2), .val (.int c3), .val (.ref b1114), .val (.ref x1169), .unset] [(.int (0 : Int32)), (.ref x1169)])) rfl (by rw [hml]; rfl) (argsL := [(.int (0 : Int32))]) (rest := []) (lenOf pd_577 rfl) rfl (by show 2 * 0 + _ ≤ _; exact Nat.le_of_eq rfl) (hb hby at_195) rfl (ok rfl) (ok rfl) ?_
        intro v1179 T1179 L1179 q1179 X1179
        obtain ⟨rfl, rfl, hE1179⟩ := q1179
        have N1179 := Fr.app N1177 (Fr.nil n0)
        show Goes p e below _ T1179 (mkF m 198 #[.val (.int p0), .val (.int p1), .val (.int p2), .val (.int p3), .val (.int p4), .val (.int (3 : Int32)), .val (.int c0), .val (.int c1), .val (.int c2), .val (.int c3), .val (.ref b1114), .val (.ref x1169), .unset] [(.int (109 : Int32))])
        refine P1.bipush X1179.here hx (109 : Int32) (hb hby at_198) rfl ?_
        refine P1.icmpNo X1179.here hx (hb hby at_200) (teq (by decide : (109 : Int32) = (109 : Int32))).2 ?_
        refine P1.aload X1179.here hx (hb hby at_203) rfl rfl ?_
        refine P1.iconst X1179.here hx (1 : Int32) (hb hby at_205) rfl ?_
        refine Goes.callV X1179 hx hZ (y := y13_) (z := y13_) (Qc := fun v h' L => (v = some (.int (([(109 : Int32), (117 : Int32), (116 : Int32), (120 : Int32), (58 : Int32), (123 : Int32), c0, c1, c2, (125 : Int32)] : List Int32).getD 1 0)) ∧ L = [] ∧ h' = T1169.heap)) hown (mvT hZ (own_w hw 154 rfl)) (mvT hZ (own_w hw 155 rfl)) (notFace_of_selects (args := #[]) (mvT hZ (own_w hw 157 rfl))) (mvT hZ (own_w hw 157 rfl)) (mvT hZ (own_w hw 156 rfl)) (by decide) (kc' := 0) (ks' := 0) (StrChars.Road.chN (W := 0) (s := s.setVm T1169.vm) hZ (fun d hd => hw d (in_wordsChN d hd)) (kI := 4) (own_w hw 1 rfl) g1169E g1169v g1169c g1169V (StrChars.Road.codOf (cs := ([(109 : Int32), (117 : Int32), (116 : Int32), (120 : Int32), (58 : Int32), (123 : Int32), c0, c1, c2, (125 : Int32)] : List Int32)) (n := 10) rfl (fun c hc => (hx1169 c hc).2)) (own_up hx1169) (S_CS.ext O1176.2) hzc (S_FM.ext O1176.2) hfm (ok rfl) (i := 1) (ok rfl) (j := (1 : Int32)) rfl (ok rfl) (ok rfl)) (b := x1169) hE1179 g1169E (g := (mkF m 206 #[.val (.int p0), .val (.int p1), .val (.int p2), .val (.int p3), .val (.int p4), .val (.int (3 : Int32)), .val (.int c0), .val (.int c1), .val (.int c2), .val (.int c3), .val (.ref b1114), .val (.ref x1169), .unset] [(.int (1 : Int32)), (.ref x1169)])) rfl (by rw [hml]; rfl) (argsL := [(.int (1 : Int32))]) (rest := []) (lenOf pd_577 rfl) rfl (by show 2 * 0 + _ ≤ _; exact Nat.le_of_eq rfl) (hb hby at_206) rfl (ok rfl) (ok rfl) ?_
        intro v1180 T1180 L1180 q1180 X1180
        obtain ⟨rfl, rfl, hE1180⟩ := q1180
        have N1180 := Fr.app N1179 (Fr.nil n0)
        show Goes p e below _ T1180 (mkF m 209 #[.val (.int p0), .val (.int p1), .val (.int p2), .val (.int p3), .val (.int p4), .val (.int (3 : Int32)), .val (.int c0), .val (.int c1), .val (.int c2), .val (.int c3), .val (.ref b1114), .val (.ref x1169), .unset] [(.int (117 : Int32))])
        refine P1.bipush X1180.here hx (117 : Int32) (hb hby at_209) rfl ?_
        refine P1.icmpNo X1180.here hx (hb hby at_211) (teq (by decide : (117 : Int32) = (117 : Int32))).2 ?_
        refine P1.aload X1180.here hx (hb hby at_214) rfl rfl ?_
        refine P1.iconst X1180.here hx (2 : Int32) (hb hby at_216) rfl ?_
        refine Goes.callV X1180 hx hZ (y := y13_) (z := y13_) (Qc := fun v h' L => (v = some (.int (([(109 : Int32), (117 : Int32), (116 : Int32), (120 : Int32), (58 : Int32), (123 : Int32), c0, c1, c2, (125 : Int32)] : List Int32).getD 2 0)) ∧ L = [] ∧ h' = T1169.heap)) hown (mvT hZ (own_w hw 154 rfl)) (mvT hZ (own_w hw 155 rfl)) (notFace_of_selects (args := #[]) (mvT hZ (own_w hw 157 rfl))) (mvT hZ (own_w hw 157 rfl)) (mvT hZ (own_w hw 156 rfl)) (by decide) (kc' := 0) (ks' := 0) (StrChars.Road.chN (W := 0) (s := s.setVm T1169.vm) hZ (fun d hd => hw d (in_wordsChN d hd)) (kI := 4) (own_w hw 1 rfl) g1169E g1169v g1169c g1169V (StrChars.Road.codOf (cs := ([(109 : Int32), (117 : Int32), (116 : Int32), (120 : Int32), (58 : Int32), (123 : Int32), c0, c1, c2, (125 : Int32)] : List Int32)) (n := 10) rfl (fun c hc => (hx1169 c hc).2)) (own_up hx1169) (S_CS.ext O1176.2) hzc (S_FM.ext O1176.2) hfm (ok rfl) (i := 2) (ok rfl) (j := (2 : Int32)) rfl (ok rfl) (ok rfl)) (b := x1169) hE1180 g1169E (g := (mkF m 217 #[.val (.int p0), .val (.int p1), .val (.int p2), .val (.int p3), .val (.int p4), .val (.int (3 : Int32)), .val (.int c0), .val (.int c1), .val (.int c2), .val (.int c3), .val (.ref b1114), .val (.ref x1169), .unset] [(.int (2 : Int32)), (.ref x1169)])) rfl (by rw [hml]; rfl) (argsL := [(.int (2 : Int32))]) (rest := []) (lenOf pd_577 rfl) rfl (by show 2 * 0 + _ ≤ _; exact Nat.le_of_eq rfl) (hb hby at_217) rfl (ok rfl) (ok rfl) ?_
        intro v1181 T1181 L1181 q1181 X1181
        obtain ⟨rfl, rfl, hE1181⟩ := q1181
        have N1181 := Fr.app N1180 (Fr.nil n0)
        show Goes p e below _ T1181 (mkF m 220 #[.val (.int p0), .val (.int p1), .val (.int p2), .val (.int p3), .val (.int p4), .val (.int (3 : Int32)), .val (.int c0), .val (.int c1), .val (.int c2), .val (.int c3), .val (.ref b1114), .val (.ref x1169), .unset] [(.int (116 : Int32))])
        refine P1.bipush X1181.here hx (116 : Int32) (hb hby at_220) rfl ?_
        refine P1.icmpNo X1181.here hx (hb hby at_222) (teq (by decide : (116 : Int32) = (116 : Int32))).2 ?_
        refine P1.aload X1181.here hx (hb hby at_225) rfl rfl ?_
        refine P1.iconst X1181.here hx (3 : Int32) (hb hby at_227) rfl ?_
        refine Goes.callV X1181 hx hZ (y := y13_) (z := y13_) (Qc := fun v h' L => (v = some (.int (([(109 : Int32), (117 : Int32), (116 : Int32), (120 : Int32), (58 : Int32), (123 : Int32), c0, c1, c2, (125 : Int32)] : List Int32).getD 3 0)) ∧ L = [] ∧ h' = T1169.heap)) hown (mvT hZ (own_w hw 154 rfl)) (mvT hZ (own_w hw 155 rfl)) (notFace_of_selects (args := #[]) (mvT hZ (own_w hw 157 rfl))) (mvT hZ (own_w hw 157 rfl)) (mvT hZ (own_w hw 156 rfl)) (by decide) (kc' := 0) (ks' := 0) (StrChars.Road.chN (W := 0) (s := s.setVm T1169.vm) hZ (fun d hd => hw d (in_wordsChN d hd)) (kI := 4) (own_w hw 1 rfl) g1169E g1169v g1169c g1169V (StrChars.Road.codOf (cs := ([(109 : Int32), (117 : Int32), (116 : Int32), (120 : Int32), (58 : Int32), (123 : Int32), c0, c1, c2, (125 : Int32)] : List Int32)) (n := 10) rfl (fun c hc => (hx1169 c hc).2)) (own_up hx1169) (S_CS.ext O1176.2) hzc (S_FM.ext O1176.2) hfm (ok rfl) (i := 3) (ok rfl) (j := (3 : Int32)) rfl (ok rfl) (ok rfl)) (b := x1169) hE1181 g1169E (g := (mkF m 228 #[.val (.int p0), .val (.int p1), .val (.int p2), .val (.int p3), .val (.int p4), .val (.int (3 : Int32)), .val (.int c0), .val (.int c1), .val (.int c2), .val (.int c3), .val (.ref b1114), .val (.ref x1169), .unset] [(.int (3 : Int32)), (.ref x1169)])) rfl (by rw [hml]; rfl) (argsL := [(.int (3 : Int32))]) (rest := []) (lenOf pd_577 rfl) rfl (by show 2 * 0 + _ ≤ _; exact Nat.le_of_eq rfl) (hb hby at_228) rfl (ok rfl) (ok rfl) ?_
        intro v1182 T1182 L1182 q1182 X1182
        obtain ⟨rfl, rfl, hE1182⟩ := q1182
        have N1182 := Fr.app N1181 (Fr.nil n0)
        show Goes p e below _ T1182 (mkF m 231 #[.val (.int p0), .val (.int p1), .val (.int p2), .val (.int p3), .val (.int p4), .val (.int (3 : Int32)), .val (.int c0), .val (.int c1), .val (.int c2), .val (.int c3), .val (.ref b1114), .val (.ref x1169), .unset] [(.int (120 : Int32))])
        refine P1.bipush X1182.here hx (120 : Int32) (hb hby at_231) rfl ?_
        refine P1.icmpNo X1182.here hx (hb hby at_233) (teq (by decide : (120 : Int32) = (120 : Int32))).2 ?_
        refine P1.aload X1182.here hx (hb hby at_236) rfl rfl ?_
        refine P1.iconst X1182.here hx (4 : Int32) (hb hby at_238) rfl ?_
        refine Goes.callV X1182 hx hZ (y := y13_) (z := y13_) (Qc := fun v h' L => (v = some (.int (([(109 : Int32), (117 : Int32), (116 : Int32), (120 : Int32), (58 : Int32), (123 : Int32), c0, c1, c2, (125 : Int32)] : List Int32).getD 4 0)) ∧ L = [] ∧ h' = T1169.heap)) hown (mvT hZ (own_w hw 154 rfl)) (mvT hZ (own_w hw 155 rfl)) (notFace_of_selects (args := #[]) (mvT hZ (own_w hw 157 rfl))) (mvT hZ (own_w hw 157 rfl)) (mvT hZ (own_w hw 156 rfl)) (by decide) (kc' := 0) (ks' := 0) (StrChars.Road.chN (W := 0) (s := s.setVm T1169.vm) hZ (fun d hd => hw d (in_wordsChN d hd)) (kI := 4) (own_w hw 1 rfl) g1169E g1169v g1169c g1169V (StrChars.Road.codOf (cs := ([(109 : Int32), (117 : Int32), (116 : Int32), (120 : Int32), (58 : Int32), (123 : Int32), c0, c1, c2, (125 : Int32)] : List Int32)) (n := 10) rfl (fun c hc => (hx1169 c hc).2)) (own_up hx1169) (S_CS.ext O1176.2) hzc (S_FM.ext O1176.2) hfm (ok rfl) (i := 4) (ok rfl) (j := (4 : Int32)) rfl (ok rfl) (ok rfl)) (b := x1169) hE1182 g1169E (g := (mkF m 239 #[.val (.int p0), .val (.int p1), .val (.int p2), .val (.int p3), .val (.int p4), .val (.int (3 : Int32)), .val (.int c0), .val (.int c1), .val (.int c2), .val (.int c3), .val (.ref b1114), .val (.ref x1169), .unset] [(.int (4 : Int32)), (.ref x1169)])) rfl (by rw [hml]; rfl) (argsL := [(.int (4 : Int32))]) (rest := []) (lenOf pd_577 rfl) rfl (by show 2 * 0 + _ ≤ _; exact Nat.le_of_eq rfl) (hb hby at_239) rfl (ok rfl) (ok rfl) ?_
        intro v1183 T1183 L1183 q1183 X1183
        obtain ⟨rfl, rfl, hE1183⟩ := q1183
        have N1183 := Fr.app N1182 (Fr.nil n0)
        show Goes p e below _ T1183 (mkF m 242 #[.val (.int p0), .val (.int p1), .val (.int p2), .val (.int p3), .val (.int p4), .val (.int (3 : Int32)), .val (.int c0), .val (.int c1), .val (.int c2), .val (.int c3), .val (.ref b1114), .val (.ref x1169), .unset] [(.int (58 : Int32))])
        refine P1.bipush X1183.here hx (58 : Int32) (hb hby at_242) rfl ?_
        refine P1.icmpNo X1183.here hx (hb hby at_244) (teq (by decide : (58 : Int32) = (58 : Int32))).2 ?_
        refine P1.aload X1183.here hx (hb hby at_247) rfl rfl ?_
        refine P1.iconst X1183.here hx (5 : Int32) (hb hby at_249) rfl ?_
        refine Goes.callV X1183 hx hZ (y := y13_) (z := y13_) (Qc := fun v h' L => (v = some (.int (([(109 : Int32), (117 : Int32), (116 : Int32), (120 : Int32), (58 : Int32), (123 : Int32), c0, c1, c2, (125 : Int32)] : List Int32).getD 5 0)) ∧ L = [] ∧ h' = T1169.heap)) hown (mvT hZ (own_w hw 154 rfl)) (mvT hZ (own_w hw 155 rfl)) (notFace_of_selects (args := #[]) (mvT hZ (own_w hw 157 rfl))) (mvT hZ (own_w hw 157 rfl)) (mvT hZ (own_w hw 156 rfl)) (by decide) (kc' := 0) (ks' := 0) (StrChars.Road.chN (W := 0) (s := s.setVm T1169.vm) hZ (fun d hd => hw d (in_wordsChN d hd)) (kI := 4) (own_w hw 1 rfl) g1169E g1169v g1169c g1169V (StrChars.Road.codOf (cs := ([(109 : Int32), (117 : Int32), (116 : Int32), (120 : Int32), (58 : Int32), (123 : Int32), c0, c1, c2, (125 : Int32)] : List Int32)) (n := 10) rfl (fun c hc => (hx1169 c hc).2)) (own_up hx1169) (S_CS.ext O1176.2) hzc (S_FM.ext O1176.2) hfm (ok rfl) (i := 5) (ok rfl) (j := (5 : Int32)) rfl (ok rfl) (ok rfl)) (b := x1169) hE1183 g1169E (g := (mkF m 250 #[.val (.int p0), .val (.int p1), .val (.int p2), .val (.int p3), .val (.int p4), .val (.int (3 : Int32)), .val (.int c0), .val (.int c1), .val (.int c2), .val (.int c3), .val (.ref b1114), .val (.ref x1169), .unset] [(.int (5 : Int32)), (.ref x1169)])) rfl (by rw [hml]; rfl) (argsL := [(.int (5 : Int32))]) (rest := []) (lenOf pd_577 rfl) rfl (by show 2 * 0 + _ ≤ _; exact Nat.le_of_eq rfl) (hb hby at_250) rfl (ok rfl) (ok rfl) ?_
        intro v1184 T1184 L1184 q1184 X1184
        obtain ⟨rfl, rfl, hE1184⟩ := q1184
        have N1184 := Fr.app N1183 (Fr.nil n0)
        show Goes p e below _ T1184 (mkF m 253 #[.val (.int p0), .val (.int p1), .val (.int p2), .val (.int p3), .val (.int p4), .val (.int (3 : Int32)), .val (.int c0), .val (.int c1), .val (.int c2), .val (.int c3), .val (.ref b1114), .val (.ref x1169), .unset] [(.int (123 : Int32))])
        refine P1.bipush X1184.here hx (123 : Int32) (hb hby at_253) rfl ?_
        refine P1.icmpNo X1184.here hx (hb hby at_255) (teq (by decide : (123 : Int32) = (123 : Int32))).2 ?_
        refine P1.iconst X1184.here hx (1 : Int32) (hb hby at_258) rfl ?_
        refine P1.goto X1184.here hx 263 (hb hby at_259) (by decide) (by decide) ?_
        refine P1.istore X1184.here hx #[.val (.int p0), .val (.int p1), .val (.int p2), .val (.int p3), .val (.int p4), .val (.int (3 : Int32)), .val (.int c0), .val (.int c1), .val (.int c2), .val (.int c3), .val (.ref b1114), .val (.ref x1169), .val (.int (1 : Int32))] (hb hby at_263) rfl ?_
        refine P1.iload X1184.here hx (hb hby at_265) rfl ?_
        refine P1.ifNo X1184.here hx (hb hby at_267) ((if0 _ _).trans (feq (by decide : ¬ ((1 : Int32) = (0 : Int32)))).1) ?_
        refine P1.aload X1184.here hx (hb hby at_270) rfl rfl ?_
        refine P1.bipush X1184.here hx (6 : Int32) (hb hby at_272) rfl ?_
        refine Goes.callV X1184 hx hZ (y := y13_) (z := y13_) (Qc := fun v h' L => (v = some (.int (([(109 : Int32), (117 : Int32), (116 : Int32), (120 : Int32), (58 : Int32), (123 : Int32), c0, c1, c2, (125 : Int32)] : List Int32).getD 6 0)) ∧ L = [] ∧ h' = T1169.heap)) hown (mvT hZ (own_w hw 154 rfl)) (mvT hZ (own_w hw 155 rfl)) (notFace_of_selects (args := #[]) (mvT hZ (own_w hw 157 rfl))) (mvT hZ (own_w hw 157 rfl)) (mvT hZ (own_w hw 156 rfl)) (by decide) (kc' := 0) (ks' := 0) (StrChars.Road.chN (W := 0) (s := s.setVm T1169.vm) hZ (fun d hd => hw d (in_wordsChN d hd)) (kI := 4) (own_w hw 1 rfl) g1169E g1169v g1169c g1169V (StrChars.Road.codOf (cs := ([(109 : Int32), (117 : Int32), (116 : Int32), (120 : Int32), (58 : Int32), (123 : Int32), c0, c1, c2, (125 : Int32)] : List Int32)) (n := 10) rfl (fun c hc => (hx1169 c hc).2)) (own_up hx1169) (S_CS.ext O1176.2) hzc (S_FM.ext O1176.2) hfm (ok rfl) (i := 6) (ok rfl) (j := (6 : Int32)) rfl (ok rfl) (ok rfl)) (b := x1169) hE1184 g1169E (g := (mkF m 274 #[.val (.int p0), .val (.int p1), .val (.int p2), .val (.int p3), .val (.int p4), .val (.int (3 : Int32)), .val (.int c0), .val (.int c1), .val (.int c2), .val (.int c3), .val (.ref b1114), .val (.ref x1169), .val (.int (1 : Int32))] [(.int (6 : Int32)), (.ref x1169)])) rfl (by rw [hml]; rfl) (argsL := [(.int (6 : Int32))]) (rest := []) (lenOf pd_577 rfl) rfl (by show 2 * 0 + _ ≤ _; exact Nat.le_of_eq rfl) (hb hby at_274) rfl (ok rfl) (ok rfl) ?_
        intro v1185 T1185 L1185 q1185 X1185
        obtain ⟨rfl, rfl, hE1185⟩ := q1185
        have N1185 := Fr.app N1184 (Fr.nil n0)
        show Goes p e below _ T1185 (mkF m 277 #[.val (.int p0), .val (.int p1), .val (.int p2), .val (.int p3), .val (.int p4), .val (.int (3 : Int32)), .val (.int c0), .val (.int c1), .val (.int c2), .val (.int c3), .val (.ref b1114), .val (.ref x1169), .val (.int (1 : Int32))] [(.int c0)])
        refine P1.iload X1185.here hx (hb hby at_277) rfl ?_
        refine P1.icmpNo X1185.here hx (hb hby at_279) (teq (rfl : c0 = c0)).2 ?_
        refine P1.iconst X1185.here hx (1 : Int32) (hb hby at_282) rfl ?_
        refine P1.goto X1185.here hx 287 (hb hby at_283) (by decide) (by decide) ?_
        refine P1.istore X1185.here hx #[.val (.int p0), .val (.int p1), .val (.int p2), .val (.int p3), .val (.int p4), .val (.int (3 : Int32)), .val (.int c0), .val (.int c1), .val (.int c2), .val (.int c3), .val (.ref b1114), .val (.ref x1169), .val (.int (1 : Int32))] (hb hby at_287) rfl ?_
        refine P1.iload X1185.here hx (hb hby at_289) rfl ?_
        refine P1.iconst X1185.here hx (2 : Int32) (hb hby at_291) rfl ?_
        refine P1.icmpNo X1185.here hx (hb hby at_292) (flt (by decide : ¬ ((3 : Int32) < (2 : Int32)))).1 ?_
        refine P1.iload X1185.here hx (hb hby at_295) rfl ?_
        refine P1.ifNo X1185.here hx (hb hby at_297) ((if0 _ _).trans (feq (by decide : ¬ ((1 : Int32) = (0 : Int32)))).1) ?_
        refine P1.aload X1185.here hx (hb hby at_300) rfl rfl ?_
        refine P1.bipush X1185.here hx (7 : Int32) (hb hby at_302) rfl ?_
        refine Goes.callV X1185 hx hZ (y := y13_) (z := y13_) (Qc := fun v h' L => (v = some (.int (([(109 : Int32), (117 : Int32), (116 : Int32), (120 : Int32), (58 : Int32), (123 : Int32), c0, c1, c2, (125 : Int32)] : List Int32).getD 7 0)) ∧ L = [] ∧ h' = T1169.heap)) hown (mvT hZ (own_w hw 154 rfl)) (mvT hZ (own_w hw 155 rfl)) (notFace_of_selects (args := #[]) (mvT hZ (own_w hw 157 rfl))) (mvT hZ (own_w hw 157 rfl)) (mvT hZ (own_w hw 156 rfl)) (by decide) (kc' := 0) (ks' := 0) (StrChars.Road.chN (W := 0) (s := s.setVm T1169.vm) hZ (fun d hd => hw d (in_wordsChN d hd)) (kI := 4) (own_w hw 1 rfl) g1169E g1169v g1169c g1169V (StrChars.Road.codOf (cs := ([(109 : Int32), (117 : Int32), (116 : Int32), (120 : Int32), (58 : Int32), (123 : Int32), c0, c1, c2, (125 : Int32)] : List Int32)) (n := 10) rfl (fun c hc => (hx1169 c hc).2)) (own_up hx1169) (S_CS.ext O1176.2) hzc (S_FM.ext O1176.2) hfm (ok rfl) (i := 7) (ok rfl) (j := (7 : Int32)) rfl (ok rfl) (ok rfl)) (b := x1169) hE1185 g1169E (g := (mkF m 304 #[.val (.int p0), .val (.int p1), .val (.int p2), .val (.int p3), .val (.int p4), .val (.int (3 : Int32)), .val (.int c0), .val (.int c1), .val (.int c2), .val (.int c3), .val (.ref b1114), .val (.ref x1169), .val (.int (1 : Int32))] [(.int (7 : Int32)), (.ref x1169)])) rfl (by rw [hml]; rfl) (argsL := [(.int (7 : Int32))]) (rest := []) (lenOf pd_577 rfl) rfl (by show 2 * 0 + _ ≤ _; exact Nat.le_of_eq rfl) (hb hby at_304) rfl (ok rfl) (ok rfl) ?_
        intro v1186 T1186 L1186 q1186 X1186
        obtain ⟨rfl, rfl, hE1186⟩ := q1186
        have N1186 := Fr.app N1185 (Fr.nil n0)
        show Goes p e below _ T1186 (mkF m 307 #[.val (.int p0), .val (.int p1), .val (.int p2), .val (.int p3), .val (.int p4), .val (.int (3 : Int32)), .val (.int c0), .val (.int c1), .val (.int c2), .val (.int c3), .val (.ref b1114), .val (.ref x1169), .val (.int (1 : Int32))] [(.int c1)])
        refine P1.iload X1186.here hx (hb hby at_307) rfl ?_
        refine P1.icmpNo X1186.here hx (hb hby at_309) (teq (rfl : c1 = c1)).2 ?_
        refine P1.iconst X1186.here hx (1 : Int32) (hb hby at_312) rfl ?_
        refine P1.goto X1186.here hx 317 (hb hby at_313) (by decide) (by decide) ?_
        refine P1.istore X1186.here hx #[.val (.int p0), .val (.int p1), .val (.int p2), .val (.int p3), .val (.int p4), .val (.int (3 : Int32)), .val (.int c0), .val (.int c1), .val (.int c2), .val (.int c3), .val (.ref b1114), .val (.ref x1169), .val (.int (1 : Int32))] (hb hby at_317) rfl ?_
        refine P1.iload X1186.here hx (hb hby at_319) rfl ?_
        refine P1.iconst X1186.here hx (3 : Int32) (hb hby at_321) rfl ?_
        refine P1.icmpNo X1186.here hx (hb hby at_322) (flt (by decide : ¬ ((3 : Int32) < (3 : Int32)))).1 ?_
        refine P1.iload X1186.here hx (hb hby at_325) rfl ?_
        refine P1.ifNo X1186.here hx (hb hby at_327) ((if0 _ _).trans (feq (by decide : ¬ ((1 : Int32) = (0 : Int32)))).1) ?_
        refine P1.aload X1186.here hx (hb hby at_330) rfl rfl ?_
        refine P1.bipush X1186.here hx (8 : Int32) (hb hby at_332) rfl ?_
        refine Goes.callV X1186 hx hZ (y := y13_) (z := y13_) (Qc := fun v h' L => (v = some (.int (([(109 : Int32), (117 : Int32), (116 : Int32), (120 : Int32), (58 : Int32), (123 : Int32), c0, c1, c2, (125 : Int32)] : List Int32).getD 8 0)) ∧ L = [] ∧ h' = T1169.heap)) hown (mvT hZ (own_w hw 154 rfl)) (mvT hZ (own_w hw 155 rfl)) (notFace_of_selects (args := #[]) (mvT hZ (own_w hw 157 rfl))) (mvT hZ (own_w hw 157 rfl)) (mvT hZ (own_w hw 156 rfl)) (by decide) (kc' := 0) (ks' := 0) (StrChars.Road.chN (W := 0) (s := s.setVm T1169.vm) hZ (fun d hd => hw d (in_wordsChN d hd)) (kI := 4) (own_w hw 1 rfl) g1169E g1169v g1169c g1169V (StrChars.Road.codOf (cs := ([(109 : Int32), (117 : Int32), (116 : Int32), (120 : Int32), (58 : Int32), (123 : Int32), c0, c1, c2, (125 : Int32)] : List Int32)) (n := 10) rfl (fun c hc => (hx1169 c hc).2)) (own_up hx1169) (S_CS.ext O1176.2) hzc (S_FM.ext O1176.2) hfm (ok rfl) (i := 8) (ok rfl) (j := (8 : Int32)) rfl (ok rfl) (ok rfl)) (b := x1169) hE1186 g1169E (g := (mkF m 334 #[.val (.int p0), .val (.int p1), .val (.int p2), .val (.int p3), .val (.int p4), .val (.int (3 : Int32)), .val (.int c0), .val (.int c1), .val (.int c2), .val (.int c3), .val (.ref b1114), .val (.ref x1169), .val (.int (1 : Int32))] [(.int (8 : Int32)), (.ref x1169)])) rfl (by rw [hml]; rfl) (argsL := [(.int (8 : Int32))]) (rest := []) (lenOf pd_577 rfl) rfl (by show 2 * 0 + _ ≤ _; exact Nat.le_of_eq rfl) (hb hby at_334) rfl (ok rfl) (ok rfl) ?_
        intro v1187 T1187 L1187 q1187 X1187
        obtain ⟨rfl, rfl, hE1187⟩ := q1187
        have N1187 := Fr.app N1186 (Fr.nil n0)
        show Goes p e below _ T1187 (mkF m 337 #[.val (.int p0), .val (.int p1), .val (.int p2), .val (.int p3), .val (.int p4), .val (.int (3 : Int32)), .val (.int c0), .val (.int c1), .val (.int c2), .val (.int c3), .val (.ref b1114), .val (.ref x1169), .val (.int (1 : Int32))] [(.int c2)])
        refine P1.iload X1187.here hx (hb hby at_337) rfl ?_
        refine P1.icmpNo X1187.here hx (hb hby at_339) (teq (rfl : c2 = c2)).2 ?_
        refine P1.iconst X1187.here hx (1 : Int32) (hb hby at_342) rfl ?_
        refine P1.goto X1187.here hx 347 (hb hby at_343) (by decide) (by decide) ?_
        refine P1.istore X1187.here hx #[.val (.int p0), .val (.int p1), .val (.int p2), .val (.int p3), .val (.int p4), .val (.int (3 : Int32)), .val (.int c0), .val (.int c1), .val (.int c2), .val (.int c3), .val (.ref b1114), .val (.ref x1169), .val (.int (1 : Int32))] (hb hby at_347) rfl ?_
        refine P1.iload X1187.here hx (hb hby at_349) rfl ?_
        refine P1.iconst X1187.here hx (4 : Int32) (hb hby at_351) rfl ?_
        refine P1.icmpYes X1187.here hx 379 (hb hby at_352) (tlt (by decide : (3 : Int32) < (4 : Int32))).1 (by decide) (by decide) ?_
        refine P1.iload X1187.here hx (hb hby at_379) rfl ?_
        refine P1.ifNo X1187.here hx (hb hby at_381) ((if0 _ _).trans (feq (by decide : ¬ ((1 : Int32) = (0 : Int32)))).1) ?_
        refine P1.aload X1187.here hx (hb hby at_384) rfl rfl ?_
        refine P1.iload X1187.here hx (hb hby at_386) rfl ?_
        refine P1.bipush X1187.here hx (6 : Int32) (hb hby at_388) rfl ?_
        refine P1.iadd X1187.here hx (hb hby at_390) ?_
        have rw1188 : ((3 : Int32) + (6 : Int32)) = (9 : Int32) := by decide
        rw [rw1188]
        refine Goes.callV X1187 hx hZ (y := y13_) (z := y13_) (Qc := fun v h' L => (v = some (.int (([(109 : Int32), (117 : Int32), (116 : Int32), (120 : Int32), (58 : Int32), (123 : Int32), c0, c1, c2, (125 : Int32)] : List Int32).getD 9 0)) ∧ L = [] ∧ h' = T1169.heap)) hown (mvT hZ (own_w hw 154 rfl)) (mvT hZ (own_w hw 155 rfl)) (notFace_of_selects (args := #[]) (mvT hZ (own_w hw 157 rfl))) (mvT hZ (own_w hw 157 rfl)) (mvT hZ (own_w hw 156 rfl)) (by decide) (kc' := 0) (ks' := 0) (StrChars.Road.chN (W := 0) (s := s.setVm T1169.vm) hZ (fun d hd => hw d (in_wordsChN d hd)) (kI := 4) (own_w hw 1 rfl) g1169E g1169v g1169c g1169V (StrChars.Road.codOf (cs := ([(109 : Int32), (117 : Int32), (116 : Int32), (120 : Int32), (58 : Int32), (123 : Int32), c0, c1, c2, (125 : Int32)] : List Int32)) (n := 10) rfl (fun c hc => (hx1169 c hc).2)) (own_up hx1169) (S_CS.ext O1176.2) hzc (S_FM.ext O1176.2) hfm (ok rfl) (i := 9) (ok rfl) (j := (9 : Int32)) rfl (ok rfl) (ok rfl)) (b := x1169) hE1187 g1169E (g := (mkF m 391 #[.val (.int p0), .val (.int p1), .val (.int p2), .val (.int p3), .val (.int p4), .val (.int (3 : Int32)), .val (.int c0), .val (.int c1), .val (.int c2), .val (.int c3), .val (.ref b1114), .val (.ref x1169), .val (.int (1 : Int32))] [(.int (9 : Int32)), (.ref x1169)])) rfl (by rw [hml]; rfl) (argsL := [(.int (9 : Int32))]) (rest := []) (lenOf pd_577 rfl) rfl (by show 2 * 0 + _ ≤ _; exact Nat.le_of_eq rfl) (hb hby at_391) rfl (ok rfl) (ok rfl) ?_
        intro v1189 T1189 L1189 q1189 X1189
        obtain ⟨rfl, rfl, hE1189⟩ := q1189
        have N1189 := Fr.app N1187 (Fr.nil n0)
        show Goes p e below _ T1189 (mkF m 394 #[.val (.int p0), .val (.int p1), .val (.int p2), .val (.int p3), .val (.int p4), .val (.int (3 : Int32)), .val (.int c0), .val (.int c1), .val (.int c2), .val (.int c3), .val (.ref b1114), .val (.ref x1169), .val (.int (1 : Int32))] [(.int (125 : Int32))])
        refine P1.bipush X1189.here hx (125 : Int32) (hb hby at_394) rfl ?_
        refine P1.icmpNo X1189.here hx (hb hby at_396) (teq (by decide : (125 : Int32) = (125 : Int32))).2 ?_
        refine P1.iconst X1189.here hx (1 : Int32) (hb hby at_399) rfl ?_
        refine P1.goto X1189.here hx 404 (hb hby at_400) (by decide) (by decide) ?_
        refine P1.istore X1189.here hx #[.val (.int p0), .val (.int p1), .val (.int p2), .val (.int p3), .val (.int p4), .val (.int (3 : Int32)), .val (.int c0), .val (.int c1), .val (.int c2), .val (.int c3), .val (.ref b1114), .val (.ref x1169), .val (.int (1 : Int32))] (hb hby at_404) rfl ?_
        refine P1.iload X1189.here hx (hb hby at_406) rfl ?_
        have CR1190 : CHr Z EL1 s.vm h0 T1169.vm T1169.heap := CR1168.trans CW1169
        refine Goes.retNW X1189 hx Bd.notSynchronized hS1169 ks1169 hZ hEL (hh ▸ CR1190) hE1189 (t := .boolean) Bd.returns (by simp) (hb hby at_408) (ok rfl) (ok rfl) ?_
        exact ⟨rfl, N1189⟩
      ·
        have rw1191 : nn = (4 : Int32) := by rcases hn4 with q | q | q | q <;> first | exact q | exact absurd q (by assumption)
        rw [rw1191]
        refine P1.icmpYes X0.here hx 133 (hb hby at_100) (feq (by decide : ¬ ((4 : Int32) = (3 : Int32)))).2 (by decide) (by decide) ?_
        obtain ⟨T1192, h1192, X1192, e1192, E1192, A1192, D1192, -, st1192⟩ := newO X0 hx hZ hown (own_w hw 0 rfl) (own_w hw 1 rfl) (own_w hw 2 rfl) e0 (g := (mkF m 133 #[.val (.int p0), .val (.int p1), .val (.int p2), .val (.int p3), .val (.int p4), .val (.int (4 : Int32)), .val (.int c0), .val (.int c1), .val (.int c2), .val (.int c3), .unset, .unset, .unset] [])) rfl (hb hby at_133) (ok rfl) (ok rfl)
        obtain ⟨b1192, g1192⟩ : ∃ z, z = h0.size := ⟨_, rfl⟩
        rw [← g1192] at A1192 D1192 st1192
        have ge_b1192 : n0 ≤ b1192 := Nat.le_trans Z0 (Nat.le_of_eq g1192.symm)
        have sz_b1192 : h0.size ≤ b1192 := Nat.le_trans K0.1 (Nat.le_of_eq g1192.symm)
        have sf_b1192 : Safe Z EL1 s.vm h0 b1192 := Safe.new (Nat.le_of_eq g1192.symm)
        have F1192_coder : Fld Z h1192 b1192 "java/lang/String" "coder" "B" (.int (0 : Int32)) := D1192 (Or.inr (own_w hw 27 rfl)) (ty := .byte) (by decide)
        have F1192_value : Fld Z h1192 b1192 "java/lang/String" "value" "[B" .null := D1192 (Or.inr (own_w hw 29 rfl)) (ty := (.array .byte)) (by decide)
        refine Goes.step (T' := T1192) (g' := (mkF m 136 #[.val (.int p0), .val (.int p1), .val (.int p2), .val (.int p3), .val (.int p4), .val (.int (4 : Int32)), .val (.int c0), .val (.int c1), .val (.int c2), .val (.int c3), .unset, .unset, .unset] [(.ref b1192)])) st1192 ?_
        refine P1.dup X1192.here hx (hb hby at_136) rfl ?_
        refine P1.iconst X1192.here hx (4 : Int32) (hb hby at_137) rfl ?_
        obtain ⟨T1193, h1193, k1193, X1193, e1193, E1193, A1193, st1193⟩ := newP X1192 hx hZ (own_w hw 3 rfl) e1192 (g := (mkF m 138 #[.val (.int p0), .val (.int p1), .val (.int p2), .val (.int p3), .val (.int p4), .val (.int (4 : Int32)), .val (.int c0), .val (.int c1), .val (.int c2), .val (.int c3), .unset, .unset, .unset] [(.int (4 : Int32)), (.ref b1192), (.ref b1192)])) rfl (hb hby at_138) rfl (by decide) (cap := 4) (ok rfl) (ok rfl) (ok rfl) (ok rfl)
        have Z1194 : n0 ≤ h1192.size := Nat.le_trans Z0 E1192.1
        have K1195 : Keep h0 h1192 [] := K0.ext E1192
        obtain ⟨b1193, g1193⟩ : ∃ z, z = h1192.size := ⟨_, rfl⟩
        rw [← g1193] at A1193 st1193
        have ge_b1193 : n0 ≤ b1193 := Nat.le_trans Z1194 (Nat.le_of_eq g1193.symm)
        have sz_b1193 : h0.size ≤ b1193 := Nat.le_trans K1195.1 (Nat.le_of_eq g1193.symm)
        have sf_b1193 : Safe Z EL1 s.vm h1192 b1193 := Safe.new (Nat.le_of_eq g1193.symm)
        have V1193 : Arv Z h1193 b1193 k1193 .char (4 : Int32) [(.int (0 : Int32)), (.int (0 : Int32)), (.int (0 : Int32)), (.int (0 : Int32))] (.int (0 : Int32)) := (Arv.new A1193 (by decide)).pad (pad_rep [] (.int (0 : Int32)) 4)
        refine Goes.step (T' := T1193) (g' := (mkF m 140 #[.val (.int p0), .val (.int p1), .val (.int p2), .val (.int p3), .val (.int p4), .val (.int (4 : Int32)), .val (.int c0), .val (.int c1), .val (.int c2), .val (.int c3), .unset, .unset, .unset] [(.ref b1193), (.ref b1192), (.ref b1192)])) st1193 ?_
        refine P1.dup X1193.here hx (hb hby at_140) rfl ?_
        refine P1.iconst X1193.here hx (0 : Int32) (hb hby at_141) rfl ?_
        refine P1.iload X1193.here hx (hb hby at_142) rfl ?_
        obtain ⟨cl1196, Ar1196, qk1196, sl1196, nz1196, ha1196, fi1196⟩ := id V1193
        obtain ⟨T1197, h1197, X1197, e1197, W1197, st1197⟩ := stC X1193 hx hZ e1193 Ar1196 (j := (0 : Int32)) (inb_of sl1196 ⟨by decide, by decide⟩) (g := (mkF m 144 #[.val (.int p0), .val (.int p1), .val (.int p2), .val (.int p3), .val (.int p4), .val (.int (4 : Int32)), .val (.int c0), .val (.int c1), .val (.int c2), .val (.int c3), .unset, .unset, .unset] [(.int c0), (.int (0 : Int32)), (.ref b1193), (.ref b1193), (.ref b1192), (.ref b1192)])) rfl rfl (hb hby at_144)
        rw [(own_nar bd_c0)] at W1197
        have V1197 : Arv Z h1197 b1193 k1193 .char (4 : Int32) [(.int c0), (.int (0 : Int32)), (.int (0 : Int32)), (.int (0 : Int32))] (.int (0 : Int32)) := Arv.set Ar1196 qk1196 sl1196 nz1196 ha1196 fi1196 ((own_nar bd_c0) ▸ fits_nar_char c0) W1197 0 rfl (ok rfl)
        have N1197 := Fr.snoc X1197 N0 ge_b1193
        refine Goes.step (T' := T1197) (g' := (mkF m 145 #[.val (.int p0), .val (.int p1), .val (.int p2), .val (.int p3), .val (.int p4), .val (.int (4 : Int32)), .val (.int c0), .val (.int c1), .val (.int c2), .val (.int c3), .unset, .unset, .unset] [(.ref b1193), (.ref b1192), (.ref b1192)])) st1197 ?_
        refine P1.dup X1197.here hx (hb hby at_145) rfl ?_
        refine P1.iconst X1197.here hx (1 : Int32) (hb hby at_146) rfl ?_
        refine P1.iload X1197.here hx (hb hby at_147) rfl ?_
        obtain ⟨cl1198, Ar1198, qk1198, sl1198, nz1198, ha1198, fi1198⟩ := id V1197
        obtain ⟨T1199, h1199, X1199, e1199, W1199, st1199⟩ := stC X1197 hx hZ e1197 Ar1198 (j := (1 : Int32)) (inb_of sl1198 ⟨by decide, by decide⟩) (g := (mkF m 149 #[.val (.int p0), .val (.int p1), .val (.int p2), .val (.int p3), .val (.int p4), .val (.int (4 : Int32)), .val (.int c0), .val (.int c1), .val (.int c2), .val (.int c3), .unset, .unset, .unset] [(.int c1), (.int (1 : Int32)), (.ref b1193), (.ref b1193), (.ref b1192), (.ref b1192)])) rfl rfl (hb hby at_149)
        rw [(own_nar bd_c1)] at W1199
        have V1199 : Arv Z h1199 b1193 k1193 .char (4 : Int32) [(.int c0), (.int c1), (.int (0 : Int32)), (.int (0 : Int32))] (.int (0 : Int32)) := Arv.set Ar1198 qk1198 sl1198 nz1198 ha1198 fi1198 ((own_nar bd_c1) ▸ fits_nar_char c1) W1199 1 rfl (ok rfl)
        have N1199 := Fr.snoc X1199 N1197 ge_b1193
        refine Goes.step (T' := T1199) (g' := (mkF m 150 #[.val (.int p0), .val (.int p1), .val (.int p2), .val (.int p3), .val (.int p4), .val (.int (4 : Int32)), .val (.int c0), .val (.int c1), .val (.int c2), .val (.int c3), .unset, .unset, .unset] [(.ref b1193), (.ref b1192), (.ref b1192)])) st1199 ?_
        refine P1.dup X1199.here hx (hb hby at_150) rfl ?_
        refine P1.iconst X1199.here hx (2 : Int32) (hb hby at_151) rfl ?_
        refine P1.iload X1199.here hx (hb hby at_152) rfl ?_
        obtain ⟨cl1200, Ar1200, qk1200, sl1200, nz1200, ha1200, fi1200⟩ := id V1199
        obtain ⟨T1201, h1201, X1201, e1201, W1201, st1201⟩ := stC X1199 hx hZ e1199 Ar1200 (j := (2 : Int32)) (inb_of sl1200 ⟨by decide, by decide⟩) (g := (mkF m 154 #[.val (.int p0), .val (.int p1), .val (.int p2), .val (.int p3), .val (.int p4), .val (.int (4 : Int32)), .val (.int c0), .val (.int c1), .val (.int c2), .val (.int c3), .unset, .unset, .unset] [(.int c2), (.int (2 : Int32)), (.ref b1193), (.ref b1193), (.ref b1192), (.ref b1192)])) rfl rfl (hb hby at_154)
        rw [(own_nar bd_c2)] at W1201
        have V1201 : Arv Z h1201 b1193 k1193 .char (4 : Int32) [(.int c0), (.int c1), (.int c2), (.int (0 : Int32))] (.int (0 : Int32)) := Arv.set Ar1200 qk1200 sl1200 nz1200 ha1200 fi1200 ((own_nar bd_c2) ▸ fits_nar_char c2) W1201 2 rfl (ok rfl)
        have N1201 := Fr.snoc X1201 N1199 ge_b1193
        refine Goes.step (T' := T1201) (g' := (mkF m 155 #[.val (.int p0), .val (.int p1), .val (.int p2), .val (.int p3), .val (.int p4), .val (.int (4 : Int32)), .val (.int c0), .val (.int c1), .val (.int c2), .val (.int c3), .unset, .unset, .unset] [(.ref b1193), (.ref b1192), (.ref b1192)])) st1201 ?_
        refine P1.dup X1201.here hx (hb hby at_155) rfl ?_
        refine P1.iconst X1201.here hx (3 : Int32) (hb hby at_156) rfl ?_
        refine P1.iload X1201.here hx (hb hby at_157) rfl ?_
        obtain ⟨cl1202, Ar1202, qk1202, sl1202, nz1202, ha1202, fi1202⟩ := id V1201
        obtain ⟨T1203, h1203, X1203, e1203, W1203, st1203⟩ := stC X1201 hx hZ e1201 Ar1202 (j := (3 : Int32)) (inb_of sl1202 ⟨by decide, by decide⟩) (g := (mkF m 159 #[.val (.int p0), .val (.int p1), .val (.int p2), .val (.int p3), .val (.int p4), .val (.int (4 : Int32)), .val (.int c0), .val (.int c1), .val (.int c2), .val (.int c3), .unset, .unset, .unset] [(.int c3), (.int (3 : Int32)), (.ref b1193), (.ref b1193), (.ref b1192), (.ref b1192)])) rfl rfl (hb hby at_159)
        rw [(own_nar bd_c3)] at W1203
        have V1203 : Arv Z h1203 b1193 k1193 .char (4 : Int32) [(.int c0), (.int c1), (.int c2), (.int c3)] (.int (0 : Int32)) := Arv.set Ar1202 qk1202 sl1202 nz1202 ha1202 fi1202 ((own_nar bd_c3) ▸ fits_nar_char c3) W1203 3 rfl (ok rfl)
        have N1203 := Fr.snoc X1203 N1201 ge_b1193
        refine Goes.step (T' := T1203) (g' := (mkF m 160 #[.val (.int p0), .val (.int p1), .val (.int p2), .val (.int p3), .val (.int p4), .val (.int (4 : Int32)), .val (.int c0), .val (.int c1), .val (.int c2), .val (.int c3), .unset, .unset, .unset] [(.ref b1193), (.ref b1192), (.ref b1192)])) st1203 ?_
        have E1204 : Exa Z h1193 b1192 "java/lang/String" := A1192.ext E1193
        have E1205 : Exa Z h1197 b1192 "java/lang/String" := E1204.wr W1197
        have E1206 : Exa Z h1199 b1192 "java/lang/String" := E1205.wr W1199
        have E1207 : Exa Z h1201 b1192 "java/lang/String" := E1206.wr W1201
        have E1208 : Exa Z h1203 b1192 "java/lang/String" := E1207.wr W1203
        have F1209 : Fld Z h1193 b1192 "java/lang/String" "value" "[B" .null := F1192_value.ext E1193
        have ne1210 : b1192 ≠ b1193 := Nat.ne_of_lt (Nat.lt_of_lt_of_le A1192.lt (Nat.le_of_eq g1193.symm))
        have F1211 : Fld Z h1197 b1192 "java/lang/String" "value" "[B" .null := F1209.other W1197 (Or.inl ne1210)
        have F1212 : Fld Z h1199 b1192 "java/lang/String" "value" "[B" .null := F1211.other W1199 (Or.inl ne1210)
        have F1213 : Fld Z h1201 b1192 "java/lang/String" "value" "[B" .null := F1212.other W1201 (Or.inl ne1210)
        have F1214 : Fld Z h1203 b1192 "java/lang/String" "value" "[B" .null := F1213.other W1203 (Or.inl ne1210)
        have F1215 : Fld Z h1193 b1192 "java/lang/String" "coder" "B" (.int (0 : Int32)) := F1192_coder.ext E1193
        have F1216 : Fld Z h1197 b1192 "java/lang/String" "coder" "B" (.int (0 : Int32)) := F1215.other W1197 (Or.inl ne1210)
        have F1217 : Fld Z h1199 b1192 "java/lang/String" "coder" "B" (.int (0 : Int32)) := F1216.other W1199 (Or.inl ne1210)
        have F1218 : Fld Z h1201 b1192 "java/lang/String" "coder" "B" (.int (0 : Int32)) := F1217.other W1201 (Or.inl ne1210)
        have F1219 : Fld Z h1203 b1192 "java/lang/String" "coder" "B" (.int (0 : Int32)) := F1218.other W1203 (Or.inl ne1210)
        have Z1220 : n0 ≤ h1193.size := Nat.le_trans Z1194 E1193.1
        have Z1221 : n0 ≤ h1197.size := Nat.le_trans Z1220 (Keep.of_wr W1197).1
        have Z1222 : n0 ≤ h1199.size := Nat.le_trans Z1221 (Keep.of_wr W1199).1
        have Z1223 : n0 ≤ h1201.size := Nat.le_trans Z1222 (Keep.of_wr W1201).1
        have Z1224 : n0 ≤ h1203.size := Nat.le_trans Z1223 (Keep.of_wr W1203).1
        have hq1225 : ∀ c ∈ ([c0, c1, c2, c3] : List Int32), ¬ c < 0 ∧ ¬ (255 : Int32) < c := by
          intro c hc
          simp only [List.mem_cons, List.not_mem_nil, or_false] at hc
          rcases hc with rfl | rfl | rfl | rfl
          · exact bd_c0
          · exact bd_c1
          · exact bd_c2
          · exact bd_c3
        have hp1226 : ∀ c ∈ ([c0, c1, c2, c3] : List Int32), ¬ c < 0 ∧ ¬ (255 : Int32) < c := hq1225
        have O1227 : Old Z n0 h1192 := O0.ext E1192
        have O1228 : Old Z n0 h1193 := O1227.ext E1193
        have O1229 : Old Z n0 h1197 := O1228.wr W1197 ge_b1193
        have O1230 : Old Z n0 h1199 := O1229.wr W1199 ge_b1193
        have O1231 : Old Z n0 h1201 := O1230.wr W1201 ge_b1193
        have O1232 : Old Z n0 h1203 := O1231.wr W1203 ge_b1193
        refine Goes.callC X1203 hx (y := y12_) rfl hown (mvT hZ (own_w hw 4 rfl)) (mvT hZ (own_w hw 5 rfl)) (mvT hZ (own_w hw 6 rfl)) (by decide) (kc' := 1) (ks' := 4) (StrChars.Road.backV (W := 1) hZ (fun d hd => hw d (in_words d hd)) (kI := 4) (own_w hw 1 rfl) (cs := ([c0, c1, c2, c3] : List Int32)) (bs := ([c0, c1, c2, c3] : List Int32).map (fun c => c.toInt8.toInt32)) (n := 4) ge_b1192 Z1224 E1208 F1214 F1219 V1203 (S_CS.ext O1232.2) hzc rfl rfl (by decide) (by decide) hp1226 rfl (ok rfl) (ok rfl)) (g := (mkF m 160 #[.val (.int p0), .val (.int p1), .val (.int p2), .val (.int p3), .val (.int p4), .val (.int (4 : Int32)), .val (.int c0), .val (.int c1), .val (.int c2), .val (.int c3), .unset, .unset, .unset] [(.ref b1193), (.ref b1192), (.ref b1192)])) (a := b1192) rfl (by rw [hml]; rfl) (argsL := [(.ref b1193)]) (rest := [(.ref b1192)]) (lenOf pd_1017 rfl) rfl (by show 2 * 0 + _ ≤ _; exact Nat.le_of_eq rfl) (hb hby at_160) rfl e1203 (ok rfl) (ok rfl) ?_
        intro v1233 T1233 L1233 q1233 X1233
        obtain ⟨rfl, N1233q, K1233, g1233E, g1233C, t1233, kb1233, ge_t1233, szt1233, net1233, g1233V, g1233K⟩ := q1233
        have K1234 : Keep h0 h1193 [] := K1195.ext E1193
        have K1235 : Keep h0 h1197 [] := K1234.wr W1197 (Or.inr sz_b1193)
        have K1236 : Keep h0 h1199 [] := K1235.wr W1199 (Or.inr sz_b1193)
        have K1237 : Keep h0 h1201 [] := K1236.wr W1201 (Or.inr sz_b1193)
        have K1238 : Keep h0 h1203 [] := K1237.wr W1203 (Or.inr sz_b1193)
        have N1233 := Fr.app N1203 N1233q
        have sz_t1233 : h0.size ≤ t1233 := Nat.le_trans K1238.1 szt1233
        show Goes p e below _ T1233 (mkF m 163 #[.val (.int p0), .val (.int p1), .val (.int p2), .val (.int p3), .val (.int p4), .val (.int (4 : Int32)), .val (.int c0), .val (.int c1), .val (.int c2), .val (.int c3), .unset, .unset, .unset] [(.ref b1192)])
        refine P1.astore X1233.here hx #[.val (.int p0), .val (.int p1), .val (.int p2), .val (.int p3), .val (.int p4), .val (.int (4 : Int32)), .val (.int c0), .val (.int c1), .val (.int c2), .val (.int c3), .val (.ref b1192), .unset, .unset] (hb hby at_163) rfl rfl ?_
        refine P1.aload X1233.here hx (hb hby at_165) rfl rfl ?_
        have Z1239 : n0 ≤ T1233.heap.size := Nat.le_trans Z1224 K1233.1
        have O1240 : Old Z n0 T1233.heap := O1232.keep K1233 (allS ge_b1192 all0)
        have CR1241 : CHr Z EL1 s.vm h0 s.vm h1192 := CR0.trans (CHr.ext E1192 CR0.1)
        have CR1242 : CHr Z EL1 s.vm h0 s.vm h1193 := CR1241.trans (CHr.ext E1193 CR1241.1)
        have sf1243 : Safe Z EL1 s.vm h1193 b1193 := Safe.ext E1193 CR1241.1 sf_b1193
        have CR1244 : CHr Z EL1 s.vm h0 s.vm h1197 := CR1242.trans (CHr.wr W1197 sf1243 CR1242.1)
        have sf1245 : Safe Z EL1 s.vm h1197 b1193 := Safe.wr W1197 sf1243 CR1242.1 sf1243
        have CR1246 : CHr Z EL1 s.vm h0 s.vm h1199 := CR1244.trans (CHr.wr W1199 sf1245 CR1244.1)
        have sf1247 : Safe Z EL1 s.vm h1199 b1193 := Safe.wr W1199 sf1245 CR1244.1 sf1245
        have CR1248 : CHr Z EL1 s.vm h0 s.vm h1201 := CR1246.trans (CHr.wr W1201 sf1247 CR1246.1)
        have sf1249 : Safe Z EL1 s.vm h1201 b1193 := Safe.wr W1201 sf1247 CR1246.1 sf1247
        have CR1250 : CHr Z EL1 s.vm h0 s.vm h1203 := CR1248.trans (CHr.wr W1203 sf1249 CR1248.1)
        have sf1251 : Safe Z EL1 s.vm h1192 b1192 := Safe.ext E1192 CR0.1 sf_b1192
        have sf1252 : Safe Z EL1 s.vm h1193 b1192 := Safe.ext E1193 CR1241.1 sf1251
        have sf1253 : Safe Z EL1 s.vm h1197 b1192 := Safe.wr W1197 sf1243 CR1242.1 sf1252
        have sf1254 : Safe Z EL1 s.vm h1199 b1192 := Safe.wr W1199 sf1245 CR1244.1 sf1253
        have sf1255 : Safe Z EL1 s.vm h1201 b1192 := Safe.wr W1201 sf1247 CR1246.1 sf1254
        have sf1256 : Safe Z EL1 s.vm h1203 b1192 := Safe.wr W1203 sf1249 CR1248.1 sf1255
        have CR1257 : CHr Z EL1 s.vm h0 s.vm T1233.heap := CR1250.trans (CHr.keep K1233 (sfS sf1256 sf0) CR1250.1)
        have ks1259 : h0.size ≤ h1192.size := Nat.le_trans ks0 E1192.1
        have ks1260 : h0.size ≤ h1193.size := Nat.le_trans ks1259 E1193.1
        have ks1261 : h0.size ≤ h1197.size := Nat.le_trans ks1260 (Keep.of_wr W1197).1
        have ks1262 : h0.size ≤ h1199.size := Nat.le_trans ks1261 (Keep.of_wr W1199).1
        have ks1263 : h0.size ≤ h1201.size := Nat.le_trans ks1262 (Keep.of_wr W1201).1
        have ks1264 : h0.size ≤ h1203.size := Nat.le_trans ks1263 (Keep.of_wr W1203).1
        have ks1265 : h0.size ≤ T1233.heap.size := Nat.le_trans ks1264 K1233.1
        refine Goes.callSW X1233 hx (y := y0_) hS0 ks1265 hZ hown (mvT hZ (own_w hw 30 rfl)) (mvT hZ (own_w hw 31 rfl)) (mvT hZ (own_w hw 32 rfl)) (mvT hZ (own_w hw 33 rfl)) (by decide) (kc' := 8) (ks' := 71) (backOfSH (W := 0) (rmLk4 l Z a0 hw [] b1192 t1233 kb1233 c0 c1 c2 c3 zc fm T1233.heap n0 Z1239 O1240 S_CS hzc S_FM hfm g1233E g1233V g1233C g1233K hp1226) hZ (own_w hw 33 rfl) (own_w hw 32 rfl) (ok rfl) (ok rfl) hEL CR1257.1) (g := (mkF m 167 #[.val (.int p0), .val (.int p1), .val (.int p2), .val (.int p3), .val (.int p4), .val (.int (4 : Int32)), .val (.int c0), .val (.int c1), .val (.int c2), .val (.int c3), .val (.ref b1192), .unset, .unset] [(.ref b1192)])) rfl (by rw [hml]; rfl) (argsL := [(.ref b1192)]) (rest := []) (lenOf pd_68746 rfl) rfl (by show 2 * 0 + _ ≤ _; exact Nat.le_of_eq rfl) (hb hby at_167) rfl rfl (ok rfl) (ok rfl) ?_
        intro v1258 T1258 L1258 q1258 Y1258
        obtain ⟨X1258, hS1258, hZ, hown, CW1258⟩ := Y1258
        obtain ⟨x1258, r1258, kr1258, rfl, N1258q, K1258, g1258E, g1258v, g1258c, g1258V⟩ := q1258
        have N1258 := Fr.app N1233 N1258q
        have ks1258 : T1258.heap.size ≤ T1258.heap.size := Nat.le_refl _
        have hx1258 : ∀ c ∈ ([(109 : Int32), (117 : Int32), (116 : Int32), (120 : Int32), (58 : Int32), (123 : Int32), c0, c1, c2, c3, (125 : Int32)] : List Int32), ¬ c < 0 ∧ ¬ (255 : Int32) < c := by
          intro c hc
          simp only [List.mem_cons, List.not_mem_nil, or_false] at hc
          rcases hc with rfl | rfl | rfl | rfl | rfl | rfl | rfl | rfl | rfl | rfl | rfl
          · exact (by decide)
          · exact (by decide)
          · exact (by decide)
          · exact (by decide)
          · exact (by decide)
          · exact (by decide)
          · exact (hp1226 _ (by simp))
          · exact (hp1226 _ (by simp))
          · exact (hp1226 _ (by simp))
          · exact (hp1226 _ (by simp))
          · exact (by decide)
        show Goes p e below _ T1258 (mkF m 170 #[.val (.int p0), .val (.int p1), .val (.int p2), .val (.int p3), .val (.int p4), .val (.int (4 : Int32)), .val (.int c0), .val (.int c1), .val (.int c2), .val (.int c3), .val (.ref b1192), .unset, .unset] [(.ref x1258)])
        refine P1.astore X1258.here hx #[.val (.int p0), .val (.int p1), .val (.int p2), .val (.int p3), .val (.int p4), .val (.int (4 : Int32)), .val (.int c0), .val (.int c1), .val (.int c2), .val (.int c3), .val (.ref b1192), .val (.ref x1258), .unset] (hb hby at_170) rfl rfl ?_
        refine P1.aload X1258.here hx (hb hby at_172) rfl rfl ?_
        refine P1.ifnullNo X1258.here hx (hb hby at_174) ?_
        refine P1.aload X1258.here hx (hb hby at_177) rfl rfl ?_
        have O1266 : Old Z n0 T1258.heap := O1240.keep K1258 all0
        refine Goes.callV X1258 hx hZ (y := y17_) (z := y17_) (Qc := fun v h' L => (v = some (.int (Int32.ofNat ([(109 : Int32), (117 : Int32), (116 : Int32), (120 : Int32), (58 : Int32), (123 : Int32), c0, c1, c2, c3, (125 : Int32)] : List Int32).length)) ∧ L = [] ∧ h' = T1258.heap)) hown (mvT hZ (own_w hw 153 rfl)) (mvT hZ (own_w hw 71 rfl)) (notFace_of_selects (args := #[]) (mvT hZ (own_w hw 73 rfl))) (mvT hZ (own_w hw 73 rfl)) (mvT hZ (own_w hw 72 rfl)) (by decide) (kc' := 0) (ks' := 0) (StrChars.Road.lenW (W := 0) (s := s.setVm T1258.vm) hZ (fun d hd => hw d (in_wordsLen d hd)) (kI := 4) (own_w hw 1 rfl) g1258E g1258v g1258c g1258V (StrChars.Road.codOf (cs := ([(109 : Int32), (117 : Int32), (116 : Int32), (120 : Int32), (58 : Int32), (123 : Int32), c0, c1, c2, c3, (125 : Int32)] : List Int32)) (n := 11) rfl (fun c hc => (hx1258 c hc).2)) (own_up hx1258) (S_CS.ext O1266.2) hzc (ok rfl) (ok rfl) (ok rfl)) (b := x1258) rfl g1258E (g := (mkF m 179 #[.val (.int p0), .val (.int p1), .val (.int p2), .val (.int p3), .val (.int p4), .val (.int (4 : Int32)), .val (.int c0), .val (.int c1), .val (.int c2), .val (.int c3), .val (.ref b1192), .val (.ref x1258), .unset] [(.ref x1258)])) rfl (by rw [hml]; rfl) (argsL := []) (rest := []) (lenOf pd_341 rfl) rfl (by show 2 * 0 + _ ≤ _; exact Nat.le_of_eq rfl) (hb hby at_179) rfl (ok rfl) (ok rfl) ?_
        intro v1267 T1267 L1267 q1267 X1267
        obtain ⟨rfl, rfl, hE1267⟩ := q1267
        have N1267 := Fr.app N1258 (Fr.nil n0)
        show Goes p e below _ T1267 (mkF m 182 #[.val (.int p0), .val (.int p1), .val (.int p2), .val (.int p3), .val (.int p4), .val (.int (4 : Int32)), .val (.int c0), .val (.int c1), .val (.int c2), .val (.int c3), .val (.ref b1192), .val (.ref x1258), .unset] [(.int (11 : Int32))])
        refine P1.iload X1267.here hx (hb hby at_182) rfl ?_
        refine P1.bipush X1267.here hx (7 : Int32) (hb hby at_184) rfl ?_
        refine P1.iadd X1267.here hx (hb hby at_186) ?_
        have rw1268 : ((4 : Int32) + (7 : Int32)) = (11 : Int32) := by decide
        rw [rw1268]
        refine P1.icmpYes X1267.here hx 192 (hb hby at_187) (teq (by decide : (11 : Int32) = (11 : Int32))).1 (by decide) (by decide) ?_
        refine P1.aload X1267.here hx (hb hby at_192) rfl rfl ?_
        refine P1.iconst X1267.here hx (0 : Int32) (hb hby at_194) rfl ?_
        refine Goes.callV X1267 hx hZ (y := y13_) (z := y13_) (Qc := fun v h' L => (v = some (.int (([(109 : Int32), (117 : Int32), (116 : Int32), (120 : Int32), (58 : Int32), (123 : Int32), c0, c1, c2, c3, (125 : Int32)] : List Int32).getD 0 0)) ∧ L = [] ∧ h' = T1258.heap)) hown (mvT hZ (own_w hw 154 rfl)) (mvT hZ (own_w hw 155 rfl)) (notFace_of_selects (args := #[]) (mvT hZ (own_w hw 157 rfl))) (mvT hZ (own_w hw 157 rfl)) (mvT hZ (own_w hw 156 rfl)) (by decide) (kc' := 0) (ks' := 0) (StrChars.Road.chN (W := 0) (s := s.setVm T1258.vm) hZ (fun d hd => hw d (in_wordsChN d hd)) (kI := 4) (own_w hw 1 rfl) g1258E g1258v g1258c g1258V (StrChars.Road.codOf (cs := ([(109 : Int32), (117 : Int32), (116 : Int32), (120 : Int32), (58 : Int32), (123 : Int32), c0, c1, c2, c3, (125 : Int32)] : List Int32)) (n := 11) rfl (fun c hc => (hx1258 c hc).2)) (own_up hx1258) (S_CS.ext O1266.2) hzc (S_FM.ext O1266.2) hfm (ok rfl) (i := 0) (ok rfl) (j := (0 : Int32)) rfl (ok rfl) (ok rfl)) (b := x1258) hE1267 g1258E (g := (mkF m 195 #[.val (.int p0), .val (.int p1), .val (.int p2), .val (.int p3), .val (.int p4), .val (.int (4 : Int32)), .val (.int c0), .val (.int c1), .val (.int c2), .val (.int c3), .val (.ref b1192), .val (.ref x1258), .unset] [(.int (0 : Int32)), (.ref x1258)])) rfl (by rw [hml]; rfl) (argsL := [(.int (0 : Int32))]) (rest := []) (lenOf pd_577 rfl) rfl (by show 2 * 0 + _ ≤ _; exact Nat.le_of_eq rfl) (hb hby at_195) rfl (ok rfl) (ok rfl) ?_
        intro v1269 T1269 L1269 q1269 X1269
        obtain ⟨rfl, rfl, hE1269⟩ := q1269
        have N1269 := Fr.app N1267 (Fr.nil n0)
        show Goes p e below _ T1269 (mkF m 198 #[.val (.int p0), .val (.int p1), .val (.int p2), .val (.int p3), .val (.int p4), .val (.int (4 : Int32)), .val (.int c0), .val (.int c1), .val (.int c2), .val (.int c3), .val (.ref b1192), .val (.ref x1258), .unset] [(.int (109 : Int32))])
        refine P1.bipush X1269.here hx (109 : Int32) (hb hby at_198) rfl ?_
        refine P1.icmpNo X1269.here hx (hb hby at_200) (teq (by decide : (109 : Int32) = (109 : Int32))).2 ?_
        refine P1.aload X1269.here hx (hb hby at_203) rfl rfl ?_
        refine P1.iconst X1269.here hx (1 : Int32) (hb hby at_205) rfl ?_
        refine Goes.callV X1269 hx hZ (y := y13_) (z := y13_) (Qc := fun v h' L => (v = some (.int (([(109 : Int32), (117 : Int32), (116 : Int32), (120 : Int32), (58 : Int32), (123 : Int32), c0, c1, c2, c3, (125 : Int32)] : List Int32).getD 1 0)) ∧ L = [] ∧ h' = T1258.heap)) hown (mvT hZ (own_w hw 154 rfl)) (mvT hZ (own_w hw 155 rfl)) (notFace_of_selects (args := #[]) (mvT hZ (own_w hw 157 rfl))) (mvT hZ (own_w hw 157 rfl)) (mvT hZ (own_w hw 156 rfl)) (by decide) (kc' := 0) (ks' := 0) (StrChars.Road.chN (W := 0) (s := s.setVm T1258.vm) hZ (fun d hd => hw d (in_wordsChN d hd)) (kI := 4) (own_w hw 1 rfl) g1258E g1258v g1258c g1258V (StrChars.Road.codOf (cs := ([(109 : Int32), (117 : Int32), (116 : Int32), (120 : Int32), (58 : Int32), (123 : Int32), c0, c1, c2, c3, (125 : Int32)] : List Int32)) (n := 11) rfl (fun c hc => (hx1258 c hc).2)) (own_up hx1258) (S_CS.ext O1266.2) hzc (S_FM.ext O1266.2) hfm (ok rfl) (i := 1) (ok rfl) (j := (1 : Int32)) rfl (ok rfl) (ok rfl)) (b := x1258) hE1269 g1258E (g := (mkF m 206 #[.val (.int p0), .val (.int p1), .val (.int p2), .val (.int p3), .val (.int p4), .val (.int (4 : Int32)), .val (.int c0), .val (.int c1), .val (.int c2), .val (.int c3), .val (.ref b1192), .val (.ref x1258), .unset] [(.int (1 : Int32)), (.ref x1258)])) rfl (by rw [hml]; rfl) (argsL := [(.int (1 : Int32))]) (rest := []) (lenOf pd_577 rfl) rfl (by show 2 * 0 + _ ≤ _; exact Nat.le_of_eq rfl) (hb hby at_206) rfl (ok rfl) (ok rfl) ?_
        intro v1270 T1270 L1270 q1270 X1270
        obtain ⟨rfl, rfl, hE1270⟩ := q1270
        have N1270 := Fr.app N1269 (Fr.nil n0)
        show Goes p e below _ T1270 (mkF m 209 #[.val (.int p0), .val (.int p1), .val (.int p2), .val (.int p3), .val (.int p4), .val (.int (4 : Int32)), .val (.int c0), .val (.int c1), .val (.int c2), .val (.int c3), .val (.ref b1192), .val (.ref x1258), .unset] [(.int (117 : Int32))])
        refine P1.bipush X1270.here hx (117 : Int32) (hb hby at_209) rfl ?_
        refine P1.icmpNo X1270.here hx (hb hby at_211) (teq (by decide : (117 : Int32) = (117 : Int32))).2 ?_
        refine P1.aload X1270.here hx (hb hby at_214) rfl rfl ?_
        refine P1.iconst X1270.here hx (2 : Int32) (hb hby at_216) rfl ?_
        refine Goes.callV X1270 hx hZ (y := y13_) (z := y13_) (Qc := fun v h' L => (v = some (.int (([(109 : Int32), (117 : Int32), (116 : Int32), (120 : Int32), (58 : Int32), (123 : Int32), c0, c1, c2, c3, (125 : Int32)] : List Int32).getD 2 0)) ∧ L = [] ∧ h' = T1258.heap)) hown (mvT hZ (own_w hw 154 rfl)) (mvT hZ (own_w hw 155 rfl)) (notFace_of_selects (args := #[]) (mvT hZ (own_w hw 157 rfl))) (mvT hZ (own_w hw 157 rfl)) (mvT hZ (own_w hw 156 rfl)) (by decide) (kc' := 0) (ks' := 0) (StrChars.Road.chN (W := 0) (s := s.setVm T1258.vm) hZ (fun d hd => hw d (in_wordsChN d hd)) (kI := 4) (own_w hw 1 rfl) g1258E g1258v g1258c g1258V (StrChars.Road.codOf (cs := ([(109 : Int32), (117 : Int32), (116 : Int32), (120 : Int32), (58 : Int32), (123 : Int32), c0, c1, c2, c3, (125 : Int32)] : List Int32)) (n := 11) rfl (fun c hc => (hx1258 c hc).2)) (own_up hx1258) (S_CS.ext O1266.2) hzc (S_FM.ext O1266.2) hfm (ok rfl) (i := 2) (ok rfl) (j := (2 : Int32)) rfl (ok rfl) (ok rfl)) (b := x1258) hE1270 g1258E (g := (mkF m 217 #[.val (.int p0), .val (.int p1), .val (.int p2), .val (.int p3), .val (.int p4), .val (.int (4 : Int32)), .val (.int c0), .val (.int c1), .val (.int c2), .val (.int c3), .val (.ref b1192), .val (.ref x1258), .unset] [(.int (2 : Int32)), (.ref x1258)])) rfl (by rw [hml]; rfl) (argsL := [(.int (2 : Int32))]) (rest := []) (lenOf pd_577 rfl) rfl (by show 2 * 0 + _ ≤ _; exact Nat.le_of_eq rfl) (hb hby at_217) rfl (ok rfl) (ok rfl) ?_
        intro v1271 T1271 L1271 q1271 X1271
        obtain ⟨rfl, rfl, hE1271⟩ := q1271
        have N1271 := Fr.app N1270 (Fr.nil n0)
        show Goes p e below _ T1271 (mkF m 220 #[.val (.int p0), .val (.int p1), .val (.int p2), .val (.int p3), .val (.int p4), .val (.int (4 : Int32)), .val (.int c0), .val (.int c1), .val (.int c2), .val (.int c3), .val (.ref b1192), .val (.ref x1258), .unset] [(.int (116 : Int32))])
        refine P1.bipush X1271.here hx (116 : Int32) (hb hby at_220) rfl ?_
        refine P1.icmpNo X1271.here hx (hb hby at_222) (teq (by decide : (116 : Int32) = (116 : Int32))).2 ?_
        refine P1.aload X1271.here hx (hb hby at_225) rfl rfl ?_
        refine P1.iconst X1271.here hx (3 : Int32) (hb hby at_227) rfl ?_
        refine Goes.callV X1271 hx hZ (y := y13_) (z := y13_) (Qc := fun v h' L => (v = some (.int (([(109 : Int32), (117 : Int32), (116 : Int32), (120 : Int32), (58 : Int32), (123 : Int32), c0, c1, c2, c3, (125 : Int32)] : List Int32).getD 3 0)) ∧ L = [] ∧ h' = T1258.heap)) hown (mvT hZ (own_w hw 154 rfl)) (mvT hZ (own_w hw 155 rfl)) (notFace_of_selects (args := #[]) (mvT hZ (own_w hw 157 rfl))) (mvT hZ (own_w hw 157 rfl)) (mvT hZ (own_w hw 156 rfl)) (by decide) (kc' := 0) (ks' := 0) (StrChars.Road.chN (W := 0) (s := s.setVm T1258.vm) hZ (fun d hd => hw d (in_wordsChN d hd)) (kI := 4) (own_w hw 1 rfl) g1258E g1258v g1258c g1258V (StrChars.Road.codOf (cs := ([(109 : Int32), (117 : Int32), (116 : Int32), (120 : Int32), (58 : Int32), (123 : Int32), c0, c1, c2, c3, (125 : Int32)] : List Int32)) (n := 11) rfl (fun c hc => (hx1258 c hc).2)) (own_up hx1258) (S_CS.ext O1266.2) hzc (S_FM.ext O1266.2) hfm (ok rfl) (i := 3) (ok rfl) (j := (3 : Int32)) rfl (ok rfl) (ok rfl)) (b := x1258) hE1271 g1258E (g := (mkF m 228 #[.val (.int p0), .val (.int p1), .val (.int p2), .val (.int p3), .val (.int p4), .val (.int (4 : Int32)), .val (.int c0), .val (.int c1), .val (.int c2), .val (.int c3), .val (.ref b1192), .val (.ref x1258), .unset] [(.int (3 : Int32)), (.ref x1258)])) rfl (by rw [hml]; rfl) (argsL := [(.int (3 : Int32))]) (rest := []) (lenOf pd_577 rfl) rfl (by show 2 * 0 + _ ≤ _; exact Nat.le_of_eq rfl) (hb hby at_228) rfl (ok rfl) (ok rfl) ?_
        intro v1272 T1272 L1272 q1272 X1272
        obtain ⟨rfl, rfl, hE1272⟩ := q1272
        have N1272 := Fr.app N1271 (Fr.nil n0)
        show Goes p e below _ T1272 (mkF m 231 #[.val (.int p0), .val (.int p1), .val (.int p2), .val (.int p3), .val (.int p4), .val (.int (4 : Int32)), .val (.int c0), .val (.int c1), .val (.int c2), .val (.int c3), .val (.ref b1192), .val (.ref x1258), .unset] [(.int (120 : Int32))])
        refine P1.bipush X1272.here hx (120 : Int32) (hb hby at_231) rfl ?_
        refine P1.icmpNo X1272.here hx (hb hby at_233) (teq (by decide : (120 : Int32) = (120 : Int32))).2 ?_
        refine P1.aload X1272.here hx (hb hby at_236) rfl rfl ?_
        refine P1.iconst X1272.here hx (4 : Int32) (hb hby at_238) rfl ?_
        refine Goes.callV X1272 hx hZ (y := y13_) (z := y13_) (Qc := fun v h' L => (v = some (.int (([(109 : Int32), (117 : Int32), (116 : Int32), (120 : Int32), (58 : Int32), (123 : Int32), c0, c1, c2, c3, (125 : Int32)] : List Int32).getD 4 0)) ∧ L = [] ∧ h' = T1258.heap)) hown (mvT hZ (own_w hw 154 rfl)) (mvT hZ (own_w hw 155 rfl)) (notFace_of_selects (args := #[]) (mvT hZ (own_w hw 157 rfl))) (mvT hZ (own_w hw 157 rfl)) (mvT hZ (own_w hw 156 rfl)) (by decide) (kc' := 0) (ks' := 0) (StrChars.Road.chN (W := 0) (s := s.setVm T1258.vm) hZ (fun d hd => hw d (in_wordsChN d hd)) (kI := 4) (own_w hw 1 rfl) g1258E g1258v g1258c g1258V (StrChars.Road.codOf (cs := ([(109 : Int32), (117 : Int32), (116 : Int32), (120 : Int32), (58 : Int32), (123 : Int32), c0, c1, c2, c3, (125 : Int32)] : List Int32)) (n := 11) rfl (fun c hc => (hx1258 c hc).2)) (own_up hx1258) (S_CS.ext O1266.2) hzc (S_FM.ext O1266.2) hfm (ok rfl) (i := 4) (ok rfl) (j := (4 : Int32)) rfl (ok rfl) (ok rfl)) (b := x1258) hE1272 g1258E (g := (mkF m 239 #[.val (.int p0), .val (.int p1), .val (.int p2), .val (.int p3), .val (.int p4), .val (.int (4 : Int32)), .val (.int c0), .val (.int c1), .val (.int c2), .val (.int c3), .val (.ref b1192), .val (.ref x1258), .unset] [(.int (4 : Int32)), (.ref x1258)])) rfl (by rw [hml]; rfl) (argsL := [(.int (4 : Int32))]) (rest := []) (lenOf pd_577 rfl) rfl (by show 2 * 0 + _ ≤ _; exact Nat.le_of_eq rfl) (hb hby at_239) rfl (ok rfl) (ok rfl) ?_
        intro v1273 T1273 L1273 q1273 X1273
        obtain ⟨rfl, rfl, hE1273⟩ := q1273
        have N1273 := Fr.app N1272 (Fr.nil n0)
        show Goes p e below _ T1273 (mkF m 242 #[.val (.int p0), .val (.int p1), .val (.int p2), .val (.int p3), .val (.int p4), .val (.int (4 : Int32)), .val (.int c0), .val (.int c1), .val (.int c2), .val (.int c3), .val (.ref b1192), .val (.ref x1258), .unset] [(.int (58 : Int32))])
        refine P1.bipush X1273.here hx (58 : Int32) (hb hby at_242) rfl ?_
        refine P1.icmpNo X1273.here hx (hb hby at_244) (teq (by decide : (58 : Int32) = (58 : Int32))).2 ?_
        refine P1.aload X1273.here hx (hb hby at_247) rfl rfl ?_
        refine P1.iconst X1273.here hx (5 : Int32) (hb hby at_249) rfl ?_
        refine Goes.callV X1273 hx hZ (y := y13_) (z := y13_) (Qc := fun v h' L => (v = some (.int (([(109 : Int32), (117 : Int32), (116 : Int32), (120 : Int32), (58 : Int32), (123 : Int32), c0, c1, c2, c3, (125 : Int32)] : List Int32).getD 5 0)) ∧ L = [] ∧ h' = T1258.heap)) hown (mvT hZ (own_w hw 154 rfl)) (mvT hZ (own_w hw 155 rfl)) (notFace_of_selects (args := #[]) (mvT hZ (own_w hw 157 rfl))) (mvT hZ (own_w hw 157 rfl)) (mvT hZ (own_w hw 156 rfl)) (by decide) (kc' := 0) (ks' := 0) (StrChars.Road.chN (W := 0) (s := s.setVm T1258.vm) hZ (fun d hd => hw d (in_wordsChN d hd)) (kI := 4) (own_w hw 1 rfl) g1258E g1258v g1258c g1258V (StrChars.Road.codOf (cs := ([(109 : Int32), (117 : Int32), (116 : Int32), (120 : Int32), (58 : Int32), (123 : Int32), c0, c1, c2, c3, (125 : Int32)] : List Int32)) (n := 11) rfl (fun c hc => (hx1258 c hc).2)) (own_up hx1258) (S_CS.ext O1266.2) hzc (S_FM.ext O1266.2) hfm (ok rfl) (i := 5) (ok rfl) (j := (5 : Int32)) rfl (ok rfl) (ok rfl)) (b := x1258) hE1273 g1258E (g := (mkF m 250 #[.val (.int p0), .val (.int p1), .val (.int p2), .val (.int p3), .val (.int p4), .val (.int (4 : Int32)), .val (.int c0), .val (.int c1), .val (.int c2), .val (.int c3), .val (.ref b1192), .val (.ref x1258), .unset] [(.int (5 : Int32)), (.ref x1258)])) rfl (by rw [hml]; rfl) (argsL := [(.int (5 : Int32))]) (rest := []) (lenOf pd_577 rfl) rfl (by show 2 * 0 + _ ≤ _; exact Nat.le_of_eq rfl) (hb hby at_250) rfl (ok rfl) (ok rfl) ?_
        intro v1274 T1274 L1274 q1274 X1274
        obtain ⟨rfl, rfl, hE1274⟩ := q1274
        have N1274 := Fr.app N1273 (Fr.nil n0)
        show Goes p e below _ T1274 (mkF m 253 #[.val (.int p0), .val (.int p1), .val (.int p2), .val (.int p3), .val (.int p4), .val (.int (4 : Int32)), .val (.int c0), .val (.int c1), .val (.int c2), .val (.int c3), .val (.ref b1192), .val (.ref x1258), .unset] [(.int (123 : Int32))])
        refine P1.bipush X1274.here hx (123 : Int32) (hb hby at_253) rfl ?_
        refine P1.icmpNo X1274.here hx (hb hby at_255) (teq (by decide : (123 : Int32) = (123 : Int32))).2 ?_
        refine P1.iconst X1274.here hx (1 : Int32) (hb hby at_258) rfl ?_
        refine P1.goto X1274.here hx 263 (hb hby at_259) (by decide) (by decide) ?_
        refine P1.istore X1274.here hx #[.val (.int p0), .val (.int p1), .val (.int p2), .val (.int p3), .val (.int p4), .val (.int (4 : Int32)), .val (.int c0), .val (.int c1), .val (.int c2), .val (.int c3), .val (.ref b1192), .val (.ref x1258), .val (.int (1 : Int32))] (hb hby at_263) rfl ?_
        refine P1.iload X1274.here hx (hb hby at_265) rfl ?_
        refine P1.ifNo X1274.here hx (hb hby at_267) ((if0 _ _).trans (feq (by decide : ¬ ((1 : Int32) = (0 : Int32)))).1) ?_
        refine P1.aload X1274.here hx (hb hby at_270) rfl rfl ?_
        refine P1.bipush X1274.here hx (6 : Int32) (hb hby at_272) rfl ?_
        refine Goes.callV X1274 hx hZ (y := y13_) (z := y13_) (Qc := fun v h' L => (v = some (.int (([(109 : Int32), (117 : Int32), (116 : Int32), (120 : Int32), (58 : Int32), (123 : Int32), c0, c1, c2, c3, (125 : Int32)] : List Int32).getD 6 0)) ∧ L = [] ∧ h' = T1258.heap)) hown (mvT hZ (own_w hw 154 rfl)) (mvT hZ (own_w hw 155 rfl)) (notFace_of_selects (args := #[]) (mvT hZ (own_w hw 157 rfl))) (mvT hZ (own_w hw 157 rfl)) (mvT hZ (own_w hw 156 rfl)) (by decide) (kc' := 0) (ks' := 0) (StrChars.Road.chN (W := 0) (s := s.setVm T1258.vm) hZ (fun d hd => hw d (in_wordsChN d hd)) (kI := 4) (own_w hw 1 rfl) g1258E g1258v g1258c g1258V (StrChars.Road.codOf (cs := ([(109 : Int32), (117 : Int32), (116 : Int32), (120 : Int32), (58 : Int32), (123 : Int32), c0, c1, c2, c3, (125 : Int32)] : List Int32)) (n := 11) rfl (fun c hc => (hx1258 c hc).2)) (own_up hx1258) (S_CS.ext O1266.2) hzc (S_FM.ext O1266.2) hfm (ok rfl) (i := 6) (ok rfl) (j := (6 : Int32)) rfl (ok rfl) (ok rfl)) (b := x1258) hE1274 g1258E (g := (mkF m 274 #[.val (.int p0), .val (.int p1), .val (.int p2), .val (.int p3), .val (.int p4), .val (.int (4 : Int32)), .val (.int c0), .val (.int c1), .val (.int c2), .val (.int c3), .val (.ref b1192), .val (.ref x1258), .val (.int (1 : Int32))] [(.int (6 : Int32)), (.ref x1258)])) rfl (by rw [hml]; rfl) (argsL := [(.int (6 : Int32))]) (rest := []) (lenOf pd_577 rfl) rfl (by show 2 * 0 + _ ≤ _; exact Nat.le_of_eq rfl) (hb hby at_274) rfl (ok rfl) (ok rfl) ?_
        intro v1275 T1275 L1275 q1275 X1275
        obtain ⟨rfl, rfl, hE1275⟩ := q1275
        have N1275 := Fr.app N1274 (Fr.nil n0)
        show Goes p e below _ T1275 (mkF m 277 #[.val (.int p0), .val (.int p1), .val (.int p2), .val (.int p3), .val (.int p4), .val (.int (4 : Int32)), .val (.int c0), .val (.int c1), .val (.int c2), .val (.int c3), .val (.ref b1192), .val (.ref x1258), .val (.int (1 : Int32))] [(.int c0)])
        refine P1.iload X1275.here hx (hb hby at_277) rfl ?_
        refine P1.icmpNo X1275.here hx (hb hby at_279) (teq (rfl : c0 = c0)).2 ?_
        refine P1.iconst X1275.here hx (1 : Int32) (hb hby at_282) rfl ?_
        refine P1.goto X1275.here hx 287 (hb hby at_283) (by decide) (by decide) ?_
        refine P1.istore X1275.here hx #[.val (.int p0), .val (.int p1), .val (.int p2), .val (.int p3), .val (.int p4), .val (.int (4 : Int32)), .val (.int c0), .val (.int c1), .val (.int c2), .val (.int c3), .val (.ref b1192), .val (.ref x1258), .val (.int (1 : Int32))] (hb hby at_287) rfl ?_
        refine P1.iload X1275.here hx (hb hby at_289) rfl ?_
        refine P1.iconst X1275.here hx (2 : Int32) (hb hby at_291) rfl ?_
        refine P1.icmpNo X1275.here hx (hb hby at_292) (flt (by decide : ¬ ((4 : Int32) < (2 : Int32)))).1 ?_
        refine P1.iload X1275.here hx (hb hby at_295) rfl ?_
        refine P1.ifNo X1275.here hx (hb hby at_297) ((if0 _ _).trans (feq (by decide : ¬ ((1 : Int32) = (0 : Int32)))).1) ?_
        refine P1.aload X1275.here hx (hb hby at_300) rfl rfl ?_
        refine P1.bipush X1275.here hx (7 : Int32) (hb hby at_302) rfl ?_
        refine Goes.callV X1275 hx hZ (y := y13_) (z := y13_) (Qc := fun v h' L => (v = some (.int (([(109 : Int32), (117 : Int32), (116 : Int32), (120 : Int32), (58 : Int32), (123 : Int32), c0, c1, c2, c3, (125 : Int32)] : List Int32).getD 7 0)) ∧ L = [] ∧ h' = T1258.heap)) hown (mvT hZ (own_w hw 154 rfl)) (mvT hZ (own_w hw 155 rfl)) (notFace_of_selects (args := #[]) (mvT hZ (own_w hw 157 rfl))) (mvT hZ (own_w hw 157 rfl)) (mvT hZ (own_w hw 156 rfl)) (by decide) (kc' := 0) (ks' := 0) (StrChars.Road.chN (W := 0) (s := s.setVm T1258.vm) hZ (fun d hd => hw d (in_wordsChN d hd)) (kI := 4) (own_w hw 1 rfl) g1258E g1258v g1258c g1258V (StrChars.Road.codOf (cs := ([(109 : Int32), (117 : Int32), (116 : Int32), (120 : Int32), (58 : Int32), (123 : Int32), c0, c1, c2, c3, (125 : Int32)] : List Int32)) (n := 11) rfl (fun c hc => (hx1258 c hc).2)) (own_up hx1258) (S_CS.ext O1266.2) hzc (S_FM.ext O1266.2) hfm (ok rfl) (i := 7) (ok rfl) (j := (7 : Int32)) rfl (ok rfl) (ok rfl)) (b := x1258) hE1275 g1258E (g := (mkF m 304 #[.val (.int p0), .val (.int p1), .val (.int p2), .val (.int p3), .val (.int p4), .val (.int (4 : Int32)), .val (.int c0), .val (.int c1), .val (.int c2), .val (.int c3), .val (.ref b1192), .val (.ref x1258), .val (.int (1 : Int32))] [(.int (7 : Int32)), (.ref x1258)])) rfl (by rw [hml]; rfl) (argsL := [(.int (7 : Int32))]) (rest := []) (lenOf pd_577 rfl) rfl (by show 2 * 0 + _ ≤ _; exact Nat.le_of_eq rfl) (hb hby at_304) rfl (ok rfl) (ok rfl) ?_
        intro v1276 T1276 L1276 q1276 X1276
        obtain ⟨rfl, rfl, hE1276⟩ := q1276
        have N1276 := Fr.app N1275 (Fr.nil n0)
        show Goes p e below _ T1276 (mkF m 307 #[.val (.int p0), .val (.int p1), .val (.int p2), .val (.int p3), .val (.int p4), .val (.int (4 : Int32)), .val (.int c0), .val (.int c1), .val (.int c2), .val (.int c3), .val (.ref b1192), .val (.ref x1258), .val (.int (1 : Int32))] [(.int c1)])
        refine P1.iload X1276.here hx (hb hby at_307) rfl ?_
        refine P1.icmpNo X1276.here hx (hb hby at_309) (teq (rfl : c1 = c1)).2 ?_
        refine P1.iconst X1276.here hx (1 : Int32) (hb hby at_312) rfl ?_
        refine P1.goto X1276.here hx 317 (hb hby at_313) (by decide) (by decide) ?_
        refine P1.istore X1276.here hx #[.val (.int p0), .val (.int p1), .val (.int p2), .val (.int p3), .val (.int p4), .val (.int (4 : Int32)), .val (.int c0), .val (.int c1), .val (.int c2), .val (.int c3), .val (.ref b1192), .val (.ref x1258), .val (.int (1 : Int32))] (hb hby at_317) rfl ?_
        refine P1.iload X1276.here hx (hb hby at_319) rfl ?_
        refine P1.iconst X1276.here hx (3 : Int32) (hb hby at_321) rfl ?_
        refine P1.icmpNo X1276.here hx (hb hby at_322) (flt (by decide : ¬ ((4 : Int32) < (3 : Int32)))).1 ?_
        refine P1.iload X1276.here hx (hb hby at_325) rfl ?_
        refine P1.ifNo X1276.here hx (hb hby at_327) ((if0 _ _).trans (feq (by decide : ¬ ((1 : Int32) = (0 : Int32)))).1) ?_
        refine P1.aload X1276.here hx (hb hby at_330) rfl rfl ?_
        refine P1.bipush X1276.here hx (8 : Int32) (hb hby at_332) rfl ?_
        refine Goes.callV X1276 hx hZ (y := y13_) (z := y13_) (Qc := fun v h' L => (v = some (.int (([(109 : Int32), (117 : Int32), (116 : Int32), (120 : Int32), (58 : Int32), (123 : Int32), c0, c1, c2, c3, (125 : Int32)] : List Int32).getD 8 0)) ∧ L = [] ∧ h' = T1258.heap)) hown (mvT hZ (own_w hw 154 rfl)) (mvT hZ (own_w hw 155 rfl)) (notFace_of_selects (args := #[]) (mvT hZ (own_w hw 157 rfl))) (mvT hZ (own_w hw 157 rfl)) (mvT hZ (own_w hw 156 rfl)) (by decide) (kc' := 0) (ks' := 0) (StrChars.Road.chN (W := 0) (s := s.setVm T1258.vm) hZ (fun d hd => hw d (in_wordsChN d hd)) (kI := 4) (own_w hw 1 rfl) g1258E g1258v g1258c g1258V (StrChars.Road.codOf (cs := ([(109 : Int32), (117 : Int32), (116 : Int32), (120 : Int32), (58 : Int32), (123 : Int32), c0, c1, c2, c3, (125 : Int32)] : List Int32)) (n := 11) rfl (fun c hc => (hx1258 c hc).2)) (own_up hx1258) (S_CS.ext O1266.2) hzc (S_FM.ext O1266.2) hfm (ok rfl) (i := 8) (ok rfl) (j := (8 : Int32)) rfl (ok rfl) (ok rfl)) (b := x1258) hE1276 g1258E (g := (mkF m 334 #[.val (.int p0), .val (.int p1), .val (.int p2), .val (.int p3), .val (.int p4), .val (.int (4 : Int32)), .val (.int c0), .val (.int c1), .val (.int c2), .val (.int c3), .val (.ref b1192), .val (.ref x1258), .val (.int (1 : Int32))] [(.int (8 : Int32)), (.ref x1258)])) rfl (by rw [hml]; rfl) (argsL := [(.int (8 : Int32))]) (rest := []) (lenOf pd_577 rfl) rfl (by show 2 * 0 + _ ≤ _; exact Nat.le_of_eq rfl) (hb hby at_334) rfl (ok rfl) (ok rfl) ?_
        intro v1277 T1277 L1277 q1277 X1277
        obtain ⟨rfl, rfl, hE1277⟩ := q1277
        have N1277 := Fr.app N1276 (Fr.nil n0)
        show Goes p e below _ T1277 (mkF m 337 #[.val (.int p0), .val (.int p1), .val (.int p2), .val (.int p3), .val (.int p4), .val (.int (4 : Int32)), .val (.int c0), .val (.int c1), .val (.int c2), .val (.int c3), .val (.ref b1192), .val (.ref x1258), .val (.int (1 : Int32))] [(.int c2)])
        refine P1.iload X1277.here hx (hb hby at_337) rfl ?_
        refine P1.icmpNo X1277.here hx (hb hby at_339) (teq (rfl : c2 = c2)).2 ?_
        refine P1.iconst X1277.here hx (1 : Int32) (hb hby at_342) rfl ?_
        refine P1.goto X1277.here hx 347 (hb hby at_343) (by decide) (by decide) ?_
        refine P1.istore X1277.here hx #[.val (.int p0), .val (.int p1), .val (.int p2), .val (.int p3), .val (.int p4), .val (.int (4 : Int32)), .val (.int c0), .val (.int c1), .val (.int c2), .val (.int c3), .val (.ref b1192), .val (.ref x1258), .val (.int (1 : Int32))] (hb hby at_347) rfl ?_
        refine P1.iload X1277.here hx (hb hby at_349) rfl ?_
        refine P1.iconst X1277.here hx (4 : Int32) (hb hby at_351) rfl ?_
        refine P1.icmpNo X1277.here hx (hb hby at_352) (flt (by decide : ¬ ((4 : Int32) < (4 : Int32)))).1 ?_
        refine P1.iload X1277.here hx (hb hby at_355) rfl ?_
        refine P1.ifNo X1277.here hx (hb hby at_357) ((if0 _ _).trans (feq (by decide : ¬ ((1 : Int32) = (0 : Int32)))).1) ?_
        refine P1.aload X1277.here hx (hb hby at_360) rfl rfl ?_
        refine P1.bipush X1277.here hx (9 : Int32) (hb hby at_362) rfl ?_
        refine Goes.callV X1277 hx hZ (y := y13_) (z := y13_) (Qc := fun v h' L => (v = some (.int (([(109 : Int32), (117 : Int32), (116 : Int32), (120 : Int32), (58 : Int32), (123 : Int32), c0, c1, c2, c3, (125 : Int32)] : List Int32).getD 9 0)) ∧ L = [] ∧ h' = T1258.heap)) hown (mvT hZ (own_w hw 154 rfl)) (mvT hZ (own_w hw 155 rfl)) (notFace_of_selects (args := #[]) (mvT hZ (own_w hw 157 rfl))) (mvT hZ (own_w hw 157 rfl)) (mvT hZ (own_w hw 156 rfl)) (by decide) (kc' := 0) (ks' := 0) (StrChars.Road.chN (W := 0) (s := s.setVm T1258.vm) hZ (fun d hd => hw d (in_wordsChN d hd)) (kI := 4) (own_w hw 1 rfl) g1258E g1258v g1258c g1258V (StrChars.Road.codOf (cs := ([(109 : Int32), (117 : Int32), (116 : Int32), (120 : Int32), (58 : Int32), (123 : Int32), c0, c1, c2, c3, (125 : Int32)] : List Int32)) (n := 11) rfl (fun c hc => (hx1258 c hc).2)) (own_up hx1258) (S_CS.ext O1266.2) hzc (S_FM.ext O1266.2) hfm (ok rfl) (i := 9) (ok rfl) (j := (9 : Int32)) rfl (ok rfl) (ok rfl)) (b := x1258) hE1277 g1258E (g := (mkF m 364 #[.val (.int p0), .val (.int p1), .val (.int p2), .val (.int p3), .val (.int p4), .val (.int (4 : Int32)), .val (.int c0), .val (.int c1), .val (.int c2), .val (.int c3), .val (.ref b1192), .val (.ref x1258), .val (.int (1 : Int32))] [(.int (9 : Int32)), (.ref x1258)])) rfl (by rw [hml]; rfl) (argsL := [(.int (9 : Int32))]) (rest := []) (lenOf pd_577 rfl) rfl (by show 2 * 0 + _ ≤ _; exact Nat.le_of_eq rfl) (hb hby at_364) rfl (ok rfl) (ok rfl) ?_
        intro v1278 T1278 L1278 q1278 X1278
        obtain ⟨rfl, rfl, hE1278⟩ := q1278
        have N1278 := Fr.app N1277 (Fr.nil n0)
        show Goes p e below _ T1278 (mkF m 367 #[.val (.int p0), .val (.int p1), .val (.int p2), .val (.int p3), .val (.int p4), .val (.int (4 : Int32)), .val (.int c0), .val (.int c1), .val (.int c2), .val (.int c3), .val (.ref b1192), .val (.ref x1258), .val (.int (1 : Int32))] [(.int c3)])
        refine P1.iload X1278.here hx (hb hby at_367) rfl ?_
        refine P1.icmpNo X1278.here hx (hb hby at_369) (teq (rfl : c3 = c3)).2 ?_
        refine P1.iconst X1278.here hx (1 : Int32) (hb hby at_372) rfl ?_
        refine P1.goto X1278.here hx 377 (hb hby at_373) (by decide) (by decide) ?_
        refine P1.istore X1278.here hx #[.val (.int p0), .val (.int p1), .val (.int p2), .val (.int p3), .val (.int p4), .val (.int (4 : Int32)), .val (.int c0), .val (.int c1), .val (.int c2), .val (.int c3), .val (.ref b1192), .val (.ref x1258), .val (.int (1 : Int32))] (hb hby at_377) rfl ?_
        refine P1.iload X1278.here hx (hb hby at_379) rfl ?_
        refine P1.ifNo X1278.here hx (hb hby at_381) ((if0 _ _).trans (feq (by decide : ¬ ((1 : Int32) = (0 : Int32)))).1) ?_
        refine P1.aload X1278.here hx (hb hby at_384) rfl rfl ?_
        refine P1.iload X1278.here hx (hb hby at_386) rfl ?_
        refine P1.bipush X1278.here hx (6 : Int32) (hb hby at_388) rfl ?_
        refine P1.iadd X1278.here hx (hb hby at_390) ?_
        have rw1279 : ((4 : Int32) + (6 : Int32)) = (10 : Int32) := by decide
        rw [rw1279]
        refine Goes.callV X1278 hx hZ (y := y13_) (z := y13_) (Qc := fun v h' L => (v = some (.int (([(109 : Int32), (117 : Int32), (116 : Int32), (120 : Int32), (58 : Int32), (123 : Int32), c0, c1, c2, c3, (125 : Int32)] : List Int32).getD 10 0)) ∧ L = [] ∧ h' = T1258.heap)) hown (mvT hZ (own_w hw 154 rfl)) (mvT hZ (own_w hw 155 rfl)) (notFace_of_selects (args := #[]) (mvT hZ (own_w hw 157 rfl))) (mvT hZ (own_w hw 157 rfl)) (mvT hZ (own_w hw 156 rfl)) (by decide) (kc' := 0) (ks' := 0) (StrChars.Road.chN (W := 0) (s := s.setVm T1258.vm) hZ (fun d hd => hw d (in_wordsChN d hd)) (kI := 4) (own_w hw 1 rfl) g1258E g1258v g1258c g1258V (StrChars.Road.codOf (cs := ([(109 : Int32), (117 : Int32), (116 : Int32), (120 : Int32), (58 : Int32), (123 : Int32), c0, c1, c2, c3, (125 : Int32)] : List Int32)) (n := 11) rfl (fun c hc => (hx1258 c hc).2)) (own_up hx1258) (S_CS.ext O1266.2) hzc (S_FM.ext O1266.2) hfm (ok rfl) (i := 10) (ok rfl) (j := (10 : Int32)) rfl (ok rfl) (ok rfl)) (b := x1258) hE1278 g1258E (g := (mkF m 391 #[.val (.int p0), .val (.int p1), .val (.int p2), .val (.int p3), .val (.int p4), .val (.int (4 : Int32)), .val (.int c0), .val (.int c1), .val (.int c2), .val (.int c3), .val (.ref b1192), .val (.ref x1258), .val (.int (1 : Int32))] [(.int (10 : Int32)), (.ref x1258)])) rfl (by rw [hml]; rfl) (argsL := [(.int (10 : Int32))]) (rest := []) (lenOf pd_577 rfl) rfl (by show 2 * 0 + _ ≤ _; exact Nat.le_of_eq rfl) (hb hby at_391) rfl (ok rfl) (ok rfl) ?_
        intro v1280 T1280 L1280 q1280 X1280
        obtain ⟨rfl, rfl, hE1280⟩ := q1280
        have N1280 := Fr.app N1278 (Fr.nil n0)
        show Goes p e below _ T1280 (mkF m 394 #[.val (.int p0), .val (.int p1), .val (.int p2), .val (.int p3), .val (.int p4), .val (.int (4 : Int32)), .val (.int c0), .val (.int c1), .val (.int c2), .val (.int c3), .val (.ref b1192), .val (.ref x1258), .val (.int (1 : Int32))] [(.int (125 : Int32))])
        refine P1.bipush X1280.here hx (125 : Int32) (hb hby at_394) rfl ?_
        refine P1.icmpNo X1280.here hx (hb hby at_396) (teq (by decide : (125 : Int32) = (125 : Int32))).2 ?_
        refine P1.iconst X1280.here hx (1 : Int32) (hb hby at_399) rfl ?_
        refine P1.goto X1280.here hx 404 (hb hby at_400) (by decide) (by decide) ?_
        refine P1.istore X1280.here hx #[.val (.int p0), .val (.int p1), .val (.int p2), .val (.int p3), .val (.int p4), .val (.int (4 : Int32)), .val (.int c0), .val (.int c1), .val (.int c2), .val (.int c3), .val (.ref b1192), .val (.ref x1258), .val (.int (1 : Int32))] (hb hby at_404) rfl ?_
        refine P1.iload X1280.here hx (hb hby at_406) rfl ?_
        have CR1281 : CHr Z EL1 s.vm h0 T1258.vm T1258.heap := CR1257.trans CW1258
        refine Goes.retNW X1280 hx Bd.notSynchronized hS1258 ks1258 hZ hEL (hh ▸ CR1281) hE1280 (t := .boolean) Bd.returns (by simp) (hb hby at_408) (ok rfl) (ok rfl) ?_
        exact ⟨rfl, N1280⟩
set_option maxRecDepth 65536 in
set_option maxHeartbeats 40000000 in
theorem comes_1 {Post : Tables → Env → Array Value → State → Outcome → State → Prop} (hpost : ∀ tb e args s v u, (limb_1_1.after args s (.returned v) u = true ∧ limb_1_2.after args s (.returned v) u = true ∧ True) → ReturnedEndW s (.returned v) u (Jvm.fieldLocs frame_1_writes args s ++ Jvm.arrayLocs frame_1_arrays args s ++ Jvm.staticLocs frame_1_statics s) 32 2240 → Post tb e args s (.returned v) u) :
    ArmFor flags0 classFile x code maxLocals ret World_1 tables_1 room_1 Calls_1 rest_1 Pre_1 Post := by
  intro l hfl _ _ p e ha hc hk s m args below hf hA hF happ hP
  obtain ⟨hcalls, hrest, hpre⟩ := hP
  obtain ⟨-, -, -, hnamed, -, -, -, hat⟩ := (Spec.applies_iff hf).mp happ
  obtain ⟨hg, hn⟩ := and_e (Cond.before_iff.mp (show (Jvm.Cond.and given_1 narrow_1).before args s = true from hpre))
  obtain ⟨hg0, hg1⟩ := and_e hg
  obtain ⟨ha0, hgr0⟩ := and_e hg1
  obtain ⟨ha1, hgr1⟩ := and_e hgr0
  obtain ⟨ha2, hgr2⟩ := and_e hgr1
  obtain ⟨ha3, hgr3⟩ := and_e hgr2
  obtain ⟨w0, w1, w2, w3, w4, rfl⟩ : ∃ w0 w1 w2 w3 w4 : Value, args = #[w0, w1, w2, w3, w4] := by
    have hs : args.size = 5 := by simpa [Cond.value, given_1] using hg0
    obtain ⟨L⟩ := args
    match L, hs with
    | [w0, w1, w2, w3, w4], _ => exact ⟨w0, w1, w2, w3, w4, rfl⟩
  have hw := fun d (hd : d ∈ tables_1) => atoms_spec (ws := Jvm.Cond.code x code maxLocals ret :: tables_1) hat d (List.mem_cons_of_mem _ hd)
  have hfit : Fit s := fun {y c} hc i hi => by
    obtain ⟨ha, rfl⟩ := Array.getElem?_eq_some_iff.mp hc
    have q := List.all_eq_true.mp ((Array.all_eq_true_iff_forall_mem.mp hF) _ (Array.getElem_mem ha)) i (List.mem_range.mpr hi)
    simpa [Array.getElem?_eq_getElem hi] using q
  obtain ⟨hsets, hown0⟩ := atoms_of _ (rest_1_c_eq ▸ (show rest_1_c.before _ s = true from hrest))
  obtain ⟨i0, ei0⟩ := is_v ha0
  obtain rfl : w0 = (.int i0) := Option.some.inj ei0
  obtain ⟨i1, ei1⟩ := is_v ha1
  obtain rfl : w1 = (.int i1) := Option.some.inj ei1
  obtain ⟨i2, ei2⟩ := is_v ha2
  obtain rfl : w2 = (.int i2) := Option.some.inj ei2
  obtain ⟨i3, ei3⟩ := is_v ha3
  obtain rfl : w3 = (.int i3) := Option.some.inj ei3
  obtain ⟨i4, ei4⟩ := is_v hgr3
  obtain rfl : w4 = (.int i4) := Option.some.inj ei4
  obtain ⟨zc, ev_zc⟩ := is_v (Cond.before_iff.mp (hsets _ (List.mem_of_getElem? (i := 1) rfl)))
  have S_CS : Sta s s.heap "java/lang/String" "COMPACT_STRINGS" "Z" (.int zc) := Sta.start ev_zc (Or.inl (hsets _ (List.mem_of_getElem? (i := 0) rfl)))
  have hzc : ¬ zc = 0 := gotF (Cond.eq_ints ev_zc (Term.int_eval (0))) (not_v (Cond.before_iff.mp (hsets _ (List.mem_of_getElem? (i := 2) rfl))))
  obtain ⟨fm, ev_fm, hfm⟩ := isR_v (Cond.before_iff.mp (hsets _ (List.mem_of_getElem? (i := 8) rfl)))
  have S_FM : Sta s s.heap "jdk/internal/util/Preconditions" "SIOOBE_FORMATTER" "Ljava/util/function/BiFunction;" fm := Sta.start ev_fm (Or.inl (hsets _ (List.mem_of_getElem? (i := 7) rfl)))
  have hCH : CHv s EL1 s.vm s.heap := CHv.start (own_EL hw) (fun p hp => hcalls.1 p hp) (hsets _ (List.mem_of_getElem? (i := 2) rfl)) (own_w hw 19 rfl) (own_w hw 1 rfl)
  obtain ⟨n, o, h1, h2, h3, _, L, rfl, ⟨rfl, N⟩, -, hq⟩ := rm0 l s _ hw tables_1 i0 i1 i2 i3 i4 zc fm s.heap s.heap.size (Nat.le_refl _) (Old.start s) S_CS hzc S_FM hfm p e ha hc hk s m _ below hf ((Spec.applies_iff_loose hf).mp happ).1 ⟨rfl, State.Warmed39.refl s, rfl, hCH⟩ trivial
  refine ⟨n, _, h1, h2, h3, hpost _ _ _ _ _ _ ⟨Cond.after_iff.mpr rfl, Cond.after_iff.mpr (eq_i res_at (Term.int_eval (1)) rfl), trivial⟩ ⟨hq.1, hq.2.1, hq.2.2.1, (hq.2.2.2.sift fun y hy => Or.inr (N y hy)).mono (ok rfl) (ok rfl)⟩⟩
theorem main_1_1 : Claimed_1_1 := comes_1 fun _ _ _ _ _ _ h hF => ⟨h.1, hF⟩
theorem main_1_2 : Claimed_1_2 := comes_1 fun _ _ _ _ _ _ h hF => ⟨h.2.1, hF⟩
end Jvm.Pilot.@@N@@
namespace Jvm.Pilot.@@N@@
open Jvm Jvm.ClassFile Sem Op Lib Jvm.Free Jvm.Stand Jvm.Pilot.@@N@@.Jvm.D
/-! MADE BY PROGRAM (witnessworld.py) out of the Statement's table words and the real class files: 26 classes; the members and pool entries that the words name. The judged class is class 1, her method 1. -/
namespace start1
open Jvm.ClassFile
def u (s : String) : CpInfo := .utf8 (stringToUtf16 s)
/-- a pool by its gaps: so many unusable entries, then the entry; so many at the end -/
def gap : Nat → List CpInfo → List CpInfo
  | 0, r => r
  | n + 1, r => .unusable :: gap n r
def poolList (es : List (Nat × CpInfo)) (last : Nat) : List CpInfo := es.foldr (fun e r => gap e.1 (e.2 :: r)) (gap last [])
def pool (es : List (Nat × CpInfo)) (last : Nat) : Array CpInfo := ⟨poolList es last⟩
def fileOf (pool : Array CpInfo) (this : Nat) (attrs : Array Attribute := #[]) (ms : Array MethodInfo := #[]) (fl : Nat := 33) (sup : Nat := 0) (ifs : Array Nat := #[]) (fds : Array FieldInfo := #[]) : ClassFile where
  minorVersion := 0
  majorVersion := 65
  constantPool := pool
  accessFlags := fl
  thisClass := this
  superClass := sup
  interfaces := ifs
  fields := fds
  methods := ms
  attributes := attrs
def plain (name : String) (sup : Option ClassId) : Class where
  name := name
  kind := .ordinary
  loader := none
  accessFlags := 33
  super := sup
  interfaces := #[]
  cf := none
  fields := #[]
  methods := #[]
  instanceTypes := #[]
  staticTypes := #[]
  resolved := #[]
  callSites := []
  init := .initialized
  statics := none
  mirror := none

def pool0 : Array CpInfo := pool [(5, u "<init>"), (0, u "()V"), (1, .class_ 10), (1, u "java/lang/Object")] 113

def k0c0 : Code := { maxStack := 0, maxLocals := 1, code := object_method_1_code, exceptionTable := #[], attributes := #[] }
def k0m0 : Method := { name := "<init>", desc := "()V", sig := { parameters := [], returnType := none }, accessFlags := 1, code := some k0c0 }
/-- java/lang/Object -/
def k0 : Class := { plain "java/lang/Object" none with
  accessFlags := 33
  interfaces := #[]
  cf := some (fileOf pool0 8 #[] #[{ accessFlags := 1, nameIndex := 5, descriptorIndex := 6, attributes := #[] }] 33 0 #[] #[])
  fields := #[]
  methods := #[k0m0]
  instanceTypes := #[]
  staticTypes := #[]
  resolved := Array.replicate 124 none
  statics := none }

def pool1 : Array CpInfo := pool [(2, .class_ 4), (1, u "java/lang/Object"), (0, u "<init>"), (0, u "()V"), (0, .class_ 8), (0, u "java/lang/String"), (0, .methodref 7 10), (0, .nameAndType 5 11), (0, u "([C)V"), (0, .methodref 13 14), (0, .class_ 15), (0, .nameAndType 16 17), (0, u "com/example/mutx/mutx/redis/RedisNames"), (0, u "lockKey"), (0, u "(Ljava/lang/String;)Ljava/lang/String;"), (0, .methodref 7 19), (0, .nameAndType 20 21), (0, u "length"), (0, u "()I"), (0, .methodref 7 23), (0, .nameAndType 24 25), (0, u "charAt"), (0, u "(I)C"), (0, .class_ 27), (0, u "com/example/mutx/mutx/redis/RedisNamesLockKeyPinLaw"), (2, u "law"), (0, u "(IIIII)Z")] 3

def k1m0 : Method := { name := "<init>", desc := "()V", sig := { parameters := [], returnType := none }, accessFlags := 2, code := none }
def k1c1 : Code := { maxStack := 6, maxLocals := 13, code := code, exceptionTable := #[], attributes := #[] }
def k1m1 : Method := { name := "law", desc := "(IIIII)Z", sig := { parameters := [.int, .int, .int, .int, .int], returnType := some .boolean }, accessFlags := 9, code := some k1c1 }
/-- com/example/mutx/mutx/redis/RedisNamesLockKeyPinLaw -/
def k1 : Class := { plain "com/example/mutx/mutx/redis/RedisNamesLockKeyPinLaw" (some 0) with
  accessFlags := 49
  interfaces := #[]
  cf := some (fileOf pool1 26 #[] #[{ accessFlags := 2, nameIndex := 5, descriptorIndex := 6, attributes := #[] }, { accessFlags := 9, nameIndex := 30, descriptorIndex := 31, attributes := #[] }] 49 2 #[] #[])
  fields := #[]
  methods := #[k1m0, k1m1]
  instanceTypes := #[]
  staticTypes := #[]
  resolved := Array.replicate 35 none
  statics := none }

def pool2 : Array CpInfo := pool [(1, .class_ 2), (0, u "java/io/Serializable"), (0, .class_ 4), (0, u "java/lang/Object")] 2

/-- java/io/Serializable -/
def k2 : Class := { plain "java/io/Serializable" (some 0) with
  accessFlags := 1537
  interfaces := #[]
  cf := some (fileOf pool2 1 #[] #[] 1537 3 #[] #[])
  fields := #[]
  methods := #[]
  instanceTypes := #[]
  staticTypes := #[]
  resolved := Array.replicate 7 none
  statics := none }

def pool3 : Array CpInfo := pool [(1, .class_ 2), (0, u "java/lang/Comparable"), (0, .class_ 4), (0, u "java/lang/Object")] 7

/-- java/lang/Comparable -/
def k3 : Class := { plain "java/lang/Comparable" (some 0) with
  accessFlags := 1537
  interfaces := #[]
  cf := some (fileOf pool3 1 #[] #[] 1537 3 #[] #[])
  fields := #[]
  methods := #[]
  instanceTypes := #[]
  staticTypes := #[]
  resolved := Array.replicate 12 none
  statics := none }

def pool4 : Array CpInfo := pool [(2, .class_ 4), (1, u "java/lang/CharSequence"), (42, .class_ 48), (0, u "java/lang/CharSequence$1CodePointIterator"), (10, .class_ 60), (0, u "java/lang/CharSequence$1CharIterator"), (5, .class_ 67), (0, u "java/lang/Object")] 63

/-- java/lang/CharSequence -/
def k4 : Class := { plain "java/lang/CharSequence" (some 0) with
  accessFlags := 1537
  interfaces := #[]
  cf := some (fileOf pool4 2 #[.nestMembers #[47, 59]] #[] 1537 66 #[] #[])
  fields := #[]
  methods := #[]
  instanceTypes := #[]
  staticTypes := #[]
  resolved := Array.replicate 131 none
  statics := none }

def pool5 : Array CpInfo := pool [(1, .class_ 2), (0, u "java/lang/constant/Constable"), (0, .class_ 4), (0, u "java/lang/Object")] 6

/-- java/lang/constant/Constable -/
def k5 : Class := { plain "java/lang/constant/Constable" (some 0) with
  accessFlags := 1537
  interfaces := #[]
  cf := some (fileOf pool5 1 #[] #[] 1537 3 #[] #[])
  fields := #[]
  methods := #[]
  instanceTypes := #[]
  staticTypes := #[]
  resolved := Array.replicate 11 none
  statics := none }

def pool6 : Array CpInfo := pool [(1, .class_ 2), (0, u "java/lang/constant/ConstantDesc"), (0, .class_ 4), (0, u "java/lang/Object")] 32

/-- java/lang/constant/ConstantDesc -/
def k6 : Class := { plain "java/lang/constant/ConstantDesc" (some 0) with
  accessFlags := 1537
  interfaces := #[]
  cf := some (fileOf pool6 1 #[] #[] 1537 3 #[] #[])
  fields := #[]
  methods := #[]
  instanceTypes := #[]
  staticTypes := #[]
  resolved := Array.replicate 37 none
  statics := none }

def pool7 : Array CpInfo := pool [(1, .methodref 2 3), (0, .class_ 4), (0, .nameAndType 5 6), (0, u "java/lang/Object"), (0, u "<init>"), (0, u "()V"), (2, .fieldref 10 11), (0, .class_ 12), (0, .nameAndType 13 14), (0, u "java/lang/String"), (0, u "value"), (0, u "[B"), (0, .fieldref 10 16), (0, .nameAndType 17 18), (0, u "coder"), (0, u "B"), (2, u "hash"), (0, u "I"), (2, u "hashIsZero"), (0, u "Z"), (0, .methodref 10 28), (0, .nameAndType 5 29), (0, u "([CIILjava/lang/Void;)V"), (8, .fieldref 10 39), (0, .nameAndType 40 26), (0, u "COMPACT_STRINGS"), (1, .class_ 44), (1, u "java/lang/StringUTF16"), (0, u "compress"), (1, .methodref 42 48), (0, .nameAndType 49 50), (0, u "coderFromArrayLen"), (0, u "([BI)B"), (3, .methodref 55 56), (0, .class_ 57), (0, .nameAndType 58 59), (0, u "java/util/Arrays"), (0, u "copyOfRange"), (0, u "([BII)[B"), (47, .class_ 109), (1, u "java/lang/StringLatin1"), (32, u "()Z"), (34, .methodref 42 178), (0, .nameAndType 45 179), (0, u "([CII)[B"), (13, .class_ 195), (1, u "java/lang/System"), (16, .methodref 193 213), (0, .nameAndType 214 215), (0, u "arraycopy"), (0, u "(Ljava/lang/Object;ILjava/lang/Object;II)V"), (118, u "()I"), (0, .methodref 10 336), (0, .nameAndType 17 337), (0, u "()B"), (2, u "()[B"), (22, u "([BI)C"), (27, u "(II)V"), (35, u "(I)C"), (61, .methodref 10 490), (0, .nameAndType 5 491), (0, u "(Ljava/lang/AbstractStringBuilder;Ljava/lang/Void;)V"), (0, .methodref 10 493), (0, .nameAndType 494 142), (0, u "isLatin1"), (0, .methodref 107 496), (0, .nameAndType 497 363), (0, u "charAt"), (3, u "checkIndex"), (4, .nameAndType 507 334), (0, u "length"), (24, u "getBytes"), (16, .methodref 550 506), (0, .class_ 551), (0, u "java/lang/AbstractStringBuilder"), (0, .methodref 550 553), (0, .nameAndType 554 340), (0, u "getValue"), (20, .class_ 576), (0, u "java/lang/CharSequence"), (22, u "CASE_INSENSITIVE_ORDER"), (0, u "Ljava/util/Comparator;"), (91, u "isEmpty"), (128, u "([BIB)V"), (188, u "([C)V"), (36, .methodref 550 493), (5, .fieldref 1054 1055), (0, .class_ 1056), (0, .nameAndType 1057 1058), (0, u "jdk/internal/util/Preconditions"), (0, u "SIOOBE_FORMATTER"), (0, u "Ljava/util/function/BiFunction;"), (0, .methodref 1054 1060), (0, .nameAndType 501 1061), (0, u "(IILjava/util/function/BiFunction;)I"), (39, u "serialPersistentFields"), (0, u "[Ljava/io/ObjectStreamField;"), (0, .class_ 1104), (0, u "java/lang/String$CaseInsensitiveComparator"), (1, .class_ 1107), (0, u "java/io/Serializable"), (0, .class_ 1109), (0, u "java/lang/Comparable"), (0, .class_ 1111), (0, u "java/lang/constant/Constable"), (0, .class_ 1113), (0, u "java/lang/constant/ConstantDesc"), (2, u "serialVersionUID"), (0, u "J"), (3, u "REPL"), (0, u "C"), (2, u "LATIN1"), (1, u "UTF16"), (105, u "(Ljava/lang/StringBuilder;)V")] 217

def k7m0 : Method := { name := "<init>", desc := "()V", sig := { parameters := [], returnType := none }, accessFlags := 1, code := none }
def k7c1 : Code := { maxStack := 5, maxLocals := 2, code := jdk_42_method_3_code, exceptionTable := #[], attributes := #[] }
def k7m1 : Method := { name := "<init>", desc := "([C)V", sig := { parameters := [(.array .char)], returnType := none }, accessFlags := 1, code := some k7c1 }
def k7c2 : Code := { maxStack := 3, maxLocals := 2, code := jdk_42_method_53_code, exceptionTable := #[], attributes := #[] }
def k7m2 : Method := { name := "<init>", desc := "(Ljava/lang/StringBuilder;)V", sig := { parameters := [(.object "java/lang/StringBuilder")], returnType := none }, accessFlags := 1, code := some k7c2 }
def k7c3 : Code := { maxStack := 2, maxLocals := 1, code := jdk_42_method_54_code, exceptionTable := #[], attributes := #[] }
def k7m3 : Method := { name := "length", desc := "()I", sig := { parameters := [], returnType := some .int }, accessFlags := 1, code := some k7c3 }
def k7c4 : Code := { maxStack := 1, maxLocals := 1, code := jdk_42_method_55_code, exceptionTable := #[], attributes := #[] }
def k7m4 : Method := { name := "isEmpty", desc := "()Z", sig := { parameters := [], returnType := some .boolean }, accessFlags := 1, code := some k7c4 }
def k7c5 : Code := { maxStack := 2, maxLocals := 2, code := jdk_42_method_56_code, exceptionTable := #[], attributes := #[] }
def k7m5 : Method := { name := "charAt", desc := "(I)C", sig := { parameters := [.int], returnType := some .char }, accessFlags := 1, code := some k7c5 }
def k7c6 : Code := { maxStack := 5, maxLocals := 4, code := jdk_42_method_147_code, exceptionTable := #[], attributes := #[] }
def k7m6 : Method := { name := "getBytes", desc := "([BIB)V", sig := { parameters := [(.array .byte), .int, .byte], returnType := none }, accessFlags := 0, code := some k7c6 }
def k7c7 : Code := { maxStack := 4, maxLocals := 6, code := jdk_42_method_149_code, exceptionTable := #[], attributes := #[] }
def k7m7 : Method := { name := "<init>", desc := "([CIILjava/lang/Void;)V", sig := { parameters := [(.array .char), .int, .int, (.object "java/lang/Void")], returnType := none }, accessFlags := 2, code := some k7c7 }
def k7c8 : Code := { maxStack := 5, maxLocals := 5, code := jdk_42_method_150_code, exceptionTable := #[], attributes := #[] }
def k7m8 : Method := { name := "<init>", desc := "(Ljava/lang/AbstractStringBuilder;Ljava/lang/Void;)V", sig := { parameters := [(.object "java/lang/AbstractStringBuilder"), (.object "java/lang/Void")], returnType := none }, accessFlags := 0, code := some k7c8 }
def k7c9 : Code := { maxStack := 1, maxLocals := 1, code := jdk_42_method_152_code, exceptionTable := #[], attributes := #[] }
def k7m9 : Method := { name := "coder", desc := "()B", sig := { parameters := [], returnType := some .byte }, accessFlags := 0, code := some k7c9 }
def k7c10 : Code := { maxStack := 1, maxLocals := 1, code := jdk_42_method_154_code, exceptionTable := #[], attributes := #[] }
def k7m10 : Method := { name := "isLatin1", desc := "()Z", sig := { parameters := [], returnType := some .boolean }, accessFlags := 0, code := some k7c10 }
def k7c11 : Code := { maxStack := 3, maxLocals := 2, code := jdk_42_method_155_code, exceptionTable := #[], attributes := #[] }
def k7m11 : Method := { name := "checkIndex", desc := "(II)V", sig := { parameters := [.int, .int], returnType := none }, accessFlags := 8, code := some k7c11 }
/-- java/lang/String -/
def k7 : Class := { plain "java/lang/String" (some 0) with
  accessFlags := 49
  interfaces := #[2, 3, 4, 5, 6]
  cf := some (fileOf pool7 10 #[.nestMembers #[1103]] #[{ accessFlags := 1, nameIndex := 5, descriptorIndex := 6, attributes := #[] }, { accessFlags := 1, nameIndex := 5, descriptorIndex := 1010, attributes := #[] }, { accessFlags := 1, nameIndex := 5, descriptorIndex := 1233, attributes := #[] }, { accessFlags := 1, nameIndex := 507, descriptorIndex := 334, attributes := #[] }, { accessFlags := 1, nameIndex := 692, descriptorIndex := 142, attributes := #[] }, { accessFlags := 1, nameIndex := 497, descriptorIndex := 427, attributes := #[] }, { accessFlags := 0, nameIndex := 532, descriptorIndex := 821, attributes := #[] }, { accessFlags := 2, nameIndex := 5, descriptorIndex := 29, attributes := #[] }, { accessFlags := 0, nameIndex := 5, descriptorIndex := 491, attributes := #[] }, { accessFlags := 0, nameIndex := 17, descriptorIndex := 337, attributes := #[] }, { accessFlags := 0, nameIndex := 494, descriptorIndex := 142, attributes := #[] }, { accessFlags := 8, nameIndex := 501, descriptorIndex := 391, attributes := #[] }] 49 2 #[1106, 1108, 575, 1110, 1112] #[{ accessFlags := 18, nameIndex := 13, descriptorIndex := 14, attributes := #[] }, { accessFlags := 18, nameIndex := 17, descriptorIndex := 18, attributes := #[] }, { accessFlags := 2, nameIndex := 21, descriptorIndex := 22, attributes := #[] }, { accessFlags := 2, nameIndex := 25, descriptorIndex := 26, attributes := #[] }, { accessFlags := 26, nameIndex := 1116, descriptorIndex := 1117, attributes := #[] }, { accessFlags := 24, nameIndex := 40, descriptorIndex := 26, attributes := #[] }, { accessFlags := 26, nameIndex := 1101, descriptorIndex := 1102, attributes := #[] }, { accessFlags := 26, nameIndex := 1121, descriptorIndex := 1122, attributes := #[] }, { accessFlags := 25, nameIndex := 599, descriptorIndex := 600, attributes := #[] }, { accessFlags := 24, nameIndex := 1125, descriptorIndex := 18, attributes := #[] }, { accessFlags := 24, nameIndex := 1127, descriptorIndex := 18, attributes := #[] }])
  fields := #[{ name := "value", type := (.array .byte), accessFlags := 18, slot := 0, constantValue := 0 }, { name := "coder", type := .byte, accessFlags := 18, slot := 1, constantValue := 0 }, { name := "hash", type := .int, accessFlags := 2, slot := 2, constantValue := 0 }, { name := "hashIsZero", type := .boolean, accessFlags := 2, slot := 3, constantValue := 0 }, { name := "serialVersionUID", type := .long, accessFlags := 26, slot := 0, constantValue := 0 }, { name := "COMPACT_STRINGS", type := .boolean, accessFlags := 24, slot := 1, constantValue := 0 }, { name := "serialPersistentFields", type := (.array (.object "java/io/ObjectStreamField")), accessFlags := 26, slot := 2, constantValue := 0 }, { name := "REPL", type := .char, accessFlags := 26, slot := 3, constantValue := 0 }, { name := "CASE_INSENSITIVE_ORDER", type := (.object "java/util/Comparator"), accessFlags := 25, slot := 4, constantValue := 0 }, { name := "LATIN1", type := .byte, accessFlags := 24, slot := 5, constantValue := 0 }, { name := "UTF16", type := .byte, accessFlags := 24, slot := 6, constantValue := 0 }]
  methods := #[k7m0, k7m1, k7m2, k7m3, k7m4, k7m5, k7m6, k7m7, k7m8, k7m9, k7m10, k7m11]
  instanceTypes := #[(.array .byte), .byte, .int, .boolean]
  staticTypes := #[.long, .boolean, (.array (.object "java/io/ObjectStreamField")), .char, (.object "java/util/Comparator"), .byte, .byte]
  resolved := Array.replicate 1451 none
  statics := some 0 }

def pool8 : Array CpInfo := pool [(6, .class_ 8), (1, u "java/lang/Object"), (0, u "<init>"), (0, u "()V"), (1, .class_ 14), (1, u "java/lang/StringUTF16"), (31, u "$assertionsDisabled"), (0, u "Z"), (13, u "HI_BYTE_SHIFT"), (0, u "I"), (2, u "LO_BYTE_SHIFT"), (49, .methodref 12 116), (0, .nameAndType 117 118), (0, u "compress"), (0, u "([CI[BII)I"), (3, u "([CII)[B"), (138, u "coderFromArrayLen"), (0, u "([BI)B"), (106, .class_ 371), (1, u "java/lang/StringUTF16$LinesSpliterator"), (58, u "MAX_LENGTH"), (196, .class_ 628), (0, u "java/lang/StringUTF16$CodePointsSpliterator"), (0, .class_ 630), (0, u "java/lang/StringUTF16$CharsSpliterator")] 4

def k8m0 : Method := { name := "<init>", desc := "()V", sig := { parameters := [], returnType := none }, accessFlags := 0, code := none }
def k8c1 : Code := { maxStack := 2, maxLocals := 2, code := jdk_52_method_15_code, exceptionTable := #[], attributes := #[] }
def k8m1 : Method := { name := "coderFromArrayLen", desc := "([BI)B", sig := { parameters := [(.array .byte), .int], returnType := some .byte }, accessFlags := 8, code := some k8c1 }
def k8c2 : Code := { maxStack := 5, maxLocals := 6, code := jdk_52_method_16_code, exceptionTable := #[], attributes := #[] }
def k8m2 : Method := { name := "compress", desc := "([CII)[B", sig := { parameters := [(.array .char), .int, .int], returnType := some (.array .byte) }, accessFlags := 9, code := some k8c2 }
def k8c3 : Code := { maxStack := 3, maxLocals := 7, code := jdk_52_method_21_code, exceptionTable := #[], attributes := #[] }
def k8m3 : Method := { name := "compress", desc := "([CI[BII)I", sig := { parameters := [(.array .char), .int, (.array .byte), .int, .int], returnType := some .int }, accessFlags := 9, code := some k8c3 }
/-- java/lang/StringUTF16 -/
def k8 : Class := { plain "java/lang/StringUTF16" (some 0) with
  accessFlags := 48
  interfaces := #[]
  cf := some (fileOf pool8 12 #[.nestMembers #[627, 629, 369]] #[{ accessFlags := 0, nameIndex := 9, descriptorIndex := 10, attributes := #[] }, { accessFlags := 8, nameIndex := 261, descriptorIndex := 262, attributes := #[] }, { accessFlags := 9, nameIndex := 117, descriptorIndex := 122, attributes := #[] }, { accessFlags := 9, nameIndex := 117, descriptorIndex := 118, attributes := #[] }] 48 6 #[] #[{ accessFlags := 26, nameIndex := 61, descriptorIndex := 62, attributes := #[] }, { accessFlags := 26, nameIndex := 65, descriptorIndex := 62, attributes := #[] }, { accessFlags := 24, nameIndex := 430, descriptorIndex := 62, attributes := #[] }, { accessFlags := 4120, nameIndex := 46, descriptorIndex := 47, attributes := #[] }])
  fields := #[{ name := "HI_BYTE_SHIFT", type := .int, accessFlags := 26, slot := 0, constantValue := 0 }, { name := "LO_BYTE_SHIFT", type := .int, accessFlags := 26, slot := 1, constantValue := 0 }, { name := "MAX_LENGTH", type := .int, accessFlags := 24, slot := 2, constantValue := 0 }, { name := "$assertionsDisabled", type := .boolean, accessFlags := 4120, slot := 3, constantValue := 0 }]
  methods := #[k8m0, k8m1, k8m2, k8m3]
  instanceTypes := #[]
  staticTypes := #[.int, .int, .int, .boolean]
  resolved := Array.replicate 635 none
  statics := none }

def pool9 : Array CpInfo := pool [(2, .class_ 4), (0, .nameAndType 5 6), (0, u "java/lang/Object"), (0, u "<init>"), (0, u "()V"), (0, .methodref 8 9), (0, .class_ 10), (0, .nameAndType 11 12), (0, u "java/lang/String"), (0, u "isEmpty"), (0, u "()Z"), (7, .class_ 21), (0, u "java/lang/StringBuilder"), (0, .methodref 20 3), (0, .class_ 24), (0, u "com/example/mutx/mutx/redis/RedisNames"), (0, .string 26), (0, u "mutx:{"), (0, .methodref 20 28), (0, .nameAndType 29 30), (0, u "append"), (0, u "(Ljava/lang/String;)Ljava/lang/StringBuilder;"), (0, .string 32), (0, u "}"), (0, .methodref 20 34), (0, .nameAndType 35 36), (0, u "toString"), (0, u "()Ljava/lang/String;"), (2, u "lockKey"), (0, u "(Ljava/lang/String;)Ljava/lang/String;"), (43, u "KEY_PREFIX"), (0, u "Ljava/lang/String;")] 23

def k9m0 : Method := { name := "<init>", desc := "()V", sig := { parameters := [], returnType := none }, accessFlags := 2, code := none }
def k9c1 : Code := { maxStack := 3, maxLocals := 1, code := prog_10_method_2_code, exceptionTable := #[], attributes := #[] }
def k9m1 : Method := { name := "lockKey", desc := "(Ljava/lang/String;)Ljava/lang/String;", sig := { parameters := [(.object "java/lang/String")], returnType := some (.object "java/lang/String") }, accessFlags := 8, code := some k9c1 }
/-- com/example/mutx/mutx/redis/RedisNames -/
def k9 : Class := { plain "com/example/mutx/mutx/redis/RedisNames" (some 0) with
  accessFlags := 32
  interfaces := #[]
  cf := some (fileOf pool9 23 #[] #[{ accessFlags := 2, nameIndex := 5, descriptorIndex := 6, attributes := #[] }, { accessFlags := 8, nameIndex := 39, descriptorIndex := 40, attributes := #[] }] 32 2 #[] #[{ accessFlags := 24, nameIndex := 84, descriptorIndex := 85, attributes := #[] }])
  fields := #[{ name := "KEY_PREFIX", type := (.object "java/lang/String"), accessFlags := 24, slot := 0, constantValue := 0 }]
  methods := #[k9m0, k9m1]
  instanceTypes := #[]
  staticTypes := #[(.object "java/lang/String")]
  resolved := Array.replicate 109 none
  statics := none }

def pool10 : Array CpInfo := pool [(1, .class_ 2), (0, u "java/lang/Appendable"), (0, .class_ 4), (0, u "java/lang/Object")] 9

/-- java/lang/Appendable -/
def k10 : Class := { plain "java/lang/Appendable" (some 0) with
  accessFlags := 1537
  interfaces := #[]
  cf := some (fileOf pool10 1 #[] #[] 1537 3 #[] #[])
  fields := #[]
  methods := #[]
  instanceTypes := #[]
  staticTypes := #[]
  resolved := Array.replicate 14 none
  statics := none }

def pool11 : Array CpInfo := pool [(1, .class_ 2), (0, u "java/lang/String"), (0, .methodref 4 5), (0, .class_ 6), (0, .nameAndType 7 8), (0, u "java/lang/Object"), (0, u "<init>"), (0, u "()V"), (1, .class_ 12), (1, u "java/lang/AbstractStringBuilder"), (0, u "EMPTYVALUE"), (0, u "[B"), (0, .fieldref 10 16), (0, .nameAndType 17 14), (0, u "value"), (0, .fieldref 1 19), (0, .nameAndType 20 21), (0, u "COMPACT_STRINGS"), (0, u "Z"), (0, .fieldref 10 23), (0, .nameAndType 24 25), (0, u "coder"), (0, u "B"), (6, .methodref 1 33), (0, .nameAndType 34 35), (0, u "length"), (0, u "()I"), (4, .methodref 1 41), (0, .nameAndType 24 42), (0, u "()B"), (2, u "append"), (0, u "(Ljava/lang/String;)Ljava/lang/AbstractStringBuilder;"), (1, .class_ 49), (0, u "java/lang/CharSequence"), (19, u "(Ljava/lang/String;)V"), (5, u "maybeLatin1"), (3, .fieldref 10 80), (0, .nameAndType 81 82), (0, u "count"), (0, u "I"), (2, u "isLatin1"), (0, u "()Z"), (13, .methodref 10 101), (0, .nameAndType 102 103), (0, u "ensureCapacityInternal"), (0, u "(I)V"), (104, .methodref 10 209), (0, .nameAndType 210 211), (0, u "putStringAt"), (0, u "(ILjava/lang/String;)V"), (5, u "inflateIfNeededFor"), (2, .nameAndType 221 222), (0, u "getBytes"), (0, u "([BIB)V"), (174, .methodref 10 398), (0, .nameAndType 217 69), (0, .methodref 1 220), (3, u "()[B"), (40, .class_ 445), (0, u "java/lang/Appendable"), (106, u "getValue")] 56

def k11m0 : Method := { name := "<init>", desc := "()V", sig := { parameters := [], returnType := none }, accessFlags := 0, code := none }
def k11c1 : Code := { maxStack := 2, maxLocals := 2, code := jdk_68_method_2_code, exceptionTable := #[], attributes := #[] }
def k11m1 : Method := { name := "<init>", desc := "(I)V", sig := { parameters := [.int], returnType := none }, accessFlags := 0, code := some k11c1 }
def k11c2 : Code := { maxStack := 1, maxLocals := 1, code := jdk_68_method_6_code, exceptionTable := #[], attributes := #[] }
def k11m2 : Method := { name := "length", desc := "()I", sig := { parameters := [], returnType := some .int }, accessFlags := 1, code := some k11c2 }
def k11c3 : Code := { maxStack := 4, maxLocals := 3, code := jdk_68_method_9_code, exceptionTable := #[], attributes := #[] }
def k11m3 : Method := { name := "ensureCapacityInternal", desc := "(I)V", sig := { parameters := [.int], returnType := none }, accessFlags := 2, code := some k11c3 }
def k11c4 : Code := { maxStack := 3, maxLocals := 3, code := jdk_68_method_22_code, exceptionTable := #[], attributes := #[] }
def k11m4 : Method := { name := "append", desc := "(Ljava/lang/String;)Ljava/lang/AbstractStringBuilder;", sig := { parameters := [(.object "java/lang/String")], returnType := some (.object "java/lang/AbstractStringBuilder") }, accessFlags := 1, code := some k11c4 }
def k11c5 : Code := { maxStack := 1, maxLocals := 1, code := jdk_68_method_64_code, exceptionTable := #[], attributes := #[] }
def k11m5 : Method := { name := "getValue", desc := "()[B", sig := { parameters := [], returnType := some (.array .byte) }, accessFlags := 16, code := some k11c5 }
def k11c6 : Code := { maxStack := 1, maxLocals := 1, code := jdk_68_method_68_code, exceptionTable := #[], attributes := #[] }
def k11m6 : Method := { name := "isLatin1", desc := "()Z", sig := { parameters := [], returnType := some .boolean }, accessFlags := 16, code := some k11c6 }
def k11c7 : Code := { maxStack := 2, maxLocals := 2, code := jdk_68_method_71_code, exceptionTable := #[], attributes := #[] }
def k11m7 : Method := { name := "inflateIfNeededFor", desc := "(Ljava/lang/String;)V", sig := { parameters := [(.object "java/lang/String")], returnType := none }, accessFlags := 2, code := some k11c7 }
def k11c8 : Code := { maxStack := 4, maxLocals := 3, code := jdk_68_method_73_code, exceptionTable := #[], attributes := #[] }
def k11m8 : Method := { name := "putStringAt", desc := "(ILjava/lang/String;)V", sig := { parameters := [.int, (.object "java/lang/String")], returnType := none }, accessFlags := 2, code := some k11c8 }
/-- java/lang/AbstractStringBuilder -/
def k11 : Class := { plain "java/lang/AbstractStringBuilder" (some 0) with
  accessFlags := 1056
  interfaces := #[10, 4]
  cf := some (fileOf pool11 10 #[] #[{ accessFlags := 0, nameIndex := 7, descriptorIndex := 8, attributes := #[] }, { accessFlags := 0, nameIndex := 7, descriptorIndex := 103, attributes := #[] }, { accessFlags := 1, nameIndex := 34, descriptorIndex := 35, attributes := #[] }, { accessFlags := 2, nameIndex := 102, descriptorIndex := 103, attributes := #[] }, { accessFlags := 1, nameIndex := 45, descriptorIndex := 46, attributes := #[] }, { accessFlags := 16, nameIndex := 552, descriptorIndex := 403, attributes := #[] }, { accessFlags := 16, nameIndex := 85, descriptorIndex := 86, attributes := #[] }, { accessFlags := 2, nameIndex := 217, descriptorIndex := 69, attributes := #[] }, { accessFlags := 2, nameIndex := 210, descriptorIndex := 211, attributes := #[] }] 1056 4 #[444, 48] #[{ accessFlags := 0, nameIndex := 17, descriptorIndex := 14, attributes := #[] }, { accessFlags := 0, nameIndex := 24, descriptorIndex := 25, attributes := #[] }, { accessFlags := 0, nameIndex := 75, descriptorIndex := 21, attributes := #[] }, { accessFlags := 0, nameIndex := 81, descriptorIndex := 82, attributes := #[] }, { accessFlags := 26, nameIndex := 13, descriptorIndex := 14, attributes := #[] }])
  fields := #[{ name := "value", type := (.array .byte), accessFlags := 0, slot := 0, constantValue := 0 }, { name := "coder", type := .byte, accessFlags := 0, slot := 1, constantValue := 0 }, { name := "maybeLatin1", type := .boolean, accessFlags := 0, slot := 2, constantValue := 0 }, { name := "count", type := .int, accessFlags := 0, slot := 3, constantValue := 0 }, { name := "EMPTYVALUE", type := (.array .byte), accessFlags := 26, slot := 0, constantValue := 0 }]
  methods := #[k11m0, k11m1, k11m2, k11m3, k11m4, k11m5, k11m6, k11m7, k11m8]
  instanceTypes := #[(.array .byte), .byte, .boolean, .int]
  staticTypes := #[(.array .byte)]
  resolved := Array.replicate 609 none
  statics := none }

def pool12 : Array CpInfo := pool [(1, .methodref 2 3), (0, .class_ 4), (0, .nameAndType 5 6), (0, u "java/lang/AbstractStringBuilder"), (0, u "<init>"), (0, u "(I)V"), (11, .class_ 20), (1, u "java/lang/String"), (3, .class_ 26), (1, u "java/lang/StringBuilder"), (0, u "append"), (0, u "(Ljava/lang/String;)Ljava/lang/StringBuilder;"), (0, .methodref 2 30), (0, .nameAndType 27 31), (0, u "(Ljava/lang/String;)Ljava/lang/AbstractStringBuilder;"), (105, .methodref 18 138), (0, .nameAndType 5 139), (0, u "(Ljava/lang/StringBuilder;)V"), (5, u "()V"), (10, u "()I"), (186, .methodref 2 344), (0, .nameAndType 345 156), (0, u "length"), (3, .class_ 350), (0, u "java/lang/Appendable"), (0, .class_ 352), (0, u "java/io/Serializable"), (0, .class_ 354), (0, u "java/lang/Comparable"), (0, .class_ 356), (0, u "java/lang/CharSequence"), (0, u "serialVersionUID"), (0, u "J"), (40, u "toString"), (0, u "()Ljava/lang/String;")] 21

def k12c0 : Code := { maxStack := 2, maxLocals := 1, code := jdk_67_method_1_code, exceptionTable := #[], attributes := #[] }
def k12m0 : Method := { name := "<init>", desc := "()V", sig := { parameters := [], returnType := none }, accessFlags := 1, code := some k12c0 }
def k12c1 : Code := { maxStack := 2, maxLocals := 2, code := jdk_67_method_7_code, exceptionTable := #[], attributes := #[] }
def k12m1 : Method := { name := "append", desc := "(Ljava/lang/String;)Ljava/lang/StringBuilder;", sig := { parameters := [(.object "java/lang/String")], returnType := some (.object "java/lang/StringBuilder") }, accessFlags := 1, code := some k12c1 }
def k12c2 : Code := { maxStack := 3, maxLocals := 1, code := jdk_67_method_42_code, exceptionTable := #[], attributes := #[] }
def k12m2 : Method := { name := "toString", desc := "()Ljava/lang/String;", sig := { parameters := [], returnType := some (.object "java/lang/String") }, accessFlags := 1, code := some k12c2 }
def k12c3 : Code := { maxStack := 1, maxLocals := 1, code := jdk_67_method_93_code, exceptionTable := #[], attributes := #[] }
def k12m3 : Method := { name := "length", desc := "()I", sig := { parameters := [], returnType := some .int }, accessFlags := 4161, code := some k12c3 }
/-- java/lang/StringBuilder -/
def k12 : Class := { plain "java/lang/StringBuilder" (some 11) with
  accessFlags := 49
  interfaces := #[10, 2, 3, 4]
  cf := some (fileOf pool12 24 #[] #[{ accessFlags := 1, nameIndex := 5, descriptorIndex := 145, attributes := #[] }, { accessFlags := 1, nameIndex := 27, descriptorIndex := 28, attributes := #[] }, { accessFlags := 1, nameIndex := 399, descriptorIndex := 400, attributes := #[] }, { accessFlags := 4161, nameIndex := 345, descriptorIndex := 156, attributes := #[] }] 49 2 #[349, 351, 353, 355] #[{ accessFlags := 24, nameIndex := 357, descriptorIndex := 358, attributes := #[] }])
  fields := #[{ name := "serialVersionUID", type := .long, accessFlags := 24, slot := 0, constantValue := 0 }]
  methods := #[k12m0, k12m1, k12m2, k12m3]
  instanceTypes := #[(.array .byte), .byte, .boolean, .int]
  staticTypes := #[.long]
  resolved := Array.replicate 422 none
  statics := none }

def pool13 : Array CpInfo := pool [(2, .class_ 4), (1, u "java/lang/Object"), (0, u "<init>"), (0, u "()V"), (1, .class_ 10), (1, u "java/lang/System"), (0, u "allowSecurityManager"), (0, u "I"), (16, u "cons"), (0, u "Ljava/io/Console;"), (77, .class_ 110), (1, u "java/lang/System$CallersHolder"), (43, u "initialErrStream"), (0, u "Ljava/io/PrintStream;"), (19, u "security"), (0, u "Ljava/lang/SecurityManager;"), (31, .class_ 209), (0, u "java/lang/System$1"), (7, u "props"), (0, u "Ljava/util/Properties;"), (2, u "lineSeparator"), (0, u "Ljava/lang/String;"), (96, .class_ 321), (1, u "java/lang/System$LoggerFinder"), (5, .class_ 328), (0, u "java/lang/System$Logger"), (67, u "err"), (2, u "out"), (91, u "notSupportedJnuEncoding"), (15, u "in"), (17, u "initialIn"), (0, u "Ljava/io/InputStream;"), (35, u "bootLayer"), (0, u "Ljava/lang/ModuleLayer;"), (99, .class_ 664), (0, u "java/lang/System$2"), (9, u "NEVER"), (2, u "MAYBE"), (49, u "arraycopy"), (0, u "(Ljava/lang/Object;ILjava/lang/Object;II)V"), (72, .class_ 802), (0, u "java/lang/System$Logger$Level")] 31

def k13m0 : Method := { name := "<init>", desc := "()V", sig := { parameters := [], returnType := none }, accessFlags := 2, code := none }
def k13m1 : Method := { name := "arraycopy", desc := "(Ljava/lang/Object;ILjava/lang/Object;II)V", sig := { parameters := [(.object "java/lang/Object"), .int, (.object "java/lang/Object"), .int, .int], returnType := none }, accessFlags := 265, code := none }
/-- java/lang/System -/
def k13 : Class := { plain "java/lang/System" (some 0) with
  accessFlags := 49
  interfaces := #[]
  cf := some (fileOf pool13 8 #[.nestMembers #[319, 327, 801, 108, 663, 208]] #[{ accessFlags := 2, nameIndex := 5, descriptorIndex := 6, attributes := #[] }, { accessFlags := 265, nameIndex := 727, descriptorIndex := 728, attributes := #[] }] 49 2 #[] #[{ accessFlags := 25, nameIndex := 507, descriptorIndex := 526, attributes := #[] }, { accessFlags := 25, nameIndex := 399, descriptorIndex := 155, attributes := #[] }, { accessFlags := 25, nameIndex := 396, descriptorIndex := 155, attributes := #[] }, { accessFlags := 10, nameIndex := 525, descriptorIndex := 526, attributes := #[] }, { accessFlags := 26, nameIndex := 674, descriptorIndex := 12, attributes := #[] }, { accessFlags := 26, nameIndex := 677, descriptorIndex := 12, attributes := #[] }, { accessFlags := 10, nameIndex := 11, descriptorIndex := 12, attributes := #[] }, { accessFlags := 74, nameIndex := 175, descriptorIndex := 176, attributes := #[] }, { accessFlags := 10, nameIndex := 491, descriptorIndex := 222, attributes := #[] }, { accessFlags := 74, nameIndex := 29, descriptorIndex := 30, attributes := #[] }, { accessFlags := 74, nameIndex := 154, descriptorIndex := 155, attributes := #[] }, { accessFlags := 10, nameIndex := 217, descriptorIndex := 218, attributes := #[] }, { accessFlags := 10, nameIndex := 221, descriptorIndex := 222, attributes := #[] }, { accessFlags := 8, nameIndex := 562, descriptorIndex := 563, attributes := #[] }])
  fields := #[{ name := "in", type := (.object "java/io/InputStream"), accessFlags := 25, slot := 0, constantValue := 0 }, { name := "out", type := (.object "java/io/PrintStream"), accessFlags := 25, slot := 1, constantValue := 0 }, { name := "err", type := (.object "java/io/PrintStream"), accessFlags := 25, slot := 2, constantValue := 0 }, { name := "initialIn", type := (.object "java/io/InputStream"), accessFlags := 10, slot := 3, constantValue := 0 }, { name := "NEVER", type := .int, accessFlags := 26, slot := 4, constantValue := 0 }, { name := "MAYBE", type := .int, accessFlags := 26, slot := 5, constantValue := 0 }, { name := "allowSecurityManager", type := .int, accessFlags := 10, slot := 6, constantValue := 0 }, { name := "security", type := (.object "java/lang/SecurityManager"), accessFlags := 74, slot := 7, constantValue := 0 }, { name := "notSupportedJnuEncoding", type := (.object "java/lang/String"), accessFlags := 10, slot := 8, constantValue := 0 }, { name := "cons", type := (.object "java/io/Console"), accessFlags := 74, slot := 9, constantValue := 0 }, { name := "initialErrStream", type := (.object "java/io/PrintStream"), accessFlags := 74, slot := 10, constantValue := 0 }, { name := "props", type := (.object "java/util/Properties"), accessFlags := 10, slot := 11, constantValue := 0 }, { name := "lineSeparator", type := (.object "java/lang/String"), accessFlags := 10, slot := 12, constantValue := 0 }, { name := "bootLayer", type := (.object "java/lang/ModuleLayer"), accessFlags := 8, slot := 13, constantValue := 0 }]
  methods := #[k13m0, k13m1]
  instanceTypes := #[]
  staticTypes := #[(.object "java/io/InputStream"), (.object "java/io/PrintStream"), (.object "java/io/PrintStream"), (.object "java/io/InputStream"), .int, .int, .int, (.object "java/lang/SecurityManager"), (.object "java/lang/String"), (.object "java/io/Console"), (.object "java/io/PrintStream"), (.object "java/util/Properties"), (.object "java/lang/String"), (.object "java/lang/ModuleLayer")]
  resolved := Array.replicate 834 none
  statics := none }

def pool14 : Array CpInfo := pool [(2, .class_ 4), (1, u "java/lang/Object"), (0, u "<init>"), (0, u "()V"), (7, .class_ 16), (1, u "java/util/Arrays"), (57, .class_ 76), (1, u "java/util/Arrays$NaturalOrder"), (36, .class_ 115), (1, u "java/util/Arrays$LegacyMergeSort"), (1, u "Z"), (21, u "copyOfRange"), (10, .methodref 151 152), (0, .class_ 153), (0, .nameAndType 154 155), (0, u "java/lang/System"), (0, u "arraycopy"), (0, u "(Ljava/lang/Object;ILjava/lang/Object;II)V"), (148, .methodref 305 306), (0, .class_ 307), (0, .nameAndType 308 309), (0, u "java/lang/Math"), (0, u "min"), (0, u "(II)I"), (29, .methodref 14 340), (0, .nameAndType 341 342), (0, u "copyOfRangeByte"), (0, u "([BII)[B"), (0, .methodref 14 344), (0, .nameAndType 345 346), (0, u "checkLength"), (0, u "(II)V"), (28, .class_ 376), (0, u "java/util/Arrays$ArrayList"), (68, u "$assertionsDisabled"), (269, u "MIN_ARRAY_SORT_GRAN"), (0, u "I"), (2, u "INSERTIONSORT_THRESHOLD"), (255, .class_ 976), (0, u "java/util/Arrays$ArrayItr")] 52

def k14m0 : Method := { name := "<init>", desc := "()V", sig := { parameters := [], returnType := none }, accessFlags := 2, code := none }
def k14c1 : Code := { maxStack := 4, maxLocals := 2, code := jdk_65_method_131_code, exceptionTable := #[], attributes := #[] }
def k14m1 : Method := { name := "checkLength", desc := "(II)V", sig := { parameters := [.int, .int], returnType := none }, accessFlags := 10, code := some k14c1 }
def k14c2 : Code := { maxStack := 3, maxLocals := 3, code := jdk_65_method_132_code, exceptionTable := #[], attributes := #[] }
def k14m2 : Method := { name := "copyOfRange", desc := "([BII)[B", sig := { parameters := [(.array .byte), .int, .int], returnType := some (.array .byte) }, accessFlags := 9, code := some k14c2 }
def k14c3 : Code := { maxStack := 6, maxLocals := 5, code := jdk_65_method_133_code, exceptionTable := #[], attributes := #[] }
def k14m3 : Method := { name := "copyOfRangeByte", desc := "([BII)[B", sig := { parameters := [(.array .byte), .int, .int], returnType := some (.array .byte) }, accessFlags := 10, code := some k14c3 }
/-- java/util/Arrays -/
def k14 : Class := { plain "java/util/Arrays" (some 0) with
  accessFlags := 49
  interfaces := #[]
  cf := some (fileOf pool14 14 #[.nestMembers #[975, 375, 113, 74]] #[{ accessFlags := 2, nameIndex := 5, descriptorIndex := 6, attributes := #[] }, { accessFlags := 10, nameIndex := 345, descriptorIndex := 346, attributes := #[] }, { accessFlags := 9, nameIndex := 139, descriptorIndex := 342, attributes := #[] }, { accessFlags := 10, nameIndex := 341, descriptorIndex := 342, attributes := #[] }] 49 2 #[] #[{ accessFlags := 26, nameIndex := 715, descriptorIndex := 716, attributes := #[] }, { accessFlags := 26, nameIndex := 719, descriptorIndex := 716, attributes := #[] }, { accessFlags := 4120, nameIndex := 445, descriptorIndex := 117, attributes := #[] }])
  fields := #[{ name := "MIN_ARRAY_SORT_GRAN", type := .int, accessFlags := 26, slot := 0, constantValue := 0 }, { name := "INSERTIONSORT_THRESHOLD", type := .int, accessFlags := 26, slot := 1, constantValue := 0 }, { name := "$assertionsDisabled", type := .boolean, accessFlags := 4120, slot := 2, constantValue := 0 }]
  methods := #[k14m0, k14m1, k14m2, k14m3]
  instanceTypes := #[]
  staticTypes := #[.int, .int, .boolean]
  resolved := Array.replicate 1029 none
  statics := none }

def pool15 : Array CpInfo := pool [(1, .class_ 2), (0, u "java/lang/Math"), (1, .class_ 6), (1, u "java/lang/Object"), (0, u "<init>"), (0, u "()V"), (89, .class_ 100), (1, u "java/lang/Math$RandomNumberGeneratorHolder"), (71, u "negativeZeroFloatBits"), (0, u "J"), (2, u "negativeZeroDoubleBits"), (24, u "min"), (43, u "$assertionsDisabled"), (0, u "Z"), (88, u "(II)I"), (2, u "twoToTheDoubleScaleDown"), (0, u "D"), (4, u "twoToTheDoubleScaleUp"), (9, u "E"), (3, u "PI"), (2, u "TAU"), (2, u "DEGREES_TO_RADIANS"), (0, u "RADIANS_TO_DEGREES")] 94

def k15m0 : Method := { name := "<init>", desc := "()V", sig := { parameters := [], returnType := none }, accessFlags := 2, code := none }
def k15c1 : Code := { maxStack := 2, maxLocals := 2, code := jdk_29_method_69_code, exceptionTable := #[], attributes := #[] }
def k15m1 : Method := { name := "min", desc := "(II)I", sig := { parameters := [.int, .int], returnType := some .int }, accessFlags := 9, code := some k15c1 }
/-- java/lang/Math -/
def k15 : Class := { plain "java/lang/Math" (some 0) with
  accessFlags := 49
  interfaces := #[]
  cf := some (fileOf pool15 1 #[.nestMembers #[98]] #[{ accessFlags := 2, nameIndex := 7, descriptorIndex := 8, attributes := #[] }, { accessFlags := 9, nameIndex := 201, descriptorIndex := 335, attributes := #[] }] 49 4 #[] #[{ accessFlags := 25, nameIndex := 354, descriptorIndex := 339, attributes := #[] }, { accessFlags := 25, nameIndex := 358, descriptorIndex := 339, attributes := #[] }, { accessFlags := 25, nameIndex := 361, descriptorIndex := 339, attributes := #[] }, { accessFlags := 26, nameIndex := 364, descriptorIndex := 339, attributes := #[] }, { accessFlags := 26, nameIndex := 365, descriptorIndex := 339, attributes := #[] }, { accessFlags := 26, nameIndex := 172, descriptorIndex := 173, attributes := #[] }, { accessFlags := 26, nameIndex := 176, descriptorIndex := 173, attributes := #[] }, { accessFlags := 8, nameIndex := 344, descriptorIndex := 339, attributes := #[] }, { accessFlags := 8, nameIndex := 338, descriptorIndex := 339, attributes := #[] }, { accessFlags := 4120, nameIndex := 245, descriptorIndex := 246, attributes := #[] }])
  fields := #[{ name := "E", type := .double, accessFlags := 25, slot := 0, constantValue := 0 }, { name := "PI", type := .double, accessFlags := 25, slot := 1, constantValue := 0 }, { name := "TAU", type := .double, accessFlags := 25, slot := 2, constantValue := 0 }, { name := "DEGREES_TO_RADIANS", type := .double, accessFlags := 26, slot := 3, constantValue := 0 }, { name := "RADIANS_TO_DEGREES", type := .double, accessFlags := 26, slot := 4, constantValue := 0 }, { name := "negativeZeroFloatBits", type := .long, accessFlags := 26, slot := 5, constantValue := 0 }, { name := "negativeZeroDoubleBits", type := .long, accessFlags := 26, slot := 6, constantValue := 0 }, { name := "twoToTheDoubleScaleUp", type := .double, accessFlags := 8, slot := 7, constantValue := 0 }, { name := "twoToTheDoubleScaleDown", type := .double, accessFlags := 8, slot := 8, constantValue := 0 }, { name := "$assertionsDisabled", type := .boolean, accessFlags := 4120, slot := 9, constantValue := 0 }]
  methods := #[k15m0, k15m1]
  instanceTypes := #[]
  staticTypes := #[.double, .double, .double, .double, .double, .long, .long, .double, .double, .boolean]
  resolved := Array.replicate 460 none
  statics := none }

def pool16 : Array CpInfo := pool [(1, .class_ 2), (0, u "java/lang/String"), (1, .class_ 6), (1, u "java/lang/Object"), (0, u "<init>"), (0, u "()V"), (0, .methodref 1 10), (0, .nameAndType 11 12), (0, u "checkIndex"), (0, u "(II)V"), (1, .class_ 16), (1, u "java/lang/StringLatin1"), (36, u "([BI)C"), (67, u "$assertionsDisabled"), (0, u "Z"), (98, .class_ 223), (1, u "java/lang/StringLatin1$LinesSpliterator"), (28, u "charAt"), (137, .class_ 391), (0, u "java/lang/StringLatin1$CharsSpliterator")] 3

def k16m0 : Method := { name := "<init>", desc := "()V", sig := { parameters := [], returnType := none }, accessFlags := 0, code := none }
def k16c1 : Code := { maxStack := 2, maxLocals := 2, code := jdk_43_method_2_code, exceptionTable := #[], attributes := #[] }
def k16m1 : Method := { name := "charAt", desc := "([BI)C", sig := { parameters := [(.array .byte), .int], returnType := some .char }, accessFlags := 9, code := some k16c1 }
/-- java/lang/StringLatin1 -/
def k16 : Class := { plain "java/lang/StringLatin1" (some 0) with
  accessFlags := 48
  interfaces := #[]
  cf := some (fileOf pool16 14 #[.nestMembers #[390, 221]] #[{ accessFlags := 0, nameIndex := 7, descriptorIndex := 8, attributes := #[] }, { accessFlags := 9, nameIndex := 252, descriptorIndex := 53, attributes := #[] }] 48 4 #[] #[{ accessFlags := 4120, nameIndex := 121, descriptorIndex := 122, attributes := #[] }])
  fields := #[{ name := "$assertionsDisabled", type := .boolean, accessFlags := 4120, slot := 0, constantValue := 0 }]
  methods := #[k16m0, k16m1]
  instanceTypes := #[]
  staticTypes := #[.boolean]
  resolved := Array.replicate 395 none
  statics := none }

def pool17 : Array CpInfo := pool [(2, .class_ 4), (1, u "java/lang/Object"), (0, u "<init>"), (0, u "()V"), (17, .class_ 26), (1, u "jdk/internal/util/Preconditions"), (6, u "checkIndex"), (21, .class_ 56), (0, u "jdk/internal/util/Preconditions$4"), (57, .class_ 115), (0, u "jdk/internal/util/Preconditions$1"), (7, u "SIOOBE_FORMATTER"), (0, u "Ljava/util/function/BiFunction;"), (0, .class_ 126), (0, u "jdk/internal/util/Preconditions$2"), (3, u "AIOOBE_FORMATTER"), (0, .class_ 132), (0, u "jdk/internal/util/Preconditions$3"), (3, u "IOOBE_FORMATTER"), (41, u "(IILjava/util/function/BiFunction;)I")] 15

def k17m0 : Method := { name := "<init>", desc := "()V", sig := { parameters := [], returnType := none }, accessFlags := 1, code := none }
def k17c1 : Code := { maxStack := 3, maxLocals := 3, code := jdk_41_method_11_code, exceptionTable := #[], attributes := #[] }
def k17m1 : Method := { name := "checkIndex", desc := "(IILjava/util/function/BiFunction;)I", sig := { parameters := [.int, .int, (.object "java/util/function/BiFunction")], returnType := some .int }, accessFlags := 9, code := some k17c1 }
/-- jdk/internal/util/Preconditions -/
def k17 : Class := { plain "jdk/internal/util/Preconditions" (some 0) with
  accessFlags := 33
  interfaces := #[]
  cf := some (fileOf pool17 24 #[.nestMembers #[55, 131, 125, 114]] #[{ accessFlags := 1, nameIndex := 5, descriptorIndex := 6, attributes := #[] }, { accessFlags := 9, nameIndex := 33, descriptorIndex := 178, attributes := #[] }] 33 2 #[] #[{ accessFlags := 25, nameIndex := 123, descriptorIndex := 124, attributes := #[] }, { accessFlags := 25, nameIndex := 130, descriptorIndex := 124, attributes := #[] }, { accessFlags := 25, nameIndex := 136, descriptorIndex := 124, attributes := #[] }])
  fields := #[{ name := "SIOOBE_FORMATTER", type := (.object "java/util/function/BiFunction"), accessFlags := 25, slot := 0, constantValue := 0 }, { name := "AIOOBE_FORMATTER", type := (.object "java/util/function/BiFunction"), accessFlags := 25, slot := 1, constantValue := 0 }, { name := "IOOBE_FORMATTER", type := (.object "java/util/function/BiFunction"), accessFlags := 25, slot := 2, constantValue := 0 }]
  methods := #[k17m0, k17m1]
  instanceTypes := #[]
  staticTypes := #[(.object "java/util/function/BiFunction"), (.object "java/util/function/BiFunction"), (.object "java/util/function/BiFunction")]
  resolved := Array.replicate 194 none
  statics := some 1 }

def pool18 : Array CpInfo := pool [(9, u "<init>"), (6, .class_ 18), (1, u "java/lang/Object"), (0, u "()V"), (1, .class_ 23), (1, u "jdk/internal/util/ArraysSupport"), (0, u "LOG2_ARRAY_LONG_INDEX_SCALE"), (0, u "I"), (2, u "U"), (0, u "Ljdk/internal/misc/Unsafe;"), (8, u "BIG_ENDIAN"), (0, u "Z"), (8, u "LOG2_BYTE_BIT_SIZE"), (4, u "LOG2_ARRAY_INT_INDEX_SCALE"), (54, u "JLA"), (0, u "Ljdk/internal/access/JavaLangAccess;"), (11, u "LOG2_ARRAY_BOOLEAN_INDEX_SCALE"), (9, u "LOG2_ARRAY_BYTE_INDEX_SCALE"), (5, u "LOG2_ARRAY_CHAR_INDEX_SCALE"), (5, u "LOG2_ARRAY_SHORT_INDEX_SCALE"), (18, u "LOG2_ARRAY_FLOAT_INDEX_SCALE"), (24, u "LOG2_ARRAY_DOUBLE_INDEX_SCALE"), (89, u "T_BOOLEAN"), (2, u "T_CHAR"), (1, u "T_FLOAT"), (1, u "T_DOUBLE"), (1, u "T_BYTE"), (1, u "T_SHORT"), (1, u "T_INT"), (1, u "T_LONG"), (1, u "SOFT_MAX_ARRAY_LENGTH")] 83

def k18m0 : Method := { name := "<init>", desc := "()V", sig := { parameters := [], returnType := none }, accessFlags := 2, code := none }
/-- jdk/internal/util/ArraysSupport -/
def k18 : Class := { plain "jdk/internal/util/ArraysSupport" (some 0) with
  accessFlags := 33
  interfaces := #[]
  cf := some (fileOf pool18 21 #[] #[{ accessFlags := 2, nameIndex := 9, descriptorIndex := 19, attributes := #[] }] 33 16 #[] #[{ accessFlags := 24, nameIndex := 28, descriptorIndex := 29, attributes := #[] }, { accessFlags := 26, nameIndex := 38, descriptorIndex := 39, attributes := #[] }, { accessFlags := 25, nameIndex := 121, descriptorIndex := 25, attributes := #[] }, { accessFlags := 25, nameIndex := 131, descriptorIndex := 25, attributes := #[] }, { accessFlags := 25, nameIndex := 137, descriptorIndex := 25, attributes := #[] }, { accessFlags := 25, nameIndex := 143, descriptorIndex := 25, attributes := #[] }, { accessFlags := 25, nameIndex := 53, descriptorIndex := 25, attributes := #[] }, { accessFlags := 25, nameIndex := 24, descriptorIndex := 25, attributes := #[] }, { accessFlags := 25, nameIndex := 162, descriptorIndex := 25, attributes := #[] }, { accessFlags := 25, nameIndex := 187, descriptorIndex := 25, attributes := #[] }, { accessFlags := 26, nameIndex := 48, descriptorIndex := 25, attributes := #[] }, { accessFlags := 25, nameIndex := 277, descriptorIndex := 25, attributes := #[] }, { accessFlags := 25, nameIndex := 280, descriptorIndex := 25, attributes := #[] }, { accessFlags := 25, nameIndex := 282, descriptorIndex := 25, attributes := #[] }, { accessFlags := 25, nameIndex := 284, descriptorIndex := 25, attributes := #[] }, { accessFlags := 25, nameIndex := 286, descriptorIndex := 25, attributes := #[] }, { accessFlags := 25, nameIndex := 288, descriptorIndex := 25, attributes := #[] }, { accessFlags := 25, nameIndex := 290, descriptorIndex := 25, attributes := #[] }, { accessFlags := 25, nameIndex := 292, descriptorIndex := 25, attributes := #[] }, { accessFlags := 26, nameIndex := 108, descriptorIndex := 109, attributes := #[] }, { accessFlags := 25, nameIndex := 294, descriptorIndex := 25, attributes := #[] }])
  fields := #[{ name := "U", type := (.object "jdk/internal/misc/Unsafe"), accessFlags := 24, slot := 0, constantValue := 0 }, { name := "BIG_ENDIAN", type := .boolean, accessFlags := 26, slot := 1, constantValue := 0 }, { name := "LOG2_ARRAY_BOOLEAN_INDEX_SCALE", type := .int, accessFlags := 25, slot := 2, constantValue := 0 }, { name := "LOG2_ARRAY_BYTE_INDEX_SCALE", type := .int, accessFlags := 25, slot := 3, constantValue := 0 }, { name := "LOG2_ARRAY_CHAR_INDEX_SCALE", type := .int, accessFlags := 25, slot := 4, constantValue := 0 }, { name := "LOG2_ARRAY_SHORT_INDEX_SCALE", type := .int, accessFlags := 25, slot := 5, constantValue := 0 }, { name := "LOG2_ARRAY_INT_INDEX_SCALE", type := .int, accessFlags := 25, slot := 6, constantValue := 0 }, { name := "LOG2_ARRAY_LONG_INDEX_SCALE", type := .int, accessFlags := 25, slot := 7, constantValue := 0 }, { name := "LOG2_ARRAY_FLOAT_INDEX_SCALE", type := .int, accessFlags := 25, slot := 8, constantValue := 0 }, { name := "LOG2_ARRAY_DOUBLE_INDEX_SCALE", type := .int, accessFlags := 25, slot := 9, constantValue := 0 }, { name := "LOG2_BYTE_BIT_SIZE", type := .int, accessFlags := 26, slot := 10, constantValue := 0 }, { name := "T_BOOLEAN", type := .int, accessFlags := 25, slot := 11, constantValue := 0 }, { name := "T_CHAR", type := .int, accessFlags := 25, slot := 12, constantValue := 0 }, { name := "T_FLOAT", type := .int, accessFlags := 25, slot := 13, constantValue := 0 }, { name := "T_DOUBLE", type := .int, accessFlags := 25, slot := 14, constantValue := 0 }, { name := "T_BYTE", type := .int, accessFlags := 25, slot := 15, constantValue := 0 }, { name := "T_SHORT", type := .int, accessFlags := 25, slot := 16, constantValue := 0 }, { name := "T_INT", type := .int, accessFlags := 25, slot := 17, constantValue := 0 }, { name := "T_LONG", type := .int, accessFlags := 25, slot := 18, constantValue := 0 }, { name := "JLA", type := (.object "jdk/internal/access/JavaLangAccess"), accessFlags := 26, slot := 19, constantValue := 0 }, { name := "SOFT_MAX_ARRAY_LENGTH", type := .int, accessFlags := 25, slot := 20, constantValue := 0 }]
  methods := #[k18m0]
  instanceTypes := #[]
  staticTypes := #[(.object "jdk/internal/misc/Unsafe"), .boolean, .int, .int, .int, .int, .int, .int, .int, .int, .int, .int, .int, .int, .int, .int, .int, .int, .int, (.object "jdk/internal/access/JavaLangAccess"), .int]
  resolved := Array.replicate 378 none
  statics := none }

def pool19 : Array CpInfo := pool [(1, u "java/lang/Cloneable"), (0, .class_ 1), (0, u "java/lang/Object"), (0, .class_ 3)] 3

/-- java/lang/Cloneable -/
def k19 : Class := { plain "java/lang/Cloneable" (some 0) with
  accessFlags := 1537
  interfaces := #[]
  cf := some (fileOf pool19 2 #[] #[] 1537 4 #[] #[])
  fields := #[]
  methods := #[]
  instanceTypes := #[]
  staticTypes := #[]
  resolved := Array.replicate 8 none
  statics := none }

/-- the primitive byte -/
def k20 : Class := { plain "byte" none with kind := .primitive 'B', accessFlags := 0x411 }
/-- [B -/
def k21 : Class := { plain "[B" (some 0) with kind := .array 20 .byte, interfaces := #[19, 2], accessFlags := 1041 }

/-- the primitive char -/
def k22 : Class := { plain "char" none with kind := .primitive 'C', accessFlags := 0x411 }
/-- [C -/
def k23 : Class := { plain "[C" (some 0) with kind := .array 22 .char, interfaces := #[19, 2], accessFlags := 1041 }

/-- the primitive int -/
def k24 : Class := { plain "int" none with kind := .primitive 'I', accessFlags := 0x411 }
/-- [I -/
def k25 : Class := { plain "[I" (some 0) with kind := .array 24 .int, interfaces := #[19, 2], accessFlags := 1041 }

def heap : Heap := #[{ cls := 7, slots := #[.long 0, .int 1, .null, .int 0, .null, .int 0, .int 0], vm := .statics 7 },
  { cls := 17, slots := #[.null, .null, .null], vm := .statics 17 }]
def classes : Array Class := #[k0, k1, k2, k3, k4, k5, k6, k7, k8, k9, k10, k11, k12, k13, k14, k15, k16, k17, k18, k19, k20, k21, k22, k23, k24, k25]
def interned : List (Array UInt16 × Addr) := []
def slotsUsed : Nat := 10
def theMethod : MethodId := ⟨1, 1⟩
def args0 : Array Value := #[.int 65, .int 66, .int 67, .int 68, .int 1]
def aboutOver (below : List Frame) : State where
  vm := { classes := classes, interned := interned.toArray }
  heap := heap
  slotsUsed := slotsUsed
  threads := #[{ frames := .invoking theMethod args0 :: below }]
def below0 : List Frame := [.native { method := ⟨0, 0⟩, args := #[] }]
def about1 : State := aboutOver below0
def p0 : Program := .bare "" "" ""
def e0 : Env := launch0.env 0 0 0
theorem w_frames : about1.frames = Frame.invoking theMethod args0 :: below0 := rfl
set_option maxRecDepth 65536 in
theorem w_args : argsFit about1.vm theMethod args0 = true := by decide +kernel
set_option maxRecDepth 65536 in
theorem w_heap : heapFits about1 = true := by decide +kernel
set_option maxRecDepth 65536 in
theorem w_runnable : about1.curStatus? = some .runnable := by decide +kernel
set_option maxRecDepth 65536 in
theorem w_alone : about1.alone = true := by decide +kernel
set_option maxRecDepth 65536 in
theorem w_named : about1.methodNamed? x = some theMethod := by decide +kernel
set_option maxRecDepth 65536 in
theorem w_hears : about1.hears theMethod below0 = true := by decide +kernel
set_option maxRecDepth 65536 in
theorem w_ripe : about1.ripe theMethod args0 below0 = true := by decide +kernel
theorem w_running : about1.status = .running := rfl
set_option maxRecDepth 65536 in
theorem w_room : about1.hasRoom e0.platform room_1 = true :=
  launch0.hasRoom_least _ room_1 (by decide +kernel) (by decide +kernel) (by decide +kernel) (by decide +kernel) (by decide +kernel) (by decide +kernel)
theorem allAtoms_all (ts : List Jvm.Cond) (a : Array Jvm.Value) (st : Jvm.State) : (allAtoms ts).before a st = ts.all (fun c => c.before a st) := by
  induction ts with
  | nil => rfl
  | cons c t ih =>
    show (Jvm.Cond.and c (allAtoms t)).before a st = _
    rw [Jvm.Cond.before_and, ih, List.all_cons]
def words1 : List Jvm.Cond := Jvm.Cond.code x code maxLocals ret :: tables_1
/-- a 'code' word, met by the world's own term for the bytes: nothing is compared byte by byte -/
theorem code_word {y : MethodName} {bytes : ByteArray} {mx : Nat} {rt : Option FieldType} {a : Array Value} {s : State} {m : MethodId} {meth : Method} {c : Code} (h1 : s.methodNamed? y = some m) (h2 : s.vm.method? m = some meth) (h3 : meth.code = some c) (h4 : c.code = bytes)
    (h5 : (c.maxLocals == mx && c.exceptionTable.isEmpty && decide (c.maxStack ≤ mostOperands) && decide (meth.sig.returnType = rt) && !meth.locks && decide (parseMethodDescriptor y.desc = some meth.sig)) = true) : (Jvm.Cond.code y bytes mx rt).before a s = true := by
  simp only [Bool.and_eq_true, beq_iff_eq, Bool.not_eq_true', decide_eq_true_eq] at h5
  obtain ⟨⟨⟨⟨⟨g1, g2⟩, g3⟩, g4⟩, g5⟩, g6⟩ := h5
  simp [Cond.before, Cond.holds, Cond.value, h1, h2, h3, h4, g1, g2, g3, g4, g5, g6]
def isCode : Jvm.Cond → Bool
  | .code _ _ _ _ => true
  | _ => false
theorem all_split {L : List Jvm.Cond} {P : Jvm.Cond → Bool} (h1 : L.all (fun c => isCode c || P c) = true) (h2 : ∀ c ∈ L.filter isCode, P c = true) : L.all P = true := by
  refine List.all_eq_true.mpr fun c hc => ?_
  have h := List.all_eq_true.mp h1 c hc
  rcases Bool.eq_false_or_eq_true (isCode c) with hi | hi
  · exact h2 c (List.mem_filter.mpr ⟨hc, hi⟩)
  · simpa [hi] using h
set_option maxRecDepth 65536 in
theorem w_c0 : (Jvm.Cond.code x code maxLocals ret).before args0 about1 = true := code_word (m := ⟨1, 1⟩) (meth := k1m1) (c := k1c1) (by decide +kernel) rfl rfl rfl (by decide +kernel)
set_option maxRecDepth 65536 in
theorem w_c1 : (Jvm.Cond.code ({ cls := "java/lang/String", name := "<init>", desc := "([C)V" } : Jvm.MethodName) jdk_42_method_3_code (2 : Nat) (Option.none : Option Jvm.ClassFile.FieldType)).before args0 about1 = true := code_word (m := ⟨7, 1⟩) (meth := k7m1) (c := k7c1) (by decide +kernel) rfl rfl rfl (by decide +kernel)
set_option maxRecDepth 65536 in
theorem w_c2 : (Jvm.Cond.code ({ cls := "java/lang/String", name := "<init>", desc := "([CIILjava/lang/Void;)V" } : Jvm.MethodName) jdk_42_method_149_code (6 : Nat) (Option.none : Option Jvm.ClassFile.FieldType)).before args0 about1 = true := code_word (m := ⟨7, 7⟩) (meth := k7m7) (c := k7c7) (by decide +kernel) rfl rfl rfl (by decide +kernel)
set_option maxRecDepth 65536 in
theorem w_c3 : (Jvm.Cond.code ({ cls := "java/lang/Object", name := "<init>", desc := "()V" } : Jvm.MethodName) object_method_1_code (1 : Nat) (Option.none : Option Jvm.ClassFile.FieldType)).before args0 about1 = true := code_word (m := ⟨0, 0⟩) (meth := k0m0) (c := k0c0) (by decide +kernel) rfl rfl rfl (by decide +kernel)
set_option maxRecDepth 65536 in
theorem w_c4 : (Jvm.Cond.code ({ cls := "java/lang/StringUTF16", name := "compress", desc := "([CII)[B" } : Jvm.MethodName) jdk_52_method_16_code (6 : Nat) (Option.some (Jvm.ClassFile.FieldType.array Jvm.ClassFile.FieldType.byte))).before args0 about1 = true := code_word (m := ⟨8, 2⟩) (meth := k8m2) (c := k8c2) (by decide +kernel) rfl rfl rfl (by decide +kernel)
set_option maxRecDepth 65536 in
theorem w_c5 : (Jvm.Cond.code ({ cls := "java/lang/StringUTF16", name := "compress", desc := "([CI[BII)I" } : Jvm.MethodName) jdk_52_method_21_code (7 : Nat) (Option.some Jvm.ClassFile.FieldType.int)).before args0 about1 = true := code_word (m := ⟨8, 3⟩) (meth := k8m3) (c := k8c3) (by decide +kernel) rfl rfl rfl (by decide +kernel)
set_option maxRecDepth 65536 in
theorem w_c6 : (Jvm.Cond.code ({ cls := "java/lang/StringUTF16", name := "coderFromArrayLen", desc := "([BI)B" } : Jvm.MethodName) jdk_52_method_15_code (2 : Nat) (Option.some Jvm.ClassFile.FieldType.byte)).before args0 about1 = true := code_word (m := ⟨8, 1⟩) (meth := k8m1) (c := k8c1) (by decide +kernel) rfl rfl rfl (by decide +kernel)
set_option maxRecDepth 65536 in
theorem w_c7 : (Jvm.Cond.code ({ cls := "com/example/mutx/mutx/redis/RedisNames", name := "lockKey", desc := "(Ljava/lang/String;)Ljava/lang/String;" } : Jvm.MethodName) prog_10_method_2_code (1 : Nat) (Option.some (Jvm.ClassFile.FieldType.object "java/lang/String"))).before args0 about1 = true := code_word (m := ⟨9, 1⟩) (meth := k9m1) (c := k9c1) (by decide +kernel) rfl rfl rfl (by decide +kernel)
set_option maxRecDepth 65536 in
theorem w_c8 : (Jvm.Cond.code ({ cls := "java/lang/String", name := "isEmpty", desc := "()Z" } : Jvm.MethodName) jdk_42_method_55_code (1 : Nat) (Option.some Jvm.ClassFile.FieldType.boolean)).before args0 about1 = true := code_word (m := ⟨7, 4⟩) (meth := k7m4) (c := k7c4) (by decide +kernel) rfl rfl rfl (by decide +kernel)
set_option maxRecDepth 65536 in
theorem w_c9 : (Jvm.Cond.code ({ cls := "java/lang/StringBuilder", name := "<init>", desc := "()V" } : Jvm.MethodName) jdk_67_method_1_code (1 : Nat) (Option.none : Option Jvm.ClassFile.FieldType)).before args0 about1 = true := code_word (m := ⟨12, 0⟩) (meth := k12m0) (c := k12c0) (by decide +kernel) rfl rfl rfl (by decide +kernel)
set_option maxRecDepth 65536 in
theorem w_c10 : (Jvm.Cond.code ({ cls := "java/lang/AbstractStringBuilder", name := "<init>", desc := "(I)V" } : Jvm.MethodName) jdk_68_method_2_code (2 : Nat) (Option.none : Option Jvm.ClassFile.FieldType)).before args0 about1 = true := code_word (m := ⟨11, 1⟩) (meth := k11m1) (c := k11c1) (by decide +kernel) rfl rfl rfl (by decide +kernel)
set_option maxRecDepth 65536 in
theorem w_c11 : (Jvm.Cond.code ({ cls := "java/lang/StringBuilder", name := "append", desc := "(Ljava/lang/String;)Ljava/lang/StringBuilder;" } : Jvm.MethodName) jdk_67_method_7_code (2 : Nat) (Option.some (Jvm.ClassFile.FieldType.object "java/lang/StringBuilder"))).before args0 about1 = true := code_word (m := ⟨12, 1⟩) (meth := k12m1) (c := k12c1) (by decide +kernel) rfl rfl rfl (by decide +kernel)
set_option maxRecDepth 65536 in
theorem w_c12 : (Jvm.Cond.code ({ cls := "java/lang/AbstractStringBuilder", name := "append", desc := "(Ljava/lang/String;)Ljava/lang/AbstractStringBuilder;" } : Jvm.MethodName) jdk_68_method_22_code (3 : Nat) (Option.some (Jvm.ClassFile.FieldType.object "java/lang/AbstractStringBuilder"))).before args0 about1 = true := code_word (m := ⟨11, 4⟩) (meth := k11m4) (c := k11c4) (by decide +kernel) rfl rfl rfl (by decide +kernel)
set_option maxRecDepth 65536 in
theorem w_c13 : (Jvm.Cond.code ({ cls := "java/lang/String", name := "length", desc := "()I" } : Jvm.MethodName) jdk_42_method_54_code (1 : Nat) (Option.some Jvm.ClassFile.FieldType.int)).before args0 about1 = true := code_word (m := ⟨7, 3⟩) (meth := k7m3) (c := k7c3) (by decide +kernel) rfl rfl rfl (by decide +kernel)
set_option maxRecDepth 65536 in
theorem w_c14 : (Jvm.Cond.code ({ cls := "java/lang/String", name := "coder", desc := "()B" } : Jvm.MethodName) jdk_42_method_152_code (1 : Nat) (Option.some Jvm.ClassFile.FieldType.byte)).before args0 about1 = true := code_word (m := ⟨7, 9⟩) (meth := k7m9) (c := k7c9) (by decide +kernel) rfl rfl rfl (by decide +kernel)
set_option maxRecDepth 65536 in
theorem w_c15 : (Jvm.Cond.code ({ cls := "java/lang/AbstractStringBuilder", name := "ensureCapacityInternal", desc := "(I)V" } : Jvm.MethodName) jdk_68_method_9_code (3 : Nat) (Option.none : Option Jvm.ClassFile.FieldType)).before args0 about1 = true := code_word (m := ⟨11, 3⟩) (meth := k11m3) (c := k11c3) (by decide +kernel) rfl rfl rfl (by decide +kernel)
set_option maxRecDepth 65536 in
theorem w_c16 : (Jvm.Cond.code ({ cls := "java/lang/AbstractStringBuilder", name := "putStringAt", desc := "(ILjava/lang/String;)V" } : Jvm.MethodName) jdk_68_method_73_code (3 : Nat) (Option.none : Option Jvm.ClassFile.FieldType)).before args0 about1 = true := code_word (m := ⟨11, 8⟩) (meth := k11m8) (c := k11c8) (by decide +kernel) rfl rfl rfl (by decide +kernel)
set_option maxRecDepth 65536 in
theorem w_c17 : (Jvm.Cond.code ({ cls := "java/lang/AbstractStringBuilder", name := "inflateIfNeededFor", desc := "(Ljava/lang/String;)V" } : Jvm.MethodName) jdk_68_method_71_code (2 : Nat) (Option.none : Option Jvm.ClassFile.FieldType)).before args0 about1 = true := code_word (m := ⟨11, 7⟩) (meth := k11m7) (c := k11c7) (by decide +kernel) rfl rfl rfl (by decide +kernel)
set_option maxRecDepth 65536 in
theorem w_c18 : (Jvm.Cond.code ({ cls := "java/lang/String", name := "getBytes", desc := "([BIB)V" } : Jvm.MethodName) jdk_42_method_147_code (4 : Nat) (Option.none : Option Jvm.ClassFile.FieldType)).before args0 about1 = true := code_word (m := ⟨7, 6⟩) (meth := k7m6) (c := k7c6) (by decide +kernel) rfl rfl rfl (by decide +kernel)
set_option maxRecDepth 65536 in
theorem w_c19 : (Jvm.Cond.code ({ cls := "java/lang/StringBuilder", name := "toString", desc := "()Ljava/lang/String;" } : Jvm.MethodName) jdk_67_method_42_code (1 : Nat) (Option.some (Jvm.ClassFile.FieldType.object "java/lang/String"))).before args0 about1 = true := code_word (m := ⟨12, 2⟩) (meth := k12m2) (c := k12c2) (by decide +kernel) rfl rfl rfl (by decide +kernel)
set_option maxRecDepth 65536 in
theorem w_c20 : (Jvm.Cond.code ({ cls := "java/lang/String", name := "<init>", desc := "(Ljava/lang/StringBuilder;)V" } : Jvm.MethodName) jdk_42_method_53_code (2 : Nat) (Option.none : Option Jvm.ClassFile.FieldType)).before args0 about1 = true := code_word (m := ⟨7, 2⟩) (meth := k7m2) (c := k7c2) (by decide +kernel) rfl rfl rfl (by decide +kernel)
set_option maxRecDepth 65536 in
theorem w_c21 : (Jvm.Cond.code ({ cls := "java/lang/String", name := "<init>", desc := "(Ljava/lang/AbstractStringBuilder;Ljava/lang/Void;)V" } : Jvm.MethodName) jdk_42_method_150_code (5 : Nat) (Option.none : Option Jvm.ClassFile.FieldType)).before args0 about1 = true := code_word (m := ⟨7, 8⟩) (meth := k7m8) (c := k7c8) (by decide +kernel) rfl rfl rfl (by decide +kernel)
set_option maxRecDepth 65536 in
theorem w_c22 : (Jvm.Cond.code ({ cls := "java/lang/AbstractStringBuilder", name := "getValue", desc := "()[B" } : Jvm.MethodName) jdk_68_method_64_code (1 : Nat) (Option.some (Jvm.ClassFile.FieldType.array Jvm.ClassFile.FieldType.byte))).before args0 about1 = true := code_word (m := ⟨11, 5⟩) (meth := k11m5) (c := k11c5) (by decide +kernel) rfl rfl rfl (by decide +kernel)
set_option maxRecDepth 65536 in
theorem w_c23 : (Jvm.Cond.code ({ cls := "java/lang/StringBuilder", name := "length", desc := "()I" } : Jvm.MethodName) jdk_67_method_93_code (1 : Nat) (Option.some Jvm.ClassFile.FieldType.int)).before args0 about1 = true := code_word (m := ⟨12, 3⟩) (meth := k12m3) (c := k12c3) (by decide +kernel) rfl rfl rfl (by decide +kernel)
set_option maxRecDepth 65536 in
theorem w_c24 : (Jvm.Cond.code ({ cls := "java/lang/AbstractStringBuilder", name := "length", desc := "()I" } : Jvm.MethodName) jdk_68_method_6_code (1 : Nat) (Option.some Jvm.ClassFile.FieldType.int)).before args0 about1 = true := code_word (m := ⟨11, 2⟩) (meth := k11m2) (c := k11c2) (by decide +kernel) rfl rfl rfl (by decide +kernel)
set_option maxRecDepth 65536 in
theorem w_c25 : (Jvm.Cond.code ({ cls := "java/lang/AbstractStringBuilder", name := "isLatin1", desc := "()Z" } : Jvm.MethodName) jdk_68_method_68_code (1 : Nat) (Option.some Jvm.ClassFile.FieldType.boolean)).before args0 about1 = true := code_word (m := ⟨11, 6⟩) (meth := k11m6) (c := k11c6) (by decide +kernel) rfl rfl rfl (by decide +kernel)
set_option maxRecDepth 65536 in
theorem w_c26 : (Jvm.Cond.code ({ cls := "java/util/Arrays", name := "copyOfRange", desc := "([BII)[B" } : Jvm.MethodName) jdk_65_method_132_code (3 : Nat) (Option.some (Jvm.ClassFile.FieldType.array Jvm.ClassFile.FieldType.byte))).before args0 about1 = true := code_word (m := ⟨14, 2⟩) (meth := k14m2) (c := k14c2) (by decide +kernel) rfl rfl rfl (by decide +kernel)
set_option maxRecDepth 65536 in
theorem w_c27 : (Jvm.Cond.code ({ cls := "java/util/Arrays", name := "copyOfRangeByte", desc := "([BII)[B" } : Jvm.MethodName) jdk_65_method_133_code (5 : Nat) (Option.some (Jvm.ClassFile.FieldType.array Jvm.ClassFile.FieldType.byte))).before args0 about1 = true := code_word (m := ⟨14, 3⟩) (meth := k14m3) (c := k14c3) (by decide +kernel) rfl rfl rfl (by decide +kernel)
set_option maxRecDepth 65536 in
theorem w_c28 : (Jvm.Cond.code ({ cls := "java/util/Arrays", name := "checkLength", desc := "(II)V" } : Jvm.MethodName) jdk_65_method_131_code (2 : Nat) (Option.none : Option Jvm.ClassFile.FieldType)).before args0 about1 = true := code_word (m := ⟨14, 1⟩) (meth := k14m1) (c := k14c1) (by decide +kernel) rfl rfl rfl (by decide +kernel)
set_option maxRecDepth 65536 in
theorem w_c29 : (Jvm.Cond.code ({ cls := "java/lang/Math", name := "min", desc := "(II)I" } : Jvm.MethodName) jdk_29_method_69_code (2 : Nat) (Option.some Jvm.ClassFile.FieldType.int)).before args0 about1 = true := code_word (m := ⟨15, 1⟩) (meth := k15m1) (c := k15c1) (by decide +kernel) rfl rfl rfl (by decide +kernel)
set_option maxRecDepth 65536 in
theorem w_c30 : (Jvm.Cond.code ({ cls := "java/lang/String", name := "charAt", desc := "(I)C" } : Jvm.MethodName) jdk_42_method_56_code (2 : Nat) (Option.some Jvm.ClassFile.FieldType.char)).before args0 about1 = true := code_word (m := ⟨7, 5⟩) (meth := k7m5) (c := k7c5) (by decide +kernel) rfl rfl rfl (by decide +kernel)
set_option maxRecDepth 65536 in
theorem w_c31 : (Jvm.Cond.code ({ cls := "java/lang/String", name := "isLatin1", desc := "()Z" } : Jvm.MethodName) jdk_42_method_154_code (1 : Nat) (Option.some Jvm.ClassFile.FieldType.boolean)).before args0 about1 = true := code_word (m := ⟨7, 10⟩) (meth := k7m10) (c := k7c10) (by decide +kernel) rfl rfl rfl (by decide +kernel)
set_option maxRecDepth 65536 in
theorem w_c32 : (Jvm.Cond.code ({ cls := "java/lang/StringLatin1", name := "charAt", desc := "([BI)C" } : Jvm.MethodName) jdk_43_method_2_code (2 : Nat) (Option.some Jvm.ClassFile.FieldType.char)).before args0 about1 = true := code_word (m := ⟨16, 1⟩) (meth := k16m1) (c := k16c1) (by decide +kernel) rfl rfl rfl (by decide +kernel)
set_option maxRecDepth 65536 in
theorem w_c33 : (Jvm.Cond.code ({ cls := "java/lang/String", name := "checkIndex", desc := "(II)V" } : Jvm.MethodName) jdk_42_method_155_code (2 : Nat) (Option.none : Option Jvm.ClassFile.FieldType)).before args0 about1 = true := code_word (m := ⟨7, 11⟩) (meth := k7m11) (c := k7c11) (by decide +kernel) rfl rfl rfl (by decide +kernel)
set_option maxRecDepth 65536 in
theorem w_c34 : (Jvm.Cond.code ({ cls := "jdk/internal/util/Preconditions", name := "checkIndex", desc := "(IILjava/util/function/BiFunction;)I" } : Jvm.MethodName) jdk_41_method_11_code (3 : Nat) (Option.some Jvm.ClassFile.FieldType.int)).before args0 about1 = true := code_word (m := ⟨17, 1⟩) (meth := k17m1) (c := k17c1) (by decide +kernel) rfl rfl rfl (by decide +kernel)
def codes1 : List Jvm.Cond := [Jvm.Cond.code x code maxLocals ret, Jvm.Cond.code ({ cls := "java/lang/String", name := "<init>", desc := "([C)V" } : Jvm.MethodName) jdk_42_method_3_code (2 : Nat) (Option.none : Option Jvm.ClassFile.FieldType), Jvm.Cond.code ({ cls := "java/lang/String", name := "<init>", desc := "([CIILjava/lang/Void;)V" } : Jvm.MethodName) jdk_42_method_149_code (6 : Nat) (Option.none : Option Jvm.ClassFile.FieldType), Jvm.Cond.code ({ cls := "java/lang/Object", name := "<init>", desc := "()V" } : Jvm.MethodName) object_method_1_code (1 : Nat) (Option.none : Option Jvm.ClassFile.FieldType), Jvm.Cond.code ({ cls := "java/lang/StringUTF16", name := "compress", desc := "([CII)[B" } : Jvm.MethodName) jdk_52_method_16_code (6 : Nat) (Option.some (Jvm.ClassFile.FieldType.array Jvm.ClassFile.FieldType.byte)), Jvm.Cond.code ({ cls := "java/lang/StringUTF16", name := "compress", desc := "([CI[BII)I" } : Jvm.MethodName) jdk_52_method_21_code (7 : Nat) (Option.some Jvm.ClassFile.FieldType.int), Jvm.Cond.code ({ cls := "java/lang/StringUTF16", name := "coderFromArrayLen", desc := "([BI)B" } : Jvm.MethodName) jdk_52_method_15_code (2 : Nat) (Option.some Jvm.ClassFile.FieldType.byte), Jvm.Cond.code ({ cls := "com/example/mutx/mutx/redis/RedisNames", name := "lockKey", desc := "(Ljava/lang/String;)Ljava/lang/String;" } : Jvm.MethodName) prog_10_method_2_code (1 : Nat) (Option.some (Jvm.ClassFile.FieldType.object "java/lang/String")), Jvm.Cond.code ({ cls := "java/lang/String", name := "isEmpty", desc := "()Z" } : Jvm.MethodName) jdk_42_method_55_code (1 : Nat) (Option.some Jvm.ClassFile.FieldType.boolean), Jvm.Cond.code ({ cls := "java/lang/StringBuilder", name := "<init>", desc := "()V" } : Jvm.MethodName) jdk_67_method_1_code (1 : Nat) (Option.none : Option Jvm.ClassFile.FieldType), Jvm.Cond.code ({ cls := "java/lang/AbstractStringBuilder", name := "<init>", desc := "(I)V" } : Jvm.MethodName) jdk_68_method_2_code (2 : Nat) (Option.none : Option Jvm.ClassFile.FieldType), Jvm.Cond.code ({ cls := "java/lang/StringBuilder", name := "append", desc := "(Ljava/lang/String;)Ljava/lang/StringBuilder;" } : Jvm.MethodName) jdk_67_method_7_code (2 : Nat) (Option.some (Jvm.ClassFile.FieldType.object "java/lang/StringBuilder")), Jvm.Cond.code ({ cls := "java/lang/AbstractStringBuilder", name := "append", desc := "(Ljava/lang/String;)Ljava/lang/AbstractStringBuilder;" } : Jvm.MethodName) jdk_68_method_22_code (3 : Nat) (Option.some (Jvm.ClassFile.FieldType.object "java/lang/AbstractStringBuilder")), Jvm.Cond.code ({ cls := "java/lang/String", name := "length", desc := "()I" } : Jvm.MethodName) jdk_42_method_54_code (1 : Nat) (Option.some Jvm.ClassFile.FieldType.int), Jvm.Cond.code ({ cls := "java/lang/String", name := "coder", desc := "()B" } : Jvm.MethodName) jdk_42_method_152_code (1 : Nat) (Option.some Jvm.ClassFile.FieldType.byte), Jvm.Cond.code ({ cls := "java/lang/AbstractStringBuilder", name := "ensureCapacityInternal", desc := "(I)V" } : Jvm.MethodName) jdk_68_method_9_code (3 : Nat) (Option.none : Option Jvm.ClassFile.FieldType), Jvm.Cond.code ({ cls := "java/lang/AbstractStringBuilder", name := "putStringAt", desc := "(ILjava/lang/String;)V" } : Jvm.MethodName) jdk_68_method_73_code (3 : Nat) (Option.none : Option Jvm.ClassFile.FieldType), Jvm.Cond.code ({ cls := "java/lang/AbstractStringBuilder", name := "inflateIfNeededFor", desc := "(Ljava/lang/String;)V" } : Jvm.MethodName) jdk_68_method_71_code (2 : Nat) (Option.none : Option Jvm.ClassFile.FieldType), Jvm.Cond.code ({ cls := "java/lang/String", name := "getBytes", desc := "([BIB)V" } : Jvm.MethodName) jdk_42_method_147_code (4 : Nat) (Option.none : Option Jvm.ClassFile.FieldType), Jvm.Cond.code ({ cls := "java/lang/StringBuilder", name := "toString", desc := "()Ljava/lang/String;" } : Jvm.MethodName) jdk_67_method_42_code (1 : Nat) (Option.some (Jvm.ClassFile.FieldType.object "java/lang/String")), Jvm.Cond.code ({ cls := "java/lang/String", name := "<init>", desc := "(Ljava/lang/StringBuilder;)V" } : Jvm.MethodName) jdk_42_method_53_code (2 : Nat) (Option.none : Option Jvm.ClassFile.FieldType), Jvm.Cond.code ({ cls := "java/lang/String", name := "<init>", desc := "(Ljava/lang/AbstractStringBuilder;Ljava/lang/Void;)V" } : Jvm.MethodName) jdk_42_method_150_code (5 : Nat) (Option.none : Option Jvm.ClassFile.FieldType), Jvm.Cond.code ({ cls := "java/lang/AbstractStringBuilder", name := "getValue", desc := "()[B" } : Jvm.MethodName) jdk_68_method_64_code (1 : Nat) (Option.some (Jvm.ClassFile.FieldType.array Jvm.ClassFile.FieldType.byte)), Jvm.Cond.code ({ cls := "java/lang/StringBuilder", name := "length", desc := "()I" } : Jvm.MethodName) jdk_67_method_93_code (1 : Nat) (Option.some Jvm.ClassFile.FieldType.int), Jvm.Cond.code ({ cls := "java/lang/AbstractStringBuilder", name := "length", desc := "()I" } : Jvm.MethodName) jdk_68_method_6_code (1 : Nat) (Option.some Jvm.ClassFile.FieldType.int), Jvm.Cond.code ({ cls := "java/lang/AbstractStringBuilder", name := "isLatin1", desc := "()Z" } : Jvm.MethodName) jdk_68_method_68_code (1 : Nat) (Option.some Jvm.ClassFile.FieldType.boolean), Jvm.Cond.code ({ cls := "java/util/Arrays", name := "copyOfRange", desc := "([BII)[B" } : Jvm.MethodName) jdk_65_method_132_code (3 : Nat) (Option.some (Jvm.ClassFile.FieldType.array Jvm.ClassFile.FieldType.byte)), Jvm.Cond.code ({ cls := "java/util/Arrays", name := "copyOfRangeByte", desc := "([BII)[B" } : Jvm.MethodName) jdk_65_method_133_code (5 : Nat) (Option.some (Jvm.ClassFile.FieldType.array Jvm.ClassFile.FieldType.byte)), Jvm.Cond.code ({ cls := "java/util/Arrays", name := "checkLength", desc := "(II)V" } : Jvm.MethodName) jdk_65_method_131_code (2 : Nat) (Option.none : Option Jvm.ClassFile.FieldType), Jvm.Cond.code ({ cls := "java/lang/Math", name := "min", desc := "(II)I" } : Jvm.MethodName) jdk_29_method_69_code (2 : Nat) (Option.some Jvm.ClassFile.FieldType.int), Jvm.Cond.code ({ cls := "java/lang/String", name := "charAt", desc := "(I)C" } : Jvm.MethodName) jdk_42_method_56_code (2 : Nat) (Option.some Jvm.ClassFile.FieldType.char), Jvm.Cond.code ({ cls := "java/lang/String", name := "isLatin1", desc := "()Z" } : Jvm.MethodName) jdk_42_method_154_code (1 : Nat) (Option.some Jvm.ClassFile.FieldType.boolean), Jvm.Cond.code ({ cls := "java/lang/StringLatin1", name := "charAt", desc := "([BI)C" } : Jvm.MethodName) jdk_43_method_2_code (2 : Nat) (Option.some Jvm.ClassFile.FieldType.char), Jvm.Cond.code ({ cls := "java/lang/String", name := "checkIndex", desc := "(II)V" } : Jvm.MethodName) jdk_42_method_155_code (2 : Nat) (Option.none : Option Jvm.ClassFile.FieldType), Jvm.Cond.code ({ cls := "jdk/internal/util/Preconditions", name := "checkIndex", desc := "(IILjava/util/function/BiFunction;)I" } : Jvm.MethodName) jdk_41_method_11_code (3 : Nat) (Option.some Jvm.ClassFile.FieldType.int)]
set_option maxRecDepth 65536 in
theorem codes_eq : words1.filter isCode = codes1 := rfl
theorem w_codes : ∀ c ∈ words1.filter isCode, c.before args0 about1 = true := by
  rw [codes_eq]
  intro c hc
  simp only [codes1, List.mem_cons, List.not_mem_nil, or_false] at hc
  rcases hc with rfl | rfl | rfl | rfl | rfl | rfl | rfl | rfl | rfl | rfl | rfl | rfl | rfl | rfl | rfl | rfl | rfl | rfl | rfl | rfl | rfl | rfl | rfl | rfl | rfl | rfl | rfl | rfl | rfl | rfl | rfl | rfl | rfl | rfl | rfl
  · exact w_c0
  · exact w_c1
  · exact w_c2
  · exact w_c3
  · exact w_c4
  · exact w_c5
  · exact w_c6
  · exact w_c7
  · exact w_c8
  · exact w_c9
  · exact w_c10
  · exact w_c11
  · exact w_c12
  · exact w_c13
  · exact w_c14
  · exact w_c15
  · exact w_c16
  · exact w_c17
  · exact w_c18
  · exact w_c19
  · exact w_c20
  · exact w_c21
  · exact w_c22
  · exact w_c23
  · exact w_c24
  · exact w_c25
  · exact w_c26
  · exact w_c27
  · exact w_c28
  · exact w_c29
  · exact w_c30
  · exact w_c31
  · exact w_c32
  · exact w_c33
  · exact w_c34
set_option maxRecDepth 65536 in
theorem w_t1 : (words1.take 24).all (fun c => isCode c || c.before args0 about1) = true := by decide +kernel
set_option maxRecDepth 65536 in
theorem w_t2 : ((words1.drop 24).take 24).all (fun c => isCode c || c.before args0 about1) = true := by decide +kernel
set_option maxRecDepth 65536 in
theorem w_t3 : (((words1.drop 24).drop 24).take 24).all (fun c => isCode c || c.before args0 about1) = true := by decide +kernel
set_option maxRecDepth 65536 in
theorem w_t4 : ((((words1.drop 24).drop 24).drop 24).take 24).all (fun c => isCode c || c.before args0 about1) = true := by decide +kernel
set_option maxRecDepth 65536 in
theorem w_t5 : (((((words1.drop 24).drop 24).drop 24).drop 24).take 24).all (fun c => isCode c || c.before args0 about1) = true := by decide +kernel
set_option maxRecDepth 65536 in
theorem w_t6 : ((((((words1.drop 24).drop 24).drop 24).drop 24).drop 24).take 24).all (fun c => isCode c || c.before args0 about1) = true := by decide +kernel
set_option maxRecDepth 65536 in
theorem w_t7 : (((((((words1.drop 24).drop 24).drop 24).drop 24).drop 24).drop 24).take 24).all (fun c => isCode c || c.before args0 about1) = true := by decide +kernel
set_option maxRecDepth 65536 in
theorem w_t8 : (((((((words1.drop 24).drop 24).drop 24).drop 24).drop 24).drop 24).drop 24).all (fun c => isCode c || c.before args0 about1) = true := by decide +kernel
theorem w_tables : (allAtoms (Jvm.Cond.code x code maxLocals ret :: tables_1)).before args0 about1 = true := by
  rw [allAtoms_all]
  show words1.all (fun c => c.before args0 about1) = true
  refine all_split ?_ w_codes
  rw [← List.take_append_drop 24 words1, List.all_append, w_t1, ← List.take_append_drop 24 (words1.drop 24), List.all_append, w_t2, ← List.take_append_drop 24 ((words1.drop 24).drop 24), List.all_append, w_t3, ← List.take_append_drop 24 (((words1.drop 24).drop 24).drop 24), List.all_append, w_t4, ← List.take_append_drop 24 ((((words1.drop 24).drop 24).drop 24).drop 24), List.all_append, w_t5, ← List.take_append_drop 24 (((((words1.drop 24).drop 24).drop 24).drop 24).drop 24), List.all_append, w_t6, ← List.take_append_drop 24 ((((((words1.drop 24).drop 24).drop 24).drop 24).drop 24).drop 24), List.all_append, w_t7, w_t8]
  rfl
set_option maxRecDepth 65536 in
theorem w_rest : rest_1_c.before args0 about1 = true := by decide +kernel
set_option maxRecDepth 65536 in
theorem w_case : (Jvm.Cond.and given_1 narrow_1).before args0 about1 = true := by decide +kernel
set_option maxRecDepth 65536 in
theorem w_consts : constsHeld consts_1 about1 := Jvm.Lit.constsHeldB_iff.mp (by decide +kernel)
theorem w_applies : (headSpec (Jvm.Cond.code x code maxLocals ret :: tables_1) room_1).applies x e0.platform about1 = true :=
  (Spec.applies_iff w_frames).mpr ⟨w_running, w_runnable, w_alone, w_named, w_hears, w_ripe, w_room, w_tables⟩
theorem atStart : AtStart classFile x code maxLocals ret World_1 tables_1 room_1 Calls_1 rest_1 Pre_1 launch0 p0 e0 about1 theMethod args0 below0 :=
  ⟨lists_1, trivial, launch0.admits_env _ _ _, launch0.least_env, fairChoices_fair.cas, fairChoices_fair.clock, w_frames, w_args, w_heap, w_applies, ⟨w_consts, trivial⟩, w_rest, w_case⟩
end start1
theorem witness_1 : WitnessClaimed_1 := ⟨start1.p0, start1.e0, start1.about1, start1.theMethod, start1.args0, start1.below0, start1.atStart⟩
end Jvm.Pilot.@@N@@
